import PyProof.Rows.All
import Wide.All
import OpenK.AllK
import Wide.FinOn
import Lean
import PySem.Challenge.RW_md0047_01
set_option Elab.async false
set_option linter.unusedVariables false
set_option genSizeOfSpec false

section
open PySem PyProof.Rows
namespace Mine

/-- abstract values: ints, bools, frozen tuples and lists, ranges, and places of the mutable int sequences -/
inductive AV where
  | none
  | bool (b : Bool)
  | int (i : Int)
  | tup (xs : List AV)
  | lst (xs : List AV)
  | rng (a b c : Int)
  | ref (k : Nat)
  | und

/-- a mutable sequence of ints: a bytearray or a list -/
structure AO where
  byt : Bool
  xs : List Int

/-- ghosts: the frozen objects, the addresses of the mutable ones -/
structure Gh where
  C : Addr → Option Obj
  φ : List Addr
  N : List Addr := []

mutual
noncomputable def VR (g : Gh) : AV → Value → Prop
  | .none, v => v = .none
  | .bool b, v => v = .bool b
  | .int i, v => ∃ t, v = .int i t
  | .tup xs, v => ∃ a o items n, v = .ref a ∧ g.C a = some o ∧ o.cls = .type "tuple" ∧ o.data = .seq items n ∧ VRs g xs items.toList
  | .lst xs, v => ∃ a o items n, v = .ref a ∧ g.C a = some o ∧ o.cls = .type "list" ∧ o.data = .seq items n ∧ VRs g xs items.toList
  | .rng a b c, v => ∃ r t u z, v = .ref r ∧ g.C r = some { cls := .type "range", data := .fields #[.int a t, .int b u, .int c z] }
  | .ref k, v => ∃ a, v = .ref a ∧ g.φ[k]? = some a
  | .und, _ => False
noncomputable def VRs (g : Gh) : List AV → List Value → Prop
  | [], vs => vs = []
  | x :: xs, vs => ∃ v r, vs = v :: r ∧ VR g x v ∧ VRs g xs r
end

structure Gh.Sub (g g' : Gh) : Prop where
  C : ∀ a o, g.C a = some o → g'.C a = some o
  φ : ∀ (k : Nat) (a : Addr), g.φ[k]? = some a → g'.φ[k]? = some a
/-- N: what must not be frozen stays the same -/
structure Gh.Le (g g' : Gh) : Prop extends Gh.Sub g g' where
  N : g'.N = g.N
theorem Gh.Le.refl (g : Gh) : g.Le g := ⟨⟨fun _ _ e => e, fun _ _ e => e⟩, rfl⟩
theorem Gh.Le.trans {a b c : Gh} (x : a.Le b) (y : b.Le c) : a.Le c := ⟨⟨fun _ _ e => y.C _ _ (x.C _ _ e), fun _ _ e => y.φ _ _ (x.φ _ _ e)⟩, y.N.trans x.N⟩
mutual
theorem VR.mono' {g g' : Gh} (hg : g.Sub g') : ∀ {x : AV} {v : Value}, VR g x v → VR g' x v
  | .none, _, h => by simpa only [VR] using h
  | .bool b, _, h => by simpa only [VR] using h
  | .int i, _, h => by simpa only [VR] using h
  | .tup xs, _, h => by
    simp only [VR] at h ⊢
    obtain ⟨a, o, items, n, e, hC, h1, h2, h3⟩ := h
    exact ⟨a, o, items, n, e, hg.C _ _ hC, h1, h2, VRs.mono' hg h3⟩
  | .lst xs, _, h => by
    simp only [VR] at h ⊢
    obtain ⟨a, o, items, n, e, hC, h1, h2, h3⟩ := h
    exact ⟨a, o, items, n, e, hg.C _ _ hC, h1, h2, VRs.mono' hg h3⟩
  | .rng a b c, _, h => by
    simp only [VR] at h ⊢
    obtain ⟨r, t, u, z, e, hC⟩ := h
    exact ⟨r, t, u, z, e, hg.C _ _ hC⟩
  | .ref k, _, h => by
    simp only [VR] at h ⊢
    obtain ⟨a, e, h⟩ := h
    exact ⟨a, e, hg.φ _ _ h⟩
  | .und, _, h => by simp only [VR] at h
theorem VRs.mono' {g g' : Gh} (hg : g.Sub g') : ∀ {xs : List AV} {vs : List Value}, VRs g xs vs → VRs g' xs vs
  | [], _, h => by simpa only [VRs] using h
  | x :: xs, _, h => by
    simp only [VRs] at h ⊢
    obtain ⟨v, r, e, h1, h2⟩ := h
    exact ⟨v, r, e, VR.mono' hg h1, VRs.mono' hg h2⟩
end

theorem VR.mono {g g' : Gh} (hg : g.Le g') {x : AV} {v : Value} (h : VR g x v) : VR g' x v := h.mono' hg.toSub
theorem VRs.mono {g g' : Gh} (hg : g.Le g') {x : List AV} {v : List Value} (h : VRs g x v) : VRs g' x v := h.mono' hg.toSub

theorem VRs.length {g : Gh} : ∀ {xs : List AV} {vs : List Value}, VRs g xs vs → vs.length = xs.length
  | [], _, h => by simp only [VRs] at h; simp [h]
  | x :: xs, _, h => by
    simp only [VRs] at h
    obtain ⟨v, r, rfl, _, h2⟩ := h
    simp [VRs.length h2]
theorem VRs.get {g : Gh} : ∀ {xs : List AV} {vs : List Value}, VRs g xs vs → ∀ {i : Nat} {x : AV}, xs[i]? = some x → ∃ v, vs[i]? = some v ∧ VR g x v
  | [], _, _, i, x, e => by simp at e
  | y :: xs, _, h, i, x, e => by
    simp only [VRs] at h
    obtain ⟨v, r, rfl, h1, h2⟩ := h
    cases i with
    | zero => simp at e; subst e; exact ⟨v, by simp, h1⟩
    | succ i => simp at e; obtain ⟨v', e', h'⟩ := VRs.get h2 e; exact ⟨v', by simpa using e', h'⟩
theorem VRs.nil {g : Gh} : VRs g [] [] := by simp only [VRs]
theorem VRs.cons {g : Gh} {x : AV} {v : Value} {xs : List AV} {vs : List Value} (h : VR g x v) (t : VRs g xs vs) : VRs g (x :: xs) (v :: vs) := by
  simp only [VRs]; exact ⟨v, vs, rfl, h, t⟩
theorem VRs.append {g : Gh} : ∀ {xs : List AV} {vs : List Value} {ys : List AV} {ws : List Value}, VRs g xs vs → VRs g ys ws → VRs g (xs ++ ys) (vs ++ ws)
  | [], _, _, _, h, t => by simp only [VRs] at h; subst h; exact t
  | x :: xs, _, _, _, h, t => by
    simp only [VRs] at h
    obtain ⟨v, r, rfl, h1, h2⟩ := h
    exact VRs.cons h1 (VRs.append h2 t)
theorem VRs.take {g : Gh} : ∀ (n : Nat) {xs : List AV} {vs : List Value}, VRs g xs vs → VRs g (xs.take n) (vs.take n)
  | 0, _, _, _ => by simpa using VRs.nil
  | n + 1, [], _, h => by simp only [VRs] at h; subst h; simpa using VRs.nil
  | n + 1, x :: xs, _, h => by
    simp only [VRs] at h
    obtain ⟨v, r, rfl, h1, h2⟩ := h
    simpa using VRs.cons h1 (VRs.take n h2)
theorem VRs.drop {g : Gh} : ∀ (n : Nat) {xs : List AV} {vs : List Value}, VRs g xs vs → VRs g (xs.drop n) (vs.drop n)
  | 0, _, _, h => by simpa using h
  | n + 1, [], _, h => by simp only [VRs] at h; subst h; simpa using VRs.nil
  | n + 1, x :: xs, _, h => by
    simp only [VRs] at h
    obtain ⟨v, r, rfl, h1, h2⟩ := h
    simpa using VRs.drop n h2
theorem VRs.ints {g : Gh} : ∀ {ns : List Int} {vs : List Value}, IntsAre vs ns → VRs g (ns.map AV.int) vs := by
  intro ns vs h
  induction h with
  | nil => exact VRs.nil
  | cons _ _ _ ih => exact VRs.cons (by simp only [VR]; exact ⟨_, rfl⟩) ih

/-- what a frozen object is -/
noncomputable def FD (o : Obj) : Prop := (∃ items n, o.data = .seq items n) ∨ (o.cls = .type "range" ∧ ∃ vs, o.data = .fields vs)
/-- what a mutable one is -/
noncomputable def OR (ao : AO) (o : Obj) : Prop :=
  if ao.byt then ∃ b, o = { cls := .type "bytearray", data := .bytearray b 0 } ∧ b.toList.map (fun u => (u.toNat : Int)) = ao.xs
  else ∃ vs n, (o.cls = .type "list" ∧ o.dict = none ∧ o.data = .seq vs n) ∧ IntsAre vs.toList ao.xs

structure Rel (K : Addr → Option Obj) (g : Gh) (H : List AO) (h : Heap) : Prop where
  kept : ∀ a o, K a = some o → h.get? a = some o
  frz : ∀ a o, g.C a = some o → h.get? a = some o ∧ FD o
  trk : ∀ (k : Nat) (ao : AO), H[k]? = some ao → ∃ a o, g.φ[k]? = some a ∧ h.get? a = some o ∧ OR ao o
  len : g.φ.length = H.length
  nod : g.φ.Nodup
  ap : ∀ a ∈ g.φ, g.C a = none ∧ K a = none
  rs : ∀ a ∈ g.N, g.C a = none ∧ ∃ o, K a = some o
theorem Rel.notN {K : Addr → Option Obj} {g : Gh} {H : List AO} {h : Heap} (R : Rel K g H h) {a : Addr} (hK : K a = none) : a ∉ g.N := fun hm => by
  obtain ⟨_, o, e⟩ := R.rs a hm; rw [hK] at e; cases e

theorem Rel.ext {K : Addr → Option Obj} {g : Gh} {H : List AO} {h h' : Heap} (R : Rel K g H h) (hk : ∀ b o, h.get? b = some o → h'.get? b = some o) : Rel K g H h' where
  kept := fun a o e => hk a o (R.kept a o e)
  frz := fun a o e => ⟨hk a o (R.frz a o e).1, (R.frz a o e).2⟩
  trk := fun k ao e => by obtain ⟨a, o, h1, h2, h3⟩ := R.trk k ao e; exact ⟨a, o, h1, hk a o h2, h3⟩
  len := R.len
  nod := R.nod
  ap := R.ap
  rs := R.rs

theorem Rel.live {K : Addr → Option Obj} {g : Gh} {H : List AO} {h : Heap} (R : Rel K g H h) {a : Addr} (ha : a ∈ g.φ) : ∃ o ao, h.get? a = some o ∧ OR ao o := by
  obtain ⟨k, hk, e⟩ := List.getElem_of_mem ha
  have hkH : k < H.length := by rw [← R.len]; exact hk
  obtain ⟨a', o, h1, h2, h3⟩ := R.trk k H[k] (List.getElem?_eq_getElem hkH)
  rw [List.getElem?_eq_getElem hk, e] at h1; cases h1
  exact ⟨o, _, h2, h3⟩

theorem OR.notDict {ao : AO} {o : Obj} (x : OR ao o) : ∀ es ep, o.data ≠ .dict es ep := by
  intro es ep e
  unfold OR at x
  split at x
  · obtain ⟨b, rfl, _⟩ := x; cases e
  · obtain ⟨b, n, ⟨_, _, hd⟩, _⟩ := x; rw [hd] at e; cases e
theorem OR.notCell {ao : AO} {o : Obj} (x : OR ao o) : ∀ v, o.data ≠ .cell v := by
  intro es e
  unfold OR at x
  split at x
  · obtain ⟨b, rfl, _⟩ := x; cases e
  · obtain ⟨b, n, ⟨_, _, hd⟩, _⟩ := x; rw [hd] at e; cases e
theorem FD.notDict {o : Obj} (x : FD o) : ∀ es ep, o.data ≠ .dict es ep := by
  intro es ep e
  rcases x with ⟨i, n, h⟩ | ⟨_, vs, h⟩ <;> rw [e] at h <;> cases h
theorem FD.notCell {o : Obj} (x : FD o) : ∀ v, o.data ≠ .cell v := by
  intro v e
  rcases x with ⟨i, n, h⟩ | ⟨_, vs, h⟩ <;> rw [e] at h <;> cases h

/-- what changes one object that is none of ours -/
theorem Rel.but {K : Addr → Option Obj} {g : Gh} {H : List AO} {h h' : Heap} {I : Addr} (R : Rel K g H h) (hK : K I = none) (hC : g.C I = none) (hφ : I ∉ g.φ)
    (hk : ∀ b o, b ≠ I → h.get? b = some o → h'.get? b = some o) : Rel K g H h' where
  kept := fun a o e => hk a o (fun q => by rw [q, hK] at e; cases e) (R.kept a o e)
  frz := fun a o e => ⟨hk a o (fun q => by rw [q, hC] at e; cases e) (R.frz a o e).1, (R.frz a o e).2⟩
  trk := fun k ao e => by
    obtain ⟨a, o, h1, h2, h3⟩ := R.trk k ao e
    exact ⟨a, o, h1, hk a o (fun q => hφ (q ▸ List.mem_of_getElem? h1)) h2, h3⟩
  len := R.len
  nod := R.nod
  ap := R.ap
  rs := R.rs

noncomputable def Gh.freeze (g : Gh) (a : Addr) (o : Obj) : Gh := { g with C := fun x => if x = a then some o else g.C x }
theorem Gh.freeze_le {K : Addr → Option Obj} {g : Gh} {H : List AO} {h : Heap} {a : Addr} {o : Obj} (R : Rel K g H h) (ho : h.get? a = some o) : g.Le (g.freeze a o) :=
  ⟨⟨fun b o' e => by
    show (if b = a then some o else g.C b) = some o'
    by_cases q : b = a
    · subst q; rw [(R.frz _ _ e).1] at ho; cases ho; simp
    · simp [q, e], fun _ _ e => e⟩, rfl⟩
theorem Rel.freeze {K : Addr → Option Obj} {g : Gh} {H : List AO} {h : Heap} {a : Addr} {o : Obj} (R : Rel K g H h) (ho : h.get? a = some o) (hf : FD o) (hφ : a ∉ g.φ) (hN : a ∉ g.N) : Rel K (g.freeze a o) H h where
  kept := R.kept
  frz := fun b o' e => by
    have e' : (if b = a then some o else g.C b) = some o' := e
    by_cases q : b = a
    · subst q; simp at e'; subst e'; exact ⟨ho, hf⟩
    · simp [q] at e'; exact R.frz b o' e'
  trk := R.trk
  len := R.len
  nod := R.nod
  ap := fun b hb => ⟨by
    show (if b = a then some o else g.C b) = none
    have hb' : b ∈ g.φ := hb
    have hne : b ≠ a := by rintro rfl; exact hφ hb'
    rw [if_neg hne]; exact (R.ap b hb').1, (R.ap b hb).2⟩
  rs := fun b hb => ⟨by
    show (if b = a then some o else g.C b) = none
    have hb' : b ∈ g.N := hb
    have hne : b ≠ a := by rintro rfl; exact hN hb'
    rw [if_neg hne]; exact (R.rs b hb').1, (R.rs b hb).2⟩

theorem Rel.fresh {K : Addr → Option Obj} {g : Gh} {H : List AO} {h : Heap} (R : Rel K g H h) {a : Addr} (ha : h.get? a = none) : K a = none ∧ g.C a = none ∧ a ∉ g.φ := by
  refine ⟨?_, ?_, fun hm => ?_⟩
  · cases e : K a with
    | none => rfl
    | some o => rw [R.kept a o e] at ha; cases ha
  · cases e : g.C a with
    | none => rfl
    | some o => rw [(R.frz a o e).1] at ha; cases ha
  · obtain ⟨o, _, e, _⟩ := R.live hm; rw [e] at ha; cases ha
theorem get?_size (h : Heap) : h.get? h.objs.size = none := by
  cases e : h.get? h.objs.size with
  | none => rfl
  | some o => exact absurd (Heap.lt_size e) (Nat.lt_irrefl _)

noncomputable def Gh.track (g : Gh) (a : Addr) : Gh := { g with φ := g.φ ++ [a] }
theorem Gh.track_le (g : Gh) (a : Addr) : g.Le (g.track a) := ⟨⟨fun _ _ e => e, fun k b e => by
  show (g.φ ++ [a])[k]? = some b
  have hk : k < g.φ.length := (List.getElem?_eq_some_iff.mp e).1
  rw [List.getElem?_append_left hk]; exact e⟩, rfl⟩
theorem Rel.track {K : Addr → Option Obj} {g : Gh} {H : List AO} {h : Heap} {a : Addr} {o : Obj} {ao : AO} (R : Rel K g H h) (ho : h.get? a = some o) (hf : OR ao o) (hφ : a ∉ g.φ) (hC : g.C a = none) (hK : K a = none) :
    Rel K (g.track a) (H ++ [ao]) h where
  kept := R.kept
  frz := R.frz
  trk := fun k ao' e => by
    have hl := R.len
    by_cases hk : k < H.length
    · rw [List.getElem?_append_left hk] at e
      obtain ⟨b, o', h1, h2, h3⟩ := R.trk k ao' e
      exact ⟨b, o', (Gh.track_le g a).φ k b h1, h2, h3⟩
    · rw [List.getElem?_append_right (by omega)] at e
      have : k - H.length = 0 := by
        cases q : k - H.length with
        | zero => rfl
        | succ j => rw [q] at e; simp at e
      rw [this] at e; simp at e; subst e
      refine ⟨a, o, ?_, ho, hf⟩
      show (g.φ ++ [a])[k]? = some a
      rw [List.getElem?_append_right (by omega)]
      have : k - g.φ.length = 0 := by omega
      rw [this]; rfl
  len := by show (g.φ ++ [a]).length = (H ++ [ao]).length; simp [R.len]
  nod := by
    show (g.φ ++ [a]).Nodup
    rw [List.nodup_append]
    exact ⟨R.nod, by simp, fun b hb c hc q => by simp at hc; subst hc; exact hφ (q ▸ hb)⟩
  ap := fun b hb => by
    have hb' : b ∈ g.φ ++ [a] := hb
    rcases List.mem_append.mp hb' with hb | hb
    · exact R.ap b hb
    · simp at hb; subst hb; exact ⟨hC, hK⟩
  rs := R.rs

theorem Rel.upd {K : Addr → Option Obj} {g : Gh} {H : List AO} {h h' : Heap} {k : Nat} {a : Addr} {o' : Obj} {ao' : AO} (R : Rel K g H h) (ha : g.φ[k]? = some a) (ho : h'.get? a = some o') (hf : OR ao' o')
    (hk : ∀ b o, b ≠ a → h.get? b = some o → h'.get? b = some o) : Rel K g (H.set k ao') h' where
  kept := fun b o e => hk b o (fun q => by rw [q, (R.ap a (List.mem_of_getElem? ha)).2] at e; cases e) (R.kept b o e)
  frz := fun b o e => ⟨hk b o (fun q => by rw [q, (R.ap a (List.mem_of_getElem? ha)).1] at e; cases e) (R.frz b o e).1, (R.frz b o e).2⟩
  trk := fun j ao e => by
    rw [List.getElem?_set] at e
    by_cases q : k = j
    · subst q
      simp only [if_true] at e
      split at e
      · cases e; exact ⟨a, o', ha, ho, hf⟩
      · cases e
    · simp only [q, if_false] at e
      obtain ⟨b, o, h1, h2, h3⟩ := R.trk j ao e
      refine ⟨b, o, h1, hk b o (fun q' => q ?_) h2, h3⟩
      subst q'
      have h1' := List.getElem?_eq_some_iff.mp h1
      have ha' := List.getElem?_eq_some_iff.mp ha
      obtain ⟨l1, e1⟩ := h1'
      obtain ⟨l2, e2⟩ := ha'
      exact (List.getElem_inj (h₀ := l2) (h₁ := l1) R.nod).mp (e2.trans e1.symm)
  len := by rw [List.length_set]; exact R.len
  nod := R.nod
  ap := R.ap
  rs := R.rs

/-- a name's value lies in what is kept -/
noncomputable def Ld (K : Addr → Option Obj) (env : Env) (x : Str) (val : Value) : Prop :=
  (env.kindOf x = some .local ∧ ∃ o es ep, K env.locals = some o ∧ o.data = .dict es ep ∧ StrKeys es ∧ nsFind es x = some val) ∨
  ((env.kindOf x = some .cell ∨ env.kindOf x = some .free) ∧ ∃ c o, env.cells.lookup x = some c ∧ K c = some o ∧ o.data = .cell (some val))

noncomputable def FrK (K : Addr → Option Obj) (env : Env) (nm : List Str) (ρ : List AV) (g : Gh) : Prop :=
  ∀ (n : Nat) (x : Str) (v : AV), nm[n]? = some x → ρ[n]? = some v → v ≠ .und → ∃ val, Ld K env x val ∧ VR g v val
theorem FrK.mono' {K : Addr → Option Obj} {env : Env} {nm : List Str} {ρ : List AV} {g g' : Gh} (F : FrK K env nm ρ g) (hg : g.Sub g') : FrK K env nm ρ g' := fun n x v e1 e2 e3 => by
  obtain ⟨val, h1, h2⟩ := F n x v e1 e2 e3; exact ⟨val, h1, h2.mono' hg⟩
theorem FrK.mono {K : Addr → Option Obj} {env : Env} {nm : List Str} {ρ : List AV} {g g' : Gh} (F : FrK K env nm ρ g) (hg : g.Le g') : FrK K env nm ρ g' := F.mono' hg.toSub

/-- the frame's own objects, frozen as they lie -/
noncomputable def ov (K : Addr → Option Obj) (env : Env) (h : Heap) : Addr → Option Obj := fun a => if a = env.locals ∨ a ∈ env.cells.map (·.2) then h.get? a else K a

structure Fm (K : Addr → Option Obj) (env : Env) (nm : List Str) (ρ : List AV) (g : Gh) (h : Heap) : Prop where
  fr : FrK (ov K env h) env nm ρ g
  ns : ∃ m, h.Ns env.locals m
  kL : K env.locals = none
  cl : ∀ c ∈ env.cells.map (·.2), ∃ v, h.IsCell c v
  kc : ∀ c ∈ env.cells.map (·.2), K c = none
  lc : env.locals ∉ env.cells.map (·.2)
  ap : env.cells.Pairwise fun x y => x.2 ≠ y.2
  kd : ∀ x ∈ nm, env.kindOf x = some .local ∨ (env.kindOf x = some .cell ∧ ∃ c, env.cells.lookup x = some c)
  nd : nm.Nodup
  ln : ρ.length = nm.length

theorem Fm.relOv {K : Addr → Option Obj} {env : Env} {nm : List Str} {ρ : List AV} {g : Gh} {H : List AO} {h : Heap} (F : Fm K env nm ρ g h) (R : Rel K g H h) : Rel (ov K env h) g H h where
  kept := fun a o e => by
    unfold ov at e
    split at e
    · exact e
    · exact R.kept a o e
  frz := R.frz
  trk := R.trk
  len := R.len
  nod := R.nod
  ap := fun a ha => ⟨(R.ap a ha).1, by
    obtain ⟨o, ao, e, hor⟩ := R.live ha
    unfold ov
    rw [if_neg]
    · exact (R.ap a ha).2
    · rintro (q | q)
      · subst q
        obtain ⟨m, o', es, ep, e', hd, _⟩ := F.ns
        rw [e] at e'; cases e'; exact hor.notDict _ _ hd
      · obtain ⟨v, o', e', hd⟩ := F.cl a q
        rw [e] at e'; cases e'; exact hor.notCell _ hd⟩
  rs := fun a ha => ⟨(R.rs a ha).1, by
    obtain ⟨_, o, e⟩ := R.rs a ha
    refine ⟨o, ?_⟩
    unfold ov
    rw [if_neg]
    · exact e
    · rintro (q | q)
      · subst q; rw [F.kL] at e; cases e
      · rw [F.kc a q] at e; cases e⟩

theorem Fm.baseOv {K : Addr → Option Obj} {env : Env} {nm : List Str} {ρ : List AV} {g : Gh} {h h₁ : Heap} (F : Fm K env nm ρ g h) (B : ∀ a o, h₁.get? a = some o → K a = some o) : ∀ a o, h₁.get? a = some o → ov K env h a = some o := fun a o e => by
  unfold ov
  rw [if_neg]
  · exact B a o e
  · rintro (q | q)
    · subst q; have := B _ _ e; rw [F.kL] at this; cases this
    · have := B _ _ e; rw [F.kc a q] at this; cases this

theorem Fm.close {K : Addr → Option Obj} {env : Env} {nm : List Str} {ρ : List AV} {g g' : Gh} {H H' : List AO} {h h' : Heap} (F : Fm K env nm ρ g h) (R₀ : Rel K g H h) (hg : g.Le g') (R : Rel (ov K env h) g' H' h') :
    Fm K env nm ρ g' h' ∧ Rel K g' H' h' := by
  have same : ∀ a, a = env.locals ∨ a ∈ env.cells.map (·.2) → h'.get? a = h.get? a := fun a ha => by
    have : ∃ o, h.get? a = some o := by
      rcases ha with rfl | ha
      · obtain ⟨m, o, es, ep, e, _⟩ := F.ns; exact ⟨o, e⟩
      · obtain ⟨v, o, e, _⟩ := F.cl a ha; exact ⟨o, e⟩
    obtain ⟨o, e⟩ := this
    rw [e]; exact R.kept a o (by unfold ov; rw [if_pos ha]; exact e)
  have hov : ov K env h' = ov K env h := by
    funext a; unfold ov
    by_cases ha : a = env.locals ∨ a ∈ env.cells.map (·.2)
    · rw [if_pos ha, if_pos ha]; exact same a ha
    · rw [if_neg ha, if_neg ha]
  have kov : ∀ a o, K a = some o → ov K env h a = some o := fun a o e => by
    unfold ov
    rw [if_neg]
    · exact e
    · rintro (q | q)
      · subst q; rw [F.kL] at e; cases e
      · rw [F.kc a q] at e; cases e
  refine ⟨⟨?_, ?_, F.kL, ?_, F.kc, F.lc, F.ap, F.kd, F.nd, F.ln⟩, ⟨fun a o e => R.kept a o (kov a o e), R.frz, R.trk, R.len, R.nod, fun a ha => ⟨(R.ap a ha).1, ?_⟩, fun a ha => ⟨(R.rs a ha).1, (R₀.rs a (hg.N ▸ ha)).2⟩⟩⟩
  · rw [hov]; exact F.fr.mono hg
  · obtain ⟨m, o, es, ep, e, r⟩ := F.ns
    exact ⟨m, o, es, ep, (same _ (.inl rfl)).trans e, r⟩
  · intro c hc
    obtain ⟨v, o, e, hd⟩ := F.cl c hc
    exact ⟨v, o, (same _ (.inr hc)).trans e, hd⟩
  · cases e : K a with
    | none => rfl
    | some o => have := (R.ap a ha).2; rw [kov a o e] at this; cases this


theorem nodup_get {α : Type} {l : List α} (hn : l.Nodup) {i j : Nat} {x : α} (h1 : l[i]? = some x) (h2 : l[j]? = some x) : i = j := by
  obtain ⟨l1, e1⟩ := List.getElem?_eq_some_iff.mp h1
  obtain ⟨l2, e2⟩ := List.getElem?_eq_some_iff.mp h2
  exact (List.getElem_inj (h₀ := l1) (h₁ := l2) hn).mp (e1.trans e2.symm)

theorem Rel.notFrameL {K : Addr → Option Obj} {g : Gh} {H : List AO} {h : Heap} {L : Addr} {m : Str → Option Value} (R : Rel K g H h) (hn : h.Ns L m) : g.C L = none ∧ L ∉ g.φ := by
  obtain ⟨o, es, ep, e, hd, _⟩ := hn
  refine ⟨?_, fun hm => ?_⟩
  · cases q : g.C L with
    | none => rfl
    | some o' => have := R.frz L o' q; rw [e] at this; obtain ⟨q1, q2⟩ := this; cases q1; exact absurd hd (q2.notDict _ _)
  · obtain ⟨o', ao, e', hor⟩ := R.live hm
    rw [e] at e'; cases e'; exact hor.notDict _ _ hd
theorem Rel.notCellC {K : Addr → Option Obj} {g : Gh} {H : List AO} {h : Heap} {c : Addr} {v : Option Value} (R : Rel K g H h) (hn : h.IsCell c v) : g.C c = none ∧ c ∉ g.φ := by
  obtain ⟨o, e, hd⟩ := hn
  refine ⟨?_, fun hm => ?_⟩
  · cases q : g.C c with
    | none => rfl
    | some o' => have := R.frz c o' q; rw [e] at this; obtain ⟨q1, q2⟩ := this; cases q1; exact absurd hd (q2.notCell _)
  · obtain ⟨o', ao, e', hor⟩ := R.live hm
    rw [e] at e'; cases e'; exact hor.notCell _ hd

/-- a store to a local name -/
theorem Fm.setL {K : Addr → Option Obj} {env : Env} {nm : List Str} {ρ : List AV} {g : Gh} {H : List AO} {h h' : Heap} {n : Nat} {x : Str} {v : AV} {val : Value} {m : Str → Option Value} (F : Fm K env nm ρ g h) (R : Rel K g H h)
    (hx : nm[n]? = some x) (hl : env.kindOf x = some .local) (hv : VR g v val) (hn : h.Ns env.locals m) (hn' : h'.Ns env.locals (fun y => if y = x then some val else m y)) (hs : Heap.SameBut env.locals h h') :
    Fm K env nm (ρ.set n v) g h' ∧ Rel K g H h' := by
  obtain ⟨hC, hφ⟩ := R.notFrameL hn
  have hsame : ∀ b, b ≠ env.locals → h'.get? b = h.get? b := hs.2
  refine ⟨⟨fun j y w e1 e2 e3 => ?_, ⟨_, hn'⟩, F.kL, fun c hc => ?_, F.kc, F.lc, F.ap, F.kd, F.nd, by rw [List.length_set]; exact F.ln⟩, R.but F.kL hC hφ fun b o hb e => (hsame b hb).trans e⟩
  · have hLov : ov K env h' env.locals = h'.get? env.locals := by unfold ov; rw [if_pos (.inl rfl)]
    obtain ⟨o', es', ep', ho', hd', hk', hf'⟩ := id hn'
    rw [List.getElem?_set] at e2
    by_cases q : n = j
    · subst q
      rw [hx] at e1; cases e1
      simp only [if_true] at e2
      split at e2
      · cases e2
        refine ⟨val, .inl ⟨hl, o', es', ep', hLov.trans ho', hd', hk', ?_⟩, hv⟩
        rw [hf']; simp
      · cases e2
    · simp only [q, if_false] at e2
      have hne : y ≠ x := fun q' => q (nodup_get F.nd hx (q' ▸ e1))
      obtain ⟨val', hld, hvr⟩ := F.fr j y w e1 e2 e3
      refine ⟨val', ?_, hvr⟩
      rcases hld with ⟨hk, o, es, ep, ho, hd, hks, hf⟩ | ⟨hk, c, o, hc, ho, hd⟩
      · refine .inl ⟨hk, o', es', ep', hLov.trans ho', hd', hk', ?_⟩
        rw [hf']; simp only [hne, if_false]
        obtain ⟨o₁, es₁, ep₁, ho₁, hd₁, _, hf₁⟩ := id hn
        have : ov K env h env.locals = h.get? env.locals := by unfold ov; rw [if_pos (.inl rfl)]
        rw [this, ho₁] at ho; cases ho
        rw [hd₁] at hd; cases hd
        rw [← hf₁]; exact hf
      · have hcm : c ∈ env.cells.map (·.2) := List.mem_map.mpr ⟨(y, c), mem_of_lookup hc, rfl⟩
        refine .inr ⟨hk, c, o, hc, ?_, hd⟩
        unfold ov at ho ⊢
        rw [if_pos (.inr hcm)] at ho ⊢
        exact (hsame c (fun q' => F.lc (q' ▸ hcm))).trans ho
  · obtain ⟨v', o, e, hd⟩ := F.cl c hc
    exact ⟨v', o, (hsame c (fun q' => F.lc (q' ▸ hc))).trans e, hd⟩

/-- a store to a name that a comprehension reads -/
theorem Fm.setC {K : Addr → Option Obj} {env : Env} {nm : List Str} {ρ : List AV} {g : Gh} {H : List AO} {h h' : Heap} {n : Nat} {x : Str} {v : AV} {val : Value} {c : Addr} (F : Fm K env nm ρ g h) (R : Rel K g H h)
    (hx : nm[n]? = some x) (hl : env.kindOf x = some .cell) (hc : env.cells.lookup x = some c) (hv : VR g v val) (hn' : h'.IsCell c (some val)) (hs : Heap.SameBut c h h') :
    Fm K env nm (ρ.set n v) g h' ∧ Rel K g H h' := by
  have hcm : c ∈ env.cells.map (·.2) := List.mem_map.mpr ⟨(x, c), mem_of_lookup hc, rfl⟩
  obtain ⟨v₀, hcell⟩ := F.cl c hcm
  obtain ⟨hC, hφ⟩ := R.notCellC hcell
  have hsame : ∀ b, b ≠ c → h'.get? b = h.get? b := hs.2
  have hLc : env.locals ≠ c := fun q => F.lc (q ▸ hcm)
  refine ⟨⟨fun j y w e1 e2 e3 => ?_, ?_, F.kL, fun d hd => ?_, F.kc, F.lc, F.ap, F.kd, F.nd, by rw [List.length_set]; exact F.ln⟩, R.but (F.kc c hcm) hC hφ fun b o hb e => (hsame b hb).trans e⟩
  · rw [List.getElem?_set] at e2
    by_cases q : n = j
    · subst q
      rw [hx] at e1; cases e1
      simp only [if_true] at e2
      split at e2
      · cases e2
        obtain ⟨o, ho, hd⟩ := hn'
        refine ⟨val, .inr ⟨.inl hl, c, o, hc, ?_, hd⟩, hv⟩
        unfold ov; rw [if_pos (.inr hcm)]; exact ho
      · cases e2
    · simp only [q, if_false] at e2
      have hne : y ≠ x := fun q' => q (nodup_get F.nd hx (q' ▸ e1))
      obtain ⟨val', hld, hvr⟩ := F.fr j y w e1 e2 e3
      refine ⟨val', ?_, hvr⟩
      rcases hld with ⟨hk, o, es, ep, ho, hd, hks, hf⟩ | ⟨hk, c', o, hc', ho, hd⟩
      · refine .inl ⟨hk, o, es, ep, ?_, hd, hks, hf⟩
        unfold ov at ho ⊢
        rw [if_pos (.inl rfl)] at ho ⊢
        exact (hsame _ hLc).trans ho
      · have hcm' : c' ∈ env.cells.map (·.2) := List.mem_map.mpr ⟨(y, c'), mem_of_lookup hc', rfl⟩
        have hcc : c' ≠ c := fun q' => hne (name_of_addr F.ap (mem_of_lookup hc') (q' ▸ mem_of_lookup hc))
        refine .inr ⟨hk, c', o, hc', ?_, hd⟩
        unfold ov at ho ⊢
        rw [if_pos (.inr hcm')] at ho ⊢
        exact (hsame _ hcc).trans ho
  · obtain ⟨m, o, es, ep, e, r⟩ := F.ns
    exact ⟨m, o, es, ep, (hsame _ hLc).trans e, r⟩
  · by_cases q : d = c
    · subst q; exact ⟨_, hn'⟩
    · obtain ⟨v', o, e, hd'⟩ := F.cl d hd
      exact ⟨v', o, (hsame d q).trans e, hd'⟩

end Mine
end

section
open PySem PyProof.Rows
set_option autoImplicit false
namespace Mine

noncomputable abbrev Den := List AV → List AO → Option (AV × List AO)
noncomputable abbrev DenB := List AV → List AO → Option (Bool × List AO)

structure Cx where
  prog : Program
  w : World
  mg : Str → Option Value
  mb : Str → Option Value
  h₁ : Heap
  hg : h₁.Ns mainGlobals mg
  hb : h₁.Ns builtinsNs mb
  lim : h₁.NoLimit

structure EnvI (sc : Scope) (env : Env) : Prop where
  es : env.scope = sc
  ek : sc.kind = .function
  eg : env.globals = mainGlobals
  eb : env.builtins = builtinsNs

structure AOk (A : Around) (d : Nat) : Prop where
  hd : A.handled = none
  dp : A.depth + d ≤ 500
  un : A.units + 10 * d ≤ 500

noncomputable def Rest (s s' : Shared) : Prop := s'.os = s.os ∧ (AllBare s.gens → AllBare s'.gens)
theorem Rest.refl (s : Shared) : Rest s s := ⟨rfl, id⟩
theorem Rest.trans {a b c : Shared} (x : Rest a b) (y : Rest b c) : Rest a c := ⟨y.1.trans x.1, fun h => y.2 (x.2 h)⟩
theorem Rest.ht {s : Shared} {h : Heap} {t : Nat} : Rest s { s with heap := h, toks := t } := ⟨rfl, id⟩
theorem Rest.t {s : Shared} {t : Nat} : Rest s { s with toks := t } := ⟨rfl, id⟩
theorem Rest.h {s : Shared} {h : Heap} : Rest s { s with heap := h } := ⟨rfl, id⟩

structure Bs (X : Cx) (K : Addr → Option Obj) (g : Gh) : Prop where
  k : ∀ a o, X.h₁.get? a = some o → K a = some o
  c : ∀ a o, X.h₁.get? a = some o → FD o → g.C a = some o
theorem Bs.mono {X : Cx} {K : Addr → Option Obj} {g g' : Gh} (B : Bs X K g) (hg : g.Le g') : Bs X K g' := ⟨B.k, fun a o e h => hg.C _ _ (B.c a o e h)⟩

/-- what comes behind an expression -/
noncomputable abbrev Kn (K : Addr → Option Obj) (g : Gh) (H' : List AO) (v : AV) (Q : Value → Shared → Prop) (s : Shared) : Prop :=
  ∀ g' s' val, g.Le g' → Rel K g' H' s'.heap → VR g' v val → Rest s s' → Q val s'
noncomputable abbrev KnB (K : Addr → Option Obj) (g : Gh) (H' : List AO) (b : Bool) (Q : Bool → Shared → Prop) (s : Shared) : Prop :=
  ∀ g' s', g.Le g' → Rel K g' H' s'.heap → Rest s s' → Q b s'

noncomputable def SndE (X : Cx) (d : Nat) (sc : Scope) (nm : List Str) (x : Expr) (f : Den) : Prop :=
  ∀ (A : Around) (env : Env) (K : Addr → Option Obj) (g : Gh) (H : List AO) (ρ : List AV) (s : Shared) (Q : Value → Shared → Prop) (E : Value → Shared → Prop) (v : AV) (H' : List AO),
    AOk A d → EnvI sc env → Bs X K g → FrK K env nm ρ g → Rel K g H s.heap → f ρ H = some (v, H') → Kn K g H' v Q s → wpAny (model X.prog X.w) A (eval x env) Q E s
noncomputable def SndB (X : Cx) (d : Nat) (sc : Scope) (nm : List Str) (x : Expr) (f : DenB) : Prop :=
  ∀ (A : Around) (env : Env) (K : Addr → Option Obj) (g : Gh) (H : List AO) (ρ : List AV) (s : Shared) (Q : Bool → Shared → Prop) (E : Value → Shared → Prop) (b : Bool) (H' : List AO),
    AOk A d → EnvI sc env → Bs X K g → FrK K env nm ρ g → Rel K g H s.heap → f ρ H = some (b, H') → KnB K g H' b Q s → wpAny (model X.prog X.w) A (isTrue x env (eval x env)) Q E s

section
variable {X : Cx} {d : Nat} {sc : Scope} {nm : List Str}

theorem Kn.mono {K : Addr → Option Obj} {g g₁ : Gh} {H' : List AO} {v : AV} {Q : Value → Shared → Prop} {s s₁ : Shared} (k : Kn K g H' v Q s) (hg : g.Le g₁) (hr : Rest s s₁) : Kn K g₁ H' v Q s₁ :=
  fun g' s' val h1 h2 h3 h4 => k g' s' val (hg.trans h1) h2 h3 (hr.trans h4)
theorem KnB.mono {K : Addr → Option Obj} {g g₁ : Gh} {H' : List AO} {b : Bool} {Q : Bool → Shared → Prop} {s s₁ : Shared} (k : KnB K g H' b Q s) (hg : g.Le g₁) (hr : Rest s s₁) : KnB K g₁ H' b Q s₁ :=
  fun g' s' h1 h2 h4 => k g' s' (hg.trans h1) h2 (hr.trans h4)

theorem VR.int {g : Gh} {i : Int} {t : Tok} : VR g (.int i) (.int i t) := by simp only [VR]; exact ⟨t, rfl⟩
theorem VR.bool {g : Gh} {b : Bool} : VR g (.bool b) (.bool b) := by simp only [VR]
theorem VR.none {g : Gh} : VR g .none .none := by simp only [VR]

noncomputable def dInt (i : Int) : Den := fun _ H => some (.int i, H)
theorem snd_int {i : Int} {k : Nat} {pos : Pos} : SndE X d sc nm (.Constant (.int i) k pos) (dInt i) := by
  intro A env K g H ρ s Q E v H' hA hE hB hF hR e k
  simp only [dInt, Option.some.injEq, Prod.mk.injEq] at e
  obtain ⟨rfl, rfl⟩ := e
  exact wpAny_Constant_int (k g _ _ (Gh.Le.refl g) hR VR.int Rest.t)
noncomputable def dBool (b : Bool) : Den := fun _ H => some (.bool b, H)
theorem snd_bool {b : Bool} {k : Nat} {pos : Pos} : SndE X d sc nm (.Constant (.bool b) k pos) (dBool b) := by
  intro A env K g H ρ s Q E v H' hA hE hB hF hR e k
  simp only [dBool, Option.some.injEq, Prod.mk.injEq] at e
  obtain ⟨rfl, rfl⟩ := e
  exact wpAny_Constant_bool (k g _ _ (Gh.Le.refl g) hR VR.bool (Rest.refl s))

noncomputable def AV.isUnd : AV → Bool
  | .und => true
  | _ => false
noncomputable def dLoc (n : Nat) : Den := fun ρ H => match ρ[n]? with
  | some v => if v.isUnd then none else some (v, H)
  | none => none

theorem ld_loads {K : Addr → Option Obj} {env : Env} {x : Str} {val : Value} {A : Around} {s : Shared} {Q : Value → Shared → Prop} {E : Value → Shared → Prop} {M : Model} (hE : EnvI sc env) (hk : ∀ a o, K a = some o → s.heap.get? a = some o) (hl : Ld K env x val)
    (h : Q val s) (hd2 : (x == ("__classdict__" : Str)) = false) : wpAny M A (loadName env x) Q E s := by
  have hkind : env.scope.kind = .function := by rw [hE.es]; exact hE.ek
  rcases hl with ⟨hk1, o, es, ep, ho, hdd, hks, hf⟩ | ⟨hk1, c, o, hc, ho, hdd⟩
  · exact wpAny_loadName_local hkind hk1 ⟨o, es, ep, hk _ _ ho, hdd, hks, fun _ => rfl⟩ hf h
  · rcases hk1 with hk1 | hk1
    · exact wpAny_loadName_cell hkind hk1 hc ⟨o, hk _ _ ho, hdd⟩ h
    · exact wpAny_loadName_free hkind hk1 hc ⟨o, hk _ _ ho, hdd⟩ h hd2

theorem snd_loc {n : Nat} {x : Str} {pos : Pos} (hx : nm[n]? = some x) (hd : (x == ("__debug__" : Str)) = false := by decide) (hd2 : (x == ("__classdict__" : Str)) = false := by decide) : SndE X d sc nm (.Name x pos) (dLoc n) := by
  intro A env K g H ρ s Q E v H' hA hE hB hF hR e k
  unfold dLoc at e
  cases hρ : ρ[n]? with
  | none => rw [hρ] at e; cases e
  | some v' =>
    rw [hρ] at e
    by_cases hu : v'.isUnd = true
    · simp [hu] at e
    · simp only [hu] at e
      cases e
      have hv : v ≠ .und := fun q => hu (by rw [q]; rfl)
      obtain ⟨val, hld, hvr⟩ := hF n x v hx hρ hv
      exact wpAny_Name (ld_loads hE hR.kept hld (k g s val (Gh.Le.refl g) hR hvr (Rest.refl s)) hd2) hd

inductive BOp where
  | add | sub | mul | fdiv | mod | band | bxor
noncomputable def BOp.op : BOp → Operator
  | .add => .Add | .sub => .Sub | .mul => .Mult | .fdiv => .FloorDiv | .mod => .Mod | .band => .BitAnd | .bxor => .BitXor

noncomputable def bInt : BOp → Int → Int → Option Int
  | .add, a, b => some (a + b)
  | .sub, a, b => some (a - b)
  | .mul, a, b => if Builtin.Int.intBits a ≤ 64 then some (a * b) else none
  | .fdiv, a, b => if b ≠ 0 ∧ b.natAbs < 1073741824 then some (a.fdiv b) else none
  | .mod, a, b => if b ≠ 0 then some (a.fmod b) else none
  | .band, a, b => some (Builtin.bitAnd a b)
  | .bxor, a, b => some (Builtin.bitXor a b)
theorem bInt_ok {o : BOp} {a b c : Int} {t u : Tok} {prog : Program} {w : World} {A : Around} {E : Value → Shared → Prop} {s : Shared} {Q : Value → Shared → Prop} (e : bInt o a b = some c) (h : ∀ t' k', Q (.int c t') { s with toks := k' }) :
    wpAny (model prog w) A (binaryOp o.op (.int a t) (.int b u)) Q E s := by
  cases o <;> simp only [bInt, Option.some.injEq] at e <;> simp only [BOp.op]
  · subst e; exact P.add_int (h _ _)
  · subst e; exact P.sub_int (h _ _)
  · split at e
    · cases e; exact P.mul_int (h _ _) (.of_left (by assumption))
    · cases e
  · split at e
    · rename_i hc; cases e; exact floordiv_int hc.1 (h _ _) (.inl (PyProof.noPylong_small hc.2))
    · cases e
  · split at e
    · rename_i hc; cases e; exact mod_int' hc (h _ _)
    · cases e
  · subst e; exact and_int (h _ _)
  · subst e; exact xor_int (h _ _)
theorem bIntI_ok {o : BOp} {a b c : Int} {t u : Tok} {prog : Program} {w : World} {A : Around} {E : Value → Shared → Prop} {s : Shared} {Q : Value → Shared → Prop} (e : bInt o a b = some c) (h : ∀ t' k', Q (.int c t') { s with toks := k' }) :
    wpAny (model prog w) A (inplaceOp o.op (.int a t) (.int b u)) Q E s := by
  cases o <;> simp only [bInt, Option.some.injEq] at e <;> simp only [BOp.op]
  · subst e; exact P.iadd_int (h _ _)
  · subst e; exact P.isub_int (h _ _)
  · split at e
    · cases e; exact P.imul_int (h _ _) (.of_left (by assumption))
    · cases e
  · split at e
    · rename_i hc; cases e; exact ifloordiv_int hc.1 (h _ _) (.inl (PyProof.noPylong_small hc.2))
    · cases e
  · split at e
    · rename_i hc; cases e; exact imod_int hc (h _ _)
    · cases e
  · subst e; exact iand_int (h _ _)
  · subst e; exact ixor_int (h _ _)

/-- ints of a frozen list -/
noncomputable def intsOf : List AV → Option (List Int)
  | [] => some []
  | .int i :: r => (intsOf r).map (i :: ·)
  | _ :: _ => none
theorem intsOf_are {g : Gh} : ∀ {xs : List AV} {ns : List Int} {vs : List Value}, intsOf xs = some ns → VRs g xs vs → IntsAre vs ns
  | [], ns, vs, e, h => by simp only [intsOf, Option.some.injEq] at e; subst e; simp only [VRs] at h; subst h; exact .nil
  | x :: xs, ns, vs, e, h => by
    simp only [VRs] at h
    obtain ⟨v, r, rfl, h1, h2⟩ := h
    cases x <;> simp only [intsOf] at e <;> try (cases e)
    rename_i i
    cases hr : intsOf xs with
    | none => rw [hr] at e; cases e
    | some ms =>
      rw [hr] at e; simp only [Option.map_some, Option.some.injEq] at e; subst e
      simp only [VR] at h1
      obtain ⟨t, rfl⟩ := h1
      exact .cons i t (intsOf_are hr h2)


theorem foldl_rep {α : Type} (xs : Array α) : ∀ (n : Nat) (acc : Array α), (List.foldl (fun x1 x2 => x1 ++ x2) acc (List.replicate n xs)).toList = acc.toList ++ (List.replicate n xs.toList).flatten
  | 0, acc => by simp
  | n + 1, acc => by
    rw [List.replicate_succ, List.foldl_cons, foldl_rep xs n, List.replicate_succ, List.flatten_cons, Array.toList_append, List.append_assoc]
theorem IntsAre.appendM : ∀ {vs ws : List Value} {ns ms : List Int}, IntsAre vs ns → IntsAre ws ms → IntsAre (vs ++ ws) (ns ++ ms)
  | _, _, _, _, .nil, h => h
  | _, _, _, _, .cons y t h, h' => .cons y t (IntsAre.appendM h h')
theorem IntsAre.rep {vs : List Value} {ns : List Int} (h : IntsAre vs ns) : ∀ n : Nat, IntsAre (List.replicate n vs).flatten (List.replicate n ns).flatten
  | 0 => by simpa using IntsAre.nil
  | n + 1 => by
    rw [List.replicate_succ, List.replicate_succ, List.flatten_cons, List.flatten_cons]
    exact IntsAre.appendM h (IntsAre.rep h n)

section
variable {prog : Program} {w : World} {A : Around} {E : Value → Shared → Prop} {s : Shared}

theorem mul_listM {l : Addr} {o : Obj} {items : Array Value} {k : Nat} {x : Int} {u : Tok} {Q : Value → Shared → Prop}
    (hl : s.heap.get? l = some o) (hc : o.cls = .type "list") (hd : o.data = .seq items k) (h0 : 0 ≤ x) (hhi : x < 100000) (hsz : items.size ≤ 100) (hne : items.isEmpty = false)
    (h : ∀ vs : Array Value, vs.toList = (List.replicate x.toNat items.toList).flatten → Q (.ref s.heap.objs.size) { s with heap := s.heap.push { cls := .type "list", data := .seq vs } }) :
    wpAny (model prog w) A (binaryOp .Mult (.ref l) (.int x u)) Q E s := by
  obtain ⟨cls, dd, data, sl⟩ := o
  simp only at hc hd
  subst hc hd
  have hb : items.size * x.toNat ≤ 100 * 100000 := Nat.mul_le_mul hsz (by omega)
  refine wpAny_binaryOp_repeat_ref (T := "list") (U := "int") (by decide) ⟨_, hl, rfl⟩ (fun s' => typeIs_int s' x u) noFill_list_mul F.fills_int_mul F.slot_int_rmul repeat_list F.slot_int_index.lookup
    (call_meets F.slot_int_rmul (typeIs_int s x u) F.entry_int_rmul (F.args_int_rmul_2 _ _) (lm_int_rmul_list_any x u l items k dd sl)
      ⟨hl, rfl, ⟨_, hl, rfl⟩, call_meets F.slot_list_mul ⟨_, hl, rfl⟩ F.entry_list_mul (F.args_list_mul_2 _ _)
        (lm_list_mul_any l items k dd sl x u (by simp [Builtin.List.listFitsIndex]; omega) (by omega) (by simp [Builtin.List.listTooLong, sizeLine]; omega))
        ⟨hl, ?_⟩⟩)
  refine h _ ?_
  rw [hne]
  simp only [Bool.false_eq_true, if_false]
  rw [foldl_rep]; simp

theorem add_listM {l b : Addr} {o o2 : Obj} {items items2 : Array Value} {k k2 : Nat} {Q : Value → Shared → Prop}
    (hl : s.heap.get? l = some o) (hc : o.cls = .type "list") (hd : o.data = .seq items k) (hl2 : s.heap.get? b = some o2) (hc2 : o2.cls = .type "list") (hd2 : o2.data = .seq items2 k2) (hsz : items.size + items2.size ≤ 1000000)
    (h : Q (.ref s.heap.objs.size) { s with heap := s.heap.push { cls := .type "list", data := .seq (items ++ items2) } }) :
    wpAny (model prog w) A (binaryOp .Add (.ref l) (.ref b)) Q E s := by
  obtain ⟨cls, dd, data, sl⟩ := o
  obtain ⟨cls2, dd2, data2, sl2⟩ := o2
  simp only at hc hd hc2 hd2
  subst hc hd hc2 hd2
  exact concat_meets ⟨_, hl, rfl⟩ ⟨_, hl2, rfl⟩ noFill_list_add seq_list_add PySem.F.slot_list_add PySem.F.entry_list_add (PySem.F.args_list_add_2 _ _) (list_addW l b items items2 k k2 dd dd2 sl sl2 (by simp only [sizeLine]; omega)) ⟨hl, hl2, h⟩
end

noncomputable def bop (o : BOp) (a b : AV) (H : List AO) : Option (AV × List AO) :=
  match a, b with
  | .int a, .int b => (bInt o a b).map fun c => (.int c, H)
  | .bool a, .bool b => match o with
    | .bxor => some (.bool (a != b), H)
    | _ => none
  | .lst xs, .lst ys => match o with
    | .add => if xs.length + ys.length ≤ 1000000 then some (.lst (xs ++ ys), H) else none
    | _ => none
  | .lst xs, .int n => match o with
    | .mul => match intsOf xs with
      | some ns => if xs ≠ [] ∧ xs.length ≤ 100 ∧ 0 ≤ n ∧ n < 100000 then some (.ref H.length, H ++ [⟨false, (List.replicate n.toNat ns).flatten⟩]) else none
      | none => none
    | _ => none
  | _, _ => none

/-- a new frozen object -/
theorem new_frozen {K : Addr → Option Obj} {g : Gh} {H : List AO} {h : Heap} {o : Obj} (R : Rel K g H h) (hf : FD o) (hfree : o.isFreed = false) :
    ∃ g', g.Le g' ∧ Rel K g' H (h.push o) ∧ g'.C h.objs.size = some o := by
  have R' : Rel K g H (h.push o) := R.ext fun b o' e => Heap.get?_push_of_some _ e
  have ho : (h.push o).get? h.objs.size = some o := Heap.get?_push_size _ hfree
  obtain ⟨hK, _, hφ⟩ := R.fresh (get?_size h)
  exact ⟨g.freeze h.objs.size o, Gh.freeze_le R' ho, R'.freeze ho hf hφ (R.notN hK), by simp [Gh.freeze]⟩
theorem new_tracked {K : Addr → Option Obj} {g : Gh} {H : List AO} {h : Heap} {o : Obj} {ao : AO} (R : Rel K g H h) (hf : OR ao o) (hfree : o.isFreed = false) :
    ∃ g', g.Le g' ∧ Rel K g' (H ++ [ao]) (h.push o) ∧ VR g' (.ref H.length) (.ref h.objs.size) := by
  have R' : Rel K g H (h.push o) := R.ext fun b o' e => Heap.get?_push_of_some _ e
  have ho : (h.push o).get? h.objs.size = some o := Heap.get?_push_size _ hfree
  obtain ⟨hK, hC, hφ⟩ := R.fresh (get?_size h)
  refine ⟨g.track h.objs.size, Gh.track_le _ _, R'.track ho hf hφ hC hK, ?_⟩
  simp only [VR]
  refine ⟨_, rfl, ?_⟩
  show (g.φ ++ [h.objs.size])[H.length]? = _
  rw [List.getElem?_append_right (by rw [R.len]; exact Nat.le_refl _), R.len, Nat.sub_self]; rfl

theorem bop_ok {K : Addr → Option Obj} {g : Gh} {H H' : List AO} {o : BOp} {a b v : AV} {va vb : Value} {A : Around} {s : Shared} {Q : Value → Shared → Prop} {E : Value → Shared → Prop} (e : bop o a b H = some (v, H'))
    (R : Rel K g H s.heap) (ha : VR g a va) (hb : VR g b vb) (k : Kn K g H' v Q s) : wpAny (model X.prog X.w) A (binaryOp o.op va vb) Q E s := by
  unfold bop at e
  split at e
  · simp only [VR] at ha hb
    obtain ⟨t, rfl⟩ := ha
    obtain ⟨u, rfl⟩ := hb
    simp only [Option.map_eq_some_iff, Prod.mk.injEq] at e
    obtain ⟨c, hc, rfl, rfl⟩ := e
    exact bInt_ok hc fun t' k' => k g _ _ (Gh.Le.refl g) R VR.int Rest.t
  · simp only [VR] at ha hb
    subst ha hb
    cases o <;> try (cases e)
    exact xor_bool (k g _ _ (Gh.Le.refl g) R VR.bool (Rest.refl s))
  · cases o <;> try (cases e)
    rename_i xs ys
    simp only at e
    split at e
    · rename_i hsz
      cases e
      simp only [VR] at ha hb
      obtain ⟨a, oa, ia, na, rfl, hCa, hca, hda, hia⟩ := ha
      obtain ⟨b, ob, ib, nb, rfl, hCb, hcb, hdb, hib⟩ := hb
      have l1 := hia.length
      have l2 := hib.length
      refine add_listM (R.frz _ _ hCa).1 hca hda (R.frz _ _ hCb).1 hcb hdb (by rw [← Array.length_toList, ← Array.length_toList]; omega) ?_
      obtain ⟨g', hle, R', hC⟩ := new_frozen (o := { cls := .type "list", data := .seq (ia ++ ib) }) R (.inl ⟨_, _, rfl⟩) rfl
      refine k g' _ _ hle R' ?_ Rest.h
      simp only [VR]
      exact ⟨_, _, _, _, rfl, hC, rfl, rfl, by rw [Array.toList_append]; exact (hia.mono hle).append (hib.mono hle)⟩
    · cases e
  · cases o <;> try (cases e)
    rename_i xs n
    simp only at e
    split at e
    · rename_i ns hns
      split at e
      · rename_i hc
        cases e
        simp only [VR] at ha hb
        obtain ⟨a, oa, ia, na, rfl, hCa, hca, hda, hia⟩ := ha
        obtain ⟨t, rfl⟩ := hb
        have l1 := hia.length
        have hI := intsOf_are hns hia
        refine mul_listM (R.frz _ _ hCa).1 hca hda hc.2.2.1 hc.2.2.2 (by rw [← Array.length_toList]; omega) ?_ fun vs hvs => ?_
        · cases q : ia.isEmpty with
          | false => rfl
          | true =>
            exfalso
            have : ia = #[] := by simpa using q
            subst this
            simp at l1
            exact hc.1 (List.eq_nil_of_length_eq_zero l1.symm)
        · obtain ⟨g', hle, R', hV⟩ := new_tracked (o := { cls := .type "list", data := .seq vs }) (ao := ⟨false, (List.replicate n.toNat ns).flatten⟩) R
            (by unfold OR; rw [if_neg Bool.false_ne_true]; exact ⟨vs, 0, ⟨rfl, rfl, rfl⟩, by rw [hvs]; exact IntsAre.rep hI _⟩) rfl
          exact k g' _ _ hle R' hV Rest.h
      · cases e
    · cases e
  · cases e

noncomputable def dBin (o : BOp) (f₁ f₂ : Den) : Den := fun ρ H => match f₁ ρ H with
  | some (a, H₁) => match f₂ ρ H₁ with
    | some (b, H₂) => bop o a b H₂
    | none => none
  | none => none
theorem snd_bin {o : BOp} {l r : Expr} {pos : Pos} {f₁ f₂ : Den} (h₁ : SndE X d sc nm l f₁) (h₂ : SndE X d sc nm r f₂) : SndE X d sc nm (.BinOp l o.op r pos) (dBin o f₁ f₂) := by
  intro A env K g H ρ s Q E v H' hA hE hB hF hR e k
  unfold dBin at e
  split at e
  · rename_i a H₁ e₁
    split at e
    · rename_i b H₂ e₂
      refine wpAny_BinOp (h₁ A env K g H ρ s _ E a H₁ hA hE hB hF hR e₁ fun g₁ s₁ v₁ hg₁ R₁ V₁ r₁ => ?_)
      refine h₂ A env K g₁ H₁ ρ s₁ _ E b H₂ hA hE (hB.mono hg₁) (hF.mono hg₁) R₁ e₂ fun g₂ s₂ v₂ hg₂ R₂ V₂ r₂ => ?_
      exact bop_ok e R₂ (V₁.mono hg₂) V₂ (Kn.mono k (hg₁.trans hg₂) (r₁.trans r₂))
    · cases e
  · cases e

end
end Mine
end

section
open PySem PyProof.Rows
set_option autoImplicit false
namespace Mine

section
variable {X : Cx} {d : Nat} {sc : Scope} {nm : List Str}

noncomputable def dNeg (f : Den) : Den := fun ρ H => match f ρ H with
  | some (.int i, H₁) => some (.int (-i), H₁)
  | _ => none
theorem snd_neg {x : Expr} {pos : Pos} {f : Den} (h₁ : SndE X d sc nm x f) : SndE X d sc nm (.UnaryOp .USub x pos) (dNeg f) := by
  intro A env K g H ρ s Q E v H' hA hE hB hF hR e k
  unfold dNeg at e
  split at e
  · rename_i i H₁ e₁
    cases e
    refine wpAny_UnaryOp (h₁ A env K g H ρ s _ E _ _ hA hE hB hF hR e₁ fun g₁ s₁ v₁ hg₁ R₁ V₁ r₁ => ?_)
    simp only [VR] at V₁
    obtain ⟨t, rfl⟩ := V₁
    exact P.neg_int (k g₁ _ _ hg₁ R₁ VR.int (r₁.trans Rest.t))
  · cases e

/-! data that a comparison reads -/
mutual
noncomputable def toPy (H : List AO) : AV → Option PyData
  | .none => some .none
  | .bool b => some (.bool b)
  | .int i => some (.int i)
  | .tup xs => (toPys H xs).map .tuple
  | .lst xs => (toPys H xs).map .list
  | .rng _ _ _ => Option.none
  | .ref k => match H[k]? with
    | some ao => if ao.byt then Option.none else some (.list (ao.xs.map .int))
    | Option.none => Option.none
  | .und => Option.none
noncomputable def toPys (H : List AO) : List AV → Option (List PyData)
  | [] => some []
  | x :: xs => match toPy H x, toPys H xs with
    | some d, some ds => some (d :: ds)
    | _, _ => Option.none
end

theorem reads_ints {h : Heap} : ∀ {vs : List Value} {ns : List Int}, IntsAre vs ns → ReadsAll h vs (ns.map .int) []
  | _, _, .nil => .nil
  | _, _, .cons n t r => by
    have := ReadsAll.cons (Reads.int (h := h) n t) (reads_ints r)
    simpa using this

mutual
theorem toPy_reads {K : Addr → Option Obj} {g : Gh} {H : List AO} {h : Heap} (R : Rel K g H h) : ∀ {x : AV} {v : Value} {dd : PyData}, toPy H x = some dd → VR g x v → ∃ as, Reads h v dd as
  | .none, _, _, e, hv => by simp only [toPy, Option.some.injEq] at e; simp only [VR] at hv; subst e hv; exact ⟨_, .none⟩
  | .bool b, _, _, e, hv => by simp only [toPy, Option.some.injEq] at e; simp only [VR] at hv; subst e hv; exact ⟨_, .bool b⟩
  | .int i, _, _, e, hv => by simp only [toPy, Option.some.injEq] at e; simp only [VR] at hv; obtain ⟨t, rfl⟩ := hv; subst e; exact ⟨_, .int i t⟩
  | .tup xs, _, _, e, hv => by
    simp only [toPy, Option.map_eq_some_iff] at e
    obtain ⟨ds, e, rfl⟩ := e
    simp only [VR] at hv
    obtain ⟨a, o, items, n, rfl, hC, hc, hdd, hi⟩ := hv
    obtain ⟨as, ra⟩ := toPys_reads R e hi
    exact ⟨_, .tuple (R.frz _ _ hC).1 hc hdd ra⟩
  | .lst xs, _, _, e, hv => by
    simp only [toPy, Option.map_eq_some_iff] at e
    obtain ⟨ds, e, rfl⟩ := e
    simp only [VR] at hv
    obtain ⟨a, o, items, n, rfl, hC, hc, hdd, hi⟩ := hv
    obtain ⟨as, ra⟩ := toPys_reads R e hi
    exact ⟨_, .list (R.frz _ _ hC).1 hc hdd ra⟩
  | .rng _ _ _, _, _, e, _ => by simp only [toPy] at e; cases e
  | .ref k, _, _, e, hv => by
    simp only [toPy] at e
    simp only [VR] at hv
    obtain ⟨a, rfl, hφ⟩ := hv
    split at e
    · rename_i ao hk
      split at e
      · cases e
      · rename_i hb
        cases e
        obtain ⟨a', o, h1, h2, h3⟩ := R.trk k ao hk
        rw [hφ] at h1; cases h1
        unfold OR at h3
        rw [if_neg hb] at h3
        obtain ⟨vs, n, ⟨hc3, hn3, hd3⟩, hI⟩ := h3
        exact ⟨_, .list h2 hc3 hd3 (reads_ints hI)⟩
    · cases e
  | .und, _, _, e, _ => by simp only [toPy] at e; cases e
theorem toPys_reads {K : Addr → Option Obj} {g : Gh} {H : List AO} {h : Heap} (R : Rel K g H h) : ∀ {xs : List AV} {vs : List Value} {ds : List PyData}, toPys H xs = some ds → VRs g xs vs → ∃ as, ReadsAll h vs ds as
  | [], _, _, e, hv => by simp only [toPys, Option.some.injEq] at e; simp only [VRs] at hv; subst e hv; exact ⟨_, .nil⟩
  | x :: xs, _, _, e, hv => by
    simp only [toPys] at e
    simp only [VRs] at hv
    obtain ⟨v, r, rfl, h1, h2⟩ := hv
    split at e
    · rename_i dd ds' e1 e2
      cases e
      obtain ⟨as, ra⟩ := toPy_reads R e1 h1
      obtain ⟨bs, rb⟩ := toPys_reads R e2 h2
      exact ⟨_, .cons ra rb⟩
    · cases e
end

theorem canLay_ints (ns : List Int) : PyData.canLayAll0 (ns.map .int) = true := by
  induction ns with
  | nil => rfl
  | cons n r ih => simp [PyData.canLayAll0, PyData.canLay0, ih]
mutual
theorem toPy_canLay {H : List AO} : ∀ {x : AV} {dd : PyData}, toPy H x = some dd → dd.canLay0 = true
  | .none, _, e => by simp only [toPy, Option.some.injEq] at e; subst e; rfl
  | .bool b, _, e => by simp only [toPy, Option.some.injEq] at e; subst e; rfl
  | .int i, _, e => by simp only [toPy, Option.some.injEq] at e; subst e; rfl
  | .tup xs, _, e => by
    simp only [toPy, Option.map_eq_some_iff] at e
    obtain ⟨ds, e, rfl⟩ := e
    simp only [PyData.canLay0]; exact toPys_canLay e
  | .lst xs, _, e => by
    simp only [toPy, Option.map_eq_some_iff] at e
    obtain ⟨ds, e, rfl⟩ := e
    simp only [PyData.canLay0]; exact toPys_canLay e
  | .rng _ _ _, _, e => by simp only [toPy] at e; cases e
  | .ref k, _, e => by
    simp only [toPy] at e
    split at e
    · split at e
      · cases e
      · cases e; simp only [PyData.canLay0]; exact canLay_ints _
    · cases e
  | .und, _, e => by simp only [toPy] at e; cases e
theorem toPys_canLay {H : List AO} : ∀ {xs : List AV} {ds : List PyData}, toPys H xs = some ds → PyData.canLayAll0 ds = true
  | [], _, e => by simp only [toPys, Option.some.injEq] at e; subst e; rfl
  | x :: xs, _, e => by
    simp only [toPys] at e
    split at e
    · rename_i dd ds' e1 e2
      cases e
      simp only [PyData.canLayAll0, toPy_canLay e1, toPys_canLay e2, Bool.and_self]
    · cases e
end

inductive COp where
  | lt | le | gt | eq | ne | isin | notin
noncomputable def COp.op : COp → CmpOp
  | .lt => .Lt | .le => .LtE | .gt => .Gt | .eq => .Eq | .ne => .NotEq | .isin => .In | .notin => .NotIn

noncomputable def cop (o : COp) (a b : AV) (H : List AO) : Option Bool :=
  match o, a, b with
  | .lt, .int a, .int b => some (decide (a < b))
  | .le, .int a, .int b => some (decide (a ≤ b))
  | .gt, .int a, .int b => some (decide (a > b))
  | .eq, .int a, .int b => some (a == b)
  | .ne, .int a, .int b => some (a != b)
  | .eq, .lst xs, .lst ys => match toPy H (.lst xs), toPy H (.lst ys) with
    | some da, some db => if da.depth ≤ 64 ∧ db.depth ≤ 64 then some (PyData.eqv da db) else none
    | _, _ => none
  | .isin, a, .tup ys => match toPy H a, toPys H ys with
    | some da, some ds => if da.depth ≤ 64 then some (ds.any fun y => PyData.eqv y da) else none
    | _, _ => none
  | .notin, a, .tup ys => match toPy H a, toPys H ys with
    | some da, some ds => if da.depth ≤ 64 then some (!ds.any fun y => PyData.eqv y da) else none
    | _, _ => none
  | _, _, _ => none

theorem cop_ok {K : Addr → Option Obj} {g : Gh} {H : List AO} {o : COp} {a b : AV} {c : Bool} {va vb : Value} {A : Around} {s : Shared} {Q : Value → Shared → Prop} {E : Value → Shared → Prop} (e : cop o a b H = some c)
    (R : Rel K g H s.heap) (hu : A.units ≤ 500) (ha : VR g a va) (hb : VR g b vb) (k : Q (.bool c) s) : wpAny (model X.prog X.w) A (compareOp o.op va vb) Q E s := by
  unfold cop at e
  have hcl : (9900 : Nat) = cLine := rfl
  split at e
  · simp only [VR] at ha hb; obtain ⟨t, rfl⟩ := ha; obtain ⟨u, rfl⟩ := hb; cases e; exact P.lt_int k
  · simp only [VR] at ha hb; obtain ⟨t, rfl⟩ := ha; obtain ⟨u, rfl⟩ := hb; cases e; exact P.le_int k
  · simp only [VR] at ha hb; obtain ⟨t, rfl⟩ := ha; obtain ⟨u, rfl⟩ := hb; cases e; exact P.gt_int k
  · simp only [VR] at ha hb; obtain ⟨t, rfl⟩ := ha; obtain ⟨u, rfl⟩ := hb; cases e; exact P.eq_int k
  · simp only [VR] at ha hb; obtain ⟨t, rfl⟩ := ha; obtain ⟨u, rfl⟩ := hb; cases e; exact P.ne_int k
  · split at e
    · rename_i da db e1 e2
      split at e
      · rename_i hdp
        cases e
        obtain ⟨as, ra⟩ := toPy_reads R e1 ha
        obtain ⟨bs, rb⟩ := toPy_reads R e2 hb
        exact eq_dataH ra rb (by unfold SeqAt.shaped; rw [toPy_canLay e1, decide_eq_true hdp.1]; rfl) (by unfold SeqAt.shaped; rw [toPy_canLay e2, decide_eq_true hdp.2]; rfl) (by rw [← hcl]; omega) k
      · cases e
    · cases e
  · split at e
    · rename_i da ds e1 e2
      split at e
      · rename_i hdp
        cases e
        simp only [VR] at hb
        obtain ⟨a', o, items, n, rfl, hC, hc, hdd, hi⟩ := hb
        obtain ⟨as, ra⟩ := toPy_reads R e1 ha
        obtain ⟨bs, rb⟩ := toPys_reads R e2 hi
        exact SeqAt.in_tuple_reads (.tuple (R.frz _ _ hC).1 hc hdd rb) ra (toPys_canLay e2) (toPy_canLay e1) (by rw [← hcl]; omega) k
      · cases e
    · cases e
  · split at e
    · rename_i da ds e1 e2
      split at e
      · rename_i hdp
        cases e
        simp only [VR] at hb
        obtain ⟨a', o, items, n, rfl, hC, hc, hdd, hi⟩ := hb
        obtain ⟨as, ra⟩ := toPy_reads R e1 ha
        obtain ⟨bs, rb⟩ := toPys_reads R e2 hi
        exact SeqAt.notIn_tuple_reads (.tuple (R.frz _ _ hC).1 hc hdd rb) ra (toPys_canLay e2) (toPy_canLay e1) (by rw [← hcl]; omega) k
      · cases e
    · cases e
  · cases e

noncomputable def dCmp (o : COp) (f₁ f₂ : Den) : Den := fun ρ H => match f₁ ρ H with
  | some (a, H₁) => match f₂ ρ H₁ with
    | some (b, H₂) => match cop o a b H₂ with
      | some c => some (.bool c, H₂)
      | none => none
    | none => none
  | none => none
theorem snd_cmp {o : COp} {l r : Expr} {pos : Pos} {f₁ f₂ : Den} (h₁ : SndE X d sc nm l f₁) (h₂ : SndE X d sc nm r f₂) (hm : behindInMarks o.op r = false := by rfl) : SndE X d sc nm (.Compare l [o.op] [r] pos) (dCmp o f₁ f₂) := by
  intro A env K g H ρ s Q E v H' hA hE hB hF hR e k
  unfold dCmp at e
  split at e
  · rename_i a H₁ e₁
    split at e
    · rename_i b H₂ e₂
      split at e
      · rename_i c e₃
        cases e
        refine wpAny_Compare1 (h₁ A env K g H ρ s _ E a H₁ hA hE hB hF hR e₁ fun g₁ s₁ v₁ hg₁ R₁ V₁ r₁ => ?_) hm
        refine h₂ A env K g₁ H₁ ρ s₁ _ E b _ hA hE (hB.mono hg₁) (hF.mono hg₁) R₁ e₂ fun g₂ s₂ v₂ hg₂ R₂ V₂ r₂ => ?_
        exact cop_ok e₃ R₂ (by have := hA.un; omega) (V₁.mono hg₂) V₂ (k g₂ s₂ _ (hg₁.trans hg₂) R₂ VR.bool (r₁.trans r₂))
      · cases e
    · cases e
  · cases e

noncomputable def bCmp (o : COp) (f₁ f₂ : Den) : DenB := fun ρ H => match f₁ ρ H with
  | some (a, H₁) => match f₂ ρ H₁ with
    | some (b, H₂) => match cop o a b H₂ with
      | some c => some (c, H₂)
      | none => none
    | none => none
  | none => none
theorem sndB_cmp {o : COp} {l r : Expr} {pos : Pos} {f₁ f₂ : Den} (h₁ : SndE X d sc nm l f₁) (h₂ : SndE X d sc nm r f₂) (hm : behindInMarks o.op r = false := by rfl) : SndB X d sc nm (.Compare l [o.op] [r] pos) (bCmp o f₁ f₂) := by
  intro A env K g H ρ s Q E v H' hA hE hB hF hR e k
  unfold bCmp at e
  split at e
  · rename_i a H₁ e₁
    split at e
    · rename_i b H₂ e₂
      split at e
      · rename_i c e₃
        cases e
        refine wpAny_isTrue_Compare1 (h₁ A env K g H ρ s _ E a H₁ hA hE hB hF hR e₁ fun g₁ s₁ v₁ hg₁ R₁ V₁ r₁ => ?_) hm
        refine h₂ A env K g₁ H₁ ρ s₁ _ E b _ hA hE (hB.mono hg₁) (hF.mono hg₁) R₁ e₂ fun g₂ s₂ v₂ hg₂ R₂ V₂ r₂ => ?_
        exact cop_ok e₃ R₂ (by have := hA.un; omega) (V₁.mono hg₂) V₂ (wpAny_truthy_bool (k g₂ s₂ (hg₁.trans hg₂) R₂ (r₁.trans r₂)))
      · cases e
    · cases e
  · cases e

/-- a chain of two: l o₁ m o₂ r -/
noncomputable def bCmp2 (o₁ o₂ : COp) (f₁ f₂ f₃ : Den) : DenB := fun ρ H => match f₁ ρ H with
  | some (a, H₁) => match f₂ ρ H₁ with
    | some (b, H₂) => match cop o₁ a b H₂ with
      | some true => match f₃ ρ H₂ with
        | some (c, H₃) => match cop o₂ b c H₃ with
          | some z => some (z, H₃)
          | none => none
        | none => none
      | some false => some (false, H₂)
      | none => none
    | none => none
  | none => none
theorem wpAny_release {M : Model} {A : Around} {E : Value → Shared → Prop} {s : Shared} {vs keep : List Value} {Q : Unit → Shared → Prop} (h : Q () s) : wpAny M A (release vs keep) Q E s := fun Γ p _ => by
  unfold release; rw [Sem.wp_release_go]; exact h
theorem sndB_cmp2 {o₁ o₂ : COp} {l m r : Expr} {pos : Pos} {f₁ f₂ f₃ : Den} (h₁ : SndE X d sc nm l f₁) (h₂ : SndE X d sc nm m f₂) (h₃ : SndE X d sc nm r f₃) (hm : behindInMarks o₂.op r = false := by rfl) :
    SndB X d sc nm (.Compare l [o₁.op, o₂.op] [m, r] pos) (bCmp2 o₁ o₂ f₁ f₂ f₃) := by
  intro A env K g H ρ s Q E v H' hA hE hB hF hR e k
  have hu : A.units ≤ 500 := by have := hA.un; omega
  unfold bCmp2 at e
  rw [arm_isTrue_Compare]
  split at e
  · rename_i a H₁ e₁
    split at e
    · rename_i b H₂ e₂
      refine wpAny_bind (h₁ A env K g H ρ s _ E a H₁ hA hE hB hF hR e₁ fun g₁ s₁ v₁ hg₁ R₁ V₁ r₁ => ?_)
      show wpAny _ _ (do
        let rv ← holding [v₁] (eval m env)
        standAt pos
        let c ← holding [v₁, rv] (compareOp o₁.op v₁ rv)
        release [v₁, rv] [c]
        if ← holding [c, rv] (truthy c) then testChain pos rv [o₂.op] [markedBehindIn o₂.op r (eval r env)] else pure false) _ _ _
      refine wpAny_bind (wpAny_holding (h₂ A env K g₁ H₁ ρ s₁ _ E b _ hA hE (hB.mono hg₁) (hF.mono hg₁) R₁ e₂ fun g₂ s₂ v₂ hg₂ R₂ V₂ r₂ => ?_))
      refine wpAny_bind (wpAny_standAt ?_)
      split at e
      · rename_i e₃
        refine wpAny_bind (wpAny_holding (cop_ok e₃ R₂ hu (V₁.mono hg₂) V₂ ?_))
        refine wpAny_bind (wpAny_release ?_)
        refine wpAny_bind (wpAny_holding (wpAny_truthy_bool ?_))
        simp only [if_true]
        split at e
        · rename_i c H₃ e₄
          split at e
          · rename_i z e₅
            cases e
            rw [markedBehindIn_of_false hm]
            show wpAny _ _ (do
              let rv ← holding [v₂] (eval r env)
              standAt pos
              let c ← operate [v₂, rv] (compareOp o₂.op v₂ rv)
              holding [c] (truthy c)) _ _ _
            refine wpAny_bind (wpAny_holding (h₃ A env K g₂ H₂ ρ s₂ _ E c _ hA hE (hB.mono (hg₁.trans hg₂)) (hF.mono (hg₁.trans hg₂)) R₂ e₄ fun g₃ s₃ v₃ hg₃ R₃ V₃ r₃ => ?_))
            refine wpAny_bind (wpAny_standAt (wpAny_bind ?_))
            have hop : ∀ {m : Sem Value} {Q' : Value → Shared → Prop}, wpAny (model X.prog X.w) A m Q' E s₃ → wpAny (model X.prog X.w) A (operate [v₂, v₃] m) Q' E s₃ := fun {m Q'} hm => by
              unfold operate
              exact wpAny_bind (wpAny_holding (wpAny_mono hm (fun r s' h' => wpAny_bind (wpAny_release (wpAny_pure h'))) fun _ _ x => x))
            refine hop (cop_ok e₅ R₃ hu (V₂.mono hg₃) V₃ (wpAny_holding (wpAny_truthy_bool ?_)))
            exact k g₃ s₃ ((hg₁.trans hg₂).trans hg₃) R₃ ((r₁.trans r₂).trans r₃)
          · cases e
        · cases e
      · rename_i e₃
        cases e
        refine wpAny_bind (wpAny_holding (cop_ok e₃ R₂ hu (V₁.mono hg₂) V₂ ?_))
        refine wpAny_bind (wpAny_release ?_)
        refine wpAny_bind (wpAny_holding (wpAny_truthy_bool ?_))
        simp only [Bool.false_eq_true, if_false]
        exact wpAny_pure (k g₂ s₂ (hg₁.trans hg₂) R₂ (r₁.trans r₂))
      · cases e
    · cases e
  · cases e

end
end Mine
end

section
open PySem PyProof.Rows
set_option autoImplicit false
namespace Mine

section
variable {X : Cx} {d : Nat} {sc : Scope} {nm : List Str}

/-! tests -/
noncomputable def bNot (f : DenB) : DenB := fun ρ H => match f ρ H with
  | some (b, H₁) => some (!b, H₁)
  | none => none
theorem sndB_not {x : Expr} {pos : Pos} {f : DenB} (h₁ : SndB X d sc nm x f) : SndB X d sc nm (.UnaryOp .Not x pos) (bNot f) := by
  intro A env K g H ρ s Q E v H' hA hE hB hF hR e k
  unfold bNot at e
  split at e
  · rename_i b H₁ e₁
    cases e
    exact wpAny_isTrue_Not (h₁ A env K g H ρ s _ E _ _ hA hE hB hF hR e₁ fun g₁ s₁ hg₁ R₁ r₁ => k g₁ s₁ hg₁ R₁ r₁)
  · cases e

noncomputable def SndAnd (X : Cx) (d : Nat) (sc : Scope) (nm : List Str) (xs : List Expr) (f : DenB) : Prop :=
  ∀ (A : Around) (env : Env) (K : Addr → Option Obj) (g : Gh) (H : List AO) (ρ : List AV) (s : Shared) (Q : Bool → Shared → Prop) (E : Value → Shared → Prop) (b : Bool) (H' : List AO),
    AOk A d → EnvI sc env → Bs X K g → FrK K env nm ρ g → Rel K g H s.heap → f ρ H = some (b, H') → KnB K g H' b Q s → wpAny (model X.prog X.w) A (allTrue .And xs env) Q E s
noncomputable def bTrue : DenB := fun _ H => some (true, H)
theorem sndA_nil : SndAnd X d sc nm [] bTrue := by
  intro A env K g H ρ s Q E v H' hA hE hB hF hR e k
  simp only [bTrue, Option.some.injEq, Prod.mk.injEq] at e
  obtain ⟨rfl, rfl⟩ := e
  exact wpAny_allTrue_And_nil (k g s (Gh.Le.refl g) hR (Rest.refl s))
noncomputable def bAnd (f₁ f₂ : DenB) : DenB := fun ρ H => match f₁ ρ H with
  | some (true, H₁) => f₂ ρ H₁
  | some (false, H₁) => some (false, H₁)
  | none => none
theorem sndA_cons {x : Expr} {xs : List Expr} {f₁ f₂ : DenB} (h₁ : SndB X d sc nm x f₁) (h₂ : SndAnd X d sc nm xs f₂) : SndAnd X d sc nm (x :: xs) (bAnd f₁ f₂) := by
  intro A env K g H ρ s Q E v H' hA hE hB hF hR e k
  unfold bAnd at e
  split at e
  · rename_i H₁ e₁
    refine wpAny_allTrue_And_cons (h₁ A env K g H ρ s _ E _ _ hA hE hB hF hR e₁ fun g₁ s₁ hg₁ R₁ r₁ => ?_)
    simp only [if_true]
    exact h₂ A env K g₁ H₁ ρ s₁ _ E _ _ hA hE (hB.mono hg₁) (hF.mono hg₁) R₁ e (KnB.mono k hg₁ r₁)
  · rename_i H₁ e₁
    cases e
    refine wpAny_allTrue_And_cons (h₁ A env K g H ρ s _ E _ _ hA hE hB hF hR e₁ fun g₁ s₁ hg₁ R₁ r₁ => ?_)
    simp only [Bool.false_eq_true, if_false]
    exact k g₁ s₁ hg₁ R₁ r₁
  · cases e
theorem sndB_and {xs : List Expr} {pos : Pos} {f : DenB} (h₁ : SndAnd X d sc nm xs f) : SndB X d sc nm (.BoolOp .And xs pos) f := by
  intro A env K g H ρ s Q E v H' hA hE hB hF hR e k
  exact wpAny_isTrue_BoolOp (h₁ A env K g H ρ s _ E _ _ hA hE hB hF hR e k)

/-- a test on a value that is a bool -/
noncomputable def bVal (f : Den) : DenB := fun ρ H => match f ρ H with
  | some (.bool b, H₁) => some (b, H₁)
  | _ => none
theorem sndB_val {x : Expr} {f : Den} (h₁ : SndE X d sc nm x f) (he : ∀ env, isTrue x env (eval x env) = (do let v ← eval x env; standAt x.pos; holding [v] (truthy v)) := by intro _; rfl) : SndB X d sc nm x (bVal f) := by
  intro A env K g H ρ s Q E v H' hA hE hB hF hR e k
  unfold bVal at e
  split at e
  · rename_i b H₁ e₁
    cases e
    refine wpAny_isTrue_value (h₁ A env K g H ρ s _ E _ _ hA hE hB hF hR e₁ fun g₁ s₁ v₁ hg₁ R₁ V₁ r₁ => ?_) (he env)
    simp only [VR] at V₁
    subst V₁
    exact wpAny_truthy_bool (k g₁ s₁ hg₁ R₁ r₁)
  · cases e

/-- x and y as a value, x a bool -/
noncomputable def dAnd (f₁ f₂ : Den) : Den := fun ρ H => match f₁ ρ H with
  | some (.bool true, H₁) => f₂ ρ H₁
  | some (.bool false, H₁) => some (.bool false, H₁)
  | _ => none
theorem snd_and {x y : Expr} {pos : Pos} {f₁ f₂ : Den} (h₁ : SndE X d sc nm x f₁) (h₂ : SndE X d sc nm y f₂) : SndE X d sc nm (.BoolOp .And [x, y] pos) (dAnd f₁ f₂) := by
  intro A env K g H ρ s Q E v H' hA hE hB hF hR e k
  unfold dAnd at e
  split at e
  · rename_i H₁ e₁
    refine wpAny_And2 (h₁ A env K g H ρ s _ E _ _ hA hE hB hF hR e₁ fun g₁ s₁ v₁ hg₁ R₁ V₁ r₁ => ?_)
    simp only [VR] at V₁
    subst V₁
    refine wpAny_truthy_bool ?_
    simp only [if_true]
    exact h₂ A env K g₁ H₁ ρ s₁ _ E _ _ hA hE (hB.mono hg₁) (hF.mono hg₁) R₁ e (Kn.mono k hg₁ r₁)
  · rename_i H₁ e₁
    cases e
    refine wpAny_And2 (h₁ A env K g H ρ s _ E _ _ hA hE hB hF hR e₁ fun g₁ s₁ v₁ hg₁ R₁ V₁ r₁ => ?_)
    simp only [VR] at V₁
    subst V₁
    refine wpAny_truthy_bool ?_
    simp only [Bool.false_eq_true, if_false]
    exact k g₁ s₁ _ hg₁ R₁ VR.bool r₁
  · cases e

noncomputable def dIte (c : DenB) (f₁ f₂ : Den) : Den := fun ρ H => match c ρ H with
  | some (true, H₁) => f₁ ρ H₁
  | some (false, H₁) => f₂ ρ H₁
  | none => none
theorem snd_ite {t x y : Expr} {pos : Pos} {c : DenB} {f₁ f₂ : Den} (h₀ : SndB X d sc nm t c) (h₁ : SndE X d sc nm x f₁) (h₂ : SndE X d sc nm y f₂) : SndE X d sc nm (.IfExp t x y pos) (dIte c f₁ f₂) := by
  intro A env K g H ρ s Q E v H' hA hE hB hF hR e k
  unfold dIte at e
  split at e
  · rename_i H₁ e₁
    refine wpAny_IfExp (h₀ A env K g H ρ s _ E _ _ hA hE hB hF hR e₁ fun g₁ s₁ hg₁ R₁ r₁ => ?_)
    simp only [if_true]
    exact h₁ A env K g₁ H₁ ρ s₁ _ E _ _ hA hE (hB.mono hg₁) (hF.mono hg₁) R₁ e (Kn.mono k hg₁ r₁)
  · rename_i H₁ e₁
    refine wpAny_IfExp (h₀ A env K g H ρ s _ E _ _ hA hE hB hF hR e₁ fun g₁ s₁ hg₁ R₁ r₁ => ?_)
    simp only [Bool.false_eq_true, if_false]
    exact h₂ A env K g₁ H₁ ρ s₁ _ E _ _ hA hE (hB.mono hg₁) (hF.mono hg₁) R₁ e (Kn.mono k hg₁ r₁)
  · cases e

/-! lists of expressions -/
noncomputable abbrev DenL := List AV → List AO → Option (List AV × List AO)
structure SndL (X : Cx) (d : Nat) (sc : Scope) (nm : List Str) (xs : List Expr) (f : DenL) : Prop where
  plain : ∀ env pos, (backTo pos (starEach xs env)).any (·.1) = false
  ne : xs ≠ [] → ∀ env pos, ∃ t rest, backTo pos (starEach xs env) = (false, t) :: rest
  run : ∀ (pos : Pos) (A : Around) (env : Env) (K : Addr → Option Obj) (g : Gh) (H : List AO) (ρ : List AV) (s : Shared) (Q : List Value → Shared → Prop) (E : Value → Shared → Prop) (vs : List AV) (H' : List AO),
    AOk A d → EnvI sc env → Bs X K g → FrK K env nm ρ g → Rel K g H s.heap → f ρ H = some (vs, H') →
    (∀ g' s' vals, g.Le g' → Rel K g' H' s'.heap → VRs g' vs vals → Rest s s' → Q vals s') → wpAny (model X.prog X.w) A (spliced (backTo pos (starEach xs env))) Q E s
noncomputable def lNil : DenL := fun _ H => some ([], H)
theorem sndL_nil : SndL X d sc nm [] lNil where
  plain := fun _ _ => rfl
  ne := fun h => absurd rfl h
  run := by
    intro pos A env K g H ρ s Q E v H' hA hE hB hF hR e k
    simp only [lNil, Option.some.injEq, Prod.mk.injEq] at e
    obtain ⟨rfl, rfl⟩ := e
    exact wpAny_items_nil (k g s _ (Gh.Le.refl g) hR VRs.nil (Rest.refl s))
noncomputable def lCons (f : Den) (r : DenL) : DenL := fun ρ H => match f ρ H with
  | some (a, H₁) => match r ρ H₁ with
    | some (as, H₂) => some (a :: as, H₂)
    | none => none
  | none => none
theorem sndL_cons {x : Expr} {xs : List Expr} {f : Den} {r : DenL} (h₁ : SndE X d sc nm x f) (h₂ : SndL X d sc nm xs r) (he : ∀ env, starEach (x :: xs) env = (false, eval x env) :: starEach xs env := by intro _; rfl) : SndL X d sc nm (x :: xs) (lCons f r) where
  plain := fun env pos => by
    rw [he env]
    show (false || (backTo pos (starEach xs env)).any (·.1)) = false
    rw [h₂.plain]; rfl
  ne := fun _ env pos => by rw [he env]; exact ⟨_, _, rfl⟩
  run := by
    intro pos A env K g H ρ s Q E v H' hA hE hB hF hR e k
    unfold lCons at e
    split at e
    · rename_i a H₁ e₁
      split at e
      · rename_i as H₂ e₂
        cases e
        refine wpAny_items_cons (h₁ A env K g H ρ s _ E _ _ hA hE hB hF hR e₁ fun g₁ s₁ v₁ hg₁ R₁ V₁ r₁ => ?_) (he env)
        refine h₂.run pos A env K g₁ H₁ ρ s₁ _ E _ _ hA hE (hB.mono hg₁) (hF.mono hg₁) R₁ e₂ fun g₂ s₂ v₂ hg₂ R₂ V₂ r₂ => ?_
        exact k g₂ s₂ _ (hg₁.trans hg₂) R₂ (VRs.cons (V₁.mono hg₂) V₂) (r₁.trans r₂)
      · cases e
    · cases e

noncomputable def dTup (r : DenL) : Den := fun ρ H => match r ρ H with
  | some (as, H₁) => if as.length ≤ 1000 then some (.tup as, H₁) else none
  | none => none
theorem snd_tup {xs : List Expr} {kk : Nat} {pos : Pos} {r : DenL} (h₁ : SndL X d sc nm xs r) : SndE X d sc nm (.Tuple xs kk pos) (dTup r) := by
  intro A env K g H ρ s Q E v H' hA hE hB hF hR e k
  unfold dTup at e
  split at e
  · rename_i as H₁ e₁
    split at e
    · rename_i hl
      cases e
      refine wpAny_Tuple (h₁.run pos A env K g H ρ s _ E _ _ hA hE hB hF hR e₁ fun g₁ s₁ vs hg₁ R₁ V₁ r₁ => ⟨by rw [V₁.length]; simp only [sizeLine]; omega, ?_⟩)
      obtain ⟨g', hle, R', hC⟩ := new_frozen (o := { cls := .type "tuple", data := .seq vs.toArray }) R₁ (.inl ⟨_, _, rfl⟩) rfl
      refine k g' _ _ (hg₁.trans hle) R' ?_ (r₁.trans Rest.h)
      simp only [VR]
      exact ⟨_, _, _, _, rfl, hC, rfl, rfl, by simpa using V₁.mono hle⟩
    · cases e
  · cases e
noncomputable def dLst (r : DenL) : Den := fun ρ H => match r ρ H with
  | some (as, H₁) => if as.length ≤ 1000 then some (.lst as, H₁) else none
  | none => none
theorem snd_lst {xs : List Expr} {pos : Pos} {r : DenL} (h₁ : SndL X d sc nm xs r) : SndE X d sc nm (.List xs pos) (dLst r) := by
  intro A env K g H ρ s Q E v H' hA hE hB hF hR e k
  unfold dLst at e
  split at e
  · rename_i as H₁ e₁
    split at e
    · rename_i hl
      cases e
      refine wpAny_List (h₁.run pos A env K g H ρ s _ E _ _ hA hE hB hF hR e₁ fun g₁ s₁ vs hg₁ R₁ V₁ r₁ => ⟨by rw [V₁.length]; simp only [sizeLine]; omega, ?_⟩)
      obtain ⟨g', hle, R', hC⟩ := new_frozen (o := { cls := .type "list", data := .seq vs.toArray }) R₁ (.inl ⟨_, _, rfl⟩) rfl
      refine k g' _ _ (hg₁.trans hle) R' ?_ (r₁.trans Rest.h)
      simp only [VR]
      exact ⟨_, _, _, _, rfl, hC, rfl, rfl, by simpa using V₁.mono hle⟩
    · cases e
  · cases e

/-! names of the module and of the built-ins -/
noncomputable def GV (X : Cx) (x : Str) (v : Value) : Prop := X.mg x = some v ∨ (X.mg x = none ∧ X.mb x = some v)
theorem gv_loads {x : Str} {v : Value} {pos : Pos} {A : Around} {env : Env} {K : Addr → Option Obj} {g : Gh} {H : List AO} {s : Shared} {Q : Value → Shared → Prop} {E : Value → Shared → Prop} (hE : EnvI sc env) (hB : Bs X K g) (hR : Rel K g H s.heap)
    (hx : sc.names.lookup x = some .globalImplicit) (hv : GV X x v) (hd : (x == ("__debug__" : Str)) = false) (h : Q v s) : wpAny (model X.prog X.w) A (eval (.Name x pos) env) Q E s := by
  have hkind : env.scope.kind = .function := by rw [hE.es]; exact hE.ek
  have hk : ∀ b o, X.h₁.get? b = some o → s.heap.get? b = some o := fun b o e => hR.kept _ _ (hB.k _ _ e)
  refine Calls.Name_function_global hkind (by unfold Env.kindOf; rw [hE.es]; exact hx) ?_ hd
  rcases hv with hv | ⟨h0, hv⟩
  · exact Calls.loadGlobal_global (by rw [hE.eg]; exact X.hg.keeps hk) hv h
  · exact Calls.loadGlobal_builtin (by rw [hE.eg]; exact X.hg.keeps hk) h0 (by rw [hE.eb]; exact X.hb.keeps hk) hv h

noncomputable def dGlb (a : AV) : Den := fun _ H => some (a, H)
theorem snd_glb {x : Str} {v : Value} {a : AV} {pos : Pos} (hv : GV X x v) (ha : ∀ g : Gh, (∀ b o, X.h₁.get? b = some o → FD o → g.C b = some o) → VR g a v)
    (hx : sc.names.lookup x = some .globalImplicit := by rfl) (hd : (x == ("__debug__" : Str)) = false := by decide) : SndE X d sc nm (.Name x pos) (dGlb a) := by
  intro A env K g H ρ s Q E v H' hA hE hB hF hR e k
  simp only [dGlb, Option.some.injEq, Prod.mk.injEq] at e
  obtain ⟨rfl, rfl⟩ := e
  exact gv_loads hE hB hR hx hv hd (k g s _ (Gh.Le.refl g) hR (ha g hB.c) (Rest.refl s))

/-! calls -/
noncomputable abbrev PDen := List AV → List AO → Option (AV × List AO)
noncomputable def Prim (X : Cx) (d : Nat) (f : Value) (p : PDen) : Prop :=
  ∀ (A : Around) (K : Addr → Option Obj) (g : Gh) (H : List AO) (s : Shared) (Q : Value → Shared → Prop) (E : Value → Shared → Prop) (as : List AV) (vs : List Value) (v : AV) (H' : List AO),
    AOk A d → Bs X K g → Rel K g H s.heap → p as H = some (v, H') → VRs g as vs → Kn K g H' v Q s → wpAny (model X.prog X.w) A (call f vs) Q E s

/-- what can be called by its name -/
noncomputable def Callee (X : Cx) : Value → Prop
  | .builtin _ => True
  | .type _ => True
  | .ref a => ∃ o fd, X.h₁.get? a = some o ∧ o.data = .func fd
  | _ => False

noncomputable def dCall (r : DenL) (p : PDen) : Den := fun ρ H => match r ρ H with
  | some (as, H₁) => p as H₁
  | none => none
theorem snd_call {x : Str} {f : Value} {xs : List Expr} {p₁ pos : Pos} {r : DenL} {p : PDen} (hv : GV X x f) (hf : Callee X f) (hp : Prim X d f p) (h₁ : SndL X d sc nm xs r) (hne : xs ≠ [] := by exact List.cons_ne_nil _ _)
    (hx : sc.names.lookup x = some .globalImplicit := by rfl) (hd : (x == ("__debug__" : Str)) = false := by decide) : SndE X d sc nm (.Call (.Name x p₁) xs [] pos) (dCall r p) := by
  intro A env K g H ρ s Q E v H' hA hE hB hF hR e k
  unfold dCall at e
  split at e
  · rename_i as H₁ e₁
    refine wpAny_Call_Name_kw (gv_loads hE hB hR hx hv hd ?_)
    obtain ⟨t, rest, hb⟩ := h₁.ne hne env pos
    have hpl := h₁.plain env pos
    have run := fun Q' => h₁.run pos A env K g H ρ s Q' E _ _ hA hE hB hF hR e₁
    rw [hb] at hpl run
    show wpAny _ _ (callWith pos f [] (backTo pos (starEach xs env)) []) _ _ _
    rw [hb]
    cases f with
    | builtin id =>
      refine Calls.callWith_builtin hpl (Calls.evalArgs_plain (run _ fun g₁ s₁ vs hg₁ R₁ V₁ r₁ => ?_))
      exact hp A K g₁ H₁ s₁ _ E as vs v H' hA (hB.mono hg₁) R₁ e V₁ (Kn.mono k hg₁ r₁)
    | type T =>
      refine PyProof.Rows.callWith_type hpl (Calls.evalArgs_plain (run _ fun g₁ s₁ vs hg₁ R₁ V₁ r₁ => ?_))
      exact hp A K g₁ H₁ s₁ _ E as vs v H' hA (hB.mono hg₁) R₁ e V₁ (Kn.mono k hg₁ r₁)
    | ref a =>
      obtain ⟨o, fd, ho, hdd⟩ := hf
      refine Calls.callWith_function (o := o) (fd := fd) (Calls.evalArgs_plain (run _ fun g₁ s₁ vs hg₁ R₁ V₁ r₁ => ⟨⟨R₁.kept _ _ (hB.k _ _ ho), hdd⟩, ?_⟩))
      exact hp A K g₁ H₁ s₁ _ E as vs v H' hA (hB.mono hg₁) R₁ e V₁ (Kn.mono k hg₁ r₁)
    | _ => cases hf
  · cases e

end
end Mine
end

section
open PySem PyProof.Rows
open Sem (wp)
set_option autoImplicit false
namespace Mine

/-- a code that holds no bytearray's memory while it runs -/
noncomputable def okc : Code → Bool
  | .builtin id _ => !(Builtin.Bytes.decodersThatHold.contains id || ["bytearray.__contains__", "bytearray.__mod__", "bytearray.__rmod__", "_struct.pack_into.held", "bytearray.find.held"].contains id)
  | _ => true
noncomputable def CleanB (Γ : Ctx) : Prop := ∀ x ∈ Γ.below, okc x.1 = true
noncomputable def Clean (Γ : Ctx) : Prop := okc Γ.code = true ∧ CleanB Γ

noncomputable def wpC {α : Type} (M : Model) (A : Around) (t : Sem α) (Q : α → Shared → Prop) (E : Value → Shared → Prop) (s : Shared) : Prop :=
  ∀ Γ p, Γ.In A → Clean Γ → wp M Γ t (fun a _ s' => Q a s') (fun e _ s' => E e s') p s
noncomputable def codeC (M : Model) (A : Around) (c : Code) (R : Result → Shared → Prop) (s : Shared) : Prop :=
  ∀ Γ p, Γ.code = c → Γ.Below A → CleanB Γ → wpCode M Γ R p s

section
variable {α β : Type} {M : Model} {A : Around} {E : Value → Shared → Prop} {s : Shared}

theorem wpC.of {t : Sem α} {Q : α → Shared → Prop} (h : wpAny M A t Q E s) : wpC M A t Q E s := fun Γ p hΓ _ => h Γ p hΓ
theorem codeC.of {c : Code} {R : Result → Shared → Prop} (h : codeAny M A c R s) : codeC M A c R s := fun Γ p hc hΓ _ => h Γ p hc hΓ

theorem wpC_pure {a : α} {Q : α → Shared → Prop} (h : Q a s) : wpC M A (pure a) Q E s := fun _ _ _ _ => h
theorem wpC_mono {t : Sem α} {Q Q' : α → Shared → Prop} {E' : Value → Shared → Prop} (h : wpC M A t Q E s) (hQ : ∀ a s, Q a s → Q' a s) (hE : ∀ e s, E e s → E' e s) : wpC M A t Q' E' s :=
  fun Γ p hΓ hc => Sem.wp_mono M Γ t (fun a _ s => hQ a s) (fun e _ s => hE e s) p s (h Γ p hΓ hc)
theorem wpC_bind {m : Sem α} {f : α → Sem β} {Q : β → Shared → Prop} (h : wpC M A m (fun a s' => wpC M A (f a) Q E s') E s) : wpC M A (m >>= f) Q E s := fun Γ p hΓ hc => by
  rw [Sem.wp_bind']
  exact Sem.wp_mono M Γ m (fun a p' s' h' => h' Γ p' hΓ hc) (fun _ _ _ h' => h') p s (h Γ p hΓ hc)
/-- behind what runs in every context -/
theorem wpC_seq {m : Sem α} {f : α → Sem β} {Q : β → Shared → Prop} (h : wpAny M A m (fun a s' => wpC M A (f a) Q E s') E s) : wpC M A (m >>= f) Q E s := wpC_bind (.of h)
theorem wpC_holding {vs : List Value} {m : Sem α} {Q : α → Shared → Prop} (h : wpC M A m Q E s) : wpC M A (holding vs m) Q E s :=
  fun Γ p hΓ hc => by rw [Sem.wp_holding]; exact h Γ p hΓ hc
theorem wpC_keep {vs : List Value} {m : Sem α} {Q : α → Shared → Prop} (h : wpC M A m Q E s) : wpC M A (m.keep vs) Q E s :=
  fun Γ p hΓ hc => by rw [Sem.wp_keep]; exact h Γ p hΓ hc
theorem wpC_onRaise {m : Sem α} {k : Value → Sem Unit} {Q : α → Shared → Prop} (h : wpC M A m Q (fun e s' => wpC M A (k e) (fun _ s'' => E e s'') E s') s) : wpC M A (m.onRaise k) Q E s := fun Γ p hΓ hc => by
  have key : ∀ (t : Sem α) (p : Pos) (s : Shared), wp M Γ t (fun a _ s' => Q a s') (fun e p' s' => wp M Γ (k e) (fun _ _ s'' => E e s'') (fun e' _ s'' => E e' s'') p' s') p s → wp M Γ (t.onRaise k) (fun a _ s' => Q a s') (fun e _ s' => E e s') p s := by
    intro t p s ht
    rw [Sem.wp_onRaise]
    refine Sem.wp_mono M Γ t (fun a p' s' h' => h') (fun e p' s' h' => ?_) p s ht
    exact h'
  refine key m p s ?_
  exact Sem.wp_mono M Γ m (fun _ _ _ h' => h') (fun e p' s' h' => h' Γ p' hΓ hc) p s (h Γ p hΓ hc)
theorem wpC_run {c : Code} {h : Option Value} {Q : Flow → Shared → Prop}
    (hc : codeC M (A.mark h) c (fun r s' => match r with | .ok f => Q f s' | .error e => E e s') s) (hnb : h ≠ some byPass := by intro x; cases x) : wpC M A (run c h) Q E s :=
  fun Γ p hΓ hcl => by
    rw [Sem.wp_run]
    refine hc _ p rfl (hΓ.enter c h p hnb) ?_
    intro x hx
    rcases List.mem_cons.mp (show x ∈ (Γ.code, p) :: Γ.below from hx) with rfl | hx
    · exact hcl.1
    · exact hcl.2 x hx
theorem wpC_runValue {c : Code} {Q : Value → Shared → Prop}
    (hc : codeC M A c (fun r s' => match r with | .ok (.ret v) => Q v s' | .ok _ => False | .error e => E e s') s) : wpC M A (runValue c) Q E s := fun Γ p hΓ hcl => by
  rw [Sem.wp_runValue]
  refine hc _ p rfl (hΓ.enter c none p (by intro x; cases x)) ?_
  intro x hx
  rcases List.mem_cons.mp (show x ∈ (Γ.code, p) :: Γ.below from hx) with rfl | hx
  · exact hcl.1
  · exact hcl.2 x hx
theorem wpC_call {f : Value} {pos : List Value} {kw : List (Str × Value)} {Q : Value → Shared → Prop}
    (hc : codeC M A (.call f ⟨pos, kw⟩) (fun r s' => match r with | .ok (.ret v) => Q v s' | .ok _ => False | .error e => E e s') s) : wpC M A (call f pos kw) Q E s := wpC_runValue hc
theorem codeC_of_tree {c : Code} {R : Result → Shared → Prop} (hok : okc c = true)
    (h : wpC M (A.under c) (M.den c) (fun fin s' => match fin with | .done f => R (.ok f) s' | .again c' => c'.quiet = true ∧ codeC M A c' R s') (fun e s' => R (.error e) s') s) : codeC M A c R s := fun Γ p hc hΓ hcl => by
  rw [wpCode_iff_wp, hc]
  refine Sem.wp_mono M Γ _ (fun fin p' s' h' => ?_) (fun _ _ _ h' => h') p s (h Γ p (hc ▸ hΓ.in) ⟨by rw [hc]; exact hok, hcl⟩)
  cases fin with
  | done f => exact h'
  | again c' => exact ⟨h'.1, h'.2 (Γ.goto c') p' rfl (hΓ.goto c') hcl⟩
theorem codeC_mono {c : Code} {R R' : Result → Shared → Prop} (h : codeC M A c R s) (hR : ∀ r s, R r s → R' r s) : codeC M A c R' s := fun Γ p hc hΓ hcl => by
  obtain ⟨r, s', h1, h2⟩ := h Γ p hc hΓ hcl
  exact ⟨r, s', h1, hR r s' h2⟩
theorem codeC_loop {c : Code} {R : Result → Shared → Prop} (hok : okc c = true) (hq : c.quiet = true) (I : Nat → Shared → Prop)
    (turn : ∀ n s, I n s → wpC M (A.under c) (M.den c)
      (fun fin s' => match fin with | .done f => R (.ok f) s' | .again c' => (c' = c ∧ ∃ m, m < n ∧ I m s') ∨ (c'.quiet = true ∧ codeC M A c' R s')) (fun e s' => R (.error e) s') s)
    (n : Nat) (h : I n s) : codeC M A c R s := by
  induction n using Nat.strongRecOn generalizing s with
  | ind n ih =>
    refine codeC_of_tree hok (wpC_mono (turn n s h) (fun fin s' hf => ?_) fun _ _ h' => h')
    cases fin with
    | done f => exact hf
    | again c' =>
      rcases hf with ⟨rfl, m, hm, hI⟩ | hf
      · exact ⟨hq, ih m hm hI⟩
      · exact hf
end
end Mine
end

section
open PySem PyProof.Rows
open Sem (wp)
set_option autoImplicit false
namespace Mine

section
variable {prog : Program} {w : World} {A : Around} {s : Shared} {R : Result → Shared → Prop}

/-- what a raise out of a loop's turn goes through -/
noncomputable def notedC (prog : Program) (w : World) (A : Around) (env : Env) (R : Result → Shared → Prop) (e : Value) (s : Shared) : Prop :=
  wpC (model prog w) A (do noteFrame e env; theTreesLotGoes e) (fun _ s' => R (.error e) s') (fun e' s' => R (.error e') s') s

theorem codeC_block_nil {env : Env} (h : R (.ok .next) s) : codeC (model prog w) A (.block [] env) R s := by
  refine codeC_of_tree rfl ?_
  show wpC _ _ ((execs [] env).onRaise (fun x => do noteFrame x env; theTreesLotGoes x) >>= fun f => pure (PySem.Fin.done f)) _ _ s
  exact wpC_bind (wpC_onRaise (wpC_pure (wpC_pure h)))

theorem codeC_forLoop {target : Expr} {it : Value} {body : List Stmt} {env : Env} (I : Nat → Shared → Prop)
    (turn : ∀ n s, I n s → wpAny (model prog w) A (pyNext it) (fun r s₁ => match r with
      | none => R (.ok .next) s₁
      | some v => wpAny (model prog w) A (letOwnedTupleGo target it v) (fun _ s₁ => wpAny (model prog w) A (assign target env v) (fun _ s₂ => wpC (model prog w) A (execs body env) (fun f s₃ => match f with
          | .next | .cont => ∃ m, m < n ∧ I m s₃
          | .brk => R (.ok .next) s₃
          | .ret v => R (.ok (.ret v)) s₃) (notedC prog w A env R) s₂) (notedC prog w A env R) s₁) (notedC prog w A env R) s₁) (notedC prog w A env R) s)
    (n : Nat) (h : I n s) : codeC (model prog w) A (.forLoop target it body [] env) R s := by
  refine codeC_loop rfl rfl I (fun n s hI => ?_) n h
  rw [Around.under_of_weight (c := .forLoop target it body [] env) rfl]
  show wpC _ _ ((forTurn target it body [] env).onRaise (fun x => do noteFrame x env; theTreesLotGoes x)) _ _ s
  refine wpC_onRaise ?_
  simp only [forTurn]
  refine wpC_seq (wpAny_standAt (wpC_seq (wpAny_onRaise (wpAny_mono (turn n s hI) (fun r s₁ h₁ => ?_) fun e s₁ h₁ => wpAny_standAt h₁))))
  cases r with
  | none => exact wpC_pure (.inr ⟨rfl, codeC_block_nil h₁⟩)
  | some v =>
    refine wpC_seq (wpAny_mono h₁ (fun _ s₂ h₂ => wpC_seq (wpAny_mono h₂ (fun _ s₃ h₃ => wpC_bind (wpC_mono h₃ (fun f s₄ h₄ => ?_) fun _ _ x => x)) fun _ _ x => x)) fun _ _ x => x)
    cases f with
    | next => exact wpC_pure (.inl ⟨rfl, h₄⟩)
    | cont => exact wpC_pure (.inl ⟨rfl, h₄⟩)
    | brk => exact wpC_pure h₄
    | ret v => exact wpC_pure h₄

theorem wpC_For {E : Value → Shared → Prop} {target iter : Expr} {body : List Stmt} {pos : Pos} {env : Env} {Q : Flow → Shared → Prop}
    (h : wpAny (model prog w) A (eval iter env) (fun x s₁ => wpAny (model prog w) A (pyIter x) (fun it s₂ =>
      codeC (model prog w) A (.forLoop target it body [] env) (fun r s' => match r with | .ok f => Q f s' | .error e => cameBackBy (model prog w) A env E e s') s₂) E s₁) E s)
    (hs : ∀ x, foldedSetIterable iter env x = pure x := by intro _; rfl) : wpC (model prog w) A (exec (.For target iter body [] pos) env) Q E s := by
  rw [exec_For]
  refine wpC_seq (wpAny_standAt (wpC_seq (wpAny_mono h (fun x s₁ h₁ => wpC_seq (wpAny_of_eq (hs x) (wpC_seq (wpAny_standAt (wpC_seq (wpAny_holding (wpAny_mono h₁ (fun it s₂ h₂ => ?_) fun _ _ x => x))))))) fun _ _ x => x)))
  unfold runOwn
  exact wpC_onRaise (wpC_run (codeC_mono h₂ fun r s' hr => by
    cases r with
    | ok f => exact hr
    | error e => exact .of hr))
end
end Mine
end

section
open PySem PyProof.Rows
open Sem (wp)
set_option autoImplicit false
namespace Mine

section
variable {prog : Program} {w : World} {A : Around} {s : Shared} {R : Result → Shared → Prop}

theorem wpC_point {M : Model} {E : Value → Shared → Prop} {Q : Unit → Shared → Prop} (h : Q () s) : wpC M A point Q E s := .of (wpAny_point h)

theorem codeC_func {body : List Stmt} {env : Env}
    (h : wpC (model prog w) (A.deeper env) (execs body env) (fun f s' => R (.ok (.ret (match f with | .ret v => v | _ => .none))) s')
      (fun e s' => wpC (model prog w) (A.deeper env) (leaving env e) (fun _ s'' => R (.error e) s'') (fun e' s'' => R (.error e') s'') s') s) :
    codeC (model prog w) A (.func body env) R s := by
  refine codeC_of_tree rfl ?_
  show wpC _ (A.deeper env) (do point; match ← (execs body env).onRaise (leaving env) with | .ret v => ret v | _ => ret .none) _ _ s
  refine wpC_bind (wpC_point (wpC_bind (wpC_onRaise (wpC_mono h (fun f s' h' => ?_) fun _ _ h' => h'))))
  cases f <;> exact wpC_pure h'

theorem codeC_call_function {a : Addr} {args : Args} {o : Obj} {fd : FuncData} {body : List Stmt} (hroom : A.depth < recursionLimit)
    (ho : s.heap.get? a = some o)
    (hd' : o.data = .func fd) (hco : fd.scope.isCoroutine = false) (hgen : fd.scope.isGenerator = false) (hbody : fd.body = .stmts body) (hcd : s.heap.CodeRec fd.code fd.qualname)
    (h : wpAny (model prog w) A.in1 (bindArgs fd args) (fun binds s₁ =>
      wpAny (model prog w) A.in1 (newFunctionEnv fd.scope fd.globals fd.closure binds (fd.qualname ++ ".<locals>.") (some a) fd.code none fd.builtins)
        (fun env s₂ => s₂.heap.NoLimit ∧ codeC (model prog w) A (.func body env) R s₂) (fun e s' => R (.error e) s') s₁) (fun e s' => R (.error e) s') s) :
    codeC (model prog w) A (.call (.ref a) args) R s := by
  refine codeC_of_tree rfl ?_
  show wpC _ A.in1 (callAny (.ref a) args) _ _ s
  simp only [callAny]
  refine wpC_seq (wpAny_load ho ?_)
  obtain ⟨c, oc, vs, tq, hc, hoc, hdc, hq⟩ := hcd
  simp only [hd', callFunction, hco, hgen, hbody, hc]
  rw [hc] at h
  refine wpC_seq (m := field (.ref c) 1) (wpAny_field hoc hdc hq (wpC_seq (wpAny_pure ?_)))
  exact wpC_seq (wpAny_mono h (fun binds s₁ h₁ => wpC_seq (wpAny_mono h₁ (fun env s₂ h₂ => wpC_seq (wpAny_enterFrame h₂.1 hroom
    (wpC_pure (And.intro rfl h₂.2)))) fun _ _ h' => h')) fun _ _ h' => h')

theorem callWithC {E : Value → Shared → Prop} {pos : Pos} {a : Addr} {o : Obj} {fd : FuncData} {first : List Value} {args : List (Bool × Sem Value)} {Q : Value → Shared → Prop} {M : Model}
    (h : wpAny M A (evalArgs (.ref a) true args []) (fun x s₁ => (s₁.heap.get? a = some o ∧ o.data = .func fd) ∧ wpC M A (call (.ref a) (first ++ x.pos) x.kw) Q E s₁) E s) :
    wpC M A (callWith pos (.ref a) first args []) Q E s := by
  unfold callWith
  refine wpC_seq (wpAny_holding (wpAny_mono h (fun x s₁ h₁ => wpC_seq (wpAny_standAt ?_)) fun _ _ x => x))
  have tail : ∀ {t : Sem Value}, wpC M A t Q E s₁ → wpC M A (t >>= fun r => holding [r] point >>= fun _ => pure r) Q E s₁ :=
    fun ht => wpC_bind (wpC_mono ht (fun r s₂ hr => wpC_seq (wpAny_holding (wpAny_point (wpC_pure hr)))) fun _ _ x => x)
  cases hs : args.any (·.1) <;> simp only [List.any_nil, Bool.or_false] <;>
    refine wpC_seq (m := keeperOf (.ref a)) ?_ <;> unfold keeperOf <;>
    refine wpAny_bind (wpAny_load h₁.1.1 ?_) <;> rw [h₁.1.2] <;> refine wpAny_pure ?_
  · dsimp only
    split
    · exact tail h₁.2
    · exact tail (show wpC M A ((call (.ref a) (first ++ x.pos) x.kw).keep _) Q E s₁ from wpC_keep h₁.2)
  · dsimp only
    exact tail (show wpC M A ((call (.ref a) (first ++ x.pos) x.kw).keep _) Q E s₁ from wpC_keep h₁.2)
end
end Mine
end

section
open PySem PyProof.Rows
open Sem (wp)
set_option autoImplicit false
set_option maxRecDepth 100000
namespace Mine

/-! what the interpreter finds of bytearray -/
theorem ba_mro : mroOf (.type "bytearray") = pure [.type "bytearray", .type "object"] := by rw [mroOf_type]; kernel_rfl
theorem ba_lookup_new : typeLookup (.type "bytearray") "__new__" = pure (some (.builtin "bytearray.__new__")) := by rw [typeLookup_type, builtinLookup_eq_fast]; kernel_rfl
theorem ba_slot_init : Slot "bytearray" "__init__" "bytearray.__init__" :=
  .of (owner := "bytearray") (n := "__init__") (by rw [typeLookup_type, builtinLookup_eq_fast]; kernel_rfl) (by decide +kernel) (by decide +kernel) (by decide +kernel) (by decide +kernel) (by rw [isSubtype_type]; kernel_rfl)
theorem ba_slot_getitem : Slot "bytearray" "__getitem__" "bytearray.__getitem__" :=
  .of (owner := "bytearray") (n := "__getitem__") (by rw [typeLookup_type, builtinLookup_eq_fast]; kernel_rfl) (by decide +kernel) (by decide +kernel) (by decide +kernel) (by decide +kernel) (by rw [isSubtype_type]; kernel_rfl)
theorem ba_slot_setitem : Slot "bytearray" "__setitem__" "bytearray.__setitem__" :=
  .of (owner := "bytearray") (n := "__setitem__") (by rw [typeLookup_type, builtinLookup_eq_fast]; kernel_rfl) (by decide +kernel) (by decide +kernel) (by decide +kernel) (by decide +kernel) (by rw [isSubtype_type]; kernel_rfl)
theorem ba_slot_iter : Slot "bytearray" "__iter__" "bytearray.__iter__" :=
  .of (owner := "bytearray") (n := "__iter__") (by rw [typeLookup_type, builtinLookup_eq_fast]; kernel_rfl) (by decide +kernel) (by decide +kernel) (by decide +kernel) (by decide +kernel) (by rw [isSubtype_type]; kernel_rfl)
theorem ba_called : TypeCalled "bytearray" "bytearray.__new__" "bytearray.__init__" :=
  ⟨by decide +kernel, by decide +kernel, ⟨_, _, ba_mro⟩, madeBy_type ba_mro ba_lookup_new (by decide +kernel), by decide +kernel, by rw [isSubtype_type]; kernel_rfl, ba_slot_init⟩
theorem ba_typeCall (a : Value) : checkTypeCall "bytearray" ⟨[a], []⟩ = pure () := by kernel_rfl
theorem ba_newCall (a : Value) : checkBuiltinCall "bytearray.__new__" ⟨[.type "bytearray", a], []⟩ = pure () := by kernel_rfl
theorem ba_entry_new : entryFor table "bytearray.__new__" = some Builtin.«list.__new__» :=
  entryFor_alias (id' := "list.__new__") (by kernel_rfl) (by first | rfl | decide +kernel | (unfold String.splitOn; simp +decide [String.splitOnAux])) (by decide +kernel) (by kernel_rfl)
theorem ba_entry_init : entryFor table "bytearray.__init__" = some Builtin.«bytearray.__init__» := entryFor_of_tree (by kernel_rfl)
theorem ba_entry_getitem : entryFor table "bytearray.__getitem__" = some Builtin.«bytearray.__getitem__» := entryFor_of_tree (by kernel_rfl)
theorem ba_entry_setitem : entryFor table "bytearray.__setitem__" = some Builtin.«bytearray.__setitem__» := entryFor_of_tree (by kernel_rfl)
theorem ba_entry_iter : entryFor table "bytearray.__iter__" = some Builtin.«bytearray.__iter__» := entryFor_of_tree (by kernel_rfl)
theorem ba_plain_new : plainId "bytearray.__new__" = true := by decide +kernel
set_option maxRecDepth 1000000 in
set_option maxHeartbeats 4000000 in
theorem ba_owner_new : ("bytearray.__new__".splitOn ".__new__").headD "" = "bytearray" := by simp +decide [String.splitOn, String.splitOnAux]
theorem ba_args_init (a b : Value) : argsOk "bytearray.__init__" ⟨[a, b], []⟩ := by
  unfold argsOk; kernel_rfl
theorem ba_args_getitem (a b : Value) : argsOk "bytearray.__getitem__" ⟨[a, b], []⟩ := by
  unfold argsOk; kernel_rfl
theorem ba_args_setitem (a b c : Value) : argsOk "bytearray.__setitem__" ⟨[a, b, c], []⟩ := by
  unfold argsOk; kernel_rfl
theorem ba_args_iter (a : Value) : argsOk "bytearray.__iter__" ⟨[a], []⟩ := by
  unfold argsOk; kernel_rfl

section
variable {prog : Program} {w : World} {A : Around} {E : Value → Shared → Prop} {s : Shared}

theorem ba_new (a : Value) {Q₁ : Value → Shared → Prop}
    (h : Q₁ (.ref s.heap.objs.size) { s with heap := s.heap.push { cls := .type "bytearray", data := .bytearray #[] } }) :
    codeAny (model prog w) A (.call (.builtin "bytearray.__new__") ⟨[.type "bytearray", a], []⟩) (wants Q₁ E) s := by
  refine codeAny_of_tree ?_
  show wpAny _ A.in1 (do checkBuiltinCall "bytearray.__new__" ⟨[.type "bytearray", a], []⟩; again (.builtin "bytearray.__new__" ⟨[.type "bytearray", a], []⟩)) _ _ s
  refine wpAny_bind (wpAny_of_eq (ba_newCall a) (wpAny_pure ⟨plainId_quiet ba_plain_new _, codeAny_builtin_stack ba_entry_new rfl fun p st => ?_⟩))
  rw [Around.under_plainId ba_plain_new _]
  have hsub := F.sub_bytearray_bytearray
  have hown := ba_owner_new
  obtain ⟨hp, g, d, tk, os⟩ := s
  simp only [hown]
  wp_walk
  exact h
end
end Mine
end

section
open PySem PyProof.Rows
open Sem (wp)
open AutoSeq1 (wpAny_loadPart')
set_option autoImplicit false
set_option maxRecDepth 100000
namespace Mine

theorem fits_ok {i : Int} (hlo : -2 ^ 63 ≤ i) (hhi : i < 2 ^ 63) : decide ((!Builtin.Bytes.fitsIndex i) = true) = false := by
  simp [Builtin.Bytes.fitsIndex]; omega

theorem ba_write {M : Model} {A : Around} {E : Value → Shared → Prop} {s : Shared} {l : Addr} {b : Array UInt8} {e : Nat} {f : Array UInt8 → Array UInt8} {Q : Unit → Shared → Prop} (hl : s.heap.get? l = some { cls := .type "bytearray", data := .bytearray b e })
    (hsz : (f b).size ≤ 100000) (h : Q () { s with heap := s.heap.update l (Obj.mapBytearray f) }) : wpAny M A (Builtin.Bytes.write (.ref l) f) Q E s := by
  show wpAny M A (updateBytearray l f) Q E s
  unfold updateBytearray
  refine wpAny_bind (wpAny_load hl ?_)
  refine wpAny_bind (wpAny_update hl ?_)
  refine wpAny_lookBehind (o := Obj.mapBytearray f { cls := .type "bytearray", data := .bytearray b e }) (Heap.get?_update_self _ hl rfl) ?_ h
  have hs : sizeLine = 2 ^ 24 := rfl
  show (if (f b).size > sizeLine then some "bytearray:memory" else none) = none
  exact if_neg (by rw [hs]; omega)

theorem ba_getitem_meets (l : Addr) (b : Array UInt8) (e : Nat) (i : Int) (u : Tok) (k : Nat) (y : UInt8) (hlo : -2 ^ 63 ≤ i) (hhi : i < 2 ^ 63) (hk : seqIndex? i b.size = some k) (hy : b[k]? = some y) :
    Meets (Builtin.«bytearray.__getitem__» ⟨[.ref l, .int i u], []⟩)
      (fun _ R s => s.heap.get? l = some { cls := .type "bytearray", data := .bytearray b e } ∧ R (.ok (.ret (.int (y.toNat : Int) s.toks))) { s with toks := s.toks + 1 }) :=
  .of_wp fun prog w A R s h => by
    obtain ⟨hp, g, d, tk, os⟩ := s; obtain ⟨hl, h⟩ := h
    have f1 := AutoSeq1.idx_int
    wp_walk using wpAny_loadPart' hl
    refine wpAny_ite_false (fits_ok hlo hhi) ?_
    wp_walk using wpAny_loadPart' hl
    simp only [hk, hy, Option.bind_some]
    wp_walk
    exact ⟨_, rfl, h⟩

section
variable {prog : Program} {w : World} {A : Around} {E : Value → Shared → Prop} {s : Shared}
theorem ba_getItem {l : Addr} {b : Array UInt8} {e : Nat} {i : Int} {u : Tok} {k : Nat} {y : UInt8} {Q : Value → Shared → Prop} (hl : s.heap.get? l = some { cls := .type "bytearray", data := .bytearray b e })
    (hlo : -2 ^ 63 ≤ i) (hhi : i < 2 ^ 63) (hk : seqIndex? i b.size = some k) (hy : b[k]? = some y) (h : Q (.int (y.toNat : Int) s.toks) { s with toks := s.toks + 1 }) :
    wpAny (model prog w) A (getItem (.ref l) (.int i u)) Q E s :=
  getItem_meets ⟨_, hl, rfl⟩ (by decide) ba_slot_getitem ba_entry_getitem (ba_args_getitem _ _) (ba_getitem_meets l b e i u k y hlo hhi hk hy) ⟨hl, h⟩
end

theorem ba_setitem_meets (l : Addr) (b : Array UInt8) (e : Nat) (i x : Int) (u t : Tok) (k : Nat) (hlo : -2 ^ 63 ≤ i) (hhi : i < 2 ^ 63) (hk : seqIndex? i b.size = some k) (h0 : 0 ≤ x) (h1 : x < 256) (hb : b.size ≤ 100000) :
    Meets (Builtin.«bytearray.__setitem__» ⟨[.ref l, .int i u, .int x t], []⟩)
      (fun _ R s => s.heap.get? l = some { cls := .type "bytearray", data := .bytearray b e } ∧ R (.ok (.ret .none)) { s with heap := s.heap.update l (Obj.mapBytearray fun b => b.setIfInBounds k x.toNat.toUInt8) }) :=
  .of_wp fun prog w A R s h => by
    obtain ⟨hp, g, d, tk, os⟩ := s; obtain ⟨hl, h⟩ := h
    have f1 := AutoSeq1.idx_int
    have hx : (decide (x < 0) || decide (x ≥ 256)) = false := by simp; omega
    wp_walk using wpAny_loadPart' hl
    refine wpAny_ite_false (fits_ok hlo hhi) ?_
    wp_walk using wpAny_loadPart' hl
    rw [hk]
    refine wpAny_bind (ba_write hl (by rw [Array.size_setIfInBounds]; exact hb) ?_)
    wp_walk
    exact ⟨_, rfl, h⟩

section
variable {prog : Program} {w : World} {A : Around} {E : Value → Shared → Prop} {s : Shared}
theorem ba_setItem {l : Addr} {b : Array UInt8} {e : Nat} {i x : Int} {u t : Tok} {k : Nat} {Q : Unit → Shared → Prop} (hl : s.heap.get? l = some { cls := .type "bytearray", data := .bytearray b e })
    (hlo : -2 ^ 63 ≤ i) (hhi : i < 2 ^ 63) (hk : seqIndex? i b.size = some k) (h0 : 0 ≤ x) (h1 : x < 256) (hb : b.size ≤ 100000)
    (h : Q () { s with heap := s.heap.update l (Obj.mapBytearray fun b => b.setIfInBounds k x.toNat.toUInt8) }) :
    wpAny (model prog w) A (setItem (.ref l) (.int i u) (.int x t)) Q E s := by
  have hT : s.TypeIs (.ref l) "bytearray" := ⟨_, hl, rfl⟩
  unfold setItem
  refine wpAny_holding ?_
  refine wpAny_bind (wpAny_sequenceKey hT (by decide) ?_)
  refine wpAny_bind (wpAny_callSpecial?_slot (name := Str.ofString "__setitem__") hT ba_slot_setitem
    (call_meets ba_slot_setitem hT ba_entry_setitem (ba_args_setitem _ _ _) (ba_setitem_meets l b e i x u t k hlo hhi hk h0 h1 hb) ⟨hl, ?_⟩))
  exact wpAny_pure h
end
end Mine
end

section
open PySem PyProof.Rows
open Sem (wp)
open AutoSeq1 (wpAny_loadPart')
set_option autoImplicit false
set_option maxRecDepth 100000
namespace Mine

theorem exported_no {M : Model} {A : Around} {E : Value → Shared → Prop} {s : Shared} {self : Value} {Q : Bool → Shared → Prop} (h : Q false s) : wpC M A (Builtin.Bytes.exported self) Q E s := by
  intro Γ p hΓ hc
  unfold Builtin.Bytes.exported
  rw [Sem.wp_bind']
  show Sem.wp M Γ (.stack .pure) _ _ p s
  rw [Sem.wp_stack, Sem.wp_pure]
  show Q (List.any ((Γ.code, p) :: Γ.below) _) s
  rw [List.any_eq_false.mpr]
  · exact h
  · intro x hx
    have hok : okc x.1 = true := by
      rcases List.mem_cons.mp hx with rfl | hx
      · exact hc.1
      · exact hc.2 x hx
    obtain ⟨c, q⟩ := x
    simp only at hok
    unfold okc at hok
    split at hok
    · simp only [Bool.not_eq_true', Bool.or_eq_false_iff] at hok
      obtain ⟨h1, h2⟩ := hok
      simp only [List.contains_cons, List.contains_nil, Bool.or_false, Bool.or_eq_false_iff, beq_eq_false_iff_ne, ne_eq] at h2
      split <;> simp_all
    · split <;> simp_all

theorem ba_release : Slot "bytearray" "__release_buffer__" "bytearray.__release_buffer__" :=
  .of (owner := "bytearray") (n := "__release_buffer__") (by rw [typeLookup_type, builtinLookup_eq_fast]; kernel_rfl) (by decide +kernel) (by decide +kernel) (by decide +kernel) (by decide +kernel) (by rw [isSubtype_type]; kernel_rfl)
end Mine
end

section
open PySem PyProof.Rows
open Sem (wp)
open AutoSeq1 (wpAny_loadPart')
set_option autoImplicit false
set_option maxRecDepth 100000
namespace Mine

theorem ba_look_release : typeLookup (.type "bytearray") "__release_buffer__" = pure (some (.builtin "bytearray.__release_buffer__")) := ba_release.lookup
theorem no_index_tuple : typeLookup (.type "tuple") "__index__" = pure none := by rw [typeLookup_type, builtinLookup_eq_fast]; kernel_rfl
theorem no_buffer_tuple : typeLookup (.type "tuple") "__buffer__" = pure none := by rw [typeLookup_type, builtinLookup_eq_fast]; kernel_rfl

section
variable {prog : Program} {w : World} {A : Around} {E : Value → Shared → Prop} {s : Shared}

theorem ba_ownRelease {l : Addr} {b : Array UInt8} {e : Nat} {Q : Bool → Shared → Prop} (hl : s.heap.get? l = some { cls := .type "bytearray", data := .bytearray b e }) (h : Q false s) : wpAny (model prog w) A (Builtin.Bytes.ownRelease (.ref l)) Q E s := by
  have hT : s.TypeIs (.ref l) "bytearray" := ⟨_, hl, rfl⟩
  unfold Builtin.Bytes.ownRelease Builtin.Bytes.slotIsOwn
  refine wpAny_bind (wpAny_bind (wpAny_specialOf hT ba_look_release ?_))
  show wpAny _ _ (if (!("bytearray.__release_buffer__".endsWith ("." ++ "__release_buffer__"))) = true then pure false else isInstance (.ref l) (.type ("bytearray.__release_buffer__".dropRight ("__release_buffer__".length + 1)))) _ _ _
  rw [if_neg (by decide +kernel)]
  have e1 : ("bytearray.__release_buffer__".dropRight ("__release_buffer__".length + 1)) = "bytearray" := by decide +kernel
  rw [e1]
  exact wpAny_isInstance hT F.sub_bytearray_bytearray (wpAny_pure h)

/-- the ints as bytes -/
noncomputable def toBytes (ns : List Int) : Array UInt8 := (ns.map fun i => i.toNat.toUInt8).toArray
theorem tw_all {α : Type} {p : α → Bool} : ∀ {l : List α}, (∀ x ∈ l, p x = true) → l.takeWhile p = l
  | [], _ => rfl
  | x :: l, h => by rw [List.takeWhile_cons, if_pos (h x (List.mem_cons_self ..)), tw_all fun y hy => h y (List.mem_cons_of_mem _ hy)]
theorem fm_ints {f : Value → Option UInt8} (hf : ∀ n t, f (.int n t) = some n.toNat.toUInt8) : ∀ {vs : List Value} {ns : List Int}, IntsAre vs ns → vs.filterMap f = ns.map fun i => i.toNat.toUInt8
  | _, _, .nil => rfl
  | _, _, .cons n t h => by rw [List.filterMap_cons, hf]; simp only; rw [fm_ints hf h]; rfl
theorem mem_ints {v : Value} : ∀ {vs : List Value} {ns : List Int}, IntsAre vs ns → v ∈ vs → ∃ n ∈ ns, ∃ t, v = .int n t
  | _, _, .cons n t h, hm => by
    rcases List.mem_cons.mp hm with rfl | hm
    · exact ⟨n, List.mem_cons_self .., t, rfl⟩
    · obtain ⟨m, h1, h2⟩ := mem_ints h hm
      exact ⟨m, List.mem_cons_of_mem _ h1, h2⟩

theorem ba_init {l src : Addr} {T : String} {o : Obj} {items : Array Value} {n : Nat} {Q : Fin → Shared → Prop} (hT : T = "list" ∨ T = "tuple")
    (hl : s.heap.get? l = some { cls := .type "bytearray", data := .bytearray #[] 0 }) (hs : s.heap.get? src = some o) (hc : o.cls = .type T) (hd : o.data = .seq items n)
    {ns : List Int} (hI : IntsAre items.toList ns) (hb : ∀ n ∈ ns, 0 ≤ n ∧ n < 256) (hsz : ns.length ≤ 10000)
    (h : ∀ h', h'.get? l = some { cls := .type "bytearray", data := .bytearray (toBytes ns) 0 } → (∀ b o, b ≠ l → s.heap.get? b = some o → h'.get? b = some o) → Q (.done (.ret .none)) { s with heap := h' }) :
    wpC (model prog w) A (Builtin.«bytearray.__init__» ⟨[.ref l, .ref src], []⟩) Q E s := by
  have hne : l ≠ src := by rintro rfl; rw [hl] at hs; cases hs; cases hd
  have hTs : s.TypeIs (.ref src) T := ⟨o, hs, hc⟩
  unfold Builtin.«bytearray.__init__»
  refine wpC_seq (ba_ownRelease hl ?_)
  simp only [Bool.false_eq_true, if_false]
  refine wpC_seq (m := Builtin.Bytes.bindOptional "bytearray.__init__" "bytearray" ["source", "encoding", "errors"] [.ref src] []) (wpAny_of_eq (a := [some (.ref src), none, none]) rfl ?_)
  dsimp only
  refine wpC_seq (m := Builtin.Bytes.checkCodecArg _ _ _ none) (wpAny_of_eq rfl ?_)
  refine wpC_seq (m := Builtin.Bytes.checkCodecArg _ _ _ none) (wpAny_of_eq rfl ?_)
  refine wpC_bind ?_
  unfold orM
  refine wpC_bind (exported_no ?_)
  simp only [toBool, Bool.false_eq_true, if_false]
  refine wpC.of (wpAny_bind (m := Builtin.Bytes.exportsOf (.ref l)) ?_)
  unfold Builtin.Bytes.exportsOf
  refine wpAny_bind (wpAny_load hl (wpAny_pure (wpAny_pure ?_)))
  simp only [Nat.lt_irrefl, decide_false, gt_iff_lt, Bool.false_eq_true, if_false, Option.isSome_none]
  refine wpC_seq (ba_write hl (by simp) ?_)
  refine wpC.of ?_
  have hs' : (s.heap.update l (Obj.mapBytearray fun _ => #[])).get? src = some o := (Heap.get?_update_other s.heap _ hne).trans hs
  have hl' : (s.heap.update l (Obj.mapBytearray fun _ => #[])).get? l = some { cls := .type "bytearray", data := .bytearray #[] 0 } := Heap.get?_update_self _ hl rfl
  generalize hh : s.heap.update l (Obj.mapBytearray fun _ => #[]) = h1 at hs' hl' ⊢
  have hkeep : ∀ b o, b ≠ l → s.heap.get? b = some o → h1.get? b = some o := fun b o hb e => by rw [← hh]; exact (Heap.get?_update_other s.heap _ (Ne.symm hb)).trans e
  have hTs' : ({ s with heap := h1 } : Shared).TypeIs (.ref src) T := ⟨o, hs', hc⟩
  have hix : typeLookup (.type T) "__index__" = pure none := by rcases hT with rfl | rfl; exact F.bm_no_index; exact no_index_tuple
  have hbf : typeLookup (.type T) "__buffer__" = pure none := by rcases hT with rfl | rfl; exact F.bm_no_buffer; exact no_buffer_tuple
  have htt : ((Value.type T == Value.type "list") || (Value.type T == Value.type "tuple")) = true := by rcases hT with rfl | rfl <;> decide
  refine wpAny_bind (m := asStr? (.ref src)) ?_
  unfold asStr?
  refine wpAny_bind (wpAny_load hs' ?_)
  rw [hd]
  refine wpAny_pure ?_
  simp only [Option.isSome_none, Bool.false_eq_true, if_false]
  refine wpAny_bind (wpAny_pure ?_)
  refine wpAny_bind (wpAny_specialOf hTs' hix ?_)
  simp only [Option.isSome_none, Bool.false_eq_true, if_false]
  refine wpAny_bind (m := Builtin.Bytes.buffer? _ _ _) ?_
  unfold Builtin.Bytes.buffer?
  refine wpAny_bind (wpAny_specialOf hTs' hbf ?_)
  refine wpAny_bind (wpAny_specialOf hTs' hbf (wpAny_pure ?_))
  refine wpAny_bind (wpAny_typeOf hTs' ?_)
  rw [if_pos htt]
  refine wpAny_bind (wpAny_seqItems hs' hd ?_)
  have hlen := hI.length
  dsimp only
  rw [tw_all (l := items.toList) (fun x hx => by
    obtain ⟨m, hm, t, rfl⟩ := mem_ints hI hx
    simp [hb m hm]), fm_ints (fun _ _ => rfl) hI]
  have hnone : items[items.toList.length]? = none := by simp
  rw [hnone]
  dsimp only
  refine wpAny_bind (wpAny_rule ?_)
  refine wpAny_bind (ba_write hl' (by simp; omega) ?_)
  refine wpAny_pure ?_
  refine h _ (Heap.get?_update_self _ hl' rfl) fun b o hbn e => ?_
  exact (Heap.get?_update_other _ _ (Ne.symm hbn)).trans (hkeep b o hbn e)

theorem ba_init_ok : okc (.builtin "bytearray.__init__" ⟨[], []⟩) = true := by decide +kernel
theorem codeC_builtin {R : Result → Shared → Prop} {id : String} {args : Args} {b : Builtin} (hb : entryFor table id = some b) (hok : okc (.builtin id ⟨[], []⟩) = true)
    (h : wpC (model prog w) (A.under (.builtin id args)) (b args)
      (fun fin s' => match fin with | .done f => R (.ok f) s' | .again c' => c'.quiet = true ∧ codeC (model prog w) A c' R s') (fun e s' => R (.error e) s') s) :
    codeC (model prog w) A (.builtin id args) R s := by
  refine codeC_of_tree hok ?_
  show wpC _ _ (match entryFor table id with | some b => b args | none => unsupported ((withoutEnding? id "#data").getD id)) _ _ s
  rw [hb]; exact h
theorem codeC_call_builtin {R : Result → Shared → Prop} {id : String} {args : Args} {b : Builtin} (hq : plainId id = true) (hb : entryFor table id = some b) (hok : okc (.builtin id ⟨[], []⟩) = true)
    (h : wpAny (model prog w) A.in1 (checkBuiltinCall id args) (fun _ s₁ => wpC (model prog w) A.in1 (b args)
      (fun fin s' => match fin with | .done f => R (.ok f) s' | .again c' => c'.quiet = true ∧ codeC (model prog w) A c' R s') (fun e s' => R (.error e) s') s₁)
      (fun e s' => R (.error e) s') s) : codeC (model prog w) A (.call (.builtin id) args) R s := by
  refine codeC_of_tree rfl ?_
  show wpC _ A.in1 (do checkBuiltinCall id args; again (.builtin id args)) _ _ s
  refine wpC_seq (wpAny_mono h (fun _ s₁ h₁ => wpC_pure ⟨plainId_quiet hq args, codeC_builtin hb hok ?_⟩) fun _ _ x => x)
  rw [Around.under_plainId hq args]; exact h₁

/-- a call of a type whose __init__ wants a clean stack -/
theorem callTypeC {T newId initId : String} {Bi : Builtin} {args : List Value} {Q Q₁ : Value → Shared → Prop} (ft : TypeCalled T newId initId)
    (hct : checkTypeCall T ⟨args, []⟩ = pure ()) (entryI : entryFor table initId = some Bi) (hoki : okc (.builtin initId ⟨[], []⟩) = true)
    (hnew : codeAny (model prog w) A.in1 (.call (.builtin newId) ⟨.type T :: args, []⟩) (wants Q₁ E) s)
    (hnext : ∀ obj s₁, Q₁ obj s₁ → s₁.TypeIs obj T ∧ argsOk initId ⟨obj :: args, []⟩ ∧
      wpC (model prog w) A.in1.in1 (Bi ⟨obj :: args, []⟩) (fun fin s' => fin = .done (.ret .none) ∧ Q obj s') E s₁) :
    wpC (model prog w) A (call (.type T) args) Q E s := by
  obtain ⟨c, tl, hmro⟩ := ft.mro
  refine wpC_call (codeC_of_tree rfl ?_)
  show wpC _ _ (callAny (.type T) ⟨args, []⟩) _ _ _
  refine wpC_pure ⟨Code.quiet_builtin _ (by decide +kernel), codeC_builtin F.entry_type_call (by decide +kernel) ?_⟩
  rw [Around.under_plain (weight_type_call_type T args []) rfl]
  unfold Builtin.«type.__call__»
  dsimp only
  rw [if_neg (by rw [ft.notType]; exact Bool.false_ne_true)]
  rw [if_neg (by rw [ft.canCreate]; exact Bool.false_ne_true)]
  refine wpC_seq (wpAny_of_eq hct ?_)
  refine wpC_seq (wpAny_of_eq hmro ?_)
  rw [if_neg (by simp)]
  refine wpC_seq (wpAny_of_eq ft.made ?_)
  dsimp only
  refine wpC_seq (wpAny_pure ?_)
  refine wpC_seq (wpAny_holding (wpAny_call (codeAny_mono hnew fun r s₁ hr => ?_)))
  cases r with
  | error e => exact hr
  | ok fl =>
    cases fl with
    | ret obj =>
      obtain ⟨hT, hok, hsi⟩ := hnext _ _ hr
      show wpC _ _ _ _ _ _
      refine wpC_seq (wpAny_isInstance hT ft.sub ?_)
      rw [if_neg (by simp)]
      refine wpC_bind (wpC_holding (m := callSpecial? obj "__init__" args) ?_)
      unfold callSpecial?
      refine wpC_seq (wpAny_specialOf hT ft.init.lookup ?_)
      dsimp only
      refine wpC_holding ?_
      rw [ft.init.bind obj]
      refine wpC_seq (wpAny_pure ?_)
      dsimp only
      refine wpC_bind (wpC_call (codeC_mono (R := fun r s' => match r with | .ok (.ret v) => v = .none ∧ Q obj s' | .ok _ => False | .error e => E e s') (codeC_call_builtin ft.init.plain entryI hoki ?_) fun r₂ s₂ hr₂ => ?_))
      · refine ft.init.check _ _ _ _ _ _ _ _ hT hok (wpC_mono hsi (fun fin s' h' => ?_) fun _ _ h' => h')
        obtain ⟨rfl, hq⟩ := h'
        exact ⟨rfl, hq⟩
      · cases r₂ with
        | error e => exact hr₂
        | ok fl₂ =>
          cases fl₂ with
          | ret r =>
            obtain ⟨rfl, hq⟩ := hr₂
            refine wpC_pure ?_
            show wpC _ _ (if ((Value.none != Value.none) = true) then _ else ret obj) _ _ _
            rw [if_neg (by decide)]
            exact wpC_pure hq
          | _ => exact hr₂.elim
    | _ => exact hr.elim

/-- bytearray of a list or tuple of small ints -/
theorem ba_call {src : Addr} {T : String} {o : Obj} {items : Array Value} {n : Nat} {Q : Value → Shared → Prop} (hT : T = "list" ∨ T = "tuple")
    (hs : s.heap.get? src = some o) (hc : o.cls = .type T) (hd : o.data = .seq items n)
    {ns : List Int} (hI : IntsAre items.toList ns) (hb : ∀ n ∈ ns, 0 ≤ n ∧ n < 256) (hsz : ns.length ≤ 10000)
    (h : ∀ h', h'.get? s.heap.objs.size = some { cls := .type "bytearray", data := .bytearray (toBytes ns) 0 } → (∀ b o, s.heap.get? b = some o → h'.get? b = some o) → Q (.ref s.heap.objs.size) { s with heap := h' }) :
    wpC (model prog w) A (call (.type "bytearray") [.ref src]) Q E s := by
  refine callTypeC ba_called (ba_typeCall _) ba_entry_init ba_init_ok
    (Q₁ := fun obj s₁ => obj = .ref s.heap.objs.size ∧ s₁ = { s with heap := s.heap.push { cls := .type "bytearray", data := .bytearray #[] } }) (ba_new _ ⟨rfl, rfl⟩) fun obj s₁ h₁ => ?_
  obtain ⟨rfl, rfl⟩ := h₁
  have hl : (s.heap.push { cls := .type "bytearray", data := .bytearray #[] }).get? s.heap.objs.size = some { cls := .type "bytearray", data := .bytearray #[] 0 } := Heap.get?_push_size _ rfl
  refine ⟨⟨_, hl, rfl⟩, ba_args_init _ _, ba_init hT hl (Heap.get?_push_of_some _ hs) hc hd hI hb hsz fun h' hl' hk => ⟨rfl, ?_⟩⟩
  exact h h' hl' fun b o e => hk b o (Nat.ne_of_lt (Heap.lt_size e)) (Heap.get?_push_of_some _ e)
end
end Mine
end

section
open PySem PyProof.Rows
open Sem (wp)
set_option autoImplicit false
set_option maxRecDepth 100000
namespace Mine

theorem no_int_tuple : typeLookup (.type "tuple") "__int__" = pure none := by rw [typeLookup_type, builtinLookup_eq_fast]; kernel_rfl
theorem no_float_tuple : typeLookup (.type "tuple") "__float__" = pure none := by rw [typeLookup_type, builtinLookup_eq_fast]; kernel_rfl
theorem ba_setitem_ok : okc (.builtin "bytearray.__setitem__" ⟨[], []⟩) = true := by decide +kernel

section
variable {prog : Program} {w : World} {A : Around} {E : Value → Shared → Prop} {s : Shared}

theorem part_int {M : Model} {i : Int} {t : Tok} {Q : Value → Shared → Prop} (h : Q (rawInt i) s) : wpAny M A (do
    if Value.int i t == .none then return .none
    if (← specialOf (.int i t) "__index__").isNone then
      rule "bytes.slice.part-no-index"; raiseError "TypeError" "slice indices must be integers or None or have an __index__ method"
    return rawInt (← asIndex (.int i t)) : Sem Value) Q E s := by
  show wpAny M A (do
    if (← specialOf (.int i t) "__index__").isNone then
      rule "bytes.slice.part-no-index"; raiseError "TypeError" "slice indices must be integers or None or have an __index__ method"
    return rawInt (← asIndex (.int i t)) : Sem Value) Q E s
  refine wpAny_bind (wpAny_specialOf (name := Str.ofString "__index__") (typeIs_int s i t) F.slot_int_index.lookup ?_)
  exact wpAny_pure h

theorem sliceParts_two {sl : Addr} {a b : Int} {t u : Tok} {Q : Value × Value × Value → Shared → Prop} {M : Model} (hs : s.heap.IsSliceOf sl (.int a t) (.int b u) .none) (h : Q (rawInt a, rawInt b, .none) s) : wpAny M A (Builtin.Bytes.sliceParts (.ref sl)) Q E s := by
  obtain ⟨o, ho, hc, hd⟩ := hs
  unfold Builtin.Bytes.sliceParts
  refine wpAny_bind (wpAny_field (x := .none) ho hd rfl ?_)
  refine wpAny_bind (wpAny_pure ?_)
  show wpAny _ _ (field (.ref sl) 0 >>= _) _ _ s
  refine wpAny_bind (wpAny_field (x := .int a t) ho hd rfl ?_)
  refine wpAny_bind (part_int ?_)
  refine wpAny_bind (wpAny_field (x := .int b u) ho hd rfl ?_)
  refine wpAny_bind (part_int ?_)
  exact wpAny_pure h

theorem sliceInd_two {a b : Int} {n : Nat} {Q : Int × Int × Int → Shared → Prop} {M : Model} (h0 : 0 ≤ a) (h1 : a ≤ b) (h2 : b ≤ n) (h : Q (a, b, 1) s) : wpAny M A (sliceIndices (rawInt a) (rawInt b) .none n) Q E s := by
  unfold sliceIndices
  refine wpAny_bind (wpAny_pure ?_)
  show wpAny _ _ ((do
    if rawInt a == .none then return _
    let i ← asIndex (rawInt a)
    let i := if i < 0 then i + (n : Int) else i
    if (1 : Int) > 0 then return max 0 (min i (n : Int)) else return max (-1) (min i ((n : Int) - 1)) : Sem Int) >>= _) _ _ s
  refine wpAny_bind (wpAny_pure ?_)
  show wpAny _ _ ((do
    if rawInt b == .none then return _
    let i ← asIndex (rawInt b)
    let i := if i < 0 then i + (n : Int) else i
    if (1 : Int) > 0 then return max 0 (min i (n : Int)) else return max (-1) (min i ((n : Int) - 1)) : Sem Int) >>= _) _ _ s
  refine wpAny_bind (wpAny_pure ?_)
  refine wpAny_pure ?_
  have e1 : max 0 (min (if a < 0 then a + (n : Int) else a) (n : Int)) = a := by rw [if_neg (by omega)]; omega
  have e2 : max 0 (min (if b < 0 then b + (n : Int) else b) (n : Int)) = b := by rw [if_neg (by omega)]; omega
  show Q (max 0 (min (if a < 0 then a + (n : Int) else a) (n : Int)), max 0 (min (if b < 0 then b + (n : Int) else b) (n : Int)), 1) s
  rw [e1, e2]; exact h

theorem payload_ba {M : Model} {l : Addr} {b : Array UInt8} {e : Nat} {Q : Array UInt8 → Shared → Prop} (hl : s.heap.get? l = some { cls := .type "bytearray", data := .bytearray b e }) (h : Q b s) : wpAny M A (Builtin.Bytes.payload (.ref l)) Q E s := by
  unfold Builtin.Bytes.payload Builtin.Bytes.payload?
  refine wpAny_bind (wpAny_bind (wpAny_load hl (wpAny_pure ?_)))
  exact wpAny_pure h

theorem ba_setSlice {l sl t : Addr} {b : Array UInt8} {lo hi : Int} {u u' : Tok} {o : Obj} {items : Array Value} {n : Nat} {Q : Fin → Shared → Prop}
    (hl : s.heap.get? l = some { cls := .type "bytearray", data := .bytearray b 0 }) (hsl : s.heap.IsSliceOf sl (.int lo u) (.int hi u') .none) (ht : s.heap.get? t = some o) (hc : o.cls = .type "tuple") (hd : o.data = .seq items n)
    {ns : List Int} (hI : IntsAre items.toList ns) (hb : ∀ n ∈ ns, 0 ≤ n ∧ n < 256) (h0 : 0 ≤ lo) (h1 : lo ≤ hi) (h2 : hi ≤ b.size) (hlen : (ns.length : Int) = hi - lo) (hbs : b.size ≤ 10000)
    (h : ∀ h', h'.get? l = some { cls := .type "bytearray", data := .bytearray (b.extract 0 lo.toNat ++ toBytes ns ++ b.extract hi.toNat b.size) 0 } → (∀ x o, x ≠ l → s.heap.get? x = some o → h'.get? x = some o) → Q (.done (.ret .none)) { s with heap := h' }) :
    wpC (model prog w) A (Builtin.«bytearray.__setitem__» ⟨[.ref l, .ref sl, .ref t], []⟩) Q E s := by
  have hlt : l ≠ t := by rintro rfl; rw [hl] at ht; cases ht; cases hd
  have hTt : s.TypeIs (.ref t) "tuple" := ⟨o, ht, hc⟩
  have hTs : s.TypeIs (.ref sl) "slice" := let ⟨o, ho, hc, _⟩ := hsl; ⟨o, ho, hc⟩
  unfold Builtin.«bytearray.__setitem__»
  refine wpC_seq (m := Builtin.Bytes.subscript? (.ref sl)) (wpAny_bind (wpAny_specialOf hTs slice_no_index (wpAny_pure ?_)))
  dsimp only
  refine wpC_seq (wpAny_typeOf hTs ?_)
  rw [if_neg (by decide)]
  refine wpC_seq (sliceParts_two hsl ?_)
  have hsame : Builtin.Bytes.sameRef (.ref l) (.ref t) = false := by
    show (l == t) = false
    simp [hlt]
  rw [hsame]
  refine wpC_seq (wpAny_isInstance hTt F.sub_tuple_bytearray ?_)
  dsimp only
  rw [if_pos (by rfl)]
  have orF : ∀ {x y : Sem Bool} {s : Shared} {Q : Bool → Shared → Prop}, wpAny (model prog w) A x (fun b s' => b = false ∧ wpAny (model prog w) A y Q E s') E s → wpAny (model prog w) A (x <||> y) Q E s := fun {x y s Q} h => by
    show wpAny _ _ (orM x y) _ _ _
    unfold orM
    refine wpAny_bind (wpAny_mono h (fun b s' h' => ?_) fun _ _ x => x)
    obtain ⟨rfl, h'⟩ := h'
    exact h'
  refine wpC_seq (orF (wpAny_bind (wpAny_specialOf hTt no_index_tuple (wpAny_pure ⟨rfl, ?_⟩))))
  refine orF (wpAny_bind (wpAny_specialOf hTt no_int_tuple (wpAny_pure ⟨rfl, ?_⟩)))
  refine orF (wpAny_bind (wpAny_specialOf hTt no_float_tuple (wpAny_pure ⟨rfl, ?_⟩)))
  refine wpAny_isInstance hTt F.sub_tuple_complex ?_
  refine wpC_seq (m := asStr? (.ref t)) (wpAny_bind (wpAny_load ht ?_))
  rw [hd]
  refine wpAny_pure ?_
  try dsimp only
  rw [if_neg (by decide)]
  refine wpC_seq (wpAny_rule ?_)
  refine wpC_bind (ba_call (.inr rfl) ht hc hd hI hb (by omega) fun h₁ hn₁ hk₁ => ?_)
  have hl₁ := hk₁ _ _ hl
  have hsl₁ : h₁.IsSliceOf sl (.int lo u) (.int hi u') .none := let ⟨o, ho, r⟩ := hsl; ⟨o, hk₁ _ _ ho, r⟩
  refine wpC_seq (wpAny_holding (sliceParts_two hsl₁ ?_))
  refine wpC_seq (payload_ba hn₁ ?_)
  refine wpC_seq (payload_ba hl₁ ?_)
  refine wpC_seq (sliceInd_two h0 h1 h2 ?_)
  dsimp only
  rw [if_pos (by decide)]
  refine wpC_seq (wpAny_rule ?_)
  have hmx : max lo hi = hi := by omega
  have hsz : (toBytes ns).size = ns.length := by simp [toBytes]
  rw [hmx, if_neg (by rw [hsz, hlen]; simp)]
  refine wpC_seq (ba_write hl₁ ?_ ?_)
  · have h3 : (b.extract 0 lo.toNat ++ toBytes ns ++ b.extract hi.toNat b.size).size ≤ b.size + ns.length + b.size := by
      simp only [Array.size_append, Array.size_extract, hsz]; omega
    show (b.extract 0 lo.toNat ++ toBytes ns ++ b.extract hi.toNat b.size).size ≤ _
    omega
  · refine wpC_pure ?_
    refine h _ (Heap.get?_update_self _ hl₁ rfl) fun x o' hx e => ?_
    exact (Heap.get?_update_other _ _ (Ne.symm hx)).trans (hk₁ x o' e)

/-- a[lo:hi] = tuple, a a bytearray -/
theorem ba_setItemS {l sl t : Addr} {b : Array UInt8} {lo hi : Int} {u u' : Tok} {o : Obj} {items : Array Value} {n : Nat} {Q : Unit → Shared → Prop}
    (hl : s.heap.get? l = some { cls := .type "bytearray", data := .bytearray b 0 }) (hsl : s.heap.IsSliceOf sl (.int lo u) (.int hi u') .none) (ht : s.heap.get? t = some o) (hc : o.cls = .type "tuple") (hd : o.data = .seq items n)
    {ns : List Int} (hI : IntsAre items.toList ns) (hb : ∀ n ∈ ns, 0 ≤ n ∧ n < 256) (h0 : 0 ≤ lo) (h1 : lo ≤ hi) (h2 : hi ≤ b.size) (hlen : (ns.length : Int) = hi - lo) (hbs : b.size ≤ 10000)
    (h : ∀ h', h'.get? l = some { cls := .type "bytearray", data := .bytearray (b.extract 0 lo.toNat ++ toBytes ns ++ b.extract hi.toNat b.size) 0 } → (∀ x o, x ≠ l → s.heap.get? x = some o → h'.get? x = some o) → Q () { s with heap := h' }) :
    wpC (model prog w) A (setItem (.ref l) (.ref sl) (.ref t)) Q E s := by
  have hT : s.TypeIs (.ref l) "bytearray" := ⟨_, hl, rfl⟩
  unfold setItem
  refine wpC_holding ?_
  refine wpC_seq (wpAny_sequenceKey hT (by decide) ?_)
  refine wpC_bind ?_
  unfold callSpecial?
  refine wpC_seq (wpAny_specialOf hT ba_slot_setitem.lookup ?_)
  dsimp only
  refine wpC_holding ?_
  rw [ba_slot_setitem.bind (.ref l)]
  refine wpC_seq (wpAny_pure ?_)
  dsimp only
  refine wpC_bind (wpC_call (codeC_mono (R := fun r s' => match r with | .ok (.ret v) => Q () s' | .ok _ => False | .error e => E e s') (codeC_call_builtin ba_slot_setitem.plain ba_entry_setitem ba_setitem_ok ?_) fun r₂ s₂ hr₂ => ?_))
  · refine ba_slot_setitem.check _ _ _ _ _ _ _ _ hT (ba_args_setitem _ _ _) (wpC_mono (E := E) (ba_setSlice (Q := fun fin s' => fin = .done (.ret .none) ∧ Q () s') hl hsl ht hc hd hI hb h0 h1 h2 hlen hbs fun h' a1 a2 => ⟨rfl, h h' a1 a2⟩) (fun fin s' h' => ?_) fun _ _ h' => h')
    obtain ⟨rfl, hq⟩ := h'
    exact hq
  · cases r₂ with
    | error e => exact hr₂
    | ok fl₂ =>
      cases fl₂ with
      | ret r => exact wpC_pure (wpC_pure hr₂)
      | _ => exact hr₂.elim
end
end Mine
end

section
open PySem PyProof.Rows
open Sem (wp)
open AutoSeq1 (wpAny_loadPart')
set_option autoImplicit false
set_option maxRecDepth 100000
namespace Mine

theorem bi_slot_next : Slot "bytearray_iterator" "__next__" "bytearray_iterator.__next__" :=
  .of (owner := "bytearray_iterator") (n := "__next__") (by rw [typeLookup_type, builtinLookup_eq_fast]; kernel_rfl) (by decide +kernel) (by decide +kernel) (by decide +kernel) (by decide +kernel) (by rw [isSubtype_type]; kernel_rfl)
theorem bi_slot_iter : Slot "bytearray_iterator" "__iter__" "bytearray_iterator.__iter__" :=
  .of (owner := "bytearray_iterator") (n := "__iter__") (by rw [typeLookup_type, builtinLookup_eq_fast]; kernel_rfl) (by decide +kernel) (by decide +kernel) (by decide +kernel) (by decide +kernel) (by rw [isSubtype_type]; kernel_rfl)
theorem ba_slot_len : Slot "bytearray" "__len__" "bytearray.__len__" :=
  .of (owner := "bytearray") (n := "__len__") (by rw [typeLookup_type, builtinLookup_eq_fast]; kernel_rfl) (by decide +kernel) (by decide +kernel) (by decide +kernel) (by decide +kernel) (by rw [isSubtype_type]; kernel_rfl)
theorem bi_entry_next : entryFor table "bytearray_iterator.__next__" = some Builtin.«bytearray_iterator.__next__» := entryFor_of_tree (by kernel_rfl)
theorem bi_args_next (a : Value) : argsOk "bytearray_iterator.__next__" ⟨[a], []⟩ := by unfold argsOk; kernel_rfl

noncomputable def IsBaIter (h : Heap) (a t : Addr) (i : Nat) : Prop := ∃ o, h.get? a = some o ∧ o.cls = .type "bytearray_iterator" ∧ o.data = .fields #[.ref t, .int i 0]
noncomputable def IsBa (h : Heap) (a : Addr) (b : Array UInt8) : Prop := h.get? a = some { cls := .type "bytearray", data := .bytearray b 0 }

section
variable {prog : Program} {w : World} {A : Around} {E : Value → Shared → Prop} {s : Shared}

theorem IsBaIter.typeIs {a t : Addr} {i : Nat} (x : IsBaIter s.heap a t i) : s.TypeIs (.ref a) "bytearray_iterator" := let ⟨o, ho, hc, _⟩ := x; ⟨o, ho, hc⟩

theorem pyIter_ba {t : Addr} {b : Array UInt8} {Q : Value → Shared → Prop} (ht : IsBa s.heap t b)
    (hQ : Q (.ref s.heap.objs.size) { s with heap := s.heap.push { cls := .type "bytearray_iterator", data := .fields #[.ref t, .int 0 0] } }) : wpAny (model prog w) A (pyIter (.ref t)) Q E s := by
  have hT : s.TypeIs (.ref t) "bytearray" := ⟨_, ht, rfl⟩
  refine wpAny_pyIter_slot hT ba_slot_iter (wpAny_call_entry ba_slot_iter hT ba_entry_iter ?_ (ba_args_iter _))
  show wpAny _ _ (do ret (← newFields "bytearray_iterator" [.ref t, rawInt 0])) _ _ s
  exact wpAny_bind (wpAny_newObj_type (wpAny_pure ⟨_, rfl, "bytearray_iterator", _, ⟨_, Heap.get?_push_size _ rfl, rfl⟩, bi_slot_next.lookup, hQ⟩))

theorem pyNext_ba_item {it t : Addr} {i : Nat} {b : Array UInt8} {x : UInt8} {Q : Option Value → Shared → Prop} (hit : IsBaIter s.heap it t i) (ht : IsBa s.heap t b) (hx : b[i]? = some x)
    (hQ : ∀ h', IsBaIter h' it t (i + 1) → Heap.SameBut it s.heap h' → Q (some (.int x.toNat s.toks)) { s with heap := h', toks := s.toks + 1 }) : wpAny (model prog w) A (pyNext (.ref it)) Q E s := by
  obtain ⟨o, ho, hc, hd⟩ := id hit
  unfold pyNext
  refine wpAny_bind (wpAny_attempt (wpAny_callSpecial?_slot (name := Str.ofString "__next__") hit.typeIs bi_slot_next
    (wpAny_call_entry bi_slot_next hit.typeIs bi_entry_next ?_ (bi_args_next _))))
  show wpAny _ _ (field (.ref it) 0 >>= _) _ _ s
  refine wpAny_bind (wpAny_field ho hd (x := .ref t) rfl ?_)
  show wpAny _ _ (load t >>= _) _ _ s
  refine wpAny_bind (wpAny_load ht ?_)
  show wpAny _ _ (field (.ref it) 1 >>= _) _ _ s
  refine wpAny_bind (wpAny_field ho hd (x := .int i 0) rfl ?_)
  simp only [Int.toNat_natCast, hx]
  refine wpAny_bind (wpAny_setField ho hd (by simp) ?_)
  show wpAny _ _ (do ret (← mkInt (x.toNat : Int))) _ _ _
  refine wpAny_bind (wpAny_mkInt (wpAny_pure ⟨_, rfl, wpAny_pure (hQ _ ?_ (Heap.SameBut.update ..))⟩))
  exact ⟨_, Heap.get?_update_self _ ho (Obj.isFreed_of_fields (Obj.data_mapFields hd _)), (Obj.cls_mapFields ..).trans hc, by
    rw [Obj.data_mapFields hd]; simp [rawInt]⟩

theorem pyNext_ba_end {it t : Addr} {i : Nat} {b : Array UInt8} {Q : Option Value → Shared → Prop} (hh : A.handled = none) (hit : IsBaIter s.heap it t i) (ht : IsBa s.heap t b) (hx : b[i]? = none)
    (hQ : ∀ h', Heap.ExtBut it s.heap h' → Q none { s with heap := h' }) : wpAny (model prog w) A (pyNext (.ref it)) Q E s := by
  obtain ⟨o, ho, hc, hd⟩ := id hit
  unfold pyNext
  refine wpAny_bind (wpAny_attempt (wpAny_callSpecial?_slot (name := Str.ofString "__next__") hit.typeIs bi_slot_next
    (wpAny_call_entry bi_slot_next hit.typeIs bi_entry_next ?_ (bi_args_next _))))
  show wpAny _ _ (field (.ref it) 0 >>= _) _ _ s
  refine wpAny_bind (wpAny_field ho hd (x := .ref t) rfl ?_)
  show wpAny _ _ (load t >>= _) _ _ s
  refine wpAny_bind (wpAny_load ht ?_)
  show wpAny _ _ (field (.ref it) 1 >>= _) _ _ s
  refine wpAny_bind (wpAny_field ho hd (x := .int i 0) rfl ?_)
  simp only [Int.toNat_natCast, hx]
  refine wpAny_bind (wpAny_rule (wpAny_bind (wpAny_setField ho hd (by simp) ?_)))
  refine wpAny_bind (wpAny_letGo ?_)
  show wpAny _ _ (newExc (.type "StopIteration") [] >>= _) _ _ _
  refine wpAny_bind ?_
  simp only [newExc, newTuple]
  refine wpAny_bind (wpAny_newObj_type ?_ (by size_fits))
  refine wpAny_bind (m := firstArgMember _ _) (wpAny_of_eq (a := Value.none) (by first | rfl | (simp only [firstArgMember]; rfl)) ?_)
  refine wpAny_newObj_type ?_ (by size_fits)
  simp only [raiseNew]
  refine wpAny_bind (wpAny_handled ?_)
  first | rw [show A.in1.handled = none from hh] | rw [hh]
  refine wpAny_bind (wpAny_pure (wpAny_throw ?_))
  refine wpAny_bind (wpAny_isInstance (T := "StopIteration") (b := true) ⟨_, Heap.get?_push_size _ rfl, rfl⟩ isSubtype_stop ?_)
  exact wpAny_pure (hQ _ (((Heap.SameBut.update ..).extBut.push _).push _))
end

theorem bi_entry_iter : entryFor table "bytearray_iterator.__iter__" = some Builtin.«dict_keyiterator.__iter__» :=
  entryFor_alias (id' := "dict_keyiterator.__iter__") (by kernel_rfl) (by first | rfl | decide +kernel | (unfold String.splitOn; simp +decide [String.splitOnAux])) (by decide +kernel) (by kernel_rfl)
theorem bi_args_iter (a : Value) : argsOk "bytearray_iterator.__iter__" ⟨[a], []⟩ := by unfold argsOk; kernel_rfl
theorem pyIter_baiter {prog : Program} {w : World} {A : Around} {E : Value → Shared → Prop} {s : Shared} {it t : Addr} {i : Nat} {Q : Value → Shared → Prop} (hit : IsBaIter s.heap it t i) (h : Q (.ref it) s) : wpAny (model prog w) A (pyIter (.ref it)) Q E s := by
  refine wpAny_pyIter_slot hit.typeIs bi_slot_iter (wpAny_call_entry bi_slot_iter hit.typeIs bi_entry_iter ?_ (bi_args_iter _))
  show wpAny _ _ (ret (.ref it)) _ _ s
  exact wpAny_pure ⟨_, rfl, "bytearray_iterator", _, hit.typeIs, bi_slot_next.lookup, h⟩

theorem walks_ba {prog : Program} {w : World} {A : Around} (hh : A.handled = none) (I ax : Addr) (hne : ax ≠ I) (b : Array UInt8) :
    Walks prog w A I [I, ax] [I] b.size (fun i v => ∃ t, v = .int (b.getD i 0).toNat t) (fun i h => IsBaIter h I ax i ∧ IsBa h ax b) where
  sub := fun b hb => by simp at hb; simp [hb]
  frame := fun _ _ _ st hk => ⟨let ⟨o, ho, r⟩ := st.1; ⟨o, hk I (by simp) o ho, r⟩, hk ax (by simp) _ st.2⟩
  item := fun i s Q E hi st hQ => by
    refine pyNext_ba_item st.1 st.2 (x := b[i]) (by simp [hi]) fun h' hit' hs' => ?_
    exact hQ _ h' _ ⟨s.toks, by simp [Array.getD, hi]⟩ ⟨hit', hs'.extBut _ _ hne st.2⟩ fun b o hb e => hs'.extBut b o (fun h => hb (by simp [h])) e
  done := fun s Q E st hQ => pyNext_ba_end hh st.1 st.2 (by simp) fun h' he' => hQ h' s.toks fun b o hb e => he' b o (fun h => hb (by simp [h])) e
  self := fun _ _ _ _ st hQ => pyIter_baiter st.1 hQ

section
variable {prog : Program} {w : World} {A : Around} {E : Value → Shared → Prop} {s : Shared}

theorem hint_ba {r : Addr} {b : Array UInt8} {Q : Bool → Shared → Prop} (hr : IsBa s.heap r b) (h : Q false s) : wpAny (model prog w) A (Builtin.List.listLengthHint (.ref r)) Q E s := by
  have hT : s.TypeIs (.ref r) "bytearray" := ⟨_, hr, rfl⟩
  unfold Builtin.List.listLengthHint
  refine wpAny_bind (wpAny_specialOf hT ba_slot_len.lookup ?_)
  generalize hid : ("bytearray.__len__" : String) = id0
  wp_delta
  rw [show splitId id0 = some ("bytearray", "__len__") from by subst hid; decide +kernel]
  subst hid
  refine wpAny_bind (wpAny_isInstance (T := "bytearray") (b := true) hT (by rw [isSubtype_type]; kernel_rfl) ?_)
  refine wpAny_ite_split (fun hab => absurd hab (by decide)) (fun _ => ?_)
  refine wpAny_ite_split (fun _ => ?_) (fun hab => absurd (by decide +kernel) hab)
  refine wpAny_bind (wpAny_typeOf hT ?_)
  exact wpAny_pure h

theorem src_ba (prog : Program) (w : World) (r : Addr) (b : Array UInt8) : W.KdlSrc prog w "bytearray" r r b.size (fun i v => ∃ t, v = .int (b.getD i 0).toNat t) (fun h => IsBa h r b) where
  type := fun s h => ⟨_, h, rfl⟩
  there := fun h e => ⟨Heap.lt_size (show h.get? r = _ from e), Heap.lt_size (show h.get? r = _ from e)⟩
  keep := fun h h' e k => k r (.inl rfl) _ e
  notList := by decide
  notTuple := by decide
  hint := fun A E s Q e h => hint_ba e h
  iter := fun A s hh e => ⟨_, fun i h => IsBaIter h s.heap.objs.size r i ∧ IsBa h r b, fun E Q h => pyIter_ba e h,
    walks_ba hh _ _ (Nat.ne_of_lt (Heap.lt_size (show s.heap.get? r = _ from e))) b, ⟨_, Heap.get?_push_size _ rfl, rfl, rfl⟩, Heap.get?_push_of_some _ e⟩

theorem call_list_ba {Q : Value → Shared → Prop} {r : Addr} {b : Array UInt8} (hh : A.handled = none) (hr : IsBa s.heap r b) (hlen : b.size ≤ 2 ^ 20)
    (hQ : ∀ h' tk acc' c', (∀ b o, s.heap.get? b = some o → h'.get? b = some o) →
      h'.get? s.heap.objs.size = some { cls := .type "list", dict := none, data := .seq acc' c', slots := #[] } → ItemsOf (fun i v => ∃ t, v = .int (b.getD i 0).toNat t) acc' b.size → Q (.ref s.heap.objs.size) { s with heap := h', toks := tk }) :
    wpAny (model prog w) A (call (.type "list") [.ref r]) Q E s :=
  W.kdl_call (src_ba prog w r b) hh hr (by rw [sizeLine_eq]; omega) hQ
end
end Mine
end

section
open PySem PySem.W PySem.Calls PyProof.Rows
open Sem (wp)
set_option autoImplicit false
namespace Mine

theorem clean_caller : Clean (⟨.builtin "claim.caller" {}, none, none, [], none⟩ : Ctx) := ⟨by decide +kernel, fun _ hx => nomatch hx⟩

theorem wp_of_wpC_done {M : Model} {A : Around} {Γ : Ctx} {t : Sem PySem.Fin} {R : Result → Shared → Prop} {s : Shared} (hin : Γ.In A) (hcl : Clean Γ)
    (h : wpC M A t (fun fin s' => ∃ f, fin = .done f ∧ R (.ok f) s') (fun e s' => R (.error e) s') s) (p : Pos) :
    wp M Γ t (Sem.finPost M Γ R) (fun e _ s' => R (.error e) s') p s := by
  refine Sem.wp_mono M Γ t (fun fin p' s' h' => ?_) (fun _ _ _ h' => h') p s (h Γ p hin hcl)
  obtain ⟨f, rfl, hf⟩ := h'
  exact hf

theorem ends_C {prog : Program} {w : World} {t : Sem PySem.Fin} {s : Shared} {R : Result → Shared → Prop} (hreg : s.asleep)
    (h : wpC (model prog w) callerA t (fun fin s' => ∃ f, fin = .done f ∧ (R (.ok f) s' ∧ leftWithCleanup s'.gens = false)) (fun e s' => R (.error e) s' ∧ leftWithCleanup s'.gens = false) s) :
    ∃ n r s' s'', runN (denote table) prog w n s ⟨t, .builtin "claim.caller" {}, default, []⟩ = .halted (outcomeOf r) s' ∧
      schedN (denote table) prog w n (.single s ⟨t, .builtin "claim.caller" {}, default, []⟩) = .halted (outcomeOf r) s' ∧ s'.forget = s''.forget ∧ R r s'' := by
  obtain ⟨n, r, s₁, s₂, hs, hn, hfo, hR⟩ := wp_halts_full (M := model prog w) (R := R) hreg (wp_of_wpC_done (R := fun r s' => R r s' ∧ leftWithCleanup s'.gens = false) caller_in clean_caller h default)
  exact ⟨n, r, s₂, s₁, hn, hs, hfo, hR⟩

theorem callFrom_C {c : ClaimW} {tree : List Value → Sem PySem.Fin} {w : World} {s : Shared} {free : Addr → Prop} {gens : Prop} {kept : Heap → Prop} (hz : s.asleep) (hgens : s.gens = #[])
    (hspec : ∀ args, c.pre args = true → WData.layableAll args = true →
      ∀ ord : List DictEntry → List DictEntry, (∀ l, (ord l).Perm l) →
      ∃ vs s₁, layAllW c.records (classAt s.heap) w.params ord args s = some (vs, s₁) ∧
        wpC (model c.prog w) callerA (tree vs) (fun fin s' => ∃ f, fin = .done f ∧ (c.Ends s args vs s₁ (.ok f) s' ∧ s'.os = s.os ∧ AllBare s'.gens ∧ kept s'.heap))
          (fun e s' => c.Ends s args vs s₁ (.error e) s' ∧ s'.os = s.os ∧ AllBare s'.gens ∧ kept s'.heap) s₁) :
    c.CallFrom (fun vs => ⟨tree vs, .builtin "claim.caller" {}, default, []⟩) w free gens kept s := by
  intro args hpre hlay ord hord
  obtain ⟨vs, s₁, hlaid, hcode⟩ := hspec args hpre hlay ord hord
  have hal := layAllW_rest _ _ _ hlaid
  obtain ⟨k, r, s', s'', hrun, hsched, hfo, hcase, hos, hkp⟩ := ends_C (prog := c.prog) (w := w) (t := tree vs) (s := s₁)
    (R := fun r s' => c.Ends s args vs s₁ r s' ∧ s'.os = s.os ∧ kept s'.heap)
    (Shared.asleep_of_life hal.2.2.2 hz)
    (wpC_mono hcode (fun fin s' ⟨f, e, h1, h2, h3, h4⟩ => ⟨f, e, ⟨h1, h2, h4⟩, leftWithCleanup_false_of_bare h3⟩) (fun e s' ⟨h1, h2, h3, h4⟩ => ⟨⟨h1, h2, h4⟩, leftWithCleanup_false_of_bare h3⟩))
  obtain ⟨eh, _, _, eo, _⟩ := Shared.forget_eq hfo
  have hcase := hcase.congr eh
  have hkp : kept s'.heap := by rw [eh]; exact hkp
  rw [← eo] at hos
  have hlife : s'.heap.life = s.heap.life := (runN_life _ _ _ hrun).trans hal.2.2.2
  refine ⟨vs, s₁, hlaid, k, _, s', hsched, ?_, (fun _ i x hx => by rw [hgens] at hx; simp at hx), hkp, by rw [hlife], Shared.rest_eq hos⟩
  rcases hcase with ⟨v, rfl, d1, d2, d3, d4, d5⟩ | ⟨e, ob, cls, rfl, d1, d2, d3, d4, d5⟩
  · exact .inl ⟨v, rfl, d1, d2, d3, fun b o y _ => d4 b o y, d5⟩
  · exact .inr ⟨e, ob, cls, rfl, d1, d2, d3, d4, fun b o y _ => d5 b o y⟩

/-- the walk that is asked: the law's call, from the caller's clean stack -/
noncomputable abbrev WalkC (q : Program) (loose : List Str) (XP : (Str → Option Value) → Heap → Prop) (YP : World → Heap → Prop) (r : RowW) (d : DefRec) (kwd : List (Str × Expr)) : Prop :=
  ∀ (w : World) (s₀ s₁ : Shared) (mg mb : Str → Option Value), Ground q loose r.records XP w s₀ mg mb s₁.heap → YP w s₁.heap → ∀ (a : Addr) (o : Obj) (pm cd doc dV kV : Value), s₁.heap.get? a = some o →
    o.data = .func { docDef d.name d.params d.body d.scope pm cd doc with defaults := dV, kwdefaults := kV } → s₁.heap.CodeRec cd d.name → Dflts mg s₁.heap d.params kwd dV kV → mg d.name = some (.ref a) → s₁.gens = #[] →
    ∀ (args : List WData) (vals : List Value) (as : List Addr), r.claim.pre args = true → WData.layableAll args = true → ReadsAllW r.records (classAt s₀.heap) s₁.heap vals args as → WellAll w.params s₁.heap vals args → (∀ a ∈ as, (a == sysModules) = false) →
      wpC (model r.prog w) callerA (PySem.call (.ref a) vals) (fun v s' => GoodWG r.claim (classAt s₀.heap) (ExcName.means s₀.heap) args s₁ (.ok (.ret v)) s')
        (fun e s' => GoodWG r.claim (classAt s₀.heap) (ExcName.means s₀.heap) args s₁ (.error e) s') s₁

theorem holds_C {r : OpenRow} {q : Program} {loose : List Str} {Xt : Shared → Bool} {XP : (Str → Option Value) → Heap → Prop} {α : Type} {Yf : Shared → α} {Ya : World → α} {YP : World → Heap → Prop} {d : DefRec} {kwd : List (Str × Expr)} {N : Nat}
    (left : LeftO r.prog q loose Xt Yf Ya N) (hY : ∀ w s, Yf s = Ya w → YP w s.heap) (hYk : ∀ w h h', YP w h → (∀ b o, h.get? b = some o → h'.get? b = some o) → YP w h')
    (hX : ∀ s, Xt s = true → XP (s.heap.nsMap mainGlobals) s.heap) (hXk : ∀ mg h h', XP mg h → (∀ b o, h.get? b = some o → h'.get? b = some o) → XP mg h')
    (hdef : defOf q r.name = some (d, kwd)) (hp : r.prog.theDef r.name = some (d.params, d.body, d.scope)) (hk : kwWritten? d.params.kwonlyargs d.params.kw_defaults = some kwd) (hRf : ∀ s, Xt s = true → RecFacts r.records s.heap) (hwr : (!r.writes || r.records.isEmpty) = true)
    (k1 : r.wellSaid = true) (ok : (chainsOk q && opensWell r.prog && (frees r.toRowW && r.within.isEmpty)) = true) (hb : r.prog.bare) (hw : r.toRowW.promised)
    (walk : WalkC q loose XP YP r.toRowW d kwd) : r.Holds := by
  obtain ⟨ok, k5⟩ := Bool.and_eq_true_iff.mp ok
  obtain ⟨hch, o1⟩ := Bool.and_eq_true_iff.mp ok
  obtain ⟨k5, k6⟩ := Bool.and_eq_true_iff.mp k5
  obtain ⟨hsame, hu, ha, hap, hm⟩ := frees_parts k5
  refine ⟨k1, hw, ⟨hb, o1, by show r.makers.map _ = []; rw [hm]; rfl⟩, hw.witness, fun w => ⟨(left.behind hX hch w).1, fun s' hs' => ?_⟩⟩
  obtain ⟨s₀, hf, hg0, s, hT, hz, hgens, hg, G00, y⟩ := (left.behind (XP := fun mg h => XP mg h ∧ RecFacts r.records h) (fun s hs => ⟨hX s hs, hRf s hs⟩) hch w).2 s' hs'
  have G0 : Ground q loose [] XP w s (s.heap.nsMap mainGlobals) (s.heap.nsMap builtinsNs) s.heap := ⟨G00.T, G00.B, G00.D, G00.TE, G00.TD, G00.W, G00.X.1, G00.cls, G00.has, G00.apart, G00.once, G00.K⟩
  have RF := G00.X.2
  refine ⟨s₀, hf, hg0, s, hT, fun n hn => ?_, RF.1, RF.2.1, ?_⟩
  · obtain rfl : n = r.name := by split at hn <;> simp_all
    exact pinned_of_view hg G0 hdef hp hk
  have hgens : s.gens = #[] := Array.eq_empty_of_size_eq_zero (beq_iff_eq.mp hgens)
  have G : Ground q loose r.records XP w s _ _ s.heap := RF.ground G0
  refine callFrom_C (c := r.toRowW.claim) (tree := fun vs => do match ← nsGet mainNs r.name with
      | some f => do ret (← PySem.call f vs)
      | none => unsupported "claim.caller:no-such-global") hz hgens fun args hpre hlay ord hord => ?_
  obtain ⟨⟨vs, s₁⟩, hlaid⟩ := Option.isSome_iff_exists.mp (layAllW_isSome (P := w.params) (ord := ord) G.has args r.args s (pre_splitW hpre).1)
  have keeps := layAllW_keeps _ _ _ hlaid
  have hal := layAllW_rest _ _ _ hlaid
  obtain ⟨as, hrd, hin, hold⟩ := reads_layAllW hord _ _ _ hlaid hlay s₁.heap (fun _ _ e => e)
  have L : Laid r.records w s s₁ args vs as := ⟨⟨ord, hord, hlaid⟩, hrd, hin, hold, keeps, hal.1.trans hgens, hal.2.2.1⟩
  have G₁ := G.keeps hXk keeps
  obtain ⟨a, o, pm, cd, doc, dV, kV, h1, h2, h3, h4, h5⟩ := G₁.fn hdef
  have h := walk w s s₁ _ _ G₁ (hYk _ _ _ (hY w s y) keeps) a o pm cd doc dV kV h2 h3 h4 h5 (defOf_name hdef ▸ h1) L.gens args vs as hpre hlay L.reads L.well (L.low G.low)
  have hi := ident_freeW hu ha hap
  have hwi : r.toRowW.claim.within = [] := List.isEmpty_iff.mp k6
  refine ⟨vs, s₁, hlaid, wpC_seq (wpAny_nsGet G₁.T.g ?_)⟩
  rw [h1]
  refine wpC_bind (wpC_mono h (fun v s' g => wpC_pure ⟨_, rfl, ?_⟩) fun e s' g => ?_)
  · have z := g.laid (c := r.toRowW.claim) hsame hwi hi L
    exact ⟨z.1, z.2.1, z.2.2, fun q => ⟨namesKept_of hT hg r.keeps keeps g.2.1.old, noTable hwr q⟩⟩
  · have z := g.laid (c := r.toRowW.claim) hsame hwi hi L
    exact ⟨z.1, z.2.1, z.2.2, fun q => ⟨namesKept_of hT hg r.keeps keeps g.2.1.old, noTable hwr q⟩⟩
end Mine
end

section
open PySem PyProof.Rows
set_option autoImplicit false
namespace Mine

section
variable {X : Cx} {d : Nat} {sc : Scope} {nm : List Str}

theorem VR.isList {K : Addr → Option Obj} {g : Gh} {H : List AO} {h : Heap} {xs : List AV} {v : Value} (R : Rel K g H h) (hv : VR g (.lst xs) v) : ∃ a items, v = .ref a ∧ h.IsList a items ∧ VRs g xs items.toList := by
  simp only [VR] at hv
  obtain ⟨a, o, items, n, rfl, hC, hc, hd, hi⟩ := hv
  exact ⟨a, items, rfl, ⟨o, (R.frz _ _ hC).1, hc, n, hd⟩, hi⟩
theorem VR.isTup {K : Addr → Option Obj} {g : Gh} {H : List AO} {h : Heap} {xs : List AV} {v : Value} (R : Rel K g H h) (hv : VR g (.tup xs) v) : ∃ a items, v = .ref a ∧ IsTup h a items ∧ VRs g xs items.toList := by
  simp only [VR] at hv
  obtain ⟨a, o, items, n, rfl, hC, hc, hd, hi⟩ := hv
  exact ⟨a, items, rfl, ⟨o, (R.frz _ _ hC).1, hc, n, hd⟩, hi⟩
theorem vrs_one {g : Gh} {x : AV} {vs : List Value} (h : VRs g [x] vs) : ∃ v, vs = [v] ∧ VR g x v := by
  simp only [VRs] at h
  obtain ⟨v, r, rfl, h1, rfl⟩ := h
  exact ⟨v, rfl, h1⟩
theorem vrs_two {g : Gh} {x y : AV} {vs : List Value} (h : VRs g [x, y] vs) : ∃ v u, vs = [v, u] ∧ VR g x v ∧ VR g y u := by
  simp only [VRs] at h
  obtain ⟨v, r, rfl, h1, u, r', rfl, h2, rfl⟩ := h
  exact ⟨v, u, rfl, h1, h2⟩
theorem vrs_three {g : Gh} {x y z : AV} {vs : List Value} (h : VRs g [x, y, z] vs) : ∃ v u t, vs = [v, u, t] ∧ VR g x v ∧ VR g y u ∧ VR g z t := by
  simp only [VRs] at h
  obtain ⟨v, r, rfl, h1, u, r', rfl, h2, t, r'', rfl, h3, rfl⟩ := h
  exact ⟨v, u, t, rfl, h1, h2, h3⟩

noncomputable def pLen : PDen := fun as H => match as with
  | [.lst xs] => if xs.length ≤ 1000000 then some (.int xs.length, H) else none
  | [.tup xs] => if xs.length ≤ 1000000 then some (.int xs.length, H) else none
  | _ => none
theorem prim_len : Prim X d (.builtin "len") pLen := by
  intro A K g H s Q E as vs v H' hA hB hR e hv k
  unfold pLen at e
  split at e
  · rename_i xs
    split at e
    · rename_i hl
      cases e
      obtain ⟨v, rfl, hv1⟩ := vrs_one hv
      obtain ⟨a, items, rfl, hL, hi⟩ := hv1.isList hR
      have hs : items.size = xs.length := by rw [← Array.length_toList]; exact hi.length
      refine len_list hL (by rw [hs]; omega) ?_
      rw [hs]
      exact k g _ _ (Gh.Le.refl g) hR VR.int Rest.t
    · cases e
  · rename_i xs
    split at e
    · rename_i hl
      cases e
      obtain ⟨v, rfl, hv1⟩ := vrs_one hv
      obtain ⟨a, items, rfl, hL, hi⟩ := hv1.isTup hR
      have hs : items.size = xs.length := by rw [← Array.length_toList]; exact hi.length
      refine PyProof.Rows.len_tuple hL (by rw [hs]; omega) ?_
      rw [hs]
      exact k g _ _ (Gh.Le.refl g) hR VR.int Rest.t
    · cases e
  · cases e

noncomputable def pAbs : PDen := fun as H => match as with
  | [.int a] => some (.int (if a < 0 then -a else a), H)
  | _ => none
theorem prim_abs : Prim X d (.builtin "abs") pAbs := by
  intro A K g H s Q E as vs v H' hA hB hR e hv k
  unfold pAbs at e
  split at e
  · cases e
    obtain ⟨v, rfl, hv1⟩ := vrs_one hv
    simp only [VR] at hv1
    obtain ⟨t, rfl⟩ := hv1
    exact call_abs_int fun u tk => k g _ _ (Gh.Le.refl g) hR VR.int Rest.t
  · cases e

noncomputable def pMax : PDen := fun as H => match as with
  | [.int a, .int b] => some (.int (if b > a then b else a), H)
  | _ => none
theorem prim_max : Prim X d (.builtin "max") pMax := by
  intro A K g H s Q E as vs v H' hA hB hR e hv k
  unfold pMax at e
  split at e
  · rename_i a b
    cases e
    obtain ⟨v, u, rfl, hv1, hu⟩ := vrs_two hv
    simp only [VR] at hv1 hu
    obtain ⟨t, rfl⟩ := hv1
    obtain ⟨t', rfl⟩ := hu
    refine max_two_ints hA.hd fun h' tk hk => ?_
    have : (if b > a then Value.int b t' else Value.int a t) = Value.int (if b > a then b else a) (if b > a then t' else t) := by split <;> rfl
    rw [this]
    exact k g _ _ (Gh.Le.refl g) (hR.ext hk) VR.int Rest.ht
  · cases e

noncomputable def pRange : PDen := fun as H => match as with
  | [.int b] => some (.rng 0 b 1, H)
  | [.int a, .int b] => some (.rng a b 1, H)
  | [.int a, .int b, .int c] => if c ≠ 0 ∧ c.natAbs < 1073741824 then some (.rng a b c, H) else none
  | _ => none
theorem vr_rng {g : Gh} {r : Addr} {a b c : Int} {t u z : Tok} (h : g.C r = some { cls := .type "range", data := .fields #[.int a t, .int b u, .int c z] }) : VR g (.rng a b c) (.ref r) := by
  simp only [VR]; exact ⟨r, t, u, z, rfl, h⟩
theorem prim_range : Prim X d (.type "range") pRange := by
  intro A K g H s Q E as vs v H' hA hB hR e hv k
  unfold pRange at e
  split at e
  · cases e
    obtain ⟨v, rfl, hv1⟩ := vrs_one hv
    simp only [VR] at hv1
    obtain ⟨t, rfl⟩ := hv1
    refine call_range_1 ?_
    obtain ⟨g', hle, R', hC⟩ := new_frozen (o := { cls := .type "range", data := .fields #[.int 0 s.toks, .int _ t, .int 1 (s.toks + 1)] }) hR (.inr ⟨rfl, _, rfl⟩) rfl
    exact k g' _ _ hle R' (vr_rng hC) Rest.ht
  · cases e
    obtain ⟨v, u, rfl, hv1, hu⟩ := vrs_two hv
    simp only [VR] at hv1 hu
    obtain ⟨t, rfl⟩ := hv1
    obtain ⟨t', rfl⟩ := hu
    refine call_range_2 ?_
    obtain ⟨g', hle, R', hC⟩ := new_frozen (o := { cls := .type "range", data := .fields #[.int _ t, .int _ t', .int 1 s.toks] }) hR (.inr ⟨rfl, _, rfl⟩) rfl
    exact k g' _ _ hle R' (vr_rng hC) Rest.ht
  · split at e
    · rename_i hc
      cases e
      obtain ⟨v, u, z, rfl, hv1, hu, hz⟩ := vrs_three hv
      simp only [VR] at hv1 hu hz
      obtain ⟨t, rfl⟩ := hv1
      obtain ⟨t', rfl⟩ := hu
      obtain ⟨t'', rfl⟩ := hz
      refine call_range_3 hc.1 ?_ (.inl (PyProof.noPylong_small hc.2))
      obtain ⟨g', hle, R', hC⟩ := new_frozen (o := { cls := .type "range", data := .fields #[.int _ t, .int _ t', .int _ t''] }) hR (.inr ⟨rfl, _, rfl⟩) rfl
      exact k g' _ _ hle R' (vr_rng hC) Rest.ht
    · cases e
  · cases e

end
end Mine
end

section
open PySem PyProof.Rows
open AutoSeq1 (wpAny_loadPart')
set_option autoImplicit false
namespace Mine

theorem tup_get_any (l : Addr) (items : Array Value) (n : Nat) (dd : Option Addr) (sl : Array (Option Value)) (i : Int) (u : Tok) (k : Nat) (y : Value) (hlo : -2 ^ 63 ≤ i) (hhi : i < 2 ^ 63) (hk : seqIndex? i items.size = some k) (hy : items[k]? = some y) :
    Meets (Builtin.«tuple.__getitem__» ⟨[.ref l, .int i u], []⟩)
      (fun _ R s => s.heap.get? l = some { cls := .type "tuple", dict := dd, data := .seq items n, slots := sl } ∧ R (.ok (.ret y)) s) :=
  .of_wp fun prog w A R s h => by
    obtain ⟨hp, g, d, tk, os⟩ := s; obtain ⟨hl, h⟩ := h
    have f1 := AutoSeq1.idx_int
    wp_walk using wpAny_loadPart' hl
    simp only [hk, hy, Option.bind_some]
    refine wpAny_ite_false (by simp; omega) ?_
    wp_walk
    exact ⟨_, rfl, h⟩

section
variable {prog : Program} {w : World} {A : Around} {E : Value → Shared → Prop} {s : Shared} {env : Env}

theorem tup_getItem {l : Addr} {items : Array Value} {i : Int} {u : Tok} {k : Nat} {y : Value} {Q : Value → Shared → Prop} (hl : IsTup s.heap l items) (hlo : -2 ^ 63 ≤ i) (hhi : i < 2 ^ 63) (hk : seqIndex? i items.size = some k) (hy : items[k]? = some y)
    (h : Q y s) : wpAny (model prog w) A (getItem (.ref l) (.int i u)) Q E s := by
  obtain ⟨⟨c, dd, da, sl⟩, ho, hc, n, hd⟩ := id hl
  simp only at hc hd
  subst hc hd
  exact getItem_meets ⟨_, ho, rfl⟩ (by decide) F.slot_tuple_getitem F.entry_tuple_getitem (F.args_tuple_getitem_2 _ _) (tup_get_any l items n dd sl i u k y hlo hhi hk hy) ⟨ho, h⟩

/-- a subscript's steps around getItem -/
theorem sub_steps {value slice : Expr} {pos : Pos} {Q : Value → Shared → Prop}
    (h : wpAny (model prog w) A (eval value env) (fun o s₁ => wpAny (model prog w) A (eval slice env) (fun i s₂ => ∃ T id, typeLookup (.type T) "__getitem__" = pure (some (.builtin id)) ∧ s₂.TypeIs o T ∧ wpAny (model prog w) A (getItem o i) Q E s₂) E s₁) E s)
    (hs : ∀ o i, ∃ l, subscripted slice false o i = operate l (getItem o i)) : wpAny (model prog w) A (eval (.Subscript value slice pos) env) Q E s := by
  rw [eval_Subscript]
  refine wpAny_bind (wpAny_mono h (fun o s₁ h₁ => wpAny_bind (wpAny_holding (wpAny_mono h₁ (fun i s₂ h₂ => wpAny_bind (wpAny_standAt ?_)) fun _ _ x => x))) fun _ _ x => x)
  obtain ⟨T, id, hl, hT, hg⟩ := h₂
  refine wpAny_bind ?_
  rw [getitemInPython_of_ne hT.not_modules]
  refine wpAny_bind (wpAny_specialOf hT hl (wpAny_pure (wpAny_bind ?_)))
  obtain ⟨l, hq⟩ := hs o i
  rw [hq]
  refine wpAny_operating (wpAny_mono hg (fun r s₃ h₃ => wpAny_bind (wpAny_letTemporaryGo (wpAny_pure h₃))) fun _ _ x => x)

theorem lst_getItem {l : Addr} {items : Array Value} {i : Int} {u : Tok} {k : Nat} {y : Value} {Q : Value → Shared → Prop} (hl : s.heap.IsList l items) (hlo : -1000000 ≤ i) (hhi : i < 1000000) (hk : seqIndex? i items.size = some k) (hy : items[k]? = some y)
    (h : Q y s) : wpAny (model prog w) A (getItem (.ref l) (.int i u)) Q E s := by
  unfold seqIndex? at hk
  by_cases h0 : 0 ≤ i
  · refine wpAny_getItem_list hl h0 (by omega) ?_ h
    have : k = i.toNat := by
      simp only [h0, if_true] at hk
      split at hk <;> simp_all <;> omega
    rw [← this]; exact hy
  · have hneg : i < 0 := by omega
    have hsz : k < items.size := (Array.getElem?_eq_some_iff.mp hy).1
    have hk' : k = (i + items.size).toNat ∧ -(items.size : Int) ≤ i := by
      split at hk <;> simp_all <;> omega
    refine wpAny_getItem_list_neg hl hneg hk'.2 (by omega) ?_ h
    rw [← hk'.1]; exact hy
end

noncomputable def idxV (a i : AV) (H : List AO) : Option AV :=
  match a, i with
  | .tup xs, .int i => if -1000000 ≤ i ∧ i < 1000000 then (seqIndex? i xs.length).bind (xs[·]?) else none
  | .lst xs, .int i => if -1000000 ≤ i ∧ i < 1000000 then (seqIndex? i xs.length).bind (xs[·]?) else none
  | .ref k, .int i => match H[k]? with
    | some ao => if -1000000 ≤ i ∧ i < 1000000 then ((seqIndex? i ao.xs.length).bind (ao.xs[·]?)).map .int else none
    | none => none
  | _, _ => none

section
variable {X : Cx} {d : Nat} {sc : Scope} {nm : List Str}

theorem idxV_ok {K : Addr → Option Obj} {g : Gh} {H : List AO} {a i v : AV} {va vi : Value} {A : Around} {s : Shared} {Q : Value → Shared → Prop} {E : Value → Shared → Prop} (e : idxV a i H = some v)
    (R : Rel K g H s.heap) (ha : VR g a va) (hi : VR g i vi) (k : ∀ s' val, s'.heap = s.heap → VR g v val → Rest s s' → Q val s') :
    ∃ T id, typeLookup (.type T) "__getitem__" = pure (some (.builtin id)) ∧ s.TypeIs va T ∧ wpAny (model X.prog X.w) A (getItem va vi) Q E s := by
  unfold idxV at e
  split at e
  · rename_i xs i
    split at e
    · rename_i hb
      simp only [Option.bind_eq_some_iff] at e
      obtain ⟨j, hj, hx⟩ := e
      obtain ⟨a, items, rfl, hT, hI⟩ := ha.isTup R
      simp only [VR] at hi
      obtain ⟨t, rfl⟩ := hi
      obtain ⟨y, hy, hvy⟩ := hI.get hx
      have hs : items.size = xs.length := by rw [← Array.length_toList]; exact hI.length
      refine ⟨"tuple", _, F.slot_tuple_getitem.lookup, hT.typeIs, tup_getItem hT (by omega) (by omega) (by rw [hs]; exact hj) (by simpa using hy) (k s y rfl hvy (Rest.refl s))⟩
    · cases e
  · rename_i xs i
    split at e
    · rename_i hb
      simp only [Option.bind_eq_some_iff] at e
      obtain ⟨j, hj, hx⟩ := e
      obtain ⟨a, items, rfl, hT, hI⟩ := ha.isList R
      simp only [VR] at hi
      obtain ⟨t, rfl⟩ := hi
      obtain ⟨y, hy, hvy⟩ := hI.get hx
      have hs : items.size = xs.length := by rw [← Array.length_toList]; exact hI.length
      refine ⟨"list", _, F.slot_list_getitem.lookup, hT.typeIs, lst_getItem hT hb.1 hb.2 (by rw [hs]; exact hj) (by simpa using hy) (k s y rfl hvy (Rest.refl s))⟩
    · cases e
  · rename_i kk i
    split at e
    · rename_i ao hk
      split at e
      · rename_i hb
        simp only [Option.map_eq_some_iff, Option.bind_eq_some_iff] at e
        obtain ⟨z, ⟨j, hj, hx⟩, rfl⟩ := e
        simp only [VR] at ha hi
        obtain ⟨a, rfl, hφ⟩ := ha
        obtain ⟨t, rfl⟩ := hi
        obtain ⟨a', o, h1, h2, h3⟩ := R.trk kk ao hk
        rw [hφ] at h1; cases h1
        unfold OR at h3
        split at h3
        · obtain ⟨b, rfl, hb'⟩ := h3
          have hs : b.size = ao.xs.length := by rw [← hb']; simp
          have hj' : j < b.size := by
            rw [hs]; exact (List.getElem?_eq_some_iff.mp hx).1
          have hz : z = (b[j].toNat : Int) := by
            rw [← hb'] at hx
            simp only [List.getElem?_map, Option.map_eq_some_iff] at hx
            obtain ⟨u8, hu, rfl⟩ := hx
            have : b[j]? = some u8 := by simpa using hu
            rw [Array.getElem?_eq_getElem hj'] at this; cases this; rfl
          refine ⟨"bytearray", _, ba_slot_getitem.lookup, ⟨_, h2, rfl⟩, ba_getItem h2 (by omega) (by omega) (by rw [hs]; exact hj) (Array.getElem?_eq_getElem hj') ?_⟩
          rw [← hz]
          exact k _ _ rfl VR.int Rest.t
        · obtain ⟨vs, n, ⟨hc3, hn3, hd3⟩, hI⟩ := h3
          have hL : s.heap.IsList a vs := ⟨_, h2, hc3, n, hd3⟩
          have hs : vs.size = ao.xs.length := by rw [← Array.length_toList]; exact hI.length
          obtain ⟨t', hy⟩ := hI.get j z hx
          refine ⟨"list", _, F.slot_list_getitem.lookup, hL.typeIs, lst_getItem hL hb.1 hb.2 (by rw [hs]; exact hj) (by simpa using hy) (k s _ rfl VR.int (Rest.refl s))⟩
      · cases e
    · cases e
  · cases e

noncomputable def dIdx (f₁ f₂ : Den) : Den := fun ρ H => match f₁ ρ H with
  | some (a, H₁) => match f₂ ρ H₁ with
    | some (i, H₂) => match idxV a i H₂ with
      | some v => some (v, H₂)
      | none => none
    | none => none
  | none => none
theorem snd_idx {x y : Expr} {pos : Pos} {f₁ f₂ : Den} (h₁ : SndE X d sc nm x f₁) (h₂ : SndE X d sc nm y f₂) (hs : ∀ o i, ∃ l, subscripted y false o i = operate l (getItem o i) := by intro o i; exact ⟨_, rfl⟩) : SndE X d sc nm (.Subscript x y pos) (dIdx f₁ f₂) := by
  intro A env K g H ρ s Q E v H' hA hE hB hF hR e k
  unfold dIdx at e
  split at e
  · rename_i a H₁ e₁
    split at e
    · rename_i b H₂ e₂
      split at e
      · rename_i c e₃
        cases e
        refine sub_steps (h₁ A env K g H ρ s _ E a H₁ hA hE hB hF hR e₁ fun g₁ s₁ v₁ hg₁ R₁ V₁ r₁ => ?_) hs
        refine h₂ A env K g₁ H₁ ρ s₁ _ E b _ hA hE (hB.mono hg₁) (hF.mono hg₁) R₁ e₂ fun g₂ s₂ v₂ hg₂ R₂ V₂ r₂ => ?_
        exact idxV_ok e₃ R₂ (V₁.mono hg₂) V₂ fun s₃ v₃ hh V₃ r₃ => k g₂ s₃ _ (hg₁.trans hg₂) (by rw [hh]; exact R₂) V₃ ((r₁.trans r₂).trans r₃)
      · cases e
    · cases e
  · cases e
end
end Mine
end

section
open PySem PyProof.Rows
set_option autoImplicit false
namespace Mine

/-- where a part of a slice that is not negative lies in n places -/
noncomputable def lowAt (lo : Option Int) (n : Nat) : Nat := match lo with
  | none => 0
  | some i => min i.toNat n
noncomputable def highAt (hi : Option Int) (n : Nat) : Nat := match hi with
  | none => n
  | some i => min i.toNat n
noncomputable def nonneg : Option Int → Bool
  | none => true
  | some i => decide (0 ≤ i)

theorem bounds_at (lo hi : Option Int) (n : Nat) (h1 : nonneg lo = true) (h2 : nonneg hi = true) : sliceBounds lo hi none n = ((lowAt lo n : Int), (highAt hi n : Int), 1) := by
  unfold sliceBounds lowAt highAt
  cases lo <;> cases hi <;> simp_all [nonneg] <;> omega
theorem pick_list (items : Array Value) (lo hi : Option Int) (h1 : nonneg lo = true) (h2 : nonneg hi = true) :
    (slicePick items lo hi none).toList = (items.toList.drop (lowAt lo items.size)).take (highAt hi items.size - lowAt lo items.size) := by
  unfold slicePick
  rw [bounds_at lo hi items.size h1 h2]
  simp only
  rw [sliceRange_one, pick_run]

section
variable {prog : Program} {w : World} {A : Around} {E : Value → Shared → Prop} {s : Shared} {env : Env}

theorem sliceApplied_two {sl : Addr} {a b n : Nat} {u u' : Tok} {Q : Int × Int × Nat → Shared → Prop} (hs : s.heap.IsSliceOf sl (.int a u) (.int b u') .none) (hab : a ≤ b) (hb : b ≤ n) (h : Q ((a : Int), 1, b - a) s) :
    wpAny (model prog w) A (Builtin.Slice.sliceApplied (.ref sl) (pure (n : Int))) Q E s := by
  obtain ⟨os, hos, hcs, hds⟩ := id hs
  unfold Builtin.Slice.sliceApplied Builtin.Slice.sliceFields
  refine wpAny_bind (wpAny_bind (wpAny_field hos hds (x := .int a u) rfl (wpAny_bind (wpAny_field hos hds (x := .int b u') rfl (wpAny_bind (wpAny_field hos hds (x := .none) rfl (wpAny_pure ?_)))))))
  refine wpAny_bind (slicePart_none ?_)
  show wpAny _ _ (if ((1 : Int) == 0) = true then _ else _) _ _ s
  rw [if_neg (by decide)]
  refine wpAny_bind (slicePart_int (wpAny_bind (slicePart_int (wpAny_bind (wpAny_pure ?_)))))
  show wpAny _ _ (match Builtin.Slice.sliceAdjust (some (a : Int)) (some (b : Int)) 1 (n : Int) with | (lo, hi) => pure (lo, (1 : Int), Builtin.Slice.slicePlaces lo hi 1)) _ _ s
  have e1 : Builtin.Slice.sliceAdjust (some (a : Int)) (some (b : Int)) 1 (n : Int) = ((a : Int), (b : Int)) := by
    unfold Builtin.Slice.sliceAdjust
    have h1 : ¬ ((1 : Int) < 0) := by omega
    have h2 : ¬ ((a : Int) < 0) := by omega
    have h3 : ¬ ((b : Int) < 0) := by omega
    simp only [h1, h2, h3, if_false]
    congr 1 <;> omega
  have e2 : Builtin.Slice.slicePlaces (a : Int) (b : Int) 1 = b - a := by
    unfold Builtin.Slice.slicePlaces
    have h1 : (1 : Int) > 0 := by omega
    simp only [h1, if_true, Int.ediv_one]
    split <;> omega
  rw [e1]
  show wpAny _ _ (pure ((a : Int), (1 : Int), Builtin.Slice.slicePlaces (a : Int) (b : Int) 1)) _ _ s
  rw [e2]
  exact wpAny_pure h

theorem pick_two (xs : Array Value) (a k : Nat) : ((List.range k).filterMap fun (j : Nat) => xs[((a : Int) + (j : Int) * 1).toNat]?).toArray = ((xs.toList.drop a).take k).toArray := by
  have e : (fun (j : Nat) => xs[((a : Int) + (j : Int) * 1).toNat]?) = fun j => xs[a + j]? := by
    funext j
    have : ((a : Int) + (j : Int) * 1).toNat = a + j := by omega
    rw [this]
  rw [e]
  have := pick_run xs a k
  rw [List.filterMap_map] at this
  have e2 : ((fun x => xs[x]?) ∘ fun x => a + x) = fun j => xs[a + j]? := rfl
  rw [e2] at this
  rw [this]

theorem getItem_tuple_two {t sl : Addr} {items : Array Value} {a b : Nat} {u u' : Tok} {Q : Value → Shared → Prop} (ht : IsTup s.heap t items) (hs : s.heap.IsSliceOf sl (.int a u) (.int b u') .none) (hab : a ≤ b) (hb : b ≤ items.size) (hnw : ¬ (a = 0 ∧ b = items.size)) (hsz : items.size ≤ 1000000)
    (h : Q (.ref s.heap.objs.size) { s with heap := s.heap.push { cls := .type "tuple", data := .seq ((items.toList.drop a).take (b - a)).toArray } }) : wpAny (model prog w) A (getItem (.ref t) (.ref sl)) Q E s := by
  have hdrop : sizeOk (.seq ((items.toList.drop a).take (b - a)).toArray) := by
    show ((items.toList.drop a).take (b - a)).toArray.size ≤ sizeLine
    have : sizeLine = 2 ^ 24 := rfl
    rw [List.size_toArray, List.length_take, List.length_drop, Array.length_toList, this]
    omega
  obtain ⟨os, hos, hcs, hds⟩ := id hs
  have hTs : s.TypeIs (.ref sl) "slice" := ⟨os, hos, hcs⟩
  unfold getItem
  refine wpAny_holding ?_
  refine wpAny_bind (wpAny_sequenceKey ht.typeIs (by decide) ?_)
  refine wpAny_bind (wpAny_callSpecial?_slot (name := Str.ofString "__getitem__") ht.typeIs F.slot_tuple_getitem
    (wpAny_call_entry F.slot_tuple_getitem ht.typeIs F.entry_tuple_getitem ?_ (F.args_tuple_getitem_2 _ _)))
  show wpAny _ _ (Builtin.Tuple.tupleItemsOf (.ref t) >>= _) _ _ s
  refine wpAny_bind (tupleItemsOf_ ht ?_)
  refine wpAny_bind (wpAny_typeOf hTs ?_)
  rw [if_pos (by decide)]
  refine wpAny_bind (sliceApplied_two hs hab hb ?_)
  have hno : ¬ (((a : Int) == 0 && (1 : Int) == 1 && (b - a) == items.size) = true) := by
    intro hh
    simp only [Bool.and_eq_true, beq_iff_eq] at hh
    omega
  show wpAny _ _ (if ((a : Int) == 0 && (1 : Int) == 1 && (b - a) == items.size) = true then _ else _) _ _ s
  rw [if_neg hno, pick_two items a (b - a)]
  exact wpAny_bind (m := Builtin.Tuple.tupleExact _) (wpAny_newObj_type (wpAny_pure ⟨_, rfl, wpAny_pure h⟩) hdrop)
end

noncomputable def slcV (a : AV) (lo hi : Option Int) (H : List AO) : Option AV :=
  match a with
  | .tup xs => match lo, hi with
    | some a, some b => if 0 ≤ a ∧ a ≤ b ∧ b ≤ xs.length ∧ ¬ (a = 0 ∧ b = xs.length) ∧ xs.length ≤ 1000000 then some (.tup ((xs.drop a.toNat).take (b.toNat - a.toNat))) else none
    | _, _ => none
  | .lst xs => if nonneg lo && nonneg hi && decide (xs.length ≤ 1000000) then some (.lst ((xs.drop (lowAt lo xs.length)).take (highAt hi xs.length - lowAt lo xs.length))) else none
  | .ref k => match H[k]? with
    | some ao => if !ao.byt && nonneg lo && nonneg hi && decide (ao.xs.length ≤ 1000000) then some (.lst (((ao.xs.drop (lowAt lo ao.xs.length)).take (highAt hi ao.xs.length - lowAt lo ao.xs.length)).map .int)) else none
    | none => none
  | _ => none

section
variable {X : Cx} {d : Nat} {sc : Scope} {nm : List Str}

theorem vr_new_list {K : Addr → Option Obj} {g : Gh} {H : List AO} {h : Heap} {vs : Array Value} {xs : List AV} (R : Rel K g H h) (hv : VRs g xs vs.toList) :
    ∃ g', g.Le g' ∧ Rel K g' H (h.push { cls := .type "list", data := .seq vs }) ∧ VR g' (.lst xs) (.ref h.objs.size) := by
  obtain ⟨g', hle, R', hC⟩ := new_frozen (o := { cls := .type "list", data := .seq vs }) R (.inl ⟨_, _, rfl⟩) rfl
  refine ⟨g', hle, R', ?_⟩
  simp only [VR]
  exact ⟨_, _, _, _, rfl, hC, rfl, rfl, hv.mono hle⟩
theorem vr_new_tuple {K : Addr → Option Obj} {g : Gh} {H : List AO} {h : Heap} {vs : Array Value} {xs : List AV} (R : Rel K g H h) (hv : VRs g xs vs.toList) :
    ∃ g', g.Le g' ∧ Rel K g' H (h.push { cls := .type "tuple", data := .seq vs }) ∧ VR g' (.tup xs) (.ref h.objs.size) := by
  obtain ⟨g', hle, R', hC⟩ := new_frozen (o := { cls := .type "tuple", data := .seq vs }) R (.inl ⟨_, _, rfl⟩) rfl
  refine ⟨g', hle, R', ?_⟩
  simp only [VR]
  exact ⟨_, _, _, _, rfl, hC, rfl, rfl, hv.mono hle⟩

/-- the slice object is laid; then the item -/
theorem slcV_ok {K : Addr → Option Obj} {g : Gh} {H : List AO} {a v : AV} {lo hi : Option Int} {va vl vu : Value} {A : Around} {s : Shared} {Q : Value → Shared → Prop} {E : Value → Shared → Prop} (e : slcV a lo hi H = some v)
    (R : Rel K g H s.heap) (ha : VR g a va) (hl : IsPart vl lo) (hu : IsPart vu hi) (k : Kn K g H v Q s) {sl : Addr} (hs : s.heap.IsSliceOf sl vl vu .none) :
    ∃ T id, typeLookup (.type T) "__getitem__" = pure (some (.builtin id)) ∧ s.TypeIs va T ∧ wpAny (model X.prog X.w) A (getItem va (.ref sl)) Q E s := by
  have hsl : sizeLine = 2 ^ 24 := rfl
  unfold slcV at e
  split at e
  · rename_i xs
    split at e
    · rename_i x y
      split at e
      · rename_i hc
        cases e
        obtain ⟨c0, c1, c2, c3, c4⟩ := hc
        obtain ⟨a', items, rfl, hT, hI⟩ := ha.isTup R
        have hsz : items.size = xs.length := by rw [← Array.length_toList]; exact hI.length
        cases hl with
        | int _ t => cases hu with
          | int _ t' =>
            obtain ⟨p, rfl⟩ := Int.eq_ofNat_of_zero_le c0
            obtain ⟨q, rfl⟩ := Int.eq_ofNat_of_zero_le (Int.le_trans c0 c1)
            refine ⟨"tuple", _, F.slot_tuple_getitem.lookup, hT.typeIs, getItem_tuple_two hT hs (by omega) (by omega) (by omega) (by omega) ?_⟩
            obtain ⟨g', hle, R', hV⟩ := vr_new_tuple (vs := ((items.toList.drop p).take (q - p)).toArray) R (by simpa using (hI.drop p).take (q - p))
            exact k g' _ _ hle R' (by simpa using hV) Rest.h
      · cases e
    · cases e
  · rename_i xs
    split at e
    · rename_i hc
      cases e
      simp only [Bool.and_eq_true, decide_eq_true_eq] at hc
      obtain ⟨⟨h1, h2⟩, h3⟩ := hc
      obtain ⟨a', items, rfl, hT, hI⟩ := ha.isList R
      have hsz : items.size = xs.length := by rw [← Array.length_toList]; exact hI.length
      refine ⟨"list", _, F.slot_list_getitem.lookup, hT.typeIs, wpAny_getItem_list_slice hT hs hl hu .none (by simp) ?_ (by rw [hsl]; omega)⟩
      obtain ⟨g', hle, R', hV⟩ := vr_new_list (vs := slicePick items lo hi none) R (by rw [pick_list items lo hi h1 h2, hsz]; exact (hI.drop _).take _)
      exact k g' _ _ hle R' hV Rest.h
    · cases e
  · rename_i kk
    split at e
    · rename_i ao hk
      split at e
      · rename_i hc
        cases e
        simp only [Bool.and_eq_true, decide_eq_true_eq, Bool.not_eq_true'] at hc
        obtain ⟨⟨⟨h0, h1⟩, h2⟩, h3⟩ := hc
        simp only [VR] at ha
        obtain ⟨a', rfl, hφ⟩ := ha
        obtain ⟨a'', o, q1, q2, q3⟩ := R.trk kk ao hk
        rw [hφ] at q1; cases q1
        unfold OR at q3
        rw [h0] at q3
        simp only [Bool.false_eq_true, if_false] at q3
        obtain ⟨vs, n, ⟨hc3, hn3, hd3⟩, hI⟩ := q3
        have hT : s.heap.IsList a' vs := ⟨_, q2, hc3, n, hd3⟩
        have hsz : vs.size = ao.xs.length := by rw [← Array.length_toList]; exact hI.length
        refine ⟨"list", _, F.slot_list_getitem.lookup, hT.typeIs, wpAny_getItem_list_slice hT hs hl hu .none (by simp) ?_ (by rw [hsl]; omega)⟩
        have hV0 : VRs g (ao.xs.map AV.int) vs.toList := VRs.ints hI
        obtain ⟨g', hle, R', hV⟩ := vr_new_list (xs := ((ao.xs.drop (lowAt lo ao.xs.length)).take (highAt hi ao.xs.length - lowAt lo ao.xs.length)).map .int) (vs := slicePick vs lo hi none) R
          (by rw [pick_list vs lo hi h1 h2, hsz, List.map_take, List.map_drop]; exact (hV0.drop _).take _)
        exact k g' _ _ hle R' hV Rest.h
      · cases e
    · cases e
  · cases e

/-- the parts of a slice -/
noncomputable abbrev DenP := List AV → List AO → Option (Option Int × List AO)
noncomputable def SndP (X : Cx) (d : Nat) (sc : Scope) (nm : List Str) (x : Option Expr) (f : DenP) : Prop :=
  ∀ (A : Around) (env : Env) (K : Addr → Option Obj) (g : Gh) (H : List AO) (ρ : List AV) (s : Shared) (Q : Value → Shared → Prop) (E : Value → Shared → Prop) (v : Option Int) (H' : List AO),
    AOk A d → EnvI sc env → Bs X K g → FrK K env nm ρ g → Rel K g H s.heap → f ρ H = some (v, H') →
    (∀ g' s' val, g.Le g' → Rel K g' H' s'.heap → IsPart val v → Rest s s' → Q val s') → wpAny (model X.prog X.w) A (valueOrNone (evalOpt x env)) Q E s
noncomputable def ptNone : DenP := fun _ H => some (none, H)
theorem sndP_none : SndP X d sc nm none ptNone := by
  intro A env K g H ρ s Q E v H' hA hE hB hF hR e k
  simp only [ptNone, Option.some.injEq, Prod.mk.injEq] at e
  obtain ⟨rfl, rfl⟩ := e
  exact wpAny_pure (k g s _ (Gh.Le.refl g) hR .none (Rest.refl s))
noncomputable def ptSome (f : Den) : DenP := fun ρ H => match f ρ H with
  | some (.int i, H₁) => some (some i, H₁)
  | _ => none
theorem sndP_some {x : Expr} {f : Den} (h₁ : SndE X d sc nm x f) : SndP X d sc nm (some x) (ptSome f) := by
  intro A env K g H ρ s Q E v H' hA hE hB hF hR e k
  unfold ptSome at e
  split at e
  · rename_i i H₁ e₁
    cases e
    refine h₁ A env K g H ρ s _ E _ _ hA hE hB hF hR e₁ fun g₁ s₁ v₁ hg₁ R₁ V₁ r₁ => ?_
    simp only [VR] at V₁
    obtain ⟨t, rfl⟩ := V₁
    exact k g₁ s₁ _ hg₁ R₁ (.int i t) r₁
  · cases e

noncomputable def dSlc (f₁ : Den) (lo hi : DenP) : Den := fun ρ H => match f₁ ρ H with
  | some (a, H₁) => match lo ρ H₁ with
    | some (l, H₂) => match hi ρ H₂ with
      | some (u, H₃) => match slcV a l u H₃ with
        | some v => some (v, H₃)
        | none => none
      | none => none
    | none => none
  | none => none
theorem snd_slc {x : Expr} {lo hi : Option Expr} {p pos : Pos} {f₁ : Den} {fl fh : DenP} (h₁ : SndE X d sc nm x f₁) (h₂ : SndP X d sc nm lo fl) (h₃ : SndP X d sc nm hi fh) : SndE X d sc nm (.Subscript x (.Slice lo hi none p) pos) (dSlc f₁ fl fh) := by
  intro A env K g H ρ s Q E v H' hA hE hB hF hR e k
  unfold dSlc at e
  split at e
  · rename_i a H₁ e₁
    split at e
    · rename_i l H₂ e₂
      split at e
      · rename_i u H₃ e₃
        split at e
        · rename_i c e₄
          cases e
          refine sub_steps (h₁ A env K g H ρ s _ E a H₁ hA hE hB hF hR e₁ fun g₁ s₁ v₁ hg₁ R₁ V₁ r₁ => ?_) (fun o i => ⟨_, rfl⟩)
          rw [arm_eval_Slice]
          refine wpAny_bind (h₂ A env K g₁ H₁ ρ s₁ _ E l H₂ hA hE (hB.mono hg₁) (hF.mono hg₁) R₁ e₂ fun g₂ s₂ v₂ hg₂ R₂ P₂ r₂ => ?_)
          refine wpAny_bind (wpAny_holding (h₃ A env K g₂ H₂ ρ s₂ _ E u _ hA hE (hB.mono (hg₁.trans hg₂)) (hF.mono (hg₁.trans hg₂)) R₂ e₃ fun g₃ s₃ v₃ hg₃ R₃ P₃ r₃ => ?_))
          refine wpAny_bind (wpAny_holding (wpAny_pure ?_))
          refine wpAny_newObj_type ?_ (by size_fits)
          have R₄ : Rel K g₃ _ (s₃.heap.push { cls := .type "slice", data := .fields #[v₂, v₃, .none] }) := R₃.ext fun b o e => Heap.get?_push_of_some _ e
          exact slcV_ok (s := { s₃ with heap := s₃.heap.push { cls := .type "slice", data := .fields #[v₂, v₃, .none] } }) e₄ R₄ (V₁.mono (hg₂.trans hg₃)) P₂ P₃ (Kn.mono k ((hg₁.trans hg₂).trans hg₃) (((r₁.trans r₂).trans r₃).trans Rest.h)) (Heap.IsSliceOf.new ..)
        · cases e
      · cases e
    · cases e
  · cases e
end
end Mine
end

section
open PySem PyProof.Rows
set_option autoImplicit false
namespace Mine

/-- a range's ints -/
noncomputable def rngInts (a b c : Int) : List Int := (List.range (Builtin.Range.rangeSize a b c).toNat).map fun (i : Nat) => a + (i : Int) * c

section
variable {X : Cx} {d : Nat} {sc : Scope} {nm : List Str}

noncomputable def pSum : PDen := fun as H => match as with
  | [.lst xs] => match intsOf xs with
    | some ns => some (.int ns.sum, H)
    | none => none
  | _ => none
theorem prim_sum : Prim X d (.builtin "sum") pSum := by
  intro A K g H s Q E as vs v H' hA hB hR e hv k
  unfold pSum at e
  split at e
  · rename_i xs
    split at e
    · rename_i ns hns
      cases e
      obtain ⟨v, rfl, hv1⟩ := vrs_one hv
      obtain ⟨a, items, rfl, hL, hi⟩ := hv1.isList hR
      have hI := intsOf_are hns hi
      have hall : AllInts items := by
        have := hI.allInts
        simpa using this
      have hsum : (numsOf items.toList).sum = ns.sum := by rw [hI.numsOf]
      obtain ⟨xs', rfl⟩ := hall.items
      rw [nums_intItems] at hsum
      refine sum_intListG hA.hd hL fun h' tk t' hk => ?_
      rw [preSum_eq, List.take_of_length_le (by simp), hsum]
      exact k g _ _ (Gh.Le.refl g) (hR.ext hk) VR.int Rest.ht
    · cases e
  · cases e

theorem items_ints {acc : Array Value} {a c : Int} {n : Nat} (h : ItemsOf (fun i v => ∃ t, v = .int (a + i * c) t) acc n) : IntsAre acc.toList ((List.range n).map fun (i : Nat) => a + (i : Int) * c) := by
  obtain ⟨hs, hP⟩ := h
  have key : ∀ (l : List Value) (k : Nat), (∀ (j : Nat) (v : Value), l[j]? = some v → ∃ t, v = Value.int (a + ((k + j : Nat) : Int) * c) t) → IntsAre l ((List.range' k l.length).map fun (i : Nat) => a + (i : Int) * c) := by
    intro l
    induction l with
    | nil => intro k _; exact .nil
    | cons x l ih =>
      intro k hk
      obtain ⟨t, rfl⟩ := hk 0 x (by simp)
      rw [List.length_cons, List.range'_succ, List.map_cons]
      refine .cons _ t (ih (k + 1) fun j v hj => ?_)
      obtain ⟨t', h'⟩ := hk (j + 1) v (by simpa using hj)
      exact ⟨t', by rw [h']; congr 3; omega⟩
  have := key acc.toList 0 fun j v hj => by
    obtain ⟨t, h'⟩ := hP j v (by simpa using hj)
    exact ⟨t, by rw [h', Nat.zero_add]⟩
  rw [Array.length_toList, hs, ← List.range_eq_range'] at this
  exact this

noncomputable def pList : PDen := fun as H => match as with
  | [.rng a b c] => if Builtin.Range.small a b c = true ∧ 0 ≤ Builtin.Range.rangeSize a b c ∧ Builtin.Range.rangeSize a b c ≤ 100000 then some (.lst ((rngInts a b c).map .int), H) else none
  | _ => none
theorem prim_list : Prim X d (.type "list") pList := by
  intro A K g H s Q E as vs v H' hA hB hR e hv k
  unfold pList at e
  split at e
  · rename_i a b c
    split at e
    · rename_i hc
      cases e
      obtain ⟨v, rfl, hv1⟩ := vrs_one hv
      simp only [VR] at hv1
      obtain ⟨r, t, u, z, rfl, hC⟩ := hv1
      refine call_list_range (n := (Builtin.Range.rangeSize a b c).toNat) hA.hd (hR.frz _ _ hC).1 hc.1 (by omega) (by omega) fun h' tk acc c' hk hget hit => ?_
      have R' : Rel K g H h' := hR.ext hk
      obtain ⟨hK, _, hφ⟩ := hR.fresh (get?_size s.heap)
      refine k (g.freeze s.heap.objs.size _) _ _ (Gh.freeze_le R' hget) (R'.freeze hget (.inl ⟨_, _, rfl⟩) hφ (hR.notN hK)) ?_ Rest.ht
      simp only [VR]
      refine ⟨_, _, _, _, rfl, by simp [Gh.freeze]; rfl, rfl, rfl, ?_⟩
      exact VRs.ints (items_ints hit)
    · cases e
  · cases e
end
end Mine
end

section
open PySem PyProof.Rows
set_option autoImplicit false
namespace Mine

inductive Fl where
  | next
  | cont
  | ret (v : AV)
noncomputable def FlR (g : Gh) : Fl → Flow → Prop
  | .next, f => f = .next
  | .cont, f => f = .cont
  | .ret v, f => ∃ val, f = .ret val ∧ VR g v val
noncomputable abbrev DenS := List AV → List AO → Option (Fl × List AV × List AO)

noncomputable abbrev KnS (K : Addr → Option Obj) (env : Env) (nm : List Str) (g : Gh) (ρ' : List AV) (H' : List AO) (fl : Fl) (Q : Flow → Shared → Prop) (s : Shared) : Prop :=
  ∀ g' s' flow, g.Le g' → Fm K env nm ρ' g' s'.heap → Rel K g' H' s'.heap → FlR g' fl flow → Rest s s' → Q flow s'
noncomputable def SndS (X : Cx) (d : Nat) (sc : Scope) (nm : List Str) (xs : List Stmt) (f : DenS) : Prop :=
  ∀ (A : Around) (env : Env) (K : Addr → Option Obj) (g : Gh) (H : List AO) (ρ : List AV) (s : Shared) (Q : Flow → Shared → Prop) (E : Value → Shared → Prop) (fl : Fl) (ρ' : List AV) (H' : List AO),
    AOk A d → EnvI sc env → Bs X K g → Fm K env nm ρ g s.heap → Rel K g H s.heap → f ρ H = some (fl, ρ', H') → KnS K env nm g ρ' H' fl Q s → wpC (model X.prog X.w) A (execs xs env) Q E s
noncomputable def SndT (X : Cx) (d : Nat) (sc : Scope) (nm : List Str) (x : Stmt) (f : DenS) : Prop :=
  ∀ (A : Around) (env : Env) (K : Addr → Option Obj) (g : Gh) (H : List AO) (ρ : List AV) (s : Shared) (Q : Flow → Shared → Prop) (E : Value → Shared → Prop) (fl : Fl) (ρ' : List AV) (H' : List AO),
    AOk A d → EnvI sc env → Bs X K g → Fm K env nm ρ g s.heap → Rel K g H s.heap → f ρ H = some (fl, ρ', H') → KnS K env nm g ρ' H' fl Q s → wpC (model X.prog X.w) A (exec x env) Q E s
/-- an expression over clean stacks -/
noncomputable def SndC (X : Cx) (d : Nat) (sc : Scope) (nm : List Str) (x : Expr) (f : Den) : Prop :=
  ∀ (A : Around) (env : Env) (K : Addr → Option Obj) (g : Gh) (H : List AO) (ρ : List AV) (s : Shared) (Q : Value → Shared → Prop) (E : Value → Shared → Prop) (v : AV) (H' : List AO),
    AOk A d → EnvI sc env → Bs X K g → FrK K env nm ρ g → Rel K g H s.heap → f ρ H = some (v, H') → Kn K g H' v Q s → wpC (model X.prog X.w) A (eval x env) Q E s

section
variable {X : Cx} {d : Nat} {sc : Scope} {nm : List Str}

theorem SndE.c {x : Expr} {f : Den} (h : SndE X d sc nm x f) : SndC X d sc nm x f := fun A env K g H ρ s Q E v H' h1 h2 h3 h4 h5 h6 h7 => .of (h A env K g H ρ s Q E v H' h1 h2 h3 h4 h5 h6 h7)

theorem Bs.ov {K : Addr → Option Obj} {env : Env} {ρ : List AV} {g : Gh} {h : Heap} (B : Bs X K g) (F : Fm K env nm ρ g h) : Bs X (Mine.ov K env h) g := ⟨F.baseOv B.k, B.c⟩

/-- an expression within a statement -/
theorem SndC.inS {x : Expr} {f : Den} (h : SndC X d sc nm x f) {A : Around} {env : Env} {K : Addr → Option Obj} {g : Gh} {H : List AO} {ρ : List AV} {s : Shared} {Q : Value → Shared → Prop} {E : Value → Shared → Prop} {v : AV} {H' : List AO}
    (hA : AOk A d) (hE : EnvI sc env) (hB : Bs X K g) (hF : Fm K env nm ρ g s.heap) (hR : Rel K g H s.heap) (e : f ρ H = some (v, H'))
    (k : ∀ g' s' val, g.Le g' → Fm K env nm ρ g' s'.heap → Rel K g' H' s'.heap → VR g' v val → Rest s s' → Q val s') : wpC (model X.prog X.w) A (eval x env) Q E s :=
  h A env (Mine.ov K env s.heap) g H ρ s Q E v H' hA hE (hB.ov hF) hF.fr (hF.relOv hR) e fun g' s' val hg R V r => let ⟨F', R'⟩ := hF.close hR hg R; k g' s' val hg F' R' V r
theorem SndE.inS {x : Expr} {f : Den} (h : SndE X d sc nm x f) {A : Around} {env : Env} {K : Addr → Option Obj} {g : Gh} {H : List AO} {ρ : List AV} {s : Shared} {Q : Value → Shared → Prop} {E : Value → Shared → Prop} {v : AV} {H' : List AO}
    (hA : AOk A d) (hE : EnvI sc env) (hB : Bs X K g) (hF : Fm K env nm ρ g s.heap) (hR : Rel K g H s.heap) (e : f ρ H = some (v, H'))
    (k : ∀ g' s' val, g.Le g' → Fm K env nm ρ g' s'.heap → Rel K g' H' s'.heap → VR g' v val → Rest s s' → Q val s') : wpAny (model X.prog X.w) A (eval x env) Q E s :=
  h A env (Mine.ov K env s.heap) g H ρ s Q E v H' hA hE (hB.ov hF) hF.fr (hF.relOv hR) e fun g' s' val hg R V r => let ⟨F', R'⟩ := hF.close hR hg R; k g' s' val hg F' R' V r
theorem SndB.inS {x : Expr} {f : DenB} (h : SndB X d sc nm x f) {A : Around} {env : Env} {K : Addr → Option Obj} {g : Gh} {H : List AO} {ρ : List AV} {s : Shared} {Q : Bool → Shared → Prop} {E : Value → Shared → Prop} {b : Bool} {H' : List AO}
    (hA : AOk A d) (hE : EnvI sc env) (hB : Bs X K g) (hF : Fm K env nm ρ g s.heap) (hR : Rel K g H s.heap) (e : f ρ H = some (b, H'))
    (k : ∀ g' s', g.Le g' → Fm K env nm ρ g' s'.heap → Rel K g' H' s'.heap → Rest s s' → Q b s') : wpAny (model X.prog X.w) A (isTrue x env (eval x env)) Q E s :=
  h A env (Mine.ov K env s.heap) g H ρ s Q E b H' hA hE (hB.ov hF) hF.fr (hF.relOv hR) e fun g' s' hg R r => let ⟨F', R'⟩ := hF.close hR hg R; k g' s' hg F' R' r

theorem Fm.store {K : Addr → Option Obj} {env : Env} {ρ : List AV} {g : Gh} {H : List AO} {s : Shared} {n : Nat} {x : Str} {v : AV} {val : Value} {A : Around} {M : Model} {Q : Unit → Shared → Prop} {E : Value → Shared → Prop} (F : Fm K env nm ρ g s.heap) (R : Rel K g H s.heap) (hE : EnvI sc env)
    (hx : nm[n]? = some x) (hv : VR g v val) (h : ∀ h' tk, Fm K env nm (ρ.set n v) g h' → Rel K g H h' → Q () { s with heap := h', toks := tk }) : wpAny M A (storeName env x val) Q E s := by
  have hkind : env.scope.kind = .function := by rw [hE.es]; exact hE.ek
  obtain ⟨m, hn⟩ := F.ns
  rcases F.kd x (List.mem_of_getElem? hx) with hl | ⟨hl, c, hc⟩
  · refine wpAny_storeName_local hl hn (fun h' hn' hs => ?_) (by rw [hkind]; rfl)
    obtain ⟨F', R'⟩ := F.setL R hx hl hv hn hn' hs
    exact h h' _ F' R'
  · have hcm : c ∈ env.cells.map (·.2) := List.mem_map.mpr ⟨(x, c), mem_of_lookup hc, rfl⟩
    obtain ⟨v₀, hcell⟩ := F.cl c hcm
    refine wpAny_storeName_cell hkind hl hc hcell fun h' hn' hs => ?_
    obtain ⟨F', R'⟩ := F.setC R hx hl hc hv hn' hs
    exact h h' s.toks F' R'

noncomputable def sNil : DenS := fun ρ H => some (.next, ρ, H)
theorem sndS_nil : SndS X d sc nm [] sNil := by
  intro A env K g H ρ s Q E fl ρ' H' hA hE hB hF hR e k
  simp only [sNil, Option.some.injEq, Prod.mk.injEq] at e
  obtain ⟨rfl, rfl, rfl⟩ := e
  exact .of (wpAny_execs_nil (k g s _ (Gh.Le.refl g) hF hR rfl (Rest.refl s)))
noncomputable def sCons (f₁ f₂ : DenS) : DenS := fun ρ H => match f₁ ρ H with
  | some (.next, ρ₁, H₁) => f₂ ρ₁ H₁
  | r => r
theorem sndS_cons {x : Stmt} {xs : List Stmt} {f₁ f₂ : DenS} (h₁ : SndT X d sc nm x f₁) (h₂ : SndS X d sc nm xs f₂) : SndS X d sc nm (x :: xs) (sCons f₁ f₂) := by
  intro A env K g H ρ s Q E fl ρ' H' hA hE hB hF hR e k
  rw [execs_cons]
  unfold sCons at e
  split at e
  · rename_i ρ₁ H₁ e₁
    refine wpC_bind (h₁ A env K g H ρ s _ E _ _ _ hA hE hB hF hR e₁ fun g₁ s₁ fw hg₁ F₁ R₁ hf r₁ => ?_)
    have hf' : fw = .next := hf
    subst hf'
    exact h₂ A env K g₁ H₁ ρ₁ s₁ Q E fl ρ' H' hA hE (hB.mono hg₁) F₁ R₁ e fun g₂ s₂ fw hg₂ F₂ R₂ hf r₂ => k g₂ s₂ fw (hg₁.trans hg₂) F₂ R₂ hf (r₁.trans r₂)
  · rename_i r hr
    refine wpC_bind (h₁ A env K g H ρ s _ E _ _ _ hA hE hB hF hR e fun g₁ s₁ fw hg₁ F₁ R₁ hf r₁ => ?_)
    cases fl with
    | next => exact absurd e (hr _ _)
    | cont =>
      have hf' : fw = .cont := hf
      subst hf'
      exact wpC_pure (k g₁ s₁ _ hg₁ F₁ R₁ rfl r₁)
    | ret v =>
      obtain ⟨val, rfl, hv⟩ := hf
      exact wpC_pure (k g₁ s₁ _ hg₁ F₁ R₁ ⟨val, rfl, hv⟩ r₁)

noncomputable def sAsg (n : Nat) (f : Den) : DenS := fun ρ H => match f ρ H with
  | some (v, H₁) => some (.next, ρ.set n v, H₁)
  | none => none
theorem sndT_asg {n : Nat} {x : Str} {e : Expr} {p pos : Pos} {f : Den} (h : SndC X d sc nm e f) (hx : nm[n]? = some x) (hs : ∀ env, swapsWith e (some (.Name x p)) pos.line env = pure false := by intro _; rfl) : SndT X d sc nm (.Assign [.Name x p] e pos) (sAsg n f) := by
  intro A env K g H ρ s Q E fl ρ' H' hA hE hB hF hR e k
  unfold sAsg at e
  split at e
  · rename_i v H₁ e₁
    cases e
    rw [exec_Assign_Name env x p _ pos (hs env)]
    refine wpC_seq (wpAny_standAt (wpC_bind (h.inS hA hE hB hF hR e₁ fun g₁ s₁ val hg₁ F₁ R₁ V₁ r₁ => ?_)))
    refine wpC_seq (wpAny_standAt (wpC_seq (wpAny_bindName (F₁.store R₁ hE hx V₁ fun h' tk F' R' => ?_))))
    exact wpC_pure (k g₁ _ _ hg₁ F' R' rfl (r₁.trans Rest.ht))
  · cases e

noncomputable def sRet (f : Den) : DenS := fun ρ H => match f ρ H with
  | some (v, H₁) => some (.ret v, ρ, H₁)
  | none => none
theorem sndT_ret {e : Expr} {pos : Pos} {f : Den} (h : SndC X d sc nm e f) : SndT X d sc nm (.Return (some e) pos) (sRet f) := by
  intro A env K g H ρ s Q E fl ρ' H' hA hE hB hF hR e k
  unfold sRet at e
  split at e
  · rename_i v H₁ e₁
    cases e
    rw [exec_Return_some]
    refine wpC_seq (wpAny_standAt (wpC_bind (h.inS hA hE hB hF hR e₁ fun g₁ s₁ val hg₁ F₁ R₁ V₁ r₁ => ?_)))
    exact wpC_pure (k g₁ _ _ hg₁ F₁ R₁ ⟨val, rfl, V₁⟩ r₁)
  · cases e
noncomputable def sRet0 : DenS := fun ρ H => some (.ret .none, ρ, H)
theorem sndT_ret0 {pos : Pos} : SndT X d sc nm (.Return none pos) sRet0 := by
  intro A env K g H ρ s Q E fl ρ' H' hA hE hB hF hR e k
  simp only [sRet0, Option.some.injEq, Prod.mk.injEq] at e
  obtain ⟨rfl, rfl, rfl⟩ := e
  exact .of (wpAny_Return_none (k g s _ (Gh.Le.refl g) hF hR ⟨_, rfl, VR.none⟩ (Rest.refl s)))
noncomputable def sCont : DenS := fun ρ H => some (.cont, ρ, H)
theorem sndT_cont {pos : Pos} : SndT X d sc nm (.Continue pos) sCont := by
  intro A env K g H ρ s Q E fl ρ' H' hA hE hB hF hR e k
  simp only [sCont, Option.some.injEq, Prod.mk.injEq] at e
  obtain ⟨rfl, rfl, rfl⟩ := e
  exact .of (wpAny_Continue (k g s _ (Gh.Le.refl g) hF hR rfl (Rest.refl s)))

noncomputable def sIf (c : DenB) (f₁ f₂ : DenS) : DenS := fun ρ H => match c ρ H with
  | some (true, H₁) => f₁ ρ H₁
  | some (false, H₁) => f₂ ρ H₁
  | none => none
theorem sndT_if {t : Expr} {a b : List Stmt} {pos : Pos} {c : DenB} {f₁ f₂ : DenS} (h₀ : SndB X d sc nm t c) (h₁ : SndS X d sc nm a f₁) (h₂ : SndS X d sc nm b f₂) : SndT X d sc nm (.If t a b pos) (sIf c f₁ f₂) := by
  intro A env K g H ρ s Q E fl ρ' H' hA hE hB hF hR e k
  rw [exec_If]
  unfold sIf at e
  split at e
  · rename_i H₁ e₁
    refine wpC_seq (wpAny_standAt (wpC_seq (h₀.inS hA hE hB hF hR e₁ fun g₁ s₁ hg₁ F₁ R₁ r₁ => ?_)))
    rw [if_pos rfl]
    exact h₁ A env K g₁ H₁ ρ s₁ Q E fl ρ' H' hA hE (hB.mono hg₁) F₁ R₁ e fun g₂ s₂ fw hg₂ F₂ R₂ hf r₂ => k g₂ s₂ fw (hg₁.trans hg₂) F₂ R₂ hf (r₁.trans r₂)
  · rename_i H₁ e₁
    refine wpC_seq (wpAny_standAt (wpC_seq (h₀.inS hA hE hB hF hR e₁ fun g₁ s₁ hg₁ F₁ R₁ r₁ => ?_)))
    rw [if_neg Bool.false_ne_true]
    exact h₂ A env K g₁ H₁ ρ s₁ Q E fl ρ' H' hA hE (hB.mono hg₁) F₁ R₁ e fun g₂ s₂ fw hg₂ F₂ R₂ hf r₂ => k g₂ s₂ fw (hg₁.trans hg₂) F₂ R₂ hf (r₁.trans r₂)
  · cases e

/-- name op= expression, over ints and over bools for ^ -/
noncomputable def augV (o : BOp) (a b : AV) : Option AV := match a, b with
  | .int a, .int b => (bInt o a b).map .int
  | .bool a, .bool b => match o with
    | .bxor => some (.bool (a != b))
    | _ => none
  | _, _ => none
noncomputable def sAug (n : Nat) (o : BOp) (f : Den) : DenS := fun ρ H => match dLoc n ρ H with
  | some (a, H₀) => match f ρ H₀ with
    | some (b, H₁) => match augV o a b with
      | some v => some (.next, ρ.set n v, H₁)
      | none => none
    | none => none
  | none => none
theorem sndT_aug {n : Nat} {o : BOp} {x : Str} {e : Expr} {p pos : Pos} {f : Den} (h : SndE X d sc nm e f) (hx : nm[n]? = some x) (hd2 : (x == ("__classdict__" : Str)) = false := by decide) : SndT X d sc nm (.AugAssign (.Name x p) o.op e pos) (sAug n o f) := by
  intro A env K g H ρ s Q E fl ρ' H' hA hE hB hF hR e k
  unfold sAug at e
  split at e
  · rename_i a H₀ e₀
    split at e
    · rename_i b H₁ e₁
      split at e
      · rename_i v e₂
        cases e
        unfold dLoc at e₀
        cases hρ : ρ[n]? with
        | none => rw [hρ] at e₀; cases e₀
        | some a' =>
          rw [hρ] at e₀
          by_cases hu : a'.isUnd = true
          · simp [hu] at e₀
          · simp only [hu] at e₀
            cases e₀
            have hv : a ≠ .und := fun q => hu (by rw [q]; rfl)
            obtain ⟨val, hld, hvr⟩ := hF.fr n x a hx hρ hv
            refine .of (wpAny_AugAssign_Name (ld_loads hE (hF.relOv hR).kept hld ?_ hd2))
            refine h.inS hA hE hB hF hR e₁ fun g₁ s₁ vb hg₁ F₁ R₁ V₁ r₁ => ?_
            have hvr1 := hvr.mono hg₁
            unfold augV at e₂
            split at e₂
            · simp only [Option.map_eq_some_iff] at e₂
              obtain ⟨c, hc, rfl⟩ := e₂
              simp only [VR] at hvr1 V₁
              obtain ⟨t, rfl⟩ := hvr1
              obtain ⟨u, rfl⟩ := V₁
              refine bIntI_ok hc fun t' k' => ?_
              exact Fm.store (s := { s₁ with toks := k' }) F₁ R₁ hE hx VR.int fun h' tk F' R' => k g₁ _ _ hg₁ F' R' rfl (r₁.trans Rest.ht)
            · simp only [VR] at hvr1 V₁
              subst hvr1 V₁
              cases o <;> try (cases e₂)
              refine ixor_bool ?_
              exact Fm.store F₁ R₁ hE hx VR.bool fun h' tk F' R' => k g₁ _ _ hg₁ F' R' rfl (r₁.trans Rest.ht)
            · cases e₂
      · cases e
    · cases e
  · cases e
end
end Mine
end

section
open PySem PyProof.Rows
set_option autoImplicit false
namespace Mine

/-- what a for goes over -/
noncomputable def itemsOf : AV → Option (List AV)
  | .tup xs => some xs
  | .lst xs => some xs
  | .rng a b c => if Builtin.Range.small a b c = true ∧ 0 ≤ Builtin.Range.rangeSize a b c then some ((rngInts a b c).map .int) else none
  | _ => none

/-- an iterator that goes over xs -/
structure Itr (X : Cx) (A : Around) (g : Gh) (I : Addr) (xs : List AV) (St : Nat → Heap → Prop) : Prop where
  ob : ∀ i h, St i h → ∃ o n vs, h.get? I = some o ∧ o.cls = .type n ∧ o.data = .fields vs ∧ (n = "list_iterator" ∨ n = "tuple_iterator" ∨ n = "range_iterator")
  move : ∀ i h h', St i h → (∀ o, h.get? I = some o → h'.get? I = some o) → (∀ b o, g.C b = some o → h.get? b = some o) → (∀ b o, g.C b = some o → h'.get? b = some o) → St i h'
  item : ∀ i x (s : Shared) (Q : Option Value → Shared → Prop) (E : Value → Shared → Prop), xs[i]? = some x → St i s.heap →
    (∀ v h' tk, VR g x v → St (i + 1) h' → (∀ b o, b ≠ I → s.heap.get? b = some o → h'.get? b = some o) → Q (some v) { s with heap := h', toks := tk }) → wpAny (model X.prog X.w) A (pyNext (.ref I)) Q E s
  done : ∀ (s : Shared) (Q : Option Value → Shared → Prop) (E : Value → Shared → Prop), St xs.length s.heap →
    (∀ h' tk, (∀ b o, b ≠ I → s.heap.get? b = some o → h'.get? b = some o) → Q none { s with heap := h', toks := tk }) → wpAny (model X.prog X.w) A (pyNext (.ref I)) Q E s
  self : ∀ i (s : Shared) (Q : Value → Shared → Prop) (E : Value → Shared → Prop), St i s.heap → Q (.ref I) s → wpAny (model X.prog X.w) A (pyIter (.ref I)) Q E s

section
variable {X : Cx} {d : Nat} {sc : Scope} {nm : List Str}

theorem Itr.of {A : Around} {g : Gh} {I : Addr} {xs : List AV} {St : Nat → Heap → Prop} {fp : List Addr} {n : Nat} {P : Nat → Value → Prop} (W : Walks X.prog X.w A I fp [I] n P St) (hn : n = xs.length)
    (hfp : ∀ b ∈ fp, b = I ∨ ∃ o, g.C b = some o) (hP : ∀ i v x, xs[i]? = some x → P i v → VR g x v)
    (ob : ∀ i h, St i h → ∃ o n vs, h.get? I = some o ∧ o.cls = .type n ∧ o.data = .fields vs ∧ (n = "list_iterator" ∨ n = "tuple_iterator" ∨ n = "range_iterator")) : Itr X A g I xs St where
  ob := ob
  move := fun i h h' st hI hg hg' => W.frame i h h' st fun b hb o e => by
    rcases hfp b hb with rfl | ⟨o', e'⟩
    · exact hI o e
    · have hq := hg b o' e'
      rw [e] at hq
      have hq' : o = o' := Option.some.inj hq
      rw [hq']; exact hg' b o' e'
  item := fun i x s Q E hx st hQ => W.item i s Q E (by rw [hn]; exact (List.getElem?_eq_some_iff.mp hx).1) st fun v h' tk hp st' hk => hQ v h' tk (hP i v x hx hp) st' fun b o hb e => hk b o (by simpa using hb) e
  done := fun s Q E st hQ => W.done s Q E (by rw [hn]; exact st) fun h' tk hk => hQ h' tk fun b o hb e => hk b o (by simpa using hb) e
  self := W.self

theorem iter_ok {K : Addr → Option Obj} {g : Gh} {H : List AO} {a : AV} {xs : List AV} {va : Value} {A : Around} {s : Shared} {Q : Value → Shared → Prop} {E : Value → Shared → Prop} (hA : AOk A d) (e : itemsOf a = some xs) (R : Rel K g H s.heap) (ha : VR g a va)
    (k : ∀ I St h', Itr X A g I xs St → St 0 h' → s.heap.get? I = none → Rel K g H h' → (∀ b o, s.heap.get? b = some o → h'.get? b = some o) → Q (.ref I) { s with heap := h' }) :
    wpAny (model X.prog X.w) A (pyIter va) Q E s := by
  have keep : ∀ (o : Obj) b o', s.heap.get? b = some o' → (s.heap.push o).get? b = some o' := fun o b o' e => Heap.get?_push_of_some _ e
  cases a with
  | tup ys =>
    simp only [itemsOf, Option.some.injEq] at e
    subst e
    simp only [VR] at ha
    obtain ⟨t, o, items, n, rfl, hC, hc, hd, hi⟩ := ha
    have ho := (R.frz _ _ hC).1
    have hT : s.heap.IsTuple t items := ⟨o, ho, hc, n, hd⟩
    have hne : t ≠ s.heap.objs.size := Nat.ne_of_lt (Heap.lt_size ho)
    refine wpAny_pyIter_tuple hT (k _ _ _ (Itr.of (Walks.tuple hA.hd s.heap.objs.size t hne items) (by rw [← Array.length_toList]; exact hi.length) (fun b hb => ?_) (fun i v x hx hp => ?_) ?_) ⟨⟨_, Heap.get?_push_size _ rfl, rfl, rfl⟩, hT.push _⟩ (get?_size _) (R.ext (keep _)) (keep _))
    · simp at hb; rcases hb with rfl | rfl
      · exact .inl rfl
      · exact .inr ⟨o, hC⟩
    · obtain ⟨v', e', h'⟩ := hi.get hx
      rw [Array.getElem?_toList, hp] at e'; cases e'; exact h'
    · rintro i h ⟨⟨o, h1, h2, h3⟩, _⟩; exact ⟨o, _, _, h1, h2, h3, .inr (.inl rfl)⟩
  | lst ys =>
    simp only [itemsOf, Option.some.injEq] at e
    subst e
    simp only [VR] at ha
    obtain ⟨t, o, items, n, rfl, hC, hc, hd, hi⟩ := ha
    have ho := (R.frz _ _ hC).1
    have hT : s.heap.IsList t items := ⟨o, ho, hc, n, hd⟩
    have hne : t ≠ s.heap.objs.size := Nat.ne_of_lt (Heap.lt_size ho)
    refine wpAny_pyIter_list hT (k _ _ _ (Itr.of (Walks.list hA.hd s.heap.objs.size t hne items) (by rw [← Array.length_toList]; exact hi.length) (fun b hb => ?_) (fun i v x hx hp => ?_) ?_) ⟨⟨_, Heap.get?_push_size _ rfl, rfl, rfl⟩, hT.push _⟩ (get?_size _) (R.ext (keep _)) (keep _))
    · simp at hb; rcases hb with rfl | rfl
      · exact .inl rfl
      · exact .inr ⟨o, hC⟩
    · obtain ⟨v', e', h'⟩ := hi.get hx
      rw [Array.getElem?_toList, hp] at e'; cases e'; exact h'
    · rintro i h ⟨⟨o, h1, h2, h3⟩, _⟩; exact ⟨o, _, _, h1, h2, h3, .inl rfl⟩
  | rng a b c =>
    simp only [itemsOf] at e
    split at e
    · rename_i hs
      cases e
      simp only [VR] at ha
      obtain ⟨r, t, u, z, rfl, hC⟩ := ha
      refine wpAny_pyIter_range (R.frz _ _ hC).1 hs.1 (k _ _ _ (Itr.of (Walks.range hA.hd s.heap.objs.size a c (Builtin.Range.rangeSize a b c).toNat) (by simp [rngInts]) (fun b hb => ?_) (fun i v x hx hp => ?_) ?_) ?_ (get?_size _) (R.ext (keep _)) (keep _))
      · simp at hb; exact .inl hb
      · obtain ⟨t', rfl⟩ := hp
        unfold rngInts at hx
        simp only [List.getElem?_map, Option.map_eq_some_iff] at hx
        obtain ⟨_, ⟨j, hj, rfl⟩, rfl⟩ := hx
        have : j = i := by
          rw [List.getElem?_eq_some_iff] at hj
          obtain ⟨_, hj⟩ := hj
          simpa using hj.symm
        subst this
        exact VR.int
      · intro i h h1; exact ⟨_, _, _, h1, rfl, rfl, .inr (.inr rfl)⟩
      · show Heap.get? _ _ = _
        rw [Heap.get?_push_size _ rfl]
        have h1 : a + ((0 : Nat) : Int) * c = a := by simp
        have h2 : ((Builtin.Range.rangeSize a b c).toNat : Int) - ((0 : Nat) : Int) = Builtin.Range.rangeSize a b c := by rw [Int.toNat_of_nonneg hs.2]; simp
        rw [h1, h2]
    · cases e
  | _ => cases e

theorem lotg_ok {A : Around} {s : Shared} {Q : Unit → Shared → Prop} {E : Value → Shared → Prop} {target : Expr} {I : Addr} {v : Value} {o : Obj} {n : String} {vs : Array Value} {M : Model} (ho : s.heap.get? I = some o) (hc : o.cls = .type n) (hd : o.data = .fields vs)
    (hn : n = "list_iterator" ∨ n = "tuple_iterator" ∨ n = "range_iterator") (hQ : Q () s) : wpAny M A (letOwnedTupleGo target (.ref I) v) Q E s := by
  have key : wpAny M A (do
      let (.ref r, .ref a) := (Value.ref I, v) | return
      let o ← load r
      match o.cls, o.data with
      | .type n, .fields vs =>
        if ["enumerate", "zip", "dict_itemiterator", "dict_reverseitemiterator", "odict_iterator", "itertools.zip_longest", "itertools.pairwise"].contains n && vs[0]? == some (rawInt a) then
          rule "for.unpacks-the-owned-tuple"
          updateField r 0 .none
      | _, _ => pure ()) Q E s := by
    cases v with
    | ref T =>
      refine wpAny_bind (wpAny_load ho ?_)
      rw [hc, hd]
      have h0 : (["enumerate", "zip", "dict_itemiterator", "dict_reverseitemiterator", "odict_iterator", "itertools.zip_longest", "itertools.pairwise"].contains n) = false := by
        rcases hn with rfl | rfl | rfl <;> decide
      dsimp only
      rw [if_neg (by rw [h0, Bool.false_and]; exact Bool.false_ne_true)]
      exact wpAny_pure hQ
    | _ => exact wpAny_pure hQ
  unfold letOwnedTupleGo
  split
  · exact key
  · exact key
  · exact wpAny_pure hQ

/-- a kept map with one object more -/
noncomputable def K1 (K : Addr → Option Obj) (I : Addr) (o : Obj) : Addr → Option Obj := fun a => if a = I then some o else K a

theorem Rel.addI {K : Addr → Option Obj} {g : Gh} {H : List AO} {h : Heap} {I : Addr} {o : Obj} (R : Rel K g H h) (ho : h.get? I = some o) (hφ : I ∉ g.φ) : Rel (K1 K I o) g H h where
  kept := fun a o' e => by
    unfold K1 at e
    split at e
    · rename_i q; subst q; cases e; exact ho
    · exact R.kept a o' e
  frz := R.frz
  trk := R.trk
  len := R.len
  nod := R.nod
  ap := fun a ha => ⟨(R.ap a ha).1, by
    unfold K1
    rw [if_neg (by rintro rfl; exact hφ ha)]
    exact (R.ap a ha).2⟩
  rs := fun a ha => ⟨(R.rs a ha).1, by
    unfold K1
    split
    · exact ⟨o, rfl⟩
    · exact (R.rs a ha).2⟩
theorem Rel.delI {K : Addr → Option Obj} {g : Gh} {H : List AO} {h : Heap} {I : Addr} {o : Obj} (R : Rel (K1 K I o) g H h) (hK : K I = none) (hN : I ∉ g.N) : Rel K g H h ∧ h.get? I = some o ∧ I ∉ g.φ := by
  have hI : h.get? I = some o := R.kept I o (by unfold K1; rw [if_pos rfl])
  have hφ : I ∉ g.φ := fun hm => by have := (R.ap I hm).2; unfold K1 at this; rw [if_pos rfl] at this; cases this
  have kk : ∀ a o', K a = some o' → K1 K I o a = some o' := fun a o' e => by
    unfold K1; rw [if_neg]
    · exact e
    · rintro rfl; rw [hK] at e; cases e
  refine ⟨⟨fun a o' e => R.kept a o' (kk a o' e), R.frz, R.trk, R.len, R.nod, fun a ha => ⟨(R.ap a ha).1, ?_⟩, fun a ha => ⟨(R.rs a ha).1, ?_⟩⟩, hI, hφ⟩
  rotate_left
  · obtain ⟨_, o', e⟩ := R.rs a ha
    unfold K1 at e
    rw [if_neg (by rintro rfl; exact hN ha)] at e
    exact ⟨o', e⟩
  cases e : K a with
  | none => rfl
  | some o' => have := (R.ap a ha).2; rw [kk a o' e] at this; cases this
theorem Bs.addI {K : Addr → Option Obj} {g : Gh} {I : Addr} {o : Obj} (B : Bs X K g) (hK : K I = none) : Bs X (K1 K I o) g := ⟨fun a o' e => by
  unfold K1; rw [if_neg]
  · exact B.k a o' e
  · rintro rfl; rw [B.k _ _ e] at hK; exact absurd hK (by simp), B.c⟩
theorem Fm.chK {K K' : Addr → Option Obj} {env : Env} {ρ : List AV} {g : Gh} {h : Heap} (F : Fm K env nm ρ g h) (hL : K' env.locals = none) (hc : ∀ c ∈ env.cells.map (·.2), K' c = none) : Fm K' env nm ρ g h where
  fr := fun n x v e1 e2 e3 => by
    obtain ⟨val, hl, hv⟩ := F.fr n x v e1 e2 e3
    refine ⟨val, ?_, hv⟩
    rcases hl with ⟨hk, o, es, ep, ho, r⟩ | ⟨hk, c, o, hc, ho, r⟩
    · refine .inl ⟨hk, o, es, ep, ?_, r⟩
      unfold ov at ho ⊢
      rw [if_pos (.inl rfl)] at ho ⊢; exact ho
    · have hcm : c ∈ env.cells.map (·.2) := List.mem_map.mpr ⟨(x, c), mem_of_lookup hc, rfl⟩
      refine .inr ⟨hk, c, o, hc, ?_, r⟩
      unfold ov at ho ⊢
      rw [if_pos (.inr hcm)] at ho ⊢; exact ho
  ns := F.ns
  kL := hL
  cl := F.cl
  kc := hc
  lc := F.lc
  ap := F.ap
  kd := F.kd
  nd := F.nd
  ln := F.ln
theorem Fm.notI {K : Addr → Option Obj} {env : Env} {ρ : List AV} {g : Gh} {h : Heap} {I : Addr} (F : Fm K env nm ρ g h) (hI : h.get? I = none) : I ≠ env.locals ∧ I ∉ env.cells.map (·.2) := by
  refine ⟨?_, fun hm => ?_⟩
  · rintro rfl; obtain ⟨m, o, es, ep, e, _⟩ := F.ns; rw [e] at hI; cases hI
  · obtain ⟨v, o, e, _⟩ := F.cl I hm; rw [e] at hI; cases hI
theorem Fm.addI {K : Addr → Option Obj} {env : Env} {ρ : List AV} {g : Gh} {h : Heap} {I : Addr} {o : Obj} (F : Fm K env nm ρ g h) (hI : I ≠ env.locals ∧ I ∉ env.cells.map (·.2)) : Fm (K1 K I o) env nm ρ g h :=
  F.chK (by unfold K1; rw [if_neg (Ne.symm hI.1)]; exact F.kL) fun c hc => by unfold K1; rw [if_neg (by rintro rfl; exact hI.2 hc)]; exact F.kc c hc
theorem Fm.delI {K : Addr → Option Obj} {env : Env} {ρ : List AV} {g : Gh} {h : Heap} {I : Addr} {o : Obj} (F : Fm (K1 K I o) env nm ρ g h) (hK : K I = none) : Fm K env nm ρ g h :=
  F.chK (by have := F.kL; unfold K1 at this; split at this; · cases this
            · exact this) fun c hc => by
    have := F.kc c hc; unfold K1 at this; split at this
    · cases this
    · exact this
/-- a change at one object that is no part of the frame -/
theorem Fm.keeps {K : Addr → Option Obj} {env : Env} {ρ : List AV} {g : Gh} {h h' : Heap} {I : Addr} (F : Fm K env nm ρ g h) (hI : I ≠ env.locals ∧ I ∉ env.cells.map (·.2)) (hk : ∀ b o, b ≠ I → h.get? b = some o → h'.get? b = some o) : Fm K env nm ρ g h' where
  fr := fun n x v e1 e2 e3 => by
    obtain ⟨val, hl, hv⟩ := F.fr n x v e1 e2 e3
    refine ⟨val, ?_, hv⟩
    rcases hl with ⟨hkd, o, es, ep, ho, r⟩ | ⟨hkd, c, o, hc, ho, r⟩
    · refine .inl ⟨hkd, o, es, ep, ?_, r⟩
      unfold ov at ho ⊢
      rw [if_pos (.inl rfl)] at ho ⊢; exact hk _ _ (Ne.symm hI.1) ho
    · have hcm : c ∈ env.cells.map (·.2) := List.mem_map.mpr ⟨(x, c), mem_of_lookup hc, rfl⟩
      refine .inr ⟨hkd, c, o, hc, ?_, r⟩
      unfold ov at ho ⊢
      rw [if_pos (.inr hcm)] at ho ⊢; exact hk _ _ (by rintro rfl; exact hI.2 hcm) ho
  ns := by obtain ⟨m, o, es, ep, e, r⟩ := F.ns; exact ⟨m, o, es, ep, hk _ _ (Ne.symm hI.1) e, r⟩
  kL := F.kL
  cl := fun c hc => by obtain ⟨v, o, e, r⟩ := F.cl c hc; exact ⟨v, o, hk _ _ (by rintro rfl; exact hI.2 hc) e, r⟩
  kc := F.kc
  lc := F.lc
  ap := F.ap
  kd := F.kd
  nd := F.nd
  ln := F.ln
theorem Fm.ext {K : Addr → Option Obj} {env : Env} {ρ : List AV} {g : Gh} {h h' : Heap} (F : Fm K env nm ρ g h) (hk : ∀ b o, h.get? b = some o → h'.get? b = some o) : Fm K env nm ρ g h' := by
  obtain ⟨a, ha⟩ : ∃ a, a = h.objs.size := ⟨_, rfl⟩
  exact F.keeps (F.notI (ha ▸ get?_size h)) fun b o _ e => hk b o e
theorem Fm.mono {K : Addr → Option Obj} {env : Env} {ρ : List AV} {g g' : Gh} {h : Heap} (F : Fm K env nm ρ g h) (hg : g.Le g') : Fm K env nm ρ g' h :=
  ⟨F.fr.mono hg, F.ns, F.kL, F.cl, F.kc, F.lc, F.ap, F.kd, F.nd, F.ln⟩

/-! targets -/
noncomputable abbrev DenT := List AV → AV → Option (List AV)
noncomputable def SndTg (X : Cx) (d : Nat) (sc : Scope) (nm : List Str) (target : Expr) (st : DenT) : Prop :=
  ∀ (A : Around) (env : Env) (K : Addr → Option Obj) (g : Gh) (H : List AO) (ρ ρ' : List AV) (s : Shared) (Q : Unit → Shared → Prop) (E : Value → Shared → Prop) (x : AV) (v : Value),
    AOk A d → EnvI sc env → Fm K env nm ρ g s.heap → Rel K g H s.heap → VR g x v → st ρ x = some ρ' →
    (∀ h' tk, Fm K env nm ρ' g h' → Rel K g H h' → (∀ b o, (K b = some o ∨ g.C b = some o) → s.heap.get? b = some o → h'.get? b = some o) → Q () { s with heap := h', toks := tk }) → wpAny (model X.prog X.w) A (assign target env v) Q E s
noncomputable def tgN (n : Nat) : DenT := fun ρ x => some (ρ.set n x)
theorem sndTg_name {n : Nat} {x : Str} {p : Pos} (hx : nm[n]? = some x) : SndTg X d sc nm (.Name x p) (tgN n) := by
  intro A env K g H ρ ρ' s Q E x v hA hE hF hR hv e k
  cases e
  refine wpAny_assign_Name (hF.store hR hE hx hv fun h' tk F' R' => k h' tk F' R' fun b o hb e => ?_)
  rcases hb with hb | hb
  · exact R'.kept _ _ hb
  · exact (R'.frz _ _ hb).1

noncomputable def tgEach : List Nat → List AV → List AV → Option (List AV)
  | [], ρ, [] => some ρ
  | n :: ns, ρ, x :: xs => tgEach ns (ρ.set n x) xs
  | _, _, _ => none
noncomputable def tgT (ns : List Nat) : DenT := fun ρ x => match x with
  | .tup xs => tgEach ns ρ xs
  | _ => none
noncomputable def NamesAt (nm : List Str) : List Nat → List Expr → Prop
  | [], es => es = []
  | n :: ns, es => ∃ x p r, es = .Name x p :: r ∧ nm[n]? = some x ∧ NamesAt nm ns r
theorem namesAt_len {ns : List Nat} {env : Env} : ∀ {es : List Expr}, NamesAt nm ns es → (assignEach es env).length = ns.length ∧ (assignEach es env).findIdx? (·.1) = none := by
  induction ns with
  | nil => intro es h; simp only [NamesAt] at h; subst h; exact ⟨rfl, rfl⟩
  | cons n ns ih =>
    intro es h
    simp only [NamesAt] at h
    obtain ⟨x, p, r, rfl, _, h⟩ := h
    obtain ⟨h1, h2⟩ := ih h
    refine ⟨?_, ?_⟩
    · show (assignEach r env).length + 1 = _; rw [h1]; rfl
    · show List.findIdx? _ ((false, assign (.Name x p) env) :: assignEach r env) = none
      rw [List.findIdx?_cons]; simp [h2]
theorem tgEach_len : ∀ {ns : List Nat} {ρ xs ρ' : List AV}, tgEach ns ρ xs = some ρ' → xs.length = ns.length
  | [], _, [], _, _ => rfl
  | _ :: ns, _, _ :: xs, _, e => by simp only [tgEach] at e; simp [tgEach_len e]
  | [], _, _ :: _, _, e => by simp [tgEach] at e
  | _ :: _, _, [], _, e => by simp [tgEach] at e
theorem tgEach_ok {A : Around} {env : Env} {K : Addr → Option Obj} {g : Gh} {H : List AO} (hE : EnvI sc env) {Q : Unit → Shared → Prop} {E : Value → Shared → Prop} : ∀ {ns : List Nat} {es : List Expr} {ρ ρ' : List AV} {xs : List AV} {vs : List Value} {s : Shared},
    NamesAt nm ns es → Fm K env nm ρ g s.heap → Rel K g H s.heap → VRs g xs vs → tgEach ns ρ xs = some ρ' → (∀ h' tk, Fm K env nm ρ' g h' → Rel K g H h' → Q () { s with heap := h', toks := tk }) →
    wpAny (model X.prog X.w) A (assignInOrder ((assignEach es env).map (·.2)) vs) Q E s
  | [], es, ρ, ρ', xs, vs, s, hn, hF, hR, hv, e, k => by
    simp only [NamesAt] at hn
    subst hn
    cases xs with
    | nil => simp only [tgEach, Option.some.injEq] at e; subst e; exact wpAny_pure (k s.heap s.toks hF hR)
    | cons x xs => simp [tgEach] at e
  | n :: ns, es, ρ, ρ', xs, vs, s, hn, hF, hR, hv, e, k => by
    simp only [NamesAt] at hn
    obtain ⟨x, p, r, rfl, hx, hn⟩ := hn
    cases xs with
    | nil => simp [tgEach] at e
    | cons y ys =>
      simp only [tgEach] at e
      simp only [VRs] at hv
      obtain ⟨v, vs', rfl, h1, h2⟩ := hv
      refine assignInOrder_cons (t := assign (.Name x p) env) (ts := (assignEach r env).map (·.2)) (wpAny_assign_Name (hF.store hR hE hx h1 fun h' tk F' R' => ?_))
      exact tgEach_ok (s := { s with heap := h', toks := tk }) hE hn F' R' h2 e fun h'' tk' F'' R'' => k h'' tk' F'' R''
theorem sndTg_tup {ns : List Nat} {es : List Expr} {kk : Nat} {p : Pos} (hn : NamesAt nm ns es) : SndTg X d sc nm (.Tuple es kk p) (tgT ns) := by
  intro A env K g H ρ ρ' s Q E x v hA hE hF hR hv e k
  cases x with
  | tup xs =>
    simp only [tgT] at e
    simp only [VR] at hv
    obtain ⟨t, o, items, n, rfl, hC, hc, hd, hi⟩ := hv
    obtain ⟨l1, l2⟩ := namesAt_len (env := env) hn
    have hl := hi.length
    rw [tgEach_len e] at hl
    refine wpAny_assign_Tuple hA.hd ⟨o, (hR.frz _ _ hC).1, hc, n, hd⟩ (by rw [l1, ← hl]; simp) l2 fun h' hx => ?_
    have hk : ∀ b o, s.heap.get? b = some o → h'.get? b = some o := fun b o e => hx b o (Nat.ne_of_lt (Heap.lt_size e)) e
    refine tgEach_ok (s := { s with heap := h' }) hE hn (hF.ext hk) (hR.ext hk) hi e fun h'' tk F' R' => k h'' tk F' R' fun b o hb e => ?_
    rcases hb with hb | hb
    · exact R'.kept _ _ hb
    · exact (R'.frz _ _ hb).1
  | _ => simp [tgT] at e

/-- the turns of a for: st says how the target takes the item -/
noncomputable def forGo (st : DenT) (body : DenS) : List AV → List AV → List AO → Option (Fl × List AV × List AO)
  | [], ρ, H => some (.next, ρ, H)
  | x :: xs, ρ, H => match st ρ x with
    | some ρ₀ => match body ρ₀ H with
      | some (.next, ρ₁, H₁) => forGo st body xs ρ₁ H₁
      | some (.cont, ρ₁, H₁) => forGo st body xs ρ₁ H₁
      | some (.ret v, ρ₁, H₁) => some (.ret v, ρ₁, H₁)
      | none => none
    | none => none
noncomputable def sFor (st : DenT) (it : Den) (body : DenS) : DenS := fun ρ H => match it ρ H with
  | some (a, H₁) => match itemsOf a with
    | some xs => forGo st body xs ρ H₁
    | none => none
  | none => none

theorem notFD {o : Obj} {n : String} {vs : Array Value} (hc : o.cls = .type n) (hd : o.data = .fields vs) (hn : n = "list_iterator" ∨ n = "tuple_iterator" ∨ n = "range_iterator") : ¬ FD o := by
  rintro (⟨i, m, h⟩ | ⟨h, _⟩)
  · rw [hd] at h; cases h
  · rw [hc] at h; rcases hn with rfl | rfl | rfl <;> simp at h

theorem sndT_for {target iter : Expr} {body : List Stmt} {pos : Pos} {st : DenT} {it : Den} {f : DenS} (ht : SndTg X d sc nm target st) (hi : SndE X d sc nm iter it) (hb : SndS X d sc nm body f)
    (hs : ∀ env x, foldedSetIterable iter env x = pure x := by intro _ _; rfl) : SndT X d sc nm (.For target iter body [] pos) (sFor st it f) := by
  intro A env K g H ρ s Q E fl ρ' H' hA hE hB hF hR e k
  unfold sFor at e
  split at e
  · rename_i a H₁ e₁
    split at e
    · rename_i xs e₂
      refine wpC_For (hi.inS hA hE hB hF hR e₁ fun g₁ s₁ va hg₁ F₁ R₁ V₁ r₁ => iter_ok hA e₂ R₁ V₁ fun I St h₂ hI hSt hfr R₂ hk₂ => ?_) (hs env)
      have F₂ := F₁.ext hk₂
      have hIn := F₁.notI hfr
      obtain ⟨hKI, hCI, hφI⟩ := R₁.fresh hfr
      refine codeC_forLoop (fun n s' => ∃ i g' ρ₂ H₂, n = xs.length - i ∧ i ≤ xs.length ∧ g₁.Le g' ∧ St i s'.heap ∧ Fm K env nm ρ₂ g' s'.heap ∧ Rel K g' H₂ s'.heap ∧ I ∉ g'.φ ∧ Rest s s' ∧ forGo st f (xs.drop i) ρ₂ H₂ = some (fl, ρ', H')) ?_ xs.length
        ⟨0, g₁, ρ, H₁, by simp, Nat.zero_le _, Gh.Le.refl _, hSt, F₂, R₂, hφI, r₁.trans Rest.h, by simpa using e⟩
      rintro n s' ⟨i, g', ρ₂, H₂, rfl, hi', hg', hSt', F', R', hφ', r', e'⟩
      have frz' : ∀ b o, g₁.C b = some o → s'.heap.get? b = some o := fun b o h => (R'.frz _ _ (hg'.C _ _ h)).1
      obtain ⟨oI, nI, vI, ho, hc, hd, hn⟩ := hI.ob _ _ hSt'
      have hCI' : g'.C I = none := by
        cases q : g'.C I with
        | none => rfl
        | some o' => have := R'.frz I o' q; rw [ho] at this; obtain ⟨q1, q2⟩ := this; cases q1; exact absurd q2 (notFD hc hd hn)
      by_cases hlt : i < xs.length
      · refine hI.item i xs[i] s' _ _ (List.getElem?_eq_getElem hlt) hSt' fun v h₃ tk₃ V₃ St₃ hk₃ => ?_
        rw [List.drop_eq_getElem_cons hlt] at e'
        unfold forGo at e'
        split at e'
        · rename_i ρ₀ eρ
          obtain ⟨oJ, nJ, vJ, hoJ, hcJ, hdJ, hnJ⟩ := hI.ob _ _ St₃
          have R₃ : Rel K g' H₂ h₃ := R'.but hKI hCI' hφ' hk₃
          have F₃ : Fm K env nm ρ₂ g' h₃ := F'.keeps hIn hk₃
          have frz₃ : ∀ b o, g₁.C b = some o → h₃.get? b = some o := fun b o h => (R₃.frz _ _ (hg'.C _ _ h)).1
          have R₃' : Rel (K1 K I oJ) g' H₂ h₃ := R₃.addI hoJ hφ'
          have F₃' : Fm (K1 K I oJ) env nm ρ₂ g' h₃ := F₃.addI hIn
          refine lotg_ok (s := { s' with heap := h₃, toks := tk₃ }) hoJ hcJ hdJ hnJ ?_
          refine ht A env (K1 K I oJ) g' H₂ ρ₂ ρ₀ { s' with heap := h₃, toks := tk₃ } _ _ xs[i] v hA hE F₃' R₃' (V₃.mono hg') eρ fun h₄ tk₄ F₄ R₄ _ => ?_
          have hB' : Bs X (K1 K I oJ) g' := (hB.mono (hg₁.trans hg')).addI hKI
          have step : ∀ (fl' : Fl) (ρ₅ : List AV) (H₅ : List AO), f ρ₀ H₂ = some (fl', ρ₅, H₅) → ∀ (Q' : Flow → Shared → Prop) (E' : Value → Shared → Prop),
              (∀ g₅ s₅ flow, g'.Le g₅ → St (i + 1) s₅.heap → Fm K env nm ρ₅ g₅ s₅.heap → Rel K g₅ H₅ s₅.heap → I ∉ g₅.φ → FlR g₅ fl' flow → Rest s s₅ → Q' flow s₅) →
              wpC (model X.prog X.w) A (execs body env) Q' E' { s' with heap := h₄, toks := tk₄ } := fun fl' ρ₅ H₅ ef Q' E' k' =>
            hb A env (K1 K I oJ) g' H₂ ρ₀ { s' with heap := h₄, toks := tk₄ } Q' E' fl' ρ₅ H₅ hA hE hB' F₄ R₄ ef fun g₅ s₅ flow hg₅ F₅ R₅ hfl r₅ => by
              obtain ⟨R₆, hI₆, hφ₆⟩ := R₅.delI hKI (by rw [hg₅.N]; exact R₃.notN hKI)
              refine k' g₅ s₅ flow hg₅ (hI.move _ h₃ _ St₃ (fun o e => ?_) frz₃ fun b o h => (R₆.frz _ _ (hg₅.C _ _ (hg'.C _ _ h))).1) (F₅.delI hKI) R₆ hφ₆ hfl ((r'.trans Rest.ht).trans r₅)
              rw [hoJ] at e; cases e; exact hI₆
          split at e'
          · rename_i ρ₅ H₅ ef
            refine step .next ρ₅ H₅ ef _ _ fun g₅ s₅ flow hg₅ St₅ F₅ R₅ hφ₅ hfl r₅ => ?_
            have : flow = .next := hfl
            subst this
            exact ⟨xs.length - (i + 1), by omega, i + 1, g₅, ρ₅, H₅, rfl, hlt, hg'.trans hg₅, St₅, F₅, R₅, hφ₅, r₅, e'⟩
          · rename_i ρ₅ H₅ ef
            refine step .cont ρ₅ H₅ ef _ _ fun g₅ s₅ flow hg₅ St₅ F₅ R₅ hφ₅ hfl r₅ => ?_
            have : flow = .cont := hfl
            subst this
            exact ⟨xs.length - (i + 1), by omega, i + 1, g₅, ρ₅, H₅, rfl, hlt, hg'.trans hg₅, St₅, F₅, R₅, hφ₅, r₅, e'⟩
          · rename_i vv ρ₅ H₅ ef
            cases e'
            refine step (.ret vv) _ _ ef _ _ fun g₅ s₅ flow hg₅ St₅ F₅ R₅ hφ₅ hfl r₅ => ?_
            obtain ⟨val, rfl, hval⟩ := hfl
            exact k g₅ s₅ _ ((hg₁.trans hg').trans hg₅) F₅ R₅ ⟨val, rfl, hval⟩ r₅
          · cases e'
        · cases e'
      · have hii : i = xs.length := by omega
        subst hii
        refine hI.done s' _ _ hSt' fun h₃ tk₃ hk₃ => ?_
        rw [List.drop_length] at e'
        simp only [forGo, Option.some.injEq, Prod.mk.injEq] at e'
        obtain ⟨rfl, rfl, rfl⟩ := e'
        exact k g' _ _ (hg₁.trans hg') (F'.keeps hIn hk₃) (R'.but hKI hCI' hφ' hk₃) rfl (r'.trans Rest.ht)
    · cases e
  · cases e

end
end Mine
end

section
open PySem PyProof.Rows
set_option autoImplicit false
namespace Mine

theorem IntsAre.setM : ∀ {vs : List Value} {ns : List Int} (j : Nat) {x : Int} {t : Tok}, IntsAre vs ns → IntsAre (vs.set j (.int x t)) (ns.set j x)
  | _, _, _, _, _, .nil => .nil
  | _, _, 0, x, t, .cons _ _ h => .cons x t h
  | _, _, j + 1, _, _, .cons y u h => .cons y u (IntsAre.setM j h)

noncomputable def setOk (b : Bool) (i x : Int) : Bool := if b then decide (0 ≤ x) && decide (x < 256) else decide (0 ≤ i)
noncomputable def setV (a i v : AV) (H : List AO) : Option (List AO) :=
  match a, i, v with
  | .ref k, .int i, .int x => match H[k]? with
    | some ao => if -1000000 ≤ i ∧ i < 1000000 ∧ ao.xs.length ≤ 10000 then
        match seqIndex? i ao.xs.length with
        | some j => if setOk ao.byt i x = true then some (H.set k ⟨ao.byt, ao.xs.set j x⟩) else none
        | none => none
      else none
    | none => none
  | _, _, _ => none

section
variable {prog : Program} {w : World} {A : Around} {E : Value → Shared → Prop} {s : Shared}
theorem dict_mapSeq (f : Array Value → Array Value) (o : Obj) : (Obj.mapSeq f o).dict = o.dict := by
  unfold Obj.mapSeq; split <;> rfl
theorem ls_setItem {l : Addr} {o : Obj} {items : Array Value} {n : Nat} {k : Int} {t : Tok} {v : Value} {Q : Unit → Shared → Prop} (ho : s.heap.get? l = some o) (hc : o.cls = .type "list") (hd : o.data = .seq items n)
    (h0 : 0 ≤ k) (hfit : k < 2 ^ 63) (hn : k < items.size)
    (hQ : ∀ h' o', h'.get? l = some o' → o'.cls = .type "list" → o'.dict = o.dict → ∀ n', o'.data = .seq (items.setIfInBounds k.toNat v) n' → Heap.SameBut l s.heap h' → Q () { s with heap := h' }) :
    wpAny (model prog w) A (setItem (.ref l) (.int k t) v) Q E s := by
  have hl : s.heap.IsList l items := ⟨o, ho, hc, n, hd⟩
  unfold setItem
  refine wpAny_holding ?_
  refine wpAny_bind (wpAny_sequenceKey hl.typeIs (by decide) ?_)
  refine wpAny_bind (wpAny_callSpecial?_slot (name := Str.ofString "__setitem__") hl.typeIs F.slot_list_setitem
    (wpAny_call_entry F.slot_list_setitem hl.typeIs F.entry_list_setitem ?_ (F.args_list_setitem_3 _ _ _)))
  show wpAny _ _ (Builtin.List.listSubscript? (.int k t) >>= _) _ _ s
  refine wpAny_bind (wpAny_listSubscript_int (fitsIndex_of h0 hfit) ?_)
  clear hfit
  obtain ⟨j, rfl⟩ := Int.eq_ofNat_of_zero_le h0
  have hj : j < items.size := by omega
  have hx' : items[j]? = some items[j] := Array.getElem?_eq_getElem hj
  show wpAny _ _ ((seqItemAt l j >>= fun r => pure (r.map (j, ·))) >>= _) _ _ s
  refine wpAny_bind (wpAny_bind (wpAny_seqItemAt ho hd (wpAny_pure ?_)))
  rw [hx']
  show wpAny _ _ (setSeqItemAt l j v >>= _) _ _ s
  obtain ⟨n', hd'⟩ := Obj.data_mapSeq hd (·.setIfInBounds j v)
  refine wpAny_bind (wpAny_setSeqItemAt ho hd ?_)
  have fin := hQ _ _ (Heap.get?_update_self _ ho (Obj.isFreed_of_seq hd')) ((Obj.cls_mapSeq ..).trans hc) (dict_mapSeq _ _) n' hd' (Heap.SameBut.update ..)
  first
    | exact wpAny_bind (wpAny_pure (wpAny_pure ⟨.none, rfl, wpAny_pure fin⟩))
    | exact wpAny_pure ⟨.none, rfl, wpAny_pure fin⟩
end

section
variable {X : Cx} {d : Nat} {sc : Scope} {nm : List Str}

theorem u8_back {x : Int} (h0 : 0 ≤ x) (h1 : x < 256) : ((x.toNat.toUInt8).toNat : Int) = x := by
  have h : x.toNat < 256 := by omega
  have : x.toNat.toUInt8.toNat = x.toNat := by
    show (UInt8.ofNat x.toNat).toNat = _
    rw [UInt8.toNat_ofNat']
    exact Nat.mod_eq_of_lt (by simpa using h)
  rw [this]; omega

theorem Rel.touch {K : Addr → Option Obj} {env : Env} {ρ : List AV} {g : Gh} {H : List AO} {h : Heap} {k : Nat} {a : Addr} (F : Fm K env nm ρ g h) (R : Rel K g H h) (ha : g.φ[k]? = some a) : a ≠ env.locals ∧ a ∉ env.cells.map (·.2) := by
  have hm := List.mem_of_getElem? ha
  refine ⟨?_, fun hc => ?_⟩
  · rintro rfl; obtain ⟨m, hn⟩ := F.ns; exact (R.notFrameL hn).2 hm
  · obtain ⟨v, hv⟩ := F.cl a hc; exact (R.notCellC hv).2 hm

theorem setV_ok {K : Addr → Option Obj} {g : Gh} {H H' : List AO} {a i v : AV} {va vi vv : Value} {A : Around} {s : Shared} {Q : Unit → Shared → Prop} {E : Value → Shared → Prop} (e : setV a i v H = some H')
    (R : Rel K g H s.heap) (ha : VR g a va) (hi : VR g i vi) (hv : VR g v vv)
    (k : ∀ (h' : Heap) (a : Addr) (k : Nat), g.φ[k]? = some a → Rel K g H' h' → (∀ b o, b ≠ a → s.heap.get? b = some o → h'.get? b = some o) → Q () { s with heap := h' }) : wpAny (model X.prog X.w) A (setItem va vi vv) Q E s := by
  unfold setV at e
  split at e
  · rename_i kk i x
    split at e
    · rename_i ao hk
      split at e
      · rename_i hb
        split at e
        · rename_i j hj
          split at e
          · rename_i hc
            cases e
            simp only [VR] at ha hi hv
            obtain ⟨a, rfl, hφ⟩ := ha
            obtain ⟨t, rfl⟩ := hi
            obtain ⟨u, rfl⟩ := hv
            obtain ⟨a', o, h1, h2, h3⟩ := R.trk kk ao hk
            rw [hφ] at h1; cases h1
            unfold OR at h3
            split at h3
            · rename_i hbt
              obtain ⟨b, rfl, hb'⟩ := h3
              unfold setOk at hc
              rw [if_pos hbt] at hc
              simp only [Bool.and_eq_true, decide_eq_true_eq] at hc
              have hs : b.size = ao.xs.length := by rw [← hb']; simp
              refine ba_setItem h2 (by omega) (by omega) (by rw [hs]; exact hj) hc.1 hc.2 (by omega) ?_
              refine k _ a kk hφ (R.upd hφ (Heap.get?_update_self _ h2 rfl) ?_ ?_) ?_
              · unfold OR
                rw [if_pos hbt]
                refine ⟨_, rfl, ?_⟩
                rw [Array.toList_setIfInBounds, List.map_set, hb', u8_back hc.1 hc.2]
              · exact fun b o hne e => (Heap.get?_update_other _ _ (Ne.symm hne)).trans e
              · exact fun b o hne e => (Heap.get?_update_other _ _ (Ne.symm hne)).trans e
            · rename_i hbt
              obtain ⟨vs, n, ⟨hc3, hn3, hd3⟩, hI⟩ := h3
              unfold setOk at hc
              rw [if_neg hbt] at hc
              have hi0 : 0 ≤ i := by simpa using hc
              have hL : s.heap.IsList a vs := ⟨_, h2, hc3, n, hd3⟩
              have hs : vs.size = ao.xs.length := by rw [← Array.length_toList]; exact hI.length
              have hji : j = i.toNat ∧ i < ao.xs.length := by
                unfold seqIndex? at hj
                split at hj <;> simp_all <;> omega
              refine ls_setItem h2 hc3 hd3 hi0 (by omega) (by rw [hs]; exact hji.2) fun h' o' ho' hc' hn' n' hd' hsb => ?_
              refine k h' a kk hφ (R.upd hφ ho' ?_ fun b o hne e => hsb.extBut b o hne e) fun b o hne e => hsb.extBut b o hne e
              unfold OR
              rw [if_neg hbt]
              exact ⟨_, n', ⟨hc', hn'.trans hn3, hd'⟩, by rw [Array.toList_setIfInBounds, hji.1]; exact IntsAre.setM _ hI⟩
          · cases e
        · cases e
      · cases e
    · cases e
  · cases e

noncomputable def sSetI (fv fo fi : Den) : DenS := fun ρ H => match fv ρ H with
  | some (v, H₁) => match fo ρ H₁ with
    | some (a, H₂) => match fi ρ H₂ with
      | some (i, H₃) => match setV a i v H₃ with
        | some H₄ => some (.next, ρ, H₄)
        | none => none
      | none => none
    | none => none
  | none => none
theorem sndT_setI {o i value : Expr} {p pos : Pos} {fv fo fi : Den} (h₁ : SndE X d sc nm value fv) (h₂ : SndE X d sc nm o fo) (h₃ : SndE X d sc nm i fi)
    (hs : ∀ env, swapsWith value (some (.Subscript o i p)) pos.line env = pure false := by intro _; rfl) : SndT X d sc nm (.Assign [.Subscript o i p] value pos) (sSetI fv fo fi) := by
  intro A env K g H ρ s Q E fl ρ' H' hA hE hB hF hR e k
  unfold sSetI at e
  split at e
  · rename_i v H₁ e₁
    split at e
    · rename_i a H₂ e₂
      split at e
      · rename_i ii H₃ e₃
        split at e
        · rename_i H₄ e₄
          cases e
          refine .of (wpAny_Assign_Subscript (h₁.inS hA hE hB hF hR e₁ fun g₁ s₁ v₁ hg₁ F₁ R₁ V₁ r₁ => ?_) (hs env))
          refine h₂.inS hA hE (hB.mono hg₁) F₁ R₁ e₂ fun g₂ s₂ v₂ hg₂ F₂ R₂ V₂ r₂ => ?_
          refine h₃.inS hA hE (hB.mono (hg₁.trans hg₂)) F₂ R₂ e₃ fun g₃ s₃ v₃ hg₃ F₃ R₃ V₃ r₃ => ?_
          refine setV_ok e₄ R₃ (V₂.mono hg₃) V₃ (V₁.mono (hg₂.trans hg₃)) fun h' a' k' hφ R' hk => ?_
          exact k g₃ _ _ ((hg₁.trans hg₂).trans hg₃) (F₃.keeps (Rel.touch F₃ R₃ hφ) hk) R' rfl (((r₁.trans r₂).trans r₃).trans Rest.h)
        · cases e
      · cases e
    · cases e
  · cases e

noncomputable def setS (a v : AV) (lo hi : Option Int) (H : List AO) : Option (List AO) :=
  match a, v, lo, hi with
  | .ref k, .tup ys, some lo, some hi => match H[k]?, intsOf ys with
    | some ao, some ns => if ao.byt = true ∧ 0 ≤ lo ∧ lo ≤ hi ∧ hi ≤ ao.xs.length ∧ (ns.length : Int) = hi - lo ∧ ao.xs.length ≤ 10000 ∧ ns.all (fun n => decide (0 ≤ n) && decide (n < 256)) = true then
        some (H.set k ⟨true, ao.xs.take lo.toNat ++ ns ++ ao.xs.drop hi.toNat⟩) else none
    | _, _ => none
  | _, _, _, _ => none

theorem toBytes_back {ns : List Int} (hb : ∀ n ∈ ns, 0 ≤ n ∧ n < 256) : (toBytes ns).toList.map (fun u => (u.toNat : Int)) = ns := by
  unfold toBytes
  rw [List.map_map]
  conv => rhs; rw [← List.map_id ns]
  apply List.map_congr_left
  intro n hn
  exact u8_back (hb n hn).1 (hb n hn).2

theorem setS_ok {K : Addr → Option Obj} {g : Gh} {H H' : List AO} {a v : AV} {lo hi : Option Int} {va vl vu vv : Value} {A : Around} {s : Shared} {Q : Unit → Shared → Prop} {E : Value → Shared → Prop} (e : setS a v lo hi H = some H')
    (R : Rel K g H s.heap) (ha : VR g a va) (hl : IsPart vl lo) (hu : IsPart vu hi) (hv : VR g v vv) {sl : Addr} (hsl : s.heap.IsSliceOf sl vl vu .none)
    (k : ∀ (h' : Heap) (a : Addr) (k : Nat), g.φ[k]? = some a → Rel K g H' h' → (∀ b o, b ≠ a → s.heap.get? b = some o → h'.get? b = some o) → Q () { s with heap := h' }) : wpC (model X.prog X.w) A (setItem va (.ref sl) vv) Q E s := by
  unfold setS at e
  split at e
  · rename_i kk ys x y
    split at e
    · rename_i ao ns hk hns
      split at e
      · rename_i hc
        cases e
        obtain ⟨c0, c1, c2, c3, c4, c5, c6⟩ := hc
        simp only [VR] at ha hv
        obtain ⟨a, rfl, hφ⟩ := ha
        obtain ⟨t, ot, it, nt, rfl, hCt, hct, hdt, hit⟩ := hv
        obtain ⟨a', o, h1, h2, h3⟩ := R.trk kk ao hk
        rw [hφ] at h1; cases h1
        unfold OR at h3
        rw [if_pos c0] at h3
        obtain ⟨b, rfl, hb'⟩ := h3
        have hs : b.size = ao.xs.length := by rw [← hb']; simp
        have hall : ∀ n ∈ ns, 0 ≤ n ∧ n < 256 := fun n hn => by
          have := List.all_eq_true.mp c6 n hn
          simpa using this
        cases hl with
        | int _ t1 => cases hu with
          | int _ t2 =>
            refine ba_setItemS h2 hsl (R.frz _ _ hCt).1 hct hdt (intsOf_are hns hit) hall c1 c2 (by rw [hs]; exact c3) c4 (by omega) fun h' hl' hk' => ?_
            refine k h' a kk hφ (R.upd hφ hl' ?_ hk') hk'
            unfold OR
            rw [if_pos rfl]
            refine ⟨_, rfl, ?_⟩
            simp only [Array.toList_append, Array.toList_extract, List.map_append, toBytes_back hall]
            rw [← hb']
            simp only [List.extract_eq_take_drop, List.map_take, List.map_drop, Nat.sub_zero, List.drop_zero]
            congr 1
            rw [List.take_of_length_le]
            simp [hs]
      · cases e
    · cases e
  · cases e

noncomputable def sSetS (fv fo : Den) (flo fhi : DenP) : DenS := fun ρ H => match fv ρ H with
  | some (v, H₁) => match fo ρ H₁ with
    | some (a, H₂) => match flo ρ H₂ with
      | some (lo, H₃) => match fhi ρ H₃ with
        | some (hi, H₄) => match setS a v lo hi H₄ with
          | some H₅ => some (.next, ρ, H₅)
          | none => none
        | none => none
      | none => none
    | none => none
  | none => none
theorem SndP.inS {x : Option Expr} {f : DenP} (h : SndP X d sc nm x f) {A : Around} {env : Env} {K : Addr → Option Obj} {g : Gh} {H : List AO} {ρ : List AV} {s : Shared} {Q : Value → Shared → Prop} {E : Value → Shared → Prop} {v : Option Int} {H' : List AO}
    (hA : AOk A d) (hE : EnvI sc env) (hB : Bs X K g) (hF : Fm K env nm ρ g s.heap) (hR : Rel K g H s.heap) (e : f ρ H = some (v, H'))
    (k : ∀ g' s' val, g.Le g' → Fm K env nm ρ g' s'.heap → Rel K g' H' s'.heap → IsPart val v → Rest s s' → Q val s') : wpAny (model X.prog X.w) A (valueOrNone (evalOpt x env)) Q E s :=
  h A env (Mine.ov K env s.heap) g H ρ s Q E v H' hA hE (hB.ov hF) hF.fr (hF.relOv hR) e fun g' s' val hg R V r => let ⟨F', R'⟩ := hF.close hR hg R; k g' s' val hg F' R' V r
theorem sndT_setS {o value : Expr} {lo hi : Option Expr} {ps p pos : Pos} {fv fo : Den} {flo fhi : DenP} (h₁ : SndE X d sc nm value fv) (h₂ : SndE X d sc nm o fo) (h₃ : SndP X d sc nm lo flo) (h₄ : SndP X d sc nm hi fhi)
    (hs : ∀ env, swapsWith value (some (.Subscript o (.Slice lo hi none ps) p)) pos.line env = pure false := by intro _; rfl) : SndT X d sc nm (.Assign [.Subscript o (.Slice lo hi none ps) p] value pos) (sSetS fv fo flo fhi) := by
  intro A env K g H ρ s Q E fl ρ' H' hA hE hB hF hR e k
  unfold sSetS at e
  split at e
  · rename_i v H₁ e₁
    split at e
    · rename_i a H₂ e₂
      split at e
      · rename_i l H₃ e₃
        split at e
        · rename_i u H₄ e₄
          split at e
          · rename_i H₅ e₅
            cases e
            rw [exec_Assign_Subscript _ _ _ _ _ (hs env)]
            refine wpC_seq (wpAny_standAt (wpC_seq (h₁.inS hA hE hB hF hR e₁ fun g₁ s₁ v₁ hg₁ F₁ R₁ V₁ r₁ => ?_)))
            rw [assign_Subscript]
            refine wpC_bind (wpC_seq (wpAny_holding (h₂.inS hA hE (hB.mono hg₁) F₁ R₁ e₂ fun g₂ s₂ v₂ hg₂ F₂ R₂ V₂ r₂ => ?_)))
            rw [arm_eval_Slice]
            refine wpC_seq (wpAny_holding (wpAny_bind (h₃.inS hA hE (hB.mono (hg₁.trans hg₂)) F₂ R₂ e₃ fun g₃ s₃ v₃ hg₃ F₃ R₃ P₃ r₃ => ?_)))
            refine wpAny_bind (wpAny_holding (h₄.inS hA hE (hB.mono ((hg₁.trans hg₂).trans hg₃)) F₃ R₃ e₄ fun g₄ s₄ v₄ hg₄ F₄ R₄ P₄ r₄ => ?_))
            refine wpAny_bind (wpAny_holding (wpAny_pure ?_))
            refine wpAny_newObj_type ?_ (by size_fits)
            have hk₅ : ∀ b o, s₄.heap.get? b = some o → (s₄.heap.push { cls := .type "slice", data := .fields #[v₃, v₄, .none] }).get? b = some o := fun b o e => Heap.get?_push_of_some _ e
            have R₅ := R₄.ext hk₅
            have F₅ := F₄.ext hk₅
            refine wpC_seq (wpAny_standAt (wpC_bind (wpC_holding (setS_ok (s := { s₄ with heap := s₄.heap.push { cls := .type "slice", data := .fields #[v₃, v₄, .none] } }) e₅ R₅ (V₂.mono (hg₃.trans hg₄)) P₃ P₄ (V₁.mono ((hg₂.trans hg₃).trans hg₄)) (Heap.IsSliceOf.new ..) fun h' a' k' hφ R' hk => ?_))))
            refine wpC.of (wpAny_release ?_)
            exact wpC_pure (k g₄ _ _ (((hg₁.trans hg₂).trans hg₃).trans hg₄) (F₅.keeps (Rel.touch F₅ R₅ hφ) hk) R' rfl ((((r₁.trans r₂).trans r₃).trans r₄).trans Rest.h))
          · cases e
        · cases e
      · cases e
    · cases e
  · cases e

/-- a, b = value -/
noncomputable def sTup (st : DenT) (f : Den) : DenS := fun ρ H => match f ρ H with
  | some (v, H₁) => match st ρ v with
    | some ρ₁ => some (.next, ρ₁, H₁)
    | none => none
  | none => none
theorem sndT_tup {ns : List Nat} {es : List Expr} {kk : Nat} {p pos : Pos} {value : Expr} {f : Den} (hn : NamesAt nm ns es) (h : SndE X d sc nm value f)
    (hs : ∀ env, swapsWithSole [.Tuple es kk p] value pos.line env = pure false := by intro _; rfl) (hw : ∀ env, swappedStores [.Tuple es kk p] value env = pure none := by intro _; rfl) : SndT X d sc nm (.Assign [.Tuple es kk p] value pos) (sTup (tgT ns) f) := by
  intro A env K g H ρ s Q E fl ρ' H' hA hE hB hF hR e k
  unfold sTup at e
  split at e
  · rename_i v H₁ e₁
    split at e
    · rename_i ρ₁ e₂
      cases e
      refine .of (Assign_Tuple (h.inS hA hE hB hF hR e₁ fun g₁ s₁ v₁ hg₁ F₁ R₁ V₁ r₁ => ?_) (hs env) (hw env))
      refine sndTg_tup hn A env K g₁ _ ρ ρ' s₁ _ E v v₁ hA hE F₁ R₁ V₁ e₂ fun h' tk F' R' _ => ?_
      exact k g₁ _ _ hg₁ F' R' rfl (r₁.trans Rest.ht)
    · cases e
  · cases e

/-- the stores of a pair of names, exchanged -/
noncomputable def sSw (a b : Nat) (f : Den) : DenS := fun ρ H => match f ρ H with
  | some (.tup [x, y], H₁) => some (.next, (ρ.set b y).set a x, H₁)
  | _ => none
theorem sndT_sw {a b : Nat} {x y : Str} {px py : Pos} {kk : Nat} {p pos : Pos} {value : Expr} {f : Den} (hx : nm[a]? = some x) (hy : nm[b]? = some y) (h : SndE X d sc nm value f)
    (hw : ∀ env, EnvI sc env → swappedStores [.Tuple [.Name x px, .Name y py] kk p] value env = pure (some [x, y]))
    (hs : ∀ env, swapsWithSole [.Tuple [.Name x px, .Name y py] kk p] value pos.line env = pure false := by intro _; rfl) : SndT X d sc nm (.Assign [.Tuple [.Name x px, .Name y py] kk p] value pos) (sSw a b f) := by
  intro A env K g H ρ s Q E fl ρ' H' hA hE hB hF hR e k
  unfold sSw at e
  split at e
  · rename_i u v H₁ e₁
    cases e
    refine .of (Assign_Tuple_swapped (h.inS hA hE hB hF hR e₁ fun g₁ s₁ v₁ hg₁ F₁ R₁ V₁ r₁ => ?_) (hs env) (hw env hE))
    simp only [VR] at V₁
    obtain ⟨t, o, items, n, rfl, hC, hc, hd, hi⟩ := V₁
    obtain ⟨w1, w2, hit, V2, V3⟩ := vrs_two hi
    have hsz : items.size = 2 := by rw [← Array.length_toList, hit]; rfl
    have : ([x, y] : List Str).length = items.size := by rw [hsz]; rfl
    rw [this]
    refine wpAny_unpackItems_tuple hA.hd ⟨o, (R₁.frz _ _ hC).1, hc, n, hd⟩ fun h' he => ?_
    have hk : ∀ b o, s₁.heap.get? b = some o → h'.get? b = some o := fun b o e => he b o (Nat.ne_of_lt (Heap.lt_size e)) e
    rw [hit]
    refine assignInOrder_cons (t := bindName env y) (ts := [bindName env x]) (x := w2) (xs := [w1]) (wpAny_bindName (Fm.store (s := { s₁ with heap := h' }) (F₁.ext hk) (R₁.ext hk) hE hy V3 fun h₂ tk₂ F₂ R₂ => ?_))
    refine assignInOrder_cons (wpAny_bindName (Fm.store (s := { s₁ with heap := h₂, toks := tk₂ }) F₂ R₂ hE hx V2 fun h₃ tk₃ F₃ R₃ => ?_))
    exact wpAny_pure (k g₁ _ _ hg₁ F₃ R₃ rfl (r₁.trans Rest.ht))
  · cases e

/-- an expression as a statement -/
noncomputable def sEx (f : Den) : DenS := fun ρ H => match f ρ H with
  | some (_, H₁) => some (.next, ρ, H₁)
  | none => none
theorem sndT_ex {e : Expr} {pos : Pos} {f : Den} (h : SndC X d sc nm e f) (hs : ∀ env, swapsWith e none pos.line env = pure false := by intro _; rfl) : SndT X d sc nm (.Expr e pos) (sEx f) := by
  intro A env K g H ρ s Q E fl ρ' H' hA hE hB hF hR e k
  unfold sEx at e
  split at e
  · rename_i v H₁ e₁
    cases e
    have hi : interactive env = false := by unfold interactive; rw [hE.es, hE.ek]; rfl
    rw [exec_Expr env _ pos hi (hs env)]
    refine wpC_seq (wpAny_standAt (wpC_bind (h.inS hA hE hB hF hR e₁ fun g₁ s₁ val hg₁ F₁ R₁ V₁ r₁ => ?_)))
    exact .of (wpAny_dropValue (k g₁ _ _ hg₁ F₁ R₁ rfl r₁))
  · cases e

end
end Mine
end

section
open PySem PyProof.Rows
set_option autoImplicit false
namespace Mine

/-- a comprehension's frame: its own names lie in a dict, the names of the def around it in what is kept -/
noncomputable def ovC (K : Addr → Option Obj) (C : Addr) (h : Heap) : Addr → Option Obj := fun a => if a = C then h.get? a else K a
structure Fc (K : Addr → Option Obj) (env : Env) (nm : List Str) (ρ : List AV) (g : Gh) (h : Heap) : Prop where
  fr : FrK (ovC K env.locals h) env nm ρ g
  ns : ∃ m, h.Ns env.locals m
  kL : K env.locals = none
  nd : nm.Nodup
  ln : ρ.length = nm.length

/-- the list that is being filled -/
structure Cs (K : Addr → Option Obj) (env : Env) (D : Addr) (nm : List Str) (ρ : List AV) (g : Gh) (acc : List AV) (h : Heap) : Prop where
  fc : Fc K env nm ρ g h
  d : ∃ ys, h.PlainList D ys ∧ VRs g acc ys.toList
  kD : K D = none
  cD : g.C D = none
  fD : D ∉ g.φ
  ne : D ≠ env.locals

section
variable {X : Cx} {d : Nat} {sc : Scope} {nm : List Str}

theorem Fc.setL {K : Addr → Option Obj} {env : Env} {ρ : List AV} {g : Gh} {H : List AO} {h h' : Heap} {n : Nat} {x : Str} {v : AV} {val : Value} {m : Str → Option Value} (F : Fc K env nm ρ g h) (R : Rel K g H h)
    (hx : nm[n]? = some x) (hl : env.kindOf x = some .local) (hv : VR g v val) (hn : h.Ns env.locals m) (hn' : h'.Ns env.locals (fun y => if y = x then some val else m y)) (hs : Heap.SameBut env.locals h h') :
    Fc K env nm (ρ.set n v) g h' ∧ Rel K g H h' := by
  obtain ⟨hC, hφ⟩ := R.notFrameL hn
  have hsame : ∀ b, b ≠ env.locals → h'.get? b = h.get? b := hs.2
  refine ⟨⟨fun j y w e1 e2 e3 => ?_, ⟨_, hn'⟩, F.kL, F.nd, by rw [List.length_set]; exact F.ln⟩, R.but F.kL hC hφ fun b o hb e => (hsame b hb).trans e⟩
  have hLov : ovC K env.locals h' env.locals = h'.get? env.locals := by unfold ovC; rw [if_pos rfl]
  obtain ⟨o', es', ep', ho', hd', hk', hf'⟩ := id hn'
  rw [List.getElem?_set] at e2
  by_cases q : n = j
  · subst q
    rw [hx] at e1; cases e1
    simp only [if_true] at e2
    split at e2
    · cases e2
      refine ⟨val, .inl ⟨hl, o', es', ep', hLov.trans ho', hd', hk', ?_⟩, hv⟩
      rw [hf']; simp
    · cases e2
  · simp only [q, if_false] at e2
    have hne : y ≠ x := fun q' => q (nodup_get F.nd hx (q' ▸ e1))
    obtain ⟨val', hld, hvr⟩ := F.fr j y w e1 e2 e3
    refine ⟨val', ?_, hvr⟩
    obtain ⟨o₁, es₁, ep₁, ho₁, hd₁, _, hf₁⟩ := id hn
    have hov : ovC K env.locals h env.locals = h.get? env.locals := by unfold ovC; rw [if_pos rfl]
    rcases hld with ⟨hk, o, es, ep, ho, hd, hks, hf⟩ | ⟨hk, c, o, hc, ho, hd⟩
    · refine .inl ⟨hk, o', es', ep', hLov.trans ho', hd', hk', ?_⟩
      rw [hf']; simp only [hne, if_false]
      rw [hov, ho₁] at ho; cases ho
      rw [hd₁] at hd; cases hd
      rw [← hf₁]; exact hf
    · refine .inr ⟨hk, c, o, hc, ?_, hd⟩
      by_cases hcL : c = env.locals
      · subst hcL
        rw [hov, ho₁] at ho; cases ho
        rw [hd₁] at hd; cases hd
      · unfold ovC at ho ⊢
        rw [if_neg hcL] at ho ⊢; exact ho

theorem Fc.keeps {K : Addr → Option Obj} {env : Env} {ρ : List AV} {g : Gh} {h h' : Heap} (F : Fc K env nm ρ g h) (hk : ∀ o, h.get? env.locals = some o → h'.get? env.locals = some o) : Fc K env nm ρ g h' where
  fr := fun n x v e1 e2 e3 => by
    obtain ⟨val, hl, hv⟩ := F.fr n x v e1 e2 e3
    refine ⟨val, ?_, hv⟩
    rcases hl with ⟨hkd, o, es, ep, ho, r⟩ | ⟨hkd, c, o, hc, ho, r⟩
    · refine .inl ⟨hkd, o, es, ep, ?_, r⟩
      unfold ovC at ho ⊢
      rw [if_pos rfl] at ho ⊢; exact hk _ ho
    · refine .inr ⟨hkd, c, o, hc, ?_, r⟩
      unfold ovC at ho ⊢
      split at ho
      · rename_i q; rw [if_pos q]; rw [q] at ho ⊢; exact hk _ ho
      · rename_i q; rw [if_neg q]; exact ho
  ns := by obtain ⟨m, o, es, ep, e, r⟩ := F.ns; exact ⟨m, o, es, ep, hk _ e, r⟩
  kL := F.kL
  nd := F.nd
  ln := F.ln
theorem Fc.mono {K : Addr → Option Obj} {env : Env} {ρ : List AV} {g g' : Gh} {h : Heap} (F : Fc K env nm ρ g h) (hg : g.Le g') : Fc K env nm ρ g' h := ⟨F.fr.mono hg, F.ns, F.kL, F.nd, F.ln⟩
/-- one object more is kept -/
theorem Fc.addI {K : Addr → Option Obj} {env : Env} {ρ : List AV} {g : Gh} {h : Heap} {I : Addr} {o : Obj} (F : Fc K env nm ρ g h) (hI : I ≠ env.locals) (hK : K I = none) : Fc (K1 K I o) env nm ρ g h where
  fr := fun n x v e1 e2 e3 => by
    obtain ⟨val, hl, hv⟩ := F.fr n x v e1 e2 e3
    refine ⟨val, ?_, hv⟩
    have mv : ∀ a o', ovC K env.locals h a = some o' → ovC (K1 K I o) env.locals h a = some o' := fun a o' e => by
      unfold ovC at e ⊢
      split at e
      · rename_i q; rw [if_pos q]; exact e
      · rename_i q; rw [if_neg q]; unfold K1; rw [if_neg (by rintro rfl; rw [hK] at e; cases e)]; exact e
    rcases hl with ⟨hkd, o, es, ep, ho, r⟩ | ⟨hkd, c, o, hc, ho, r⟩
    · exact .inl ⟨hkd, o, es, ep, mv _ _ ho, r⟩
    · exact .inr ⟨hkd, c, o, hc, mv _ _ ho, r⟩
  ns := F.ns
  kL := by unfold K1; rw [if_neg (Ne.symm hI)]; exact F.kL
  nd := F.nd
  ln := F.ln
/-- one object less: it holds no name -/
theorem Fc.delI {K : Addr → Option Obj} {env : Env} {ρ : List AV} {g : Gh} {h : Heap} {I : Addr} {o : Obj} (F : Fc (K1 K I o) env nm ρ g h) (hI : I ≠ env.locals) (hK : K I = none) (hod : ∀ v, o.data ≠ .cell v) : Fc K env nm ρ g h where
  fr := fun n x v e1 e2 e3 => by
    obtain ⟨val, hl, hv⟩ := F.fr n x v e1 e2 e3
    refine ⟨val, ?_, hv⟩
    rcases hl with ⟨hkd, o', es, ep, ho, r⟩ | ⟨hkd, c, o', hc, ho, r⟩
    · refine .inl ⟨hkd, o', es, ep, ?_, r⟩
      unfold ovC at ho ⊢
      rw [if_pos rfl] at ho ⊢; exact ho
    · refine .inr ⟨hkd, c, o', hc, ?_, r⟩
      unfold ovC at ho ⊢
      split at ho
      · rename_i q; rw [if_pos q]; exact ho
      · rename_i q; rw [if_neg q]; unfold K1 at ho
        split at ho
        · cases ho; exact absurd r (hod _)
        · exact ho
  ns := F.ns
  kL := by have := F.kL; unfold K1 at this; rw [if_neg (Ne.symm hI)] at this; exact this
  nd := F.nd
  ln := F.ln
theorem Cs.addI {K : Addr → Option Obj} {env : Env} {D : Addr} {ρ : List AV} {g : Gh} {acc : List AV} {h : Heap} {I : Addr} {o : Obj} (S : Cs K env D nm ρ g acc h) (hI : I ≠ env.locals) (hD : I ≠ D) (hK : K I = none) : Cs (K1 K I o) env D nm ρ g acc h :=
  ⟨S.fc.addI hI hK, S.d, by unfold K1; rw [if_neg (Ne.symm hD)]; exact S.kD, S.cD, S.fD, S.ne⟩
theorem Cs.delI {K : Addr → Option Obj} {env : Env} {D : Addr} {ρ : List AV} {g : Gh} {acc : List AV} {h : Heap} {I : Addr} {o : Obj} (S : Cs (K1 K I o) env D nm ρ g acc h) (hI : I ≠ env.locals) (hD : I ≠ D) (hK : K I = none) (hod : ∀ v, o.data ≠ .cell v) : Cs K env D nm ρ g acc h :=
  ⟨S.fc.delI hI hK hod, S.d, by have := S.kD; unfold K1 at this; rw [if_neg (Ne.symm hD)] at this; exact this, S.cD, S.fD, S.ne⟩
theorem Cs.keeps {K : Addr → Option Obj} {env : Env} {D : Addr} {ρ : List AV} {g : Gh} {acc : List AV} {h h' : Heap} {I : Addr} (S : Cs K env D nm ρ g acc h) (hI : I ≠ env.locals) (hD : I ≠ D) (hk : ∀ b o, b ≠ I → h.get? b = some o → h'.get? b = some o) : Cs K env D nm ρ g acc h' :=
  ⟨S.fc.keeps fun o e => hk _ o (Ne.symm hI) e, by obtain ⟨ys, h1, h2⟩ := S.d; exact ⟨ys, h1.at fun o e => hk _ o (Ne.symm hD) e, h2⟩, S.kD, S.cD, S.fD, S.ne⟩

noncomputable def Gh.withN (g : Gh) (n : List Addr) : Gh := { g with N := n }
theorem Gh.withN_sub (g : Gh) (n : List Addr) : g.Sub (g.withN n) := ⟨fun _ _ e => e, fun _ _ e => e⟩

/-- what is kept while an expression within a comprehension is evaluated -/
theorem Cs.enter {K : Addr → Option Obj} {env : Env} {D : Addr} {ρ : List AV} {g : Gh} {H : List AO} {acc : List AV} {h : Heap} (S : Cs K env D nm ρ g acc h) (R : Rel K g H h) {oD : Obj} (ho : h.get? D = some oD) :
    Rel (K1 (ovC K env.locals h) D oD) (g.withN (D :: g.N)) H h ∧ FrK (K1 (ovC K env.locals h) D oD) env nm ρ (g.withN (D :: g.N)) := by
  have hov : ovC K env.locals h D = none := by unfold ovC; rw [if_neg S.ne]; exact S.kD
  have kk : ∀ a o, K a = some o → K1 (ovC K env.locals h) D oD a = some o := fun a o e => by
    unfold K1 ovC
    rw [if_neg (by rintro rfl; rw [S.kD] at e; cases e), if_neg (by rintro rfl; rw [S.fc.kL] at e; cases e)]; exact e
  obtain ⟨m, hn⟩ := S.fc.ns
  refine ⟨⟨fun a o e => ?_, R.frz, R.trk, R.len, R.nod, fun a ha => ⟨(R.ap a ha).1, ?_⟩, fun a ha => ?_⟩, fun n x v e1 e2 e3 => ?_⟩
  · unfold K1 ovC at e
    split at e
    · rename_i q; subst q; cases e; exact ho
    · split at e
      · exact e
      · exact R.kept a o e
  · have ha' : a ∈ g.φ := ha
    unfold K1 ovC
    rw [if_neg (by rintro rfl; exact S.fD ha'), if_neg (by rintro rfl; exact (R.notFrameL hn).2 ha')]
    exact (R.ap a ha').2
  · have ha' : a ∈ D :: g.N := ha
    rcases List.mem_cons.mp ha' with rfl | ha'
    · exact ⟨S.cD, oD, by unfold K1; rw [if_pos rfl]⟩
    · obtain ⟨h1, o, h2⟩ := R.rs a ha'
      exact ⟨h1, o, kk a o h2⟩
  · obtain ⟨val, hl, hv⟩ := S.fc.fr n x v e1 e2 e3
    refine ⟨val, ?_, hv.mono' (Gh.withN_sub _ _)⟩
    have mv : ∀ a o', ovC K env.locals h a = some o' → K1 (ovC K env.locals h) D oD a = some o' := fun a o' e => by
      unfold K1; rw [if_neg (by rintro rfl; rw [hov] at e; cases e)]; exact e
    rcases hl with ⟨hkd, o, es, ep, ho, r⟩ | ⟨hkd, c, o, hc, ho, r⟩
    · exact .inl ⟨hkd, o, es, ep, mv _ _ ho, r⟩
    · exact .inr ⟨hkd, c, o, hc, mv _ _ ho, r⟩
theorem Cs.leave {K : Addr → Option Obj} {env : Env} {D : Addr} {ρ : List AV} {g g₂ : Gh} {H H' : List AO} {acc : List AV} {h h' : Heap} (S : Cs K env D nm ρ g acc h) (R : Rel K g H h) {oD : Obj} (ho : h.get? D = some oD)
    (hg : (g.withN (D :: g.N)).Le g₂) (R' : Rel (K1 (ovC K env.locals h) D oD) g₂ H' h') :
    g.Le (g₂.withN g.N) ∧ Cs K env D nm ρ (g₂.withN g.N) acc h' ∧ Rel K (g₂.withN g.N) H' h' := by
  have hle : g.Le (g₂.withN g.N) := ⟨⟨fun a o e => hg.C a o e, fun k a e => hg.φ k a e⟩, rfl⟩
  have hN : g₂.N = D :: g.N := hg.N
  have kk : ∀ a o, K a = some o → K1 (ovC K env.locals h) D oD a = some o := fun a o e => by
    unfold K1 ovC
    rw [if_neg (by rintro rfl; rw [S.kD] at e; cases e), if_neg (by rintro rfl; rw [S.fc.kL] at e; cases e)]; exact e
  have hD' : h'.get? D = some oD := R'.kept D oD (by unfold K1; rw [if_pos rfl])
  have hL' : ∀ o, h.get? env.locals = some o → h'.get? env.locals = some o := fun o e => R'.kept _ o (by unfold K1 ovC; rw [if_neg (Ne.symm S.ne), if_pos rfl]; exact e)
  have hφ : D ∉ g₂.φ := fun hm => by have := (R'.ap D hm).2; unfold K1 at this; rw [if_pos rfl] at this; cases this
  refine ⟨hle, ⟨(S.fc.mono hle).keeps hL', ?_, S.kD, ?_, hφ, S.ne⟩, ⟨fun a o e => R'.kept a o (kk a o e), R'.frz, R'.trk, R'.len, R'.nod, fun a ha => ⟨(R'.ap a ha).1, ?_⟩, fun a ha => ⟨?_, (R.rs a ha).2⟩⟩⟩
  · obtain ⟨ys, ⟨n, h1⟩, h2⟩ := S.d
    rw [ho] at h1; cases h1
    exact ⟨ys, ⟨n, hD'⟩, h2.mono hle⟩
  · exact (R'.rs D (by rw [hN]; exact List.mem_cons_self ..)).1
  · cases e : K a with
    | none => rfl
    | some o => have := (R'.ap a ha).2; rw [kk a o e] at this; cases this
  · exact (R'.rs a (by rw [hN]; exact List.mem_cons_of_mem _ ha)).1

theorem Bs.inC {K : Addr → Option Obj} {env : Env} {D : Addr} {ρ : List AV} {g : Gh} {acc : List AV} {h : Heap} {oD : Obj} (B : Bs X K g) (S : Cs K env D nm ρ g acc h) : Bs X (K1 (ovC K env.locals h) D oD) (g.withN (D :: g.N)) :=
  ⟨fun a o e => by
    have := B.k a o e
    unfold K1 ovC
    rw [if_neg (by rintro rfl; rw [S.kD] at this; cases this), if_neg (by rintro rfl; rw [S.fc.kL] at this; cases this)]; exact this, B.c⟩

theorem SndE.inC {x : Expr} {f : Den} (h : SndE X d sc nm x f) {A : Around} {env : Env} {K : Addr → Option Obj} {g : Gh} {H : List AO} {ρ : List AV} {D : Addr} {acc : List AV} {s : Shared} {Q : Value → Shared → Prop} {E : Value → Shared → Prop} {v : AV} {H' : List AO}
    (hA : AOk A d) (hE : EnvI sc env) (hB : Bs X K g) (S : Cs K env D nm ρ g acc s.heap) (hR : Rel K g H s.heap) (e : f ρ H = some (v, H'))
    (k : ∀ g' s' val, g.Le g' → Cs K env D nm ρ g' acc s'.heap → Rel K g' H' s'.heap → VR g' v val → Rest s s' → Q val s') : wpAny (model X.prog X.w) A (eval x env) Q E s := by
  obtain ⟨ys, ⟨n, ho⟩, _⟩ := id S.d
  obtain ⟨R₂, F₂⟩ := S.enter hR ho
  refine h A env _ _ H ρ s Q E v H' hA hE (hB.inC S) F₂ R₂ e fun g₂ s₂ val hg R₃ V r => ?_
  obtain ⟨hle, S', R'⟩ := S.leave hR ho hg R₃
  exact k _ s₂ val hle S' R' (V.mono' (Gh.withN_sub _ _)) r
theorem SndB.inC {x : Expr} {f : DenB} (h : SndB X d sc nm x f) {A : Around} {env : Env} {K : Addr → Option Obj} {g : Gh} {H : List AO} {ρ : List AV} {D : Addr} {acc : List AV} {s : Shared} {Q : Bool → Shared → Prop} {E : Value → Shared → Prop} {b : Bool} {H' : List AO}
    (hA : AOk A d) (hE : EnvI sc env) (hB : Bs X K g) (S : Cs K env D nm ρ g acc s.heap) (hR : Rel K g H s.heap) (e : f ρ H = some (b, H'))
    (k : ∀ g' s', g.Le g' → Cs K env D nm ρ g' acc s'.heap → Rel K g' H' s'.heap → Rest s s' → Q b s') : wpAny (model X.prog X.w) A (isTrue x env (eval x env)) Q E s := by
  obtain ⟨ys, ⟨n, ho⟩, _⟩ := id S.d
  obtain ⟨R₂, F₂⟩ := S.enter hR ho
  refine h A env _ _ H ρ s Q E b H' hA hE (hB.inC S) F₂ R₂ e fun g₂ s₂ hg R₃ r => ?_
  obtain ⟨hle, S', R'⟩ := S.leave hR ho hg R₃
  exact k _ s₂ hle S' R' r

/-! what a comprehension does with an item -/
noncomputable abbrev DenA := List AV → List AO → List AV → Option (List AV × List AO × List AV)
noncomputable def SndAct (X : Cx) (d : Nat) (sc : Scope) (nm : List Str) (t : Env → Value → Sem Unit) (f : DenA) : Prop :=
  ∀ (A : Around) (env : Env) (K : Addr → Option Obj) (g : Gh) (H : List AO) (ρ : List AV) (s : Shared) (Q : Unit → Shared → Prop) (E : Value → Shared → Prop) (D : Addr) (acc ρ' : List AV) (H' : List AO) (acc' : List AV),
    AOk A d → EnvI sc env → Bs X K g → Cs K env D nm ρ g acc s.heap → Rel K g H s.heap → f ρ H acc = some (ρ', H', acc') →
    (∀ g' s', g.Le g' → Cs K env D nm ρ' g' acc' s'.heap → Rel K g' H' s'.heap → Rest s s' → Q () s') → wpAny (model X.prog X.w) A (t env (.ref D)) Q E s

noncomputable def aEmit (f : Den) : DenA := fun ρ H acc => match f ρ H with
  | some (v, H₁) => if acc.length ≤ 100000 then some (ρ, H₁, acc ++ [v]) else none
  | none => none
noncomputable def emitT (elt : Expr) (env : Env) (acc : Value) : Sem Unit := do let _ ← call (.builtin "list.append") [acc, ← eval elt env]
theorem snd_emit {elt : Expr} {f : Den} (h : SndE X d sc nm elt f) : SndAct X d sc nm (emitT elt) (aEmit f) := by
  intro A env K g H ρ s Q E D acc ρ' H' acc' hA hE hB S hR e k
  unfold aEmit at e
  split at e
  · rename_i v H₁ e₁
    split at e
    · rename_i hl
      cases e
      unfold emitT
      refine wpAny_bind (h.inC hA hE hB S hR e₁ fun g₁ s₁ val hg₁ S₁ R₁ V₁ r₁ => ?_)
      obtain ⟨ys, hp, hv⟩ := S₁.d
      have hs : ys.size = acc.length := by rw [← Array.length_toList]; exact hv.length
      have hsl : sizeLine = 2 ^ 24 := rfl
      refine wpAny_bind (wpAny_list_append_plain hp (fun h₂ hp₂ hs₂ => wpAny_pure ?_) (by rw [hsl]; omega))
      refine k g₁ _ hg₁ ⟨S₁.fc.keeps fun o e => hs₂.extBut _ o (Ne.symm S₁.ne) e, ⟨_, hp₂, ?_⟩, S₁.kD, S₁.cD, S₁.fD, S₁.ne⟩ (R₁.but S₁.kD S₁.cD S₁.fD fun b o hb e => hs₂.extBut b o hb e) (r₁.trans Rest.h)
      rw [Array.toList_push]
      exact hv.append (VRs.cons V₁ VRs.nil)
    · cases e
  · cases e

/-- the tests behind a for -/
noncomputable def SndIf (X : Cx) (d : Nat) (sc : Scope) (nm : List Str) (ifs : List Expr) (f : DenB) : Prop :=
  ∀ (A : Around) (env : Env) (K : Addr → Option Obj) (g : Gh) (H : List AO) (ρ : List AV) (s : Shared) (Q : Bool → Shared → Prop) (E : Value → Shared → Prop) (D : Addr) (acc : List AV) (b : Bool) (H' : List AO),
    AOk A d → EnvI sc env → Bs X K g → Cs K env D nm ρ g acc s.heap → Rel K g H s.heap → f ρ H = some (b, H') →
    (∀ g' s', g.Le g' → Cs K env D nm ρ g' acc s'.heap → Rel K g' H' s'.heap → Rest s s' → Q b s') →
    wpAny (model X.prog X.w) A (forIn ifs true fun c r => if r = true then do let ok ← isTrue c env (eval c env); pure (ForInStep.yield ok) else pure (ForInStep.yield r)) Q E s
theorem sndIf_nil : SndIf X d sc nm [] bTrue := by
  intro A env K g H ρ s Q E D acc b H' hA hE hB S hR e k
  simp only [bTrue, Option.some.injEq, Prod.mk.injEq] at e
  obtain ⟨rfl, rfl⟩ := e
  exact wpAny_tests_nil (k g s (Gh.Le.refl g) S hR (Rest.refl s))
theorem sndIf_one {c : Expr} {f : DenB} (h : SndB X d sc nm c f) : SndIf X d sc nm [c] f := by
  intro A env K g H ρ s Q E D acc b H' hA hE hB S hR e k
  exact wpAny_tests_one (h.inC hA hE hB S hR e k)

noncomputable def compGo (n : Nat) (test : DenB) (act : DenA) : List AV → DenA
  | [], ρ, H, acc => some (ρ, H, acc)
  | x :: xs, ρ, H, acc => match test (ρ.set n x) H with
    | some (true, H₁) => match act (ρ.set n x) H₁ acc with
      | some (ρ₂, H₂, acc₂) => compGo n test act xs ρ₂ H₂ acc₂
      | none => none
    | some (false, H₁) => compGo n test act xs (ρ.set n x) H₁ acc
    | none => none

theorem comp_loop {e : Expr} {depth n : Nat} {x : Str} {px p : Pos} {ifs : List Expr} {t : Env → Value → Sem Unit} {test : DenB} {act : DenA}
    (hturn : ∀ (it acc : Value) (env : Env), compTurn e depth it acc env = (do
      standAt p
      match ← pyNext it with
      | none => pure (.done .next)
      | some v =>
        letOwnedTupleGo (.Name x px) it v
        assign (.Name x px) env v
        let mut ok := true
        for c in ifs do
          if ok then ok ← isTrue c env (eval c env)
        if ok then
          t env acc
        again (.compLoop e depth it acc env)))
    (hden : ∀ (it acc : Value) (env : Env), denote table (.compLoop e depth it acc env) = (compTurn e depth it acc env).onRaise (fun x => do noteFrame x env; theTreesLotGoes x))
    (hw : ∀ (it acc : Value) (env : Env) (A : Around), A.under (.compLoop e depth it acc env) = A) (hq : ∀ (it acc : Value) (env : Env), (Code.compLoop e depth it acc env).quiet = true)
    (hx : nm[n]? = some x) (hl : sc.names.lookup x = some .local) (ht : SndIf X d sc nm ifs test) (ha : SndAct X d sc nm t act)
    {A : Around} {env : Env} {K : Addr → Option Obj} {g : Gh} {H : List AO} {ρ : List AV} {s : Shared} {R : Result → Shared → Prop} {D : Addr} {acc ρ' : List AV} {H' : List AO} {acc' : List AV} {I : Addr} {xs : List AV} {St : Nat → Heap → Prop}
    (hA : AOk A d) (hE : EnvI sc env) (hB : Bs X K g) (S : Cs K env D nm ρ g acc s.heap) (hR : Rel K g H s.heap) (hI : Itr X A g I xs St) (hSt : St 0 s.heap) (hIL : I ≠ env.locals) (hID : I ≠ D) (hKI : K I = none) (hφI : I ∉ g.φ)
    (eg : compGo n test act xs ρ H acc = some (ρ', H', acc'))
    (k : ∀ g' s', g.Le g' → Cs K env D nm ρ' g' acc' s'.heap → Rel K g' H' s'.heap → Rest s s' → R (.ok .next) s') :
    codeAny (model X.prog X.w) A (.compLoop e depth (.ref I) (.ref D) env) R s := by
  have hkind : env.scope.kind = .function := by rw [hE.es]; exact hE.ek
  refine codeAny_loop (hq _ _ _) (fun j s' => ∃ i g' ρ₂ H₂ acc₂, j = xs.length + 1 - i ∧ i ≤ xs.length ∧ g.Le g' ∧ St i s'.heap ∧ Cs K env D nm ρ₂ g' acc₂ s'.heap ∧ Rel K g' H₂ s'.heap ∧ I ∉ g'.φ ∧ Rest s s' ∧ compGo n test act (xs.drop i) ρ₂ H₂ acc₂ = some (ρ', H', acc')) ?_ (xs.length + 1)
    ⟨0, g, ρ, H, acc, by simp, Nat.zero_le _, Gh.Le.refl _, hSt, S, hR, hφI, Rest.refl s, by simpa using eg⟩
  rintro j s' ⟨i, g', ρ₂, H₂, acc₂, rfl, hi', hg', hSt', S', R', hφ', r', e'⟩
  rw [hw]
  show wpAny _ A (denote table (.compLoop e depth (.ref I) (.ref D) env)) _ _ s'
  rw [hden]
  refine wpAny_noted ?_
  rw [hturn]
  have frz' : ∀ b o, g.C b = some o → s'.heap.get? b = some o := fun b o h => (R'.frz _ _ (hg'.C _ _ h)).1
  obtain ⟨oI, nI, vI, ho, hc, hd, hn⟩ := hI.ob _ _ hSt'
  have hCI' : g'.C I = none := by
    cases q : g'.C I with
    | none => rfl
    | some o' => have := R'.frz I o' q; rw [ho] at this; obtain ⟨q1, q2⟩ := this; cases q1; exact absurd q2 (notFD hc hd hn)
  by_cases hlt : i < xs.length
  · refine wpAny_bind (wpAny_standAt (wpAny_bind (hI.item i xs[i] s' _ _ (List.getElem?_eq_getElem hlt) hSt' fun v h₃ tk₃ V₃ St₃ hk₃ => ?_)))
    rw [List.drop_eq_getElem_cons hlt] at e'
    unfold compGo at e'
    obtain ⟨oJ, nJ, vJ, hoJ, hcJ, hdJ, hnJ⟩ := hI.ob _ _ St₃
    have R₃ : Rel K g' H₂ h₃ := R'.but hKI hCI' hφ' hk₃
    have S₃ : Cs K env D nm ρ₂ g' acc₂ h₃ := S'.keeps hIL hID hk₃
    have frz₃ : ∀ b o, g.C b = some o → h₃.get? b = some o := fun b o h => (R₃.frz _ _ (hg'.C _ _ h)).1
    have hoc : ∀ v, oJ.data ≠ .cell v := fun v q => by rw [hdJ] at q; cases q
    refine wpAny_bind (lotg_ok (s := { s' with heap := h₃, toks := tk₃ }) hoJ hcJ hdJ hnJ ?_)
    obtain ⟨m₃, hn₃⟩ := S₃.fc.ns
    refine wpAny_bind (wpAny_assign_Name (wpAny_storeName_local (by unfold Env.kindOf; rw [hE.es]; exact hl) hn₃ (fun h₄ hn₄ hs₄ => ?_) (by rw [hkind]; rfl)))
    obtain ⟨F₄, R₄⟩ := S₃.fc.setL R₃ hx (by unfold Env.kindOf; rw [hE.es]; exact hl) (V₃.mono hg') hn₃ hn₄ hs₄
    have S₄ : Cs K env D nm (ρ₂.set n xs[i]) g' acc₂ h₄ := ⟨F₄, by obtain ⟨ys, h1, h2⟩ := S₃.d; exact ⟨ys, h1.at fun o e => hs₄.extBut _ o S₃.ne e, h2⟩, S₃.kD, S₃.cD, S₃.fD, S₃.ne⟩
    have hoJ₄ : h₄.get? I = some oJ := hs₄.extBut _ _ hIL hoJ
    have R₄' : Rel (K1 K I oJ) g' H₂ h₄ := R₄.addI hoJ₄ hφ'
    have S₄' : Cs (K1 K I oJ) env D nm (ρ₂.set n xs[i]) g' acc₂ h₄ := S₄.addI hIL hID hKI
    have hB' : Bs X (K1 K I oJ) g' := (hB.mono hg').addI hKI
    have back : ∀ {g₅ : Gh} {s₅ : Shared} {ρ₅ : List AV} {H₅ : List AO} {acc₅ : List AV}, g'.Le g₅ → Cs (K1 K I oJ) env D nm ρ₅ g₅ acc₅ s₅.heap → Rel (K1 K I oJ) g₅ H₅ s₅.heap →
        St (i + 1) s₅.heap ∧ Cs K env D nm ρ₅ g₅ acc₅ s₅.heap ∧ Rel K g₅ H₅ s₅.heap ∧ I ∉ g₅.φ := fun {g₅ s₅ ρ₅ H₅ acc₅} hg₅ S₅ R₅ => by
      obtain ⟨R₆, hI₆, hφ₆⟩ := R₅.delI hKI (by rw [hg₅.N]; exact R₃.notN hKI)
      refine ⟨hI.move _ h₃ _ St₃ (fun o e => ?_) frz₃ fun b o h => (R₆.frz _ _ (hg₅.C _ _ (hg'.C _ _ h))).1, S₅.delI hIL hID hKI hoc, R₆, hφ₆⟩
      rw [hoJ] at e; cases e; exact hI₆
    split at e'
    · rename_i H₁ e₁
      split at e'
      · rename_i ρ₅ H₅ acc₅ e₂
        refine wpAny_bind (ht A env (K1 K I oJ) g' H₂ _ { s' with heap := h₄, toks := tk₃ + 1 } _ _ D acc₂ true H₁ hA hE hB' S₄' R₄' e₁ fun g₅ s₅ hg₅ S₅ R₅ r₅ => ?_)
        refine wpAny_bind (ha A env (K1 K I oJ) g₅ H₁ _ s₅ _ _ D acc₂ ρ₅ H₅ acc₅ hA hE (hB'.mono hg₅) S₅ R₅ e₂ fun g₆ s₆ hg₆ S₆ R₆ r₆ => ?_)
        obtain ⟨St₇, S₇, R₇, hφ₇⟩ := back (hg₅.trans hg₆) S₆ R₆
        exact wpAny_pure ⟨rfl, xs.length + 1 - (i + 1), by omega, i + 1, g₆, ρ₅, H₅, acc₅, rfl, hlt, hg'.trans (hg₅.trans hg₆), St₇, S₇, R₇, hφ₇, ((r'.trans Rest.ht).trans r₅).trans r₆, e'⟩
      · cases e'
    · rename_i H₁ e₁
      refine wpAny_bind (ht A env (K1 K I oJ) g' H₂ _ { s' with heap := h₄, toks := tk₃ + 1 } _ _ D acc₂ false H₁ hA hE hB' S₄' R₄' e₁ fun g₅ s₅ hg₅ S₅ R₅ r₅ => ?_)
      obtain ⟨St₇, S₇, R₇, hφ₇⟩ := back hg₅ S₅ R₅
      exact wpAny_pure ⟨rfl, xs.length + 1 - (i + 1), by omega, i + 1, g₅, _, H₁, acc₂, rfl, hlt, hg'.trans hg₅, St₇, S₇, R₇, hφ₇, (r'.trans Rest.ht).trans r₅, e'⟩
    · cases e'
  · have hii : i = xs.length := by omega
    subst hii
    refine wpAny_bind (wpAny_standAt (wpAny_bind (hI.done s' _ _ hSt' fun h₃ tk₃ hk₃ => wpAny_pure ?_)))
    rw [List.drop_length] at e'
    simp only [compGo, Option.some.injEq, Prod.mk.injEq] at e'
    obtain ⟨rfl, rfl, rfl⟩ := e'
    exact k g' _ hg' (S'.keeps hIL hID hk₃) (R'.but hKI hCI' hφ' hk₃) (r'.trans Rest.ht)

end
end Mine
end

section
open PySem PyProof.Rows
set_option autoImplicit false
namespace Mine

section
variable {X : Cx} {d : Nat} {sc : Scope} {nm : List Str}

/-- the loop of a comprehension, as the model turns it: what the four lines of comp_loop ask -/
structure TurnsAs (e : Expr) (depth : Nat) (x : Str) (px p : Pos) (ifs : List Expr) (t : Env → Value → Sem Unit) : Prop where
  turn : ∀ (it acc : Value) (env : Env), compTurn e depth it acc env = (do
      standAt p
      match ← pyNext it with
      | none => pure (.done .next)
      | some v =>
        letOwnedTupleGo (.Name x px) it v
        assign (.Name x px) env v
        let mut ok := true
        for c in ifs do
          if ok then ok ← isTrue c env (eval c env)
        if ok then
          t env acc
        again (.compLoop e depth it acc env))
  den : ∀ (it acc : Value) (env : Env), denote table (.compLoop e depth it acc env) = (compTurn e depth it acc env).onRaise (fun x => do noteFrame x env; theTreesLotGoes x)
  wt : ∀ (it acc : Value) (env : Env) (A : Around), A.under (.compLoop e depth it acc env) = A
  qt : ∀ (it acc : Value) (env : Env), (Code.compLoop e depth it acc env).quiet = true

theorem turns_one {elt iter : Expr} {x : Str} {px : Pos} {ifs : List Expr} {scope : Scope} {pos : Pos} : TurnsAs (.ListComp elt [⟨.Name x px, iter, ifs, 0⟩] scope pos) 0 x px iter.pos ifs (emitT elt) :=
  ⟨fun _ _ _ => rfl, fun _ _ _ => rfl, fun _ _ _ A => Around.under_of_weight rfl, fun _ _ _ => rfl⟩

noncomputable def innerT (e : Expr) (depth : Nat) (iter : Expr) (env : Env) (acc : Value) : Sem Unit := do
  let x ← eval iter env
  standAt iter.pos
  let x ← foldedSetIterable iter env x
  let _ ← runOwn (.compStart e depth (← holding [x] (pyIter x)) acc env) env
theorem turns_two0 {elt iter iter₂ : Expr} {x y : Str} {px py : Pos} {ifs ifs₂ : List Expr} {scope : Scope} {pos : Pos} :
    TurnsAs (.ListComp elt [⟨.Name x px, iter, ifs, 0⟩, ⟨.Name y py, iter₂, ifs₂, 0⟩] scope pos) 0 x px iter.pos ifs (innerT (.ListComp elt [⟨.Name x px, iter, ifs, 0⟩, ⟨.Name y py, iter₂, ifs₂, 0⟩] scope pos) 1 iter₂) :=
  ⟨fun it acc env => by simp only [innerT, bind_assoc]; rfl, fun _ _ _ => rfl, fun _ _ _ A => Around.under_of_weight rfl, fun _ _ _ => rfl⟩
theorem turns_two1 {elt iter iter₂ : Expr} {x y : Str} {px py : Pos} {ifs ifs₂ : List Expr} {scope : Scope} {pos : Pos} :
    TurnsAs (.ListComp elt [⟨.Name x px, iter, ifs, 0⟩, ⟨.Name y py, iter₂, ifs₂, 0⟩] scope pos) 1 y py iter₂.pos ifs₂ (emitT elt) :=
  ⟨fun _ _ _ => rfl, fun _ _ _ => rfl, fun _ _ _ A => Around.under_of_weight rfl, fun _ _ _ => rfl⟩

theorem codeAny_compStart_one {prog : Program} {w : World} {A : Around} {R : Result → Shared → Prop} {s : Shared} {elt target iter target₂ iter₂ : Expr} {ifs ifs₂ : List Expr} {scope : Scope} {pos : Pos} {it acc : Value} {env : Env}
    (h0 : codeAny (model prog w) A (.compLoop (.ListComp elt [⟨target, iter, ifs, 0⟩, ⟨target₂, iter₂, ifs₂, 0⟩] scope pos) 1 it acc env) R s)
    (h : wpAny (model prog w) A (pyIter it) (fun it' s' => codeAny (model prog w) A (.compLoop (.ListComp elt [⟨target, iter, ifs, 0⟩, ⟨target₂, iter₂, ifs₂, 0⟩] scope pos) 1 it' acc env) R s')
      (notedBy (model prog w) A env fun x s' => R (.error x) s') s) :
    codeAny (model prog w) A (.compStart (.ListComp elt [⟨target, iter, ifs, 0⟩, ⟨target₂, iter₂, ifs₂, 0⟩] scope pos) 1 it acc env) R s := by
  refine codeAny_of_tree ?_
  show wpAny _ _ ((compStart (.ListComp elt [⟨target, iter, ifs, 0⟩, ⟨target₂, iter₂, ifs₂, 0⟩] scope pos) 1 it acc env).onRaise (fun x => do noteFrame x env; standAt theWindowsPlace)) _ _ s
  refine wpAny_notedAt ?_
  unfold compStart
  show wpAny _ _ (ask >>= _) _ _ s
  refine wpAny_bind (wpAny_askSetting (wpAny_ite ?_))
  split
  · first
      | exact wpAny_bind (wpAny_pure (wpAny_pure (And.intro rfl h0)))
      | exact wpAny_pure (And.intro rfl h0)
  · first
      | exact wpAny_bind (wpAny_rule (wpAny_bind (wpAny_standAt (wpAny_bind (wpAny_mono h (fun it' s' h' => wpAny_pure (And.intro rfl h')) fun _ _ x => x)))))
      | (refine wpAny_bind (wpAny_rule ?_); show wpAny _ _ (standAt iter₂.pos >>= _) _ _ s; exact wpAny_bind (wpAny_standAt (wpAny_bind (wpAny_mono h (fun it' s' h' => wpAny_pure (And.intro rfl h')) fun _ _ x => x))))

noncomputable def aInner (it : Den) (n : Nat) (test : DenB) (act : DenA) : DenA := fun ρ H acc => match it ρ H with
  | some (a, H₁) => match itemsOf a with
    | some ys => compGo n test act ys ρ H₁ acc
    | none => none
  | none => none
theorem snd_inner {elt iter iter₂ : Expr} {x y : Str} {px py : Pos} {ifs ifs₂ : List Expr} {scope : Scope} {pos : Pos} {n : Nat} {it : Den} {test : DenB} {act : DenA} (hi : SndE X d sc nm iter₂ it) (hy : nm[n]? = some y) (hl : sc.names.lookup y = some .local)
    (ht : SndIf X d sc nm ifs₂ test) (ha : SndAct X d sc nm (emitT elt) act) (hs : ∀ env x, foldedSetIterable iter₂ env x = pure x := by intro _ _; rfl) :
    SndAct X d sc nm (innerT (.ListComp elt [⟨.Name x px, iter, ifs, 0⟩, ⟨.Name y py, iter₂, ifs₂, 0⟩] scope pos) 1 iter₂) (aInner it n test act) := by
  intro A env K g H ρ s Q E D acc ρ' H' acc' hA hE hB S hR e k
  unfold aInner at e
  split at e
  · rename_i a H₁ e₁
    split at e
    · rename_i ys e₂
      unfold innerT
      refine wpAny_bind (hi.inC hA hE hB S hR e₁ fun g₁ s₁ va hg₁ S₁ R₁ V₁ r₁ => ?_)
      refine wpAny_bind (wpAny_standAt (wpAny_bind (wpAny_of_eq (hs env va) (wpAny_bind (wpAny_holding (iter_ok hA e₂ R₁ V₁ fun I St h₂ hI hSt hfr R₂ hk₂ => ?_))))))
      obtain ⟨hKI, hCI, hφI⟩ := R₁.fresh hfr
      have hIL : I ≠ env.locals := by rintro rfl; obtain ⟨m, o, es, ep, e, _⟩ := S₁.fc.ns; rw [e] at hfr; cases hfr
      have hID : I ≠ D := by rintro rfl; obtain ⟨ys, ⟨n, e⟩, _⟩ := S₁.d; rw [e] at hfr; cases hfr
      have S₂ : Cs K env D nm ρ g₁ acc h₂ := S₁.keeps hIL hID fun b o _ e => hk₂ b o e
      have loop : ∀ (s₃ : Shared), s₃ = { s₁ with heap := h₂ } → codeAny (model X.prog X.w) A (.compLoop (.ListComp elt [⟨.Name x px, iter, ifs, 0⟩, ⟨.Name y py, iter₂, ifs₂, 0⟩] scope pos) 1 (.ref I) (.ref D) env)
          (fun r s' => match r with | .ok f => wpAny (model X.prog X.w) A (pure ()) Q E s' | .error e => cameBackBy (model X.prog X.w) A env E e s') s₃ := by
        rintro s₃ rfl
        refine comp_loop turns_two1.turn turns_two1.den turns_two1.wt turns_two1.qt hy hl ht ha hA hE (hB.mono hg₁) S₂ R₂ hI hSt hIL hID hKI hφI e fun g₃ s₃ hg₃ S₃ R₃ r₃ => ?_
        exact wpAny_pure (k g₃ s₃ (hg₁.trans hg₃) S₃ R₃ ((r₁.trans Rest.h).trans r₃))
      exact wpAny_bind (wpAny_runOwn (codeAny_compStart_one (loop _ rfl) (hI.self 0 _ _ _ hSt (loop _ rfl))))
    · cases e
  · cases e

/-- a comprehension up to what is done with its list -/
theorem comp_core {elt iter : Expr} {x : Str} {px p : Pos} {ifs : List Expr} {rest : List Comprehension} {scope : Scope} {pos pos' : Pos} {cl : List (Str × Addr)} {t : Env → Value → Sem Unit} {n : Nat} {nm' : List Str} {test : DenB} {act : DenA}
    {A : Around} {env : Env} {K : Addr → Option Obj} {g : Gh} {H₁ H' : List AO} {ρ₀ ρ' acc : List AV} {s : Shared} {Q : Value → Shared → Prop} {E : Value → Shared → Prop} {use : Option (Value → Sem Unit)} {a : AV} {xs : List AV}
    (tn : TurnsAs (.ListComp elt (⟨.Name x px, iter, ifs, 0⟩ :: rest) scope pos) 0 x px p ifs t)
    (hs : ∀ x, foldedSetIterable iter env x = pure x) (hclos : closureFor scope env = pure cl) (hcell : ∀ y ∈ scope.names, y.2 ≠ .cell) (hkind : scope.kind = .function)
    (hnames : ∀ y ∈ scope.names, y.2 = .local → scope.names.lookup y.1 = some .local) (hx : nm'[n]? = some x) (hl : scope.names.lookup x = some .local)
    (ht : SndIf X d (relabel scope env) nm' ifs test) (ha : SndAct X d (relabel scope env) nm' t act)
    (hA : AOk A d) (hE : EnvI sc env) (hB : Bs X K g)
    (hfirst : ∀ Q', (∀ g₁ s₁ va, g.Le g₁ → Rel K g₁ H₁ s₁.heap → VR g₁ a va → Rest s s₁ → Q' va s₁) → wpAny (model X.prog X.w) A (eval iter env) Q' E s)
    (hit : itemsOf a = some xs) (hfr : ∀ C g₁, g.Le g₁ → FrK K (compEnvC scope cl C env) nm' ρ₀ g₁) (hnd : nm'.Nodup) (hln : ρ₀.length = nm'.length)
    (eg : compGo n test act xs ρ₀ H₁ [] = some (ρ', H', acc))
    (k : ∀ g' s' D C, g.Le g' → Rel K g' H' s'.heap → VR g' (.lst acc) (.ref D) → (∃ m, s'.heap.Ns C m) → K C = none → Rest s s' → compPost (model X.prog X.w) A E use Q (.ref D) C (.ok .next) s') :
    wpAny (model X.prog X.w) A (comprehension (.ListComp elt (⟨.Name x px, iter, ifs, 0⟩ :: rest) scope pos) scope env pos' (newList []) false (eval iter env) use) Q E s := by
  refine wpAny_comprehension_free (g := ⟨.Name x px, iter, ifs, 0⟩) (gs := rest) rfl hs hclos hkind hnames (hfirst _ fun g₁ s₁ va hg₁ R₁ V₁ r₁ => iter_ok hA hit R₁ V₁ fun I St h₂ hI hSt hfrI R₂ hk₂ => ?_)
  refine wpAny_newObj_type (s := { s₁ with heap := h₂ }) (wpAny_newFunctionEnv hcell (by intro y hy; simp at hy) (fun h₃ hns₃ hsb₃ => ?_) hkind) (by size_fits)
  dsimp only at hns₃ hsb₃ ⊢
  generalize hH2 : h₂.push { cls := .type "list", dict := none, data := .seq ([] : List Value).toArray } = H2 at hns₃ hsb₃ ⊢
  have hCs : H2.objs.size = h₂.objs.size + 1 := by rw [← hH2, Heap.size_push]
  have hDC : h₂.objs.size ≠ H2.objs.size := by rw [hCs]; exact Nat.ne_of_lt (Nat.lt_succ_self _)
  have hD0 : h₂.get? h₂.objs.size = none := get?_size _
  have hC0 : h₂.get? H2.objs.size = none := by
    cases e : h₂.get? H2.objs.size with
    | none => rfl
    | some o => exact absurd (Heap.lt_size e) (by rw [hCs]; exact Nat.not_lt.mpr (Nat.le_succ _))
  have old : ∀ b o, h₂.get? b = some o → h₃.get? b = some o := fun b o e => hsb₃.extBut b o (by rintro rfl; rw [hC0] at e; cases e) (Heap.get?_push_of_some _ (hH2 ▸ Heap.get?_push_of_some _ e))
  have hacc : h₃.PlainList h₂.objs.size #[] := ⟨_, hsb₃.extBut _ _ hDC (Heap.get?_push_of_some _ (hH2 ▸ Heap.get?_push_size _ rfl))⟩
  have R₃ : Rel K g₁ H₁ h₃ := R₂.ext old
  obtain ⟨hKD, hCD, hφD⟩ := R₂.fresh hD0
  obtain ⟨hKC, _, _⟩ := R₂.fresh hC0
  obtain ⟨hKI, _, hφI⟩ := R₁.fresh hfrI
  have hSt₃ : St 0 h₃ := hI.move 0 h₂ h₃ hSt (fun o e => old _ o e) (fun b o e => (R₂.frz _ _ e).1) fun b o e => (R₃.frz _ _ e).1
  obtain ⟨oI, nI, vI, hoI, _⟩ := hI.ob _ _ hSt
  have hIL : I ≠ H2.objs.size := by rintro rfl; rw [hC0] at hoI; cases hoI
  have hID : I ≠ h₂.objs.size := by rintro rfl; rw [hD0] at hoI; cases hoI
  have hE' : EnvI (relabel scope env) (compEnvC scope cl H2.objs.size env) := ⟨rfl, hkind, hE.eg, hE.eb⟩
  have F₃ : Fc K (compEnvC scope cl H2.objs.size env) nm' ρ₀ g₁ h₃ := by
    refine ⟨fun n x v e1 e2 e3 => ?_, ⟨_, hns₃⟩, hKC, hnd, hln⟩
    obtain ⟨val, hld, hv⟩ := hfr H2.objs.size g₁ hg₁ n x v e1 e2 e3
    refine ⟨val, ?_, hv⟩
    have mv : ∀ a o', K a = some o' → ovC K H2.objs.size h₃ a = some o' := fun a o' e => by
      unfold ovC; rw [if_neg (by rintro rfl; rw [hKC] at e; cases e)]; exact e
    rcases hld with ⟨hkd, o, es, ep, ho, r⟩ | ⟨hkd, c, o, hc, ho, r⟩
    · exact .inl ⟨hkd, o, es, ep, mv _ _ ho, r⟩
    · exact .inr ⟨hkd, c, o, hc, mv _ _ ho, r⟩
  have S₃ : Cs K (compEnvC scope cl H2.objs.size env) h₂.objs.size nm' ρ₀ g₁ [] h₃ := ⟨F₃, ⟨#[], hacc, by simpa using VRs.nil⟩, hKD, hCD, hφD, hDC⟩
  have loop : ∀ s₄ : Shared, s₄ = { s₁ with heap := h₃, toks := s₁.toks + ([] : List (Str × Value)).length } →
      codeAny (model X.prog X.w) A (.compLoop (.ListComp elt (⟨.Name x px, iter, ifs, 0⟩ :: rest) scope pos) 0 (.ref I) (.ref h₂.objs.size) (compEnvC scope cl H2.objs.size env))
        (compPost (model X.prog X.w) A E use Q (.ref h₂.objs.size) H2.objs.size) s₄ := by
    rintro s₄ rfl
    refine comp_loop tn.turn tn.den tn.wt tn.qt hx (lookup_relabel_local hl) ht ha hA hE' (hB.mono hg₁) S₃ R₃ hI hSt₃ hIL hID hKI hφI eg fun g₅ s₅ hg₅ S₅ R₅ r₅ => ?_
    obtain ⟨ys, ⟨m, hp⟩, hv⟩ := S₅.d
    have hle := Gh.freeze_le R₅ hp
    have hNd : h₂.objs.size ∉ g₅.N := R₅.notN hKD
    refine k (g₅.freeze h₂.objs.size _) s₅ h₂.objs.size H2.objs.size ((hg₁.trans hg₅).trans hle) (R₅.freeze hp (.inl ⟨_, _, rfl⟩) S₅.fD hNd) ?_ S₅.fc.ns hKC ((r₁.trans Rest.ht).trans r₅)
    simp only [VR]
    exact ⟨_, _, _, _, rfl, by simp [Gh.freeze]; rfl, rfl, rfl, hv.mono hle⟩
  exact codeAny_compStart_list (loop _ rfl) (hI.self 0 _ _ _ hSt₃ (loop _ rfl))

end
end Mine
end

section
open PySem PyProof.Rows
set_option autoImplicit false
namespace Mine

noncomputable def relabelS (scope sc : Scope) : Scope :=
  { scope with names := scope.names.map fun (n, k) => if (k == .free && sc.kind == .function && sc.names.lookup n == some .cell) then (n, .cell) else (n, k) }
theorem relabelS_eq {scope sc : Scope} {env : Env} (h : env.scope = sc) : relabel scope env = relabelS scope sc := by
  subst h; rfl

/-- the one name of the def around that a comprehension reads, and its place -/
inductive FreeOk (sc scope : Scope) (nm : List Str) : Option (Str × Nat) → Prop
  | none : (∀ env : Env, closureFor scope env = pure []) → FreeOk sc scope nm none
  | one (y : Str) (n : Nat) : nm[n]? = some y → sc.names.lookup y = some .cell → (∀ (env : Env) (c : Addr), env.cells.lookup y = some c → closureFor scope env = pure [(y, c)]) → (relabelS scope sc).names.lookup y = some .cell → FreeOk sc scope nm (some (y, n))

structure CompOk (scope : Scope) (x : Str) : Prop where
  cell : ∀ y ∈ scope.names, y.2 ≠ .cell
  kind : scope.kind = .function
  names : ∀ y ∈ scope.names, y.2 = .local → scope.names.lookup y.1 = some .local
  loc : scope.names.lookup x = some .local

noncomputable def freeV (ρ : List AV) : Option (Str × Nat) → Option (List AV)
  | none => some []
  | some (_, n) => match ρ[n]? with
    | some v => if v.isUnd then none else some [v]
    | none => none
noncomputable def freeN : Option (Str × Nat) → List Str
  | none => []
  | some (y, _) => [y]
noncomputable def dComp (it : Den) (nl : Nat) (fr : Option (Str × Nat)) (test : DenB) (act : DenA) : Den := fun ρ H => match it ρ H with
  | some (a, H₁) => match itemsOf a, freeV ρ fr with
    | some xs, some vs => match compGo 0 test act xs (List.replicate nl .und ++ vs) H₁ [] with
      | some (_, H', acc) => some (.lst acc, H')
      | none => none
    | _, _ => none
  | none => none

section
variable {X : Cx} {d : Nat} {sc : Scope} {nm : List Str}

theorem free_ok {scope : Scope} {fr : Option (Str × Nat)} {loc : List Str} {env : Env} {K : Addr → Option Obj} {g : Gh} {ρ vs : List AV} (hE : EnvI sc env) (hf : FreeOk sc scope nm fr) (hF : FrK K env nm ρ g) (e : freeV ρ fr = some vs) :
    ∃ cl, closureFor scope env = pure cl ∧ (List.replicate loc.length AV.und ++ vs).length = (loc ++ freeN fr).length ∧ ∀ C g₁, g.Le g₁ → FrK K (compEnvC scope cl C env) (loc ++ freeN fr) (List.replicate loc.length .und ++ vs) g₁ := by
  cases hf with
  | none h =>
    simp only [freeV, Option.some.injEq] at e
    subst e
    refine ⟨[], h env, by simp [freeN], fun C g₁ hg n x v e1 e2 e3 => ?_⟩
    simp only [List.append_nil] at e2
    rw [List.getElem?_replicate] at e2
    split at e2
    · cases e2; exact absurd rfl e3
    · cases e2
  | one y n hy hc hcl hr =>
    simp only [freeV] at e
    split at e
    · rename_i v hv
      split at e
      · cases e
      · rename_i hu
        cases e
        have hvu : v ≠ .und := fun q => hu (by rw [q]; rfl)
        obtain ⟨val, hld, hvr⟩ := hF n y v hy hv hvu
        have hkind : env.kindOf y = some .cell := by unfold Env.kindOf; rw [hE.es]; exact hc
        rcases hld with ⟨hk, _⟩ | ⟨_, c, o, hcc, ho, hd⟩
        · rw [hkind] at hk; cases hk
        · refine ⟨[(y, c)], hcl env c hcc, by simp [freeN], fun C g₁ hg j x w e1 e2 e3 => ?_⟩
          by_cases hj : j < loc.length
          · rw [List.getElem?_append_left (by simpa using hj), List.getElem?_replicate, if_pos hj] at e2
            cases e2; exact absurd rfl e3
          · rw [List.getElem?_append_right (by simpa using hj)] at e2
            rw [List.getElem?_append_right (by omega)] at e1
            simp only [List.length_replicate] at e2
            cases hjj : j - loc.length with
            | succ q => rw [hjj] at e2; simp at e2
            | zero =>
              rw [hjj] at e1 e2
              simp only [freeN, List.getElem?_cons_zero, Option.some.injEq] at e1 e2
              subst e1 e2
              refine ⟨val, .inr ⟨.inl ?_, c, o, ?_, ho, hd⟩, hvr.mono hg⟩
              · show (relabel scope env).names.lookup y = some .cell
                rw [relabelS_eq hE.es]; exact hr
              · show List.lookup y [(y, c)] = some c
                simp [List.lookup]
    · cases e

theorem snd_comp {elt iter : Expr} {x : Str} {px p : Pos} {ifs : List Expr} {rest : List Comprehension} {scope : Scope} {pos : Pos} {t : Env → Value → Sem Unit} {loc : List Str} {fr : Option (Str × Nat)} {it : Den} {test : DenB} {act : DenA}
    (tn : TurnsAs (.ListComp elt (⟨.Name x px, iter, ifs, 0⟩ :: rest) scope pos) 0 x px p ifs t) (hi : SndE X d sc nm iter it) (hc : CompOk scope x) (hf : FreeOk sc scope nm fr)
    (hx : (loc ++ freeN fr)[0]? = some x) (hnd : (loc ++ freeN fr).Nodup)
    (ht : SndIf X d (relabelS scope sc) (loc ++ freeN fr) ifs test) (ha : SndAct X d (relabelS scope sc) (loc ++ freeN fr) t act)
    (hs : ∀ env x, foldedSetIterable iter env x = pure x := by intro _ _; rfl) : SndE X d sc nm (.ListComp elt (⟨.Name x px, iter, ifs, 0⟩ :: rest) scope pos) (dComp it loc.length fr test act) := by
  intro A env K g H ρ s Q E v H' hA hE hB hF hR e k
  unfold dComp at e
  split at e
  · rename_i a H₁ e₁
    split at e
    · rename_i xs vs e₂ e₃
      split at e
      · rename_i ρ' H₂ acc e₄
        cases e
        obtain ⟨cl, hcl, hln, hfr⟩ := free_ok (loc := loc) hE hf hF e₃
        rw [eval_ListComp]
        rw [← relabelS_eq hE.es] at ht ha
        refine comp_core (use := none) tn (hs env) hcl hc.cell hc.kind hc.names hx hc.loc ht ha hA hE hB (fun Q' k' => hi A env K g H ρ s Q' E a H₁ hA hE hB hF hR e₁ k') e₂ hfr hnd hln e₄ ?_
        intro g' s' D C hg' R' V' ns hKC r'
        obtain ⟨m, hn⟩ := ns
        refine ⟨m, hn, fun h' hs' => ?_⟩
        obtain ⟨hCC, hφC⟩ := R'.notFrameL hn
        exact k g' _ _ hg' (R'.but hKC hCC hφC fun b o hb e => hs'.extBut b o hb e) V' (r'.trans Rest.h)
      · cases e
    · cases e
  · cases e

/-- name = comprehension, the stores exchanged -/
theorem sndT_asgComp {elt iter : Expr} {x : Str} {px p : Pos} {ifs : List Expr} {rest : List Comprehension} {scope : Scope} {pos : Pos} {t : Env → Value → Sem Unit} {loc : List Str} {fr : Option (Str × Nat)} {it : Den} {test : DenB} {act : DenA}
    {z : Str} {nz : Nat} {pz spos : Pos}
    (tn : TurnsAs (.ListComp elt (⟨.Name x px, iter, ifs, 0⟩ :: rest) scope pos) 0 x px p ifs t) (hi : SndE X d sc nm iter it) (hc : CompOk scope x) (hf : FreeOk sc scope nm fr)
    (hx : (loc ++ freeN fr)[0]? = some x) (hnd : (loc ++ freeN fr).Nodup)
    (ht : SndIf X d (relabelS scope sc) (loc ++ freeN fr) ifs test) (ha : SndAct X d (relabelS scope sc) (loc ++ freeN fr) t act) (hz : nm[nz]? = some z)
    (hsw : ∀ env, EnvI sc env → swapsWith (.ListComp elt (⟨.Name x px, iter, ifs, 0⟩ :: rest) scope pos) (some (.Name z pz)) spos.line env = pure true)
    (hs : ∀ env x, foldedSetIterable iter env x = pure x := by intro _ _; rfl) : SndT X d sc nm (.Assign [.Name z pz] (.ListComp elt (⟨.Name x px, iter, ifs, 0⟩ :: rest) scope pos) spos) (sAsg nz (dComp it loc.length fr test act)) := by
  intro A env K g H ρ s Q E fl ρ₁ H' hA hE hB hF hR e k
  unfold sAsg at e
  split at e
  · rename_i v H₀ e₀
    cases e
    unfold dComp at e₀
    split at e₀
    · rename_i a H₁ e₁
      split at e₀
      · rename_i xs vs e₂ e₃
        split at e₀
        · rename_i ρ' H₂ acc e₄
          cases e₀
          obtain ⟨cl, hcl, hln, hfr⟩ := free_ok (loc := loc) hE hf hF.fr e₃
          refine .of ?_
          rw [exec_Assign_Name_used _ _ _ _ (hsw env hE)]
          refine wpAny_bind (wpAny_standAt ?_)
          refine wpAny_bind (m := evalThenUse _ _ _) ?_
          show wpAny _ _ (do let _ ← comprehension (.ListComp elt (⟨.Name x px, iter, ifs, 0⟩ :: rest) scope pos) scope env (firstIterPos (⟨.Name x px, iter, ifs, 0⟩ :: rest) pos) (newList []) false (eval iter env) (some (assign (.Name z pz) env))) _ _ _
          refine wpAny_bind ?_
          rw [← relabelS_eq hE.es] at ht ha
          refine comp_core (use := some (assign (.Name z pz) env)) tn (hs env) hcl hc.cell hc.kind hc.names hx hc.loc ht ha hA hE (hB.ov hF) (fun Q' k' => hi A env (Mine.ov K env s.heap) g H ρ s Q' E a H₁ hA hE (hB.ov hF) hF.fr (hF.relOv hR) e₁ k') e₂ hfr hnd hln e₄ ?_
          intro g' s' D C hg' R' V' ns hKC r'
          obtain ⟨m, hn⟩ := ns
          obtain ⟨hCC, hφC⟩ := R'.notFrameL hn
          obtain ⟨oC, esC, epC, hoC, hdC, hkC, hfC⟩ := id hn
          have hCl : C ≠ env.locals ∧ C ∉ env.cells.map (·.2) := by
            refine ⟨?_, fun hm => ?_⟩
            · rintro rfl
              obtain ⟨m, o, es, ep, ho, _⟩ := hF.ns
              unfold ov at hKC; rw [if_pos (.inl rfl), ho] at hKC; cases hKC
            · obtain ⟨v, o, ho, _⟩ := hF.cl C hm
              unfold ov at hKC; rw [if_pos (.inr hm), ho] at hKC; cases hKC
          have hKC' : K C = none := by
            unfold ov at hKC
            rw [if_neg (by rintro (q | q); exact hCl.1 q; exact hCl.2 q)] at hKC; exact hKC
          obtain ⟨F₂, R₂⟩ := hF.close hR hg' R'
          have F₃ : Fm (K1 K C oC) env nm ρ g' s'.heap := F₂.addI hCl
          have R₃ : Rel (K1 K C oC) g' _ s'.heap := R₂.addI hoC hφC
          refine wpAny_assign_Name (F₃.store R₃ hE hz V' fun h₄ tk₄ F₄ R₄ => ?_)
          obtain ⟨R₅, hC₅, _⟩ := R₄.delI hKC' (R₂.notN hKC')
          refine ⟨m, ⟨oC, esC, epC, hC₅, hdC, hkC, hfC⟩, fun h₅ hs₅ => wpAny_pure (wpAny_pure ?_)⟩
          have hkk : ∀ b o, b ≠ C → h₄.get? b = some o → h₅.get? b = some o := fun b o hb e => hs₅.extBut b o hb e
          exact k g' _ _ hg' ((F₄.delI hKC').keeps hCl hkk) (R₅.but hKC' hCC hφC hkk) rfl (r'.trans Rest.ht)
        · cases e₀
      · cases e₀
    · cases e₀
  · cases e

end
end Mine
end

section
open PySem PyProof.Rows
set_option autoImplicit false
namespace Mine

section
variable {X : Cx} {d : Nat} {sc : Scope} {nm : List Str}

noncomputable def dCount (fo fa : Den) : Den := fun ρ H => match fo ρ H with
  | some (.ref k, H₁) => match fa ρ H₁ with
    | some (.int x, H₂) => match H₁[k]?, H₂[k]? with
      | some ao₁, some ao => if !ao₁.byt && !ao.byt then some (.int (ao.xs.count x : Nat), H₂) else none
      | _, _ => none
    | _ => none
  | _ => none
theorem snd_count {o a : Expr} {apos pos : Pos} {fo fa : Den} (h₁ : SndE X d sc nm o fo) (h₂ : SndE X d sc nm a fa) (hs : ∀ env, starEach [a] env = [(false, eval a env)] := by intro _; rfl)
    (hbase : ∀ env, attributeBase o ("count" : Str) env (eval o env) = eval o env := by intro _; rfl) (hline : (apos.endLine == pos.line) = true := by rfl) : SndE X d sc nm (.Call (.Attribute o ("count" : Str) apos) [a] [] pos) (dCount fo fa) := by
  intro A env K g H ρ s Q E v H' hA hE hB hF hR e k
  unfold dCount at e
  split at e
  · rename_i kk H₁ e₁
    split at e
    · rename_i x H₂ e₂
      split at e
      · rename_i ao₁ ao hk₁ hk
        split at e
        · rename_i hbt
          cases e
          simp only [Bool.and_eq_true, Bool.not_eq_true'] at hbt
          refine wpAny_Call_method (T := "list") (id := "list.count") (hbase env) (by rw [hs env]; rfl) hline PySem.F.plainAttrs_list PySem.F.slot_list_count PySem.F.type_list_count ?_
          refine h₁ A env K g H ρ s _ E _ _ hA hE hB hF hR e₁ fun g₁ s₁ v₁ hg₁ R₁ V₁ r₁ => ?_
          have V₁' := V₁
          simp only [VR] at V₁'
          obtain ⟨l, rfl, hφ⟩ := V₁'
          obtain ⟨a', o₁, q1, q2, q3⟩ := R₁.trk kk ao₁ hk₁
          rw [hφ] at q1; cases q1
          unfold OR at q3
          rw [if_neg (by rw [hbt.1]; exact Bool.false_ne_true)] at q3
          obtain ⟨vs, n, ⟨hc3, hn3, hd3⟩, hI⟩ := q3
          refine ⟨⟨o₁, q2, hc3⟩, fun a ea => by cases ea; exact ⟨o₁, q2, hn3⟩, ?_⟩
          rw [hs env]
          refine Calls.callWith_builtin rfl (Calls.evalArgs_plain (Calls.spliced_cons ?_))
          show wpAny _ _ (eval a env) _ _ _
          refine h₂ A env K g₁ H₁ ρ s₁ _ E _ _ hA hE (hB.mono hg₁) (hF.mono hg₁) R₁ e₂ fun g₂ s₂ v₂ hg₂ R₂ V₂ r₂ => ?_
          refine Calls.spliced_nil ?_
          simp only [VR] at V₂
          obtain ⟨t, rfl⟩ := V₂
          obtain ⟨a'', o₂, q1, p2, p3⟩ := R₂.trk kk ao hk
          have hφ₂ := hg₂.φ _ _ hφ
          rw [hφ₂] at q1; cases q1
          unfold OR at p3
          rw [if_neg (by rw [hbt.2]; exact Bool.false_ne_true)] at p3
          obtain ⟨vs₂, n₂, ⟨hc4, hn4, hd4⟩, hI₂⟩ := p3
          have hL : s₂.heap.IsList l vs₂.toList.toArray := ⟨o₂, p2, hc4, n₂, by simpa using hd4⟩
          exact count_list_ints hL hI₂ (k g₂ _ _ (hg₁.trans hg₂) R₂ VR.int ((r₁.trans r₂).trans Rest.t))
        · cases e
      · cases e
    · cases e
  · cases e

theorem items_ba {acc : Array Value} {b : Array UInt8} (h : ItemsOf (fun i v => ∃ t, v = .int (b.getD i 0).toNat t) acc b.size) : IntsAre acc.toList (b.toList.map fun u => (u.toNat : Int)) := by
  obtain ⟨hs, hP⟩ := h
  have key : ∀ (l : List Value) (us : List UInt8), l.length = us.length → (∀ (j : Nat) (v : Value), l[j]? = some v → ∃ t, v = Value.int ((us.getD j 0).toNat : Int) t) → IntsAre l (us.map fun u => (u.toNat : Int)) := by
    intro l
    induction l with
    | nil => intro us hl _; cases us with
      | nil => exact .nil
      | cons => simp at hl
    | cons x l ih =>
      intro us hl hk
      cases us with
      | nil => simp at hl
      | cons u us =>
        obtain ⟨t, rfl⟩ := hk 0 x (by simp)
        refine .cons _ t (ih us (by simpa using hl) fun j v hj => ?_)
        obtain ⟨t', h'⟩ := hk (j + 1) v (by simpa using hj)
        exact ⟨t', by simpa using h'⟩
  refine key acc.toList b.toList (by simp [hs]) fun j v hj => ?_
  obtain ⟨t, h'⟩ := hP j v (by simpa using hj)
  refine ⟨t, ?_⟩
  rw [h']
  congr 3
  by_cases hjb : j < b.size
  · simp [Array.getD, hjb, List.getD]
  · simp [Array.getD, hjb, List.getD]

noncomputable def pListB : PDen := fun as H => match as with
  | [.ref k] => match H[k]? with
    | some ao => if ao.byt = true ∧ ao.xs.length ≤ 100000 then some (.lst (ao.xs.map .int), H) else none
    | none => none
  | as => pList as H
theorem prim_listB : Prim X d (.type "list") pListB := by
  intro A K g H s Q E as vs v H' hA hB hR e hv k
  unfold pListB at e
  split at e
  · rename_i kk
    split at e
    · rename_i ao hk
      split at e
      · rename_i hc
        cases e
        obtain ⟨v, rfl, hv1⟩ := vrs_one hv
        simp only [VR] at hv1
        obtain ⟨l, rfl, hφ⟩ := hv1
        obtain ⟨a', o₁, q1, q2, q3⟩ := hR.trk kk ao hk
        rw [hφ] at q1; cases q1
        unfold OR at q3
        rw [if_pos hc.1] at q3
        obtain ⟨b, rfl, hb'⟩ := q3
        have hs : b.size = ao.xs.length := by rw [← hb']; simp
        refine call_list_ba hA.hd q2 (by omega) fun h' tk acc c' hk hget hit => ?_
        have R' : Rel K g _ h' := hR.ext hk
        obtain ⟨hK, _, hφ'⟩ := hR.fresh (get?_size s.heap)
        refine k (g.freeze s.heap.objs.size _) _ _ (Gh.freeze_le R' hget) (R'.freeze hget (.inl ⟨_, _, rfl⟩) hφ' (hR.notN hK)) ?_ Rest.ht
        simp only [VR]
        refine ⟨_, _, _, _, rfl, by simp [Gh.freeze]; rfl, rfl, rfl, ?_⟩
        rw [← hb']
        exact VRs.ints (items_ba hit)
      · cases e
    · cases e
  · exact prim_list A K g H s Q E as vs v H' hA hB hR e hv k

end
end Mine
end

section
open PySem PyProof.Rows
set_option autoImplicit false
namespace Mine

theorem cellsFrom_lookup : ∀ (names : List (Str × NameKind)) (n : Nat) (acc : List (Str × Addr)) (x : Str), (acc.lookup x).isSome = true ∨ names.lookup x = some .cell → ((cellsFrom n names acc).lookup x).isSome = true
  | [], n, acc, x, h => by
    simp only [cellsFrom]
    rcases h with h | h
    · exact h
    · simp at h
  | (y, k) :: r, n, acc, x, h => by
    unfold cellsFrom
    have acc1 : ∀ a, (acc.lookup x).isSome = true → ((((y, a) :: acc) : List (Str × Addr)).lookup x).isSome = true := fun a h => by
      rw [List.lookup_cons]
      cases x == y <;> simp [h]
    split
    · rename_i hk
      refine cellsFrom_lookup r (n + 1) _ x ?_
      rcases h with h | h
      · exact .inl (acc1 n h)
      · rw [List.lookup_cons] at h
        cases hxy : x == y with
        | true => left; rw [List.lookup_cons, hxy]; rfl
        | false => rw [hxy] at h; right; exact h
    · rename_i hk
      refine cellsFrom_lookup r n acc x ?_
      rcases h with h | h
      · exact .inl h
      · rw [List.lookup_cons] at h
        cases hxy : x == y with
        | true => rw [hxy] at h; simp at h; subst h; exact absurd rfl hk
        | false => rw [hxy] at h; right; exact h

theorem bindL_zip {kf : Str → Option NameKind} : ∀ (ps : List Str) (vs : List Value) (m : Str → Option Value), ps.Nodup → (∀ x ∈ ps, kf x = some .local) → (∀ x, x ∉ ps → bindL kf (ps.zip vs) m x = m x) ∧ ∀ (j : Nat) (x : Str) (v : Value), ps[j]? = some x → vs[j]? = some v → bindL kf (ps.zip vs) m x = some v
  | [], vs, m, _, _ => ⟨fun _ _ => rfl, fun j x v h => by simp at h⟩
  | p :: ps, [], m, _, _ => ⟨fun _ _ => rfl, fun j x v _ h => by simp at h⟩
  | p :: ps, w :: vs, m, hn, hk => by
    have hn' := List.nodup_cons.mp hn
    have hp := hk p (List.mem_cons_self ..)
    have ih := bindL_zip ps vs (fun y => if y = p then some w else m y) hn'.2 fun x hx => hk x (List.mem_cons_of_mem _ hx)
    have e : bindL kf ((p :: ps).zip (w :: vs)) m = bindL kf (ps.zip vs) (fun y => if y = p then some w else m y) := by
      rw [List.zip_cons_cons]; show bindL kf (ps.zip vs) (if kf p = some .local then fun y => if y = p then some w else m y else m) = _; rw [if_pos hp]
    refine ⟨fun x hx => ?_, fun j x v h1 h2 => ?_⟩
    · rw [e, ih.1 x (fun hm => hx (List.mem_cons_of_mem _ hm)), if_neg (by rintro rfl; exact hx (List.mem_cons_self ..))]
    · rw [e]
      cases j with
      | zero =>
        simp at h1 h2
        subst h1 h2
        rw [ih.1 p hn'.1]; simp
      | succ j => simp at h1 h2; exact ih.2 j x v h1 h2

noncomputable def PrimC (X : Cx) (d : Nat) (f : Value) (p : PDen) : Prop :=
  ∀ (A : Around) (K : Addr → Option Obj) (g : Gh) (H : List AO) (s : Shared) (Q : Value → Shared → Prop) (E : Value → Shared → Prop) (as : List AV) (vs : List Value) (v : AV) (H' : List AO),
    AOk A d → Bs X K g → Rel K g H s.heap → p as H = some (v, H') → VRs g as vs → Kn K g H' v Q s → wpC (model X.prog X.w) A (call f vs) Q E s

section
variable {X : Cx} {d : Nat} {sc : Scope} {nm : List Str}

theorem sndC_call {x : Str} {a : Addr} {o : Obj} {fd : FuncData} {xs : List Expr} {p₁ pos : Pos} {r : DenL} {p : PDen} (hv : GV X x (.ref a)) (ho : X.h₁.get? a = some o) (hdd : o.data = .func fd) (hp : PrimC X d (.ref a) p) (h₁ : SndL X d sc nm xs r)
    (hne : xs ≠ [] := by exact List.cons_ne_nil _ _) (hx : sc.names.lookup x = some .globalImplicit := by rfl) (hd : (x == ("__debug__" : Str)) = false := by decide) : SndC X d sc nm (.Call (.Name x p₁) xs [] pos) (dCall r p) := by
  intro A env K g H ρ s Q E v H' hA hE hB hF hR e k
  unfold dCall at e
  split at e
  · rename_i as H₁ e₁
    rw [arm_eval_Call_Name']
    refine wpC_seq (gv_loads hE hB hR hx hv hd ?_)
    obtain ⟨t, rest, hb⟩ := h₁.ne hne env pos
    have run := fun Q' => h₁.run pos A env K g H ρ s Q' E _ _ hA hE hB hF hR e₁
    rw [hb] at run
    show wpC _ _ (callWith pos (.ref a) [] (backTo pos (starEach xs env)) []) _ _ _
    rw [hb]
    refine callWithC (o := o) (fd := fd) (Calls.evalArgs_plain (run _ fun g₁ s₁ vs hg₁ R₁ V₁ r₁ => ⟨⟨R₁.kept _ _ (hB.k _ _ ho), hdd⟩, ?_⟩))
    exact hp A K g₁ H₁ s₁ _ E as vs v H' hA (hB.mono hg₁) R₁ e V₁ (Kn.mono k hg₁ r₁)
  · cases e

/-- what a def of the text is -/
structure OwnFn (X : Cx) (a : Addr) (o : Obj) (fd : FuncData) (body : List Stmt) (sc : Scope) : Prop where
  ho : X.h₁.get? a = some o
  hd : o.data = .func fd
  cr : X.h₁.CodeRec fd.code fd.qualname
  bd : fd.body = .stmts body
  hsc : fd.scope = sc
  clo : fd.closure = []
  gl : fd.globals = mainGlobals
  bl : fd.builtins = builtinsNs
  kind : sc.kind = .function
  co : sc.isCoroutine = false
  gen : sc.isGenerator = false
/-- how its arguments are bound: n of them, the rest by defaults -/
noncomputable def Binds (X : Cx) (fd : FuncData) (ps : List Str) (n : Nat) (dv : List Value) : Prop :=
  ∀ (vs : List Value) (A : Around) (s : Shared) (Q : List (Str × Value) → Shared → Prop) (E : Value → Shared → Prop), vs.length = n → (∀ b o, X.h₁.get? b = some o → s.heap.get? b = some o) → Q (ps.zip (vs ++ dv)) s →
    wpAny (model X.prog X.w) A (bindArgs fd ⟨vs, []⟩) Q E s
/-- its names: the parameters first -/
structure NamesOk (sc : Scope) (nm ps : List Str) : Prop where
  pre : ∃ rest, nm = ps ++ rest
  loc : ∀ x ∈ ps, sc.names.lookup x = some .local
  kd : ∀ x ∈ nm, sc.names.lookup x = some .local ∨ sc.names.lookup x = some .cell
  nd : nm.Nodup
  one : ∀ (L : Nat) (y : Str) (c : Addr), (y, c) ∈ cellsFrom L sc.names [] → (cellsFrom L sc.names []).lookup y = some c

noncomputable def pFn (n : Nat) (das : List AV) (N : Nat) (f : DenS) : PDen := fun as H => if as.length = n then
    match f (as ++ das ++ List.replicate (N - (n + das.length)) .und) H with
    | some (.ret v, _, H') => some (v, H')
    | some (.next, _, H') => some (.none, H')
    | _ => none
  else none

theorem AOk.deeper {A : Around} {env : Env} (h : AOk A (d + 1)) : AOk (A.deeper env) d := ⟨h.hd, by have := h.dp; show A.depth + 1 + d ≤ 500; omega, by have := h.un; show A.units + 3 + 10 * d ≤ 500; omega⟩

/-- a def's call up to its body -/
theorem own_enter {a : Addr} {o : Obj} {fd : FuncData} {body : List Stmt} {ps : List Str} {n : Nat} {dv : List Value} {das as : List AV} {vs : List Value} (O : OwnFn X a o fd body sc) (hb : Binds X fd ps n dv) (hN : NamesOk sc nm ps)
    (hdv : ∀ g : Gh, VRs g das dv) (hl : ps.length = n + das.length)
    {A : Around} {K : Addr → Option Obj} {g : Gh} {H : List AO} {s : Shared} {R : Result → Shared → Prop} (hA : AOk A (d + 1)) (hB : Bs X K g) (hR : Rel K g H s.heap) (ha : as.length = n) (hv : VRs g as vs)
    (k : ∀ (env : Env) (s₁ : Shared), EnvI sc env → env.frame = some env.locals → env.code = fd.code → Fm K env nm (as ++ das ++ List.replicate (nm.length - (n + das.length)) .und) g s₁.heap → Rel K g H s₁.heap → Rest s s₁ →
      wpC (model X.prog X.w) (A.deeper env) (execs body env) (fun f s' => R (.ok (.ret (match f with | .ret v => v | _ => .none))) s')
        (fun e s' => wpC (model X.prog X.w) (A.deeper env) (leaving env e) (fun _ s'' => R (.error e) s'') (fun e' s'' => R (.error e') s'') s') s₁) :
    codeC (model X.prog X.w) A (.call (.ref a) ⟨vs, []⟩) R s := by
  have kb : ∀ b o, X.h₁.get? b = some o → s.heap.get? b = some o := fun b o e => hR.kept _ _ (hB.k _ _ e)
  have hcr : s.heap.CodeRec fd.code fd.qualname := by
    obtain ⟨c, oc, vs, tq, hc, hoc, r⟩ := O.cr
    exact ⟨c, oc, vs, tq, hc, kb _ _ hoc, r⟩
  have hlim : s.heap.NoLimit := X.lim.keeps kb
  refine codeC_call_function (by have := hA.dp; show A.depth < 1000; omega) (kb _ _ O.ho) O.hd (by rw [O.hsc]; exact O.co) (by rw [O.hsc]; exact O.gen) O.bd hcr (hb vs A.in1 s _ _ (by rw [hv.length]; exact ha) kb ?_)
  rw [O.clo]
  have hlen : (vs ++ dv).length = ps.length := by rw [List.length_append, hv.length, (hdv g).length, hl, ha]
  have hpn : ps.Nodup := by
    obtain ⟨rest, h⟩ := hN.pre
    have := hN.nd; rw [h] at this
    exact (List.nodup_append.mp this).1
  refine wpAny_newFunctionEnv_cells (by rw [O.hsc]; exact O.kind) (fun x hx => .inl ?_) fun env he s₁ xx => ?_
  · rw [O.hsc]; exact hN.loc x.1 (List.of_mem_zip hx).1
  obtain ⟨h₁, tk, rfl, _⟩ := xx.done
  have hk := xx.toInCall.keep
  refine ⟨hlim.keeps hk, codeC_func ?_⟩
  have hes : env.scope = sc := by rw [he]; exact O.hsc
  have hEn : EnvI sc env := ⟨hes, O.kind, by rw [he]; exact O.gl, by rw [he]; exact O.bl⟩
  have heL : env.locals = s.heap.objs.size := by rw [he]; rfl
  have hec : env.cells = cellsFrom (s.heap.objs.size + 1) fd.scope.names [] := by rw [he]; rfl
  have hkd : ∀ x, env.kindOf x = sc.names.lookup x := fun x => by unfold Env.kindOf; rw [hes]
  refine k env { s with heap := h₁, toks := tk } hEn (by rw [he]; rfl) (by rw [he]; rfl) ?_ (hR.ext hk) Rest.ht
  have fresh : ∀ b, s.heap.objs.size ≤ b → s.heap.get? b = none := fun b hb => by
    cases e : s.heap.get? b with
    | none => rfl
    | some o => exact absurd (Heap.lt_size e) (Nat.not_lt.mpr hb)
  have above : ∀ c ∈ env.cells.map (·.2), s.heap.objs.size < c := fun c hc => by
    obtain ⟨⟨y, c'⟩, hm, rfl⟩ := List.mem_map.mp hc
    exact heL ▸ xx.above y c' hm
  have lk : ∀ c ∈ env.cells.map (·.2), ∃ v, h₁.IsCell c v := fun c hc => by
    obtain ⟨⟨y, c'⟩, hm, rfl⟩ := List.mem_map.mp hc
    have hlo : env.cells.lookup y = some c' := by rw [hec, O.hsc] at hm ⊢; exact hN.one _ y c' hm
    exact ⟨_, xx.cell y c' hlo⟩
  have hKL : K env.locals = none := (hR.fresh (fresh _ (by rw [heL]; exact Nat.le_refl _))).1
  have hKc : ∀ c ∈ env.cells.map (·.2), K c = none := fun c hc => (hR.fresh (fresh _ (Nat.le_of_lt (above c hc)))).1
  have hLn : as.length + das.length = ps.length := by rw [hl, ha]
  obtain ⟨rest, hrest⟩ := hN.pre
  refine ⟨fun j x v e1 e2 e3 => ?_, ⟨_, xx.toInCall.ns⟩, hKL, lk, hKc, fun hm => absurd (above _ hm) (by rw [heL]; exact Nat.lt_irrefl _), xx.apart, fun x hx => ?_, hN.nd, ?_⟩
  · have hj : j < as.length + das.length := by
      by_cases hj : j < as.length + das.length
      · exact hj
      · rw [List.getElem?_append_right (by rw [List.length_append]; omega), List.getElem?_replicate] at e2
        split at e2
        · cases e2; exact absurd rfl e3
        · cases e2
    rw [List.getElem?_append_left (by rw [List.length_append]; exact hj)] at e2
    have e1' : ps[j]? = some x := by rw [hrest, List.getElem?_append_left (by omega)] at e1; exact e1
    obtain ⟨val, hval, hvr⟩ := (hv.append (hdv g)).get e2
    refine ⟨val, .inl ⟨?_, ?_⟩, hvr⟩
    · rw [hkd]; exact hN.loc x (List.mem_of_getElem? e1')
    · obtain ⟨oL, es, ep, hoL, hdL, hkL, hfL⟩ := xx.toInCall.ns
      refine ⟨oL, es, ep, ?_, hdL, hkL, ?_⟩
      · unfold ov; rw [if_pos (.inl rfl)]; exact hoL
      · rw [hfL]
        exact (bindL_zip ps (vs ++ dv) (fun _ => none) hpn fun y hy => by rw [hkd]; exact hN.loc y hy).2 j x val e1' hval
  · rw [hkd]
    rcases hN.kd x hx with h | h
    · exact .inl h
    · refine .inr ⟨h, ?_⟩
      have := cellsFrom_lookup sc.names (s.heap.objs.size + 1) [] x (.inr h)
      rw [hec, O.hsc]
      exact Option.isSome_iff_exists.mp this
  · rw [List.length_append, List.length_append, List.length_replicate, ha]
    have : nm.length = ps.length + rest.length := by rw [hrest, List.length_append]
    omega

theorem primC_own {a : Addr} {o : Obj} {fd : FuncData} {body : List Stmt} {ps : List Str} {n : Nat} {dv : List Value} {das : List AV} {f : DenS} (O : OwnFn X a o fd body sc) (hb : Binds X fd ps n dv) (hN : NamesOk sc nm ps)
    (hdv : ∀ g : Gh, VRs g das dv) (hl : ps.length = n + das.length) (hs : SndS X d sc nm body f) : PrimC X (d + 1) (.ref a) (pFn n das nm.length f) := by
  intro A K g H s Q E as vs v H' hA hB hR e hv k
  unfold pFn at e
  split at e
  · rename_i ha
    refine wpC_call (own_enter O hb hN hdv hl hA hB hR ha hv fun env s₁ hE hfr _ F R r => ?_)
    split at e
    · rename_i v' ρ' H₂ e₁
      cases e
      refine hs _ env K g H _ s₁ _ _ _ _ _ hA.deeper hE hB F R e₁ fun g₂ s₂ flow hg₂ F₂ R₂ hfl r₂ => ?_
      obtain ⟨val, rfl, hval⟩ := hfl
      exact k g₂ s₂ val hg₂ R₂ hval (r.trans r₂)
    · rename_i ρ' H₂ e₁
      cases e
      refine hs _ env K g H _ s₁ _ _ _ _ _ hA.deeper hE hB F R e₁ fun g₂ s₂ flow hg₂ F₂ R₂ hfl r₂ => ?_
      have : flow = .next := hfl
      subst this
      exact k g₂ s₂ .none hg₂ R₂ VR.none (r.trans r₂)
    · cases e
  · cases e
end
end Mine
end

section
open PySem PyProof.Rows
open Sem (wp)
set_option autoImplicit false
set_option maxRecDepth 100000
namespace Mine

section
variable {α : Type} {M : Model} {A : Around} {E : Value → Shared → Prop} {s : Shared}
theorem wpC_attempt {m : Sem α} {Q : Except Value α → Shared → Prop} (h : wpC M A m (fun a => Q (.ok a)) (fun e => Q (.error e)) s) : wpC M A m.attempt Q E s :=
  fun Γ p hΓ hc => by rw [Sem.wp_attempt]; exact h Γ p hΓ hc
theorem callWithTypeC {pos : Pos} {T : String} {first : List Value} {args : List (Bool × Sem Value)} {Q : Value → Shared → Prop} (hplain : args.any (·.1) = false)
    (h : wpAny M A (evalArgs (.type T) true args []) (fun a s₁ => wpC M A (call (.type T) (first ++ a.pos) a.kw) Q E s₁) E s) :
    wpC M A (callWith pos (.type T) first args []) Q E s := by
  unfold callWith
  refine wpC_seq (wpAny_holding (wpAny_mono h (fun a s₁ h₁ => wpC_seq (wpAny_standAt ?_)) fun _ _ x => x))
  simp only [hplain, List.any_nil, Bool.or_false]
  refine wpC_seq (wpAny_pure ?_)
  exact wpC_bind (wpC_mono h₁ (fun r s₂ hr => wpC_seq (wpAny_holding (wpAny_point (wpC_pure hr)))) fun _ _ x => x)
theorem callSpecialC {self : Value} {T : String} {name : Str} {id : String} {args : List Value} {Q : Option Value → Shared → Prop} (hT : s.TypeIs self T) (h : Slot T name id)
    (hc : wpC M A (call (.builtin id) (self :: args)) (fun v => Q (some v)) E s) : wpC M A (callSpecial? self name args) Q E s := by
  simp only [callSpecial?]
  refine wpC_seq (wpAny_specialOf hT h.lookup ?_)
  simp only [h.bind]
  exact wpC_holding (wpC_seq (wpAny_pure (wpC_bind (wpC_mono hc (fun v s' h' => wpC_pure h') fun _ _ h' => h'))))
end

section
variable {prog : Program} {w : World} {A : Around} {E : Value → Shared → Prop} {s : Shared}
theorem callEntryC {T : String} {name : Str} {id : String} {b : Builtin} {self : Value} {rest : List Value} {Q : Value → Shared → Prop} (h : Slot T name id) (hT : s.TypeIs self T)
    (hb : entryFor table id = some b) (hok : okc (.builtin id ⟨[], []⟩) = true) (ha : argsOk id ⟨self :: rest, []⟩)
    (hc : wpC (model prog w) A.in1 (b ⟨self :: rest, []⟩) (fun fin s' => ∃ v, fin = .done (.ret v) ∧ Q v s') E s) :
    wpC (model prog w) A (call (.builtin id) (self :: rest)) Q E s := by
  refine wpC_call (codeC_call_builtin h.plain hb hok (h.check _ _ _ _ _ _ _ _ hT ha (wpC_mono hc (fun fin s' h' => ?_) fun _ _ h' => h')))
  obtain ⟨v, rfl, hv⟩ := h'; exact hv
end

/-- a generator's own tree runs to an end, over clean stacks -/
noncomputable def RunTo (M : Model) (A : Around) (c : Code) (t : Sem PySem.Fin) (s : Shared) (Φ : End → Shared → Prop) : Prop :=
  ∀ Γ p, Γ.code = c → Γ.Woken A → Clean Γ → ∃ e s', Runs M Γ p t [] s e s' ∧ Φ e s'

section
variable {M : Model} {A : Around} {c : Code} {s : Shared} {Φ : End → Shared → Prop}
theorem over_nil_clean {Γ : Ctx} (h : Clean Γ) : Clean (Γ.over []) := ⟨h.1, fun x hx => h.2 x (by simpa [Ctx.over] using hx)⟩
theorem run_wrap {α : Type} {m : Sem α} {K : α → Sem PySem.Fin} {H : Value → Sem PySem.Fin} {gd lv}
    (h : wpC M (A.over c []) m (fun a s' => RunTo M A c (K a) s' Φ) (fun x s' => RunTo M A c (H x) s' Φ) s) : RunTo M A c (m.wrap K H gd lv) s Φ := by
  rintro Γ p rfl hΓ hc
  exact runs_wrap_of_wp K H gd lv m (h (Γ.over []) p (hΓ.over []) (over_nil_clean hc)) (fun a p' s' h' => h' Γ p' rfl hΓ hc) (fun x p' s' h' => h' Γ p' rfl hΓ hc)
theorem run_bind_wrap {α β : Type} {m : Sem α} {K : α → Sem β} {K' : β → Sem PySem.Fin} {H' : Value → Sem PySem.Fin} {gd lv}
    (h : wpC M (A.over c []) m (fun a s' => RunTo M A c ((K a).wrap K' H' gd lv) s' Φ) (fun x s' => RunTo M A c (H' x) s' Φ) s) : RunTo M A c ((m >>= K).wrap K' H' gd lv) s Φ := by
  rw [Sem.bind_eq_wrap', Sem.wrap_wrap]; exact run_wrap h
theorem run_at {p' : Pos} {k : Unit → Sem PySem.Fin} (h : RunTo M A c (k ()) s Φ) : RunTo M A c (.at p' k) s Φ :=
  run_wrap (m := standAt p') (K := k) (H := .raise) (gd := id) (lv := id) (.of (wpAny_standAt h))
theorem run_again {c' : Code} (hq : c'.quiet = true) (hok : okc c' = true) (hc : RunTo M A c' (M.den c') s Φ) : RunTo M A c (.pure (.again c')) s Φ := by
  rintro Γ p rfl hΓ hcl
  obtain ⟨e, s', hr, he⟩ := hc (Γ.goto c') p rfl (hΓ.goto c') ⟨hok, hcl.2⟩
  exact ⟨e, s', Runs.head (c₁ := c') (fun _ _ x => .again hq x) hr, he⟩
theorem run_end (r : Result) (h : Φ (.ret r) s) : RunTo M A c (leafOf r) s Φ := by
  rintro Γ p rfl _ _
  exact ⟨.ret r, s, Runs.leaf r, h⟩
theorem run_yield {v : Value} {l : List Value} {k : Resume → Sem PySem.Fin} (h : ∀ p, Φ (.susp v false l k c p []) s) : RunTo M A c (.yield v false l k) s Φ := by
  rintro Γ p rfl _ _
  exact ⟨_, s, Runs.yield' [] rfl, h p⟩
end

/-- what a generator that has k items left does when it is woken: St before the i-th, Out at the i-th, Fi at the end -/
noncomputable def ResC (M : Model) (A : Around) (St : Nat → Shared → Prop) (Out : Nat → Value → Shared → Shared → Prop) (Fi : Shared → Shared → Prop) : Nat → Nat → Code → Sem PySem.Fin → Prop
  | 0, i, c, t => okc c = true ∧ ∀ s, St i s → RunTo M A c t s fun e s' => e = .ret (.ok .next) ∧ Fi s s'
  | k + 1, i, c, t => okc c = true ∧ ∀ s, St i s → RunTo M A c t s fun e s' => ∃ v l kk c' p', e = .susp v false l kk c' p' [] ∧ Out i v s s' ∧ ResC M A St Out Fi k (i + 1) c' (kk (.send .none))

noncomputable def GoesC (M : Model) (A : Around) (St : Nat → Shared → Prop) (Out : Nat → Value → Shared → Shared → Prop) (Fi : Shared → Shared → Prop) (k i : Nat) : GenState → Prop
  | .fresh c => ResC M A St Out Fi k i c (M.den c)
  | .suspended kk _ c _ fs _ => fs = [] ∧ ResC M A St Out Fi k i c (kk (.send .none))
  | _ => False

section
variable {M : Model} {A : Around} {E : Value → Shared → Prop} {s : Shared} {St : Nat → Shared → Prop} {Out : Nat → Value → Shared → Shared → Prop} {Fi : Shared → Shared → Prop}
theorem wake_clean {Γ : Ctx} {c : Code} {p : Pos} (h : Clean Γ) (hok : okc c = true) : Clean (Γ.wake c p) := ⟨hok, fun x hx => by
  rcases List.mem_cons.mp (show x ∈ (Γ.code, p) :: Γ.below from hx) with rfl | hx
  · exact h.1
  · exact h.2 x hx⟩

theorem resume_end {α : Type} {g i : Nat} {gs : GenState} {l : List Value} {k : GenResult → Sem α} {Q : α → Shared → Prop} (hg : s.gens[g]? = some gs) (hgo : GoesC M A St Out Fi 0 i gs) (hst : St i (s.setGen g .running))
    (h : ∀ s₁, Fi (s.setGen g .running) s₁ → wpC M A (k (.returned .none)) Q E (s₁.setGen g .finished)) : wpC M A (.resume g (.send .none) l k) Q E s := by
  intro Γ p hΓ hc
  rw [Sem.wp_resume]
  cases gs with
  | fresh c =>
    obtain ⟨hok, hgo⟩ := hgo
    obtain ⟨e, s₁, hr, rfl, hF⟩ := hgo _ hst (Γ.wake c p) p rfl (hΓ.wake c p) (wake_clean hc hok)
    exact ⟨_, _, by unfold Wakes; rw [hg]; exact ⟨_, s₁, hr, rfl, rfl, rfl⟩, h s₁ hF Γ p hΓ hc⟩
  | suspended k₀ l₀ c₀ p₀ fs₀ cl =>
    obtain ⟨rfl, hok, hgo⟩ := hgo
    obtain ⟨e, s₁, hr, rfl, hF⟩ := hgo _ hst (Γ.wake c₀ p) p₀ rfl (hΓ.wake c₀ p) (wake_clean hc hok)
    exact ⟨_, _, by unfold Wakes; rw [hg]; exact ⟨_, s₁, hr, rfl, rfl, rfl⟩, h s₁ hF Γ p hΓ hc⟩
  | running => exact hgo.elim
  | finished => exact hgo.elim
theorem resume_item {α : Type} {g i m : Nat} {gs : GenState} {l : List Value} {k : GenResult → Sem α} {Q : α → Shared → Prop} (hg : s.gens[g]? = some gs) (hgo : GoesC M A St Out Fi (m + 1) i gs) (hst : St i (s.setGen g .running))
    (h : ∀ v s₁ gs', Out i v (s.setGen g .running) s₁ → GoesC M A St Out Fi m (i + 1) gs' → gs'.bare = true → wpC M A (k (.yielded v)) Q E (s₁.setGen g gs')) : wpC M A (.resume g (.send .none) l k) Q E s := by
  intro Γ p hΓ hc
  rw [Sem.wp_resume]
  cases gs with
  | fresh c =>
    obtain ⟨hok, hgo⟩ := hgo
    obtain ⟨e, s₁, hr, v, l', kk, c', p', rfl, hO, hR⟩ := hgo _ hst (Γ.wake c p) p rfl (hΓ.wake c p) (wake_clean hc hok)
    exact ⟨_, _, by unfold Wakes; rw [hg]; exact ⟨_, s₁, hr, rfl, rfl, rfl⟩, h v s₁ (.suspended kk l' c' p' [] false) hO ⟨rfl, hR⟩ rfl Γ p hΓ hc⟩
  | suspended k₀ l₀ c₀ p₀ fs₀ cl =>
    obtain ⟨rfl, hok, hgo⟩ := hgo
    obtain ⟨e, s₁, hr, v, l', kk, c', p', rfl, hO, hR⟩ := hgo _ hst (Γ.wake c₀ p) p₀ rfl (hΓ.wake c₀ p) (wake_clean hc hok)
    exact ⟨_, _, by unfold Wakes; rw [hg]; exact ⟨_, s₁, hr, rfl, rfl, rfl⟩, h v s₁ (.suspended kk l' c' p' [] false) hO ⟨rfl, hR⟩ rfl Γ p hΓ hc⟩
  | running => exact hgo.elim
  | finished => exact hgo.elim
end

theorem gen_next_ok : okc (.builtin "generator.__next__" ⟨[], []⟩) = true := by decide +kernel

section
variable {prog : Program} {w : World} {A : Around} {E : Value → Shared → Prop} {s : Shared} {St : Nat → Shared → Prop} {Out : Nat → Value → Shared → Shared → Prop} {Fi : Shared → Shared → Prop}

theorem next_item {a : Addr} {g i m : Nat} {gs : GenState} {Q : Option Value → Shared → Prop} (hl : s.heap.NoLimit) (hroom : A.depth < recursionLimit) (hg : s.heap.IsGen a g) (hgs : s.gens[g]? = some gs)
    (hgo : GoesC (model prog w) A.in1 St Out Fi (m + 1) i gs) (hst : St i (s.setGen g .running))
    (h : ∀ v s₁ gs', Out i v (s.setGen g .running) s₁ → GoesC (model prog w) A.in1 St Out Fi m (i + 1) gs' → gs'.bare = true → Q (some v) (s₁.setGen g gs')) : wpC (model prog w) A (pyNext (.ref a)) Q E s := by
  unfold pyNext
  refine wpC_bind (wpC_attempt (callSpecialC (name := Str.ofString "__next__") hg.typeIs slot_gen_next (callEntryC slot_gen_next hg.typeIs entry_gen_next gen_next_ok (args_gen_next _) ?_)))
  show wpC _ A.in1 (Builtin.Generator.genWake (.ref a) (.send .none)) _ _ s
  unfold Builtin.Generator.genWake
  refine wpC_seq (wpAny_holding (wpAny_genNumber hg (wpC_seq (wpAny_genState hgs ?_))))
  cases gs with
  | running => exact hgo.elim
  | finished => exact hgo.elim
  | _ =>
    refine wpC_seq (wpAny_roomToWake hl hroom ?_)
    show wpC _ A.in1 (.resume g (.send .none) [] _) _ _ s
    refine resume_item hgs hgo hst fun v s₁ gs' hO hG hb => ?_
    exact wpC_pure ⟨v, rfl, wpC_pure (h v s₁ gs' hO hG hb)⟩

theorem next_end {a : Addr} {g i : Nat} {gs : GenState} {Q : Option Value → Shared → Prop} (hh : A.handled = none) (hl : s.heap.NoLimit) (hroom : A.depth < recursionLimit) (hg : s.heap.IsGen a g) (hgs : s.gens[g]? = some gs)
    (hgo : GoesC (model prog w) A.in1 St Out Fi 0 i gs) (hst : St i (s.setGen g .running))
    (h : ∀ s₁, Fi (s.setGen g .running) s₁ → ∀ h', (∀ b o, s₁.heap.get? b = some o → h'.get? b = some o) → Q none { s₁.setGen g .finished with heap := h' }) : wpC (model prog w) A (pyNext (.ref a)) Q E s := by
  unfold pyNext
  refine wpC_bind (wpC_attempt (callSpecialC (name := Str.ofString "__next__") hg.typeIs slot_gen_next (callEntryC slot_gen_next hg.typeIs entry_gen_next gen_next_ok (args_gen_next _) ?_)))
  show wpC _ A.in1 (Builtin.Generator.genWake (.ref a) (.send .none)) _ _ s
  unfold Builtin.Generator.genWake
  refine wpC_seq (wpAny_holding (wpAny_genNumber hg (wpC_seq (wpAny_genState hgs ?_))))
  cases gs with
  | running => exact hgo.elim
  | finished => exact hgo.elim
  | _ =>
    refine wpC_seq (wpAny_roomToWake hl hroom ?_)
    show wpC _ A.in1 (.resume g (.send .none) [] _) _ _ s
    refine resume_end hgs hgo hst fun s₁ hF => ?_
    refine wpC.of ?_
    show wpAny _ A.in1 (newExc (.type "StopIteration") [] >>= _) _ _ _
    refine wpAny_bind ?_
    simp only [newExc, newTuple]
    refine wpAny_bind (wpAny_newObj_type ?_ (by size_fits))
    refine wpAny_bind (m := firstArgMember _ _) (wpAny_of_eq (a := Value.none) (by first | rfl | (simp only [firstArgMember]; rfl)) ?_)
    refine wpAny_newObj_type ?_ (by size_fits)
    simp only [raiseNew]
    refine wpAny_bind (wpAny_bind (wpAny_handled ?_))
    first | rw [show A.in1.handled = none from hh] | rw [hh]
    refine wpAny_throw ?_
    refine wpC.of ?_
    refine wpAny_bind (wpAny_isInstance (T := "StopIteration") (b := true) ⟨_, Heap.get?_push_size _ rfl, rfl⟩ isSubtype_stop ?_)
    exact wpAny_pure (h s₁ hF _ fun b o hb => Heap.get?_push_of_some _ (Heap.get?_push_of_some _ hb))
end
end Mine
end

section
open PySem PyProof.Rows
open Sem (wp)
set_option autoImplicit false
set_option maxRecDepth 100000
namespace Mine

theorem ResC.again {M : Model} {A : Around} {St : Nat → Shared → Prop} {Out : Nat → Value → Shared → Shared → Prop} {Fi : Shared → Shared → Prop} {k i : Nat} {c c' : Code} (h : ResC M A St Out Fi k i c' (M.den c')) (hq : c'.quiet = true) (hok : okc c = true) :
    ResC M A St Out Fi k i c (.pure (.again c')) := by
  cases k with
  | zero => exact ⟨hok, fun s hs => run_again hq h.1 (h.2 s hs)⟩
  | succ k => exact ⟨hok, fun s hs => run_again hq h.1 (h.2 s hs)⟩

/-- where the generator stands before its i-th item -/
noncomputable def GSt (I C : Addr) (h₀ : Heap) (n : Nat) (i : Nat) (s : Shared) : Prop :=
  (∀ b o, b ≠ I → b ≠ C → h₀.get? b = some o → s.heap.get? b = some o) ∧ IsRangeIter s.heap I (0 + ((i : Nat) : Int) * 1) ((n : Int) - ((i : Nat) : Int)) 1 ∧ ∃ m, s.heap.Ns C m
noncomputable def GOut (I C : Addr) (h₀ : Heap) (n : Nat) (ob : Obj) (i : Nat) (v : Value) (s s' : Shared) : Prop :=
  ∃ h' tk b, s' = { s with heap := h', toks := tk } ∧ v = .ref b ∧ s.heap.get? b = none ∧ h'.get? b = some ob ∧ (∀ y o, y ≠ I → y ≠ C → s.heap.get? y = some o → h'.get? y = some o) ∧ GSt I C h₀ n (i + 1) s'
noncomputable def GFi (I C : Addr) (s s' : Shared) : Prop := ∃ h' tk, s' = { s with heap := h', toks := tk } ∧ ∀ y o, y ≠ I → y ≠ C → s.heap.get? y = some o → h'.get? y = some o

section
variable {prog : Program} {w : World} {A : Around} {elt iter : Expr} {x : Str} {px : Pos} {scope : Scope} {pos : Pos} {I : Addr} {cenv : Env} {h₀ : Heap} {n : Nat} {ob : Obj}

theorem gen_loop (hh : A.handled = none) (hx : cenv.kindOf x = some .local) (hkind : cenv.scope.kind = .function) (hco : cenv.scope.isCoroutine = false) (hIC : I ≠ cenv.locals)
    (hel : ∀ (A' : Around) (s : Shared) (Q : Value → Shared → Prop) (E : Value → Shared → Prop), (∀ b o, b ≠ I → b ≠ cenv.locals → h₀.get? b = some o → s.heap.get? b = some o) →
      (∀ h' b tk, s.heap.get? b = none → h'.get? b = some ob → (∀ y o, s.heap.get? y = some o → h'.get? y = some o) → Q (.ref b) { s with heap := h', toks := tk }) → wpC (model prog w) A' (eval elt cenv) Q E s) :
    ∀ (k i : Nat), i + k = n → ResC (model prog w) A (GSt I cenv.locals h₀ n) (GOut I cenv.locals h₀ n ob) (GFi I cenv.locals) k i
      (.compLoop (.GeneratorExp elt [⟨.Name x px, iter, [], 0⟩] scope pos) 0 (.ref I) .none cenv)
      ((model prog w).den (.compLoop (.GeneratorExp elt [⟨.Name x px, iter, [], 0⟩] scope pos) 0 (.ref I) .none cenv)) := by
  have hh' : (A.over (.compLoop (.GeneratorExp elt [⟨.Name x px, iter, [], 0⟩] scope pos) 0 (.ref I) .none cenv) []).handled = none := hh
  have hp : (cenv.scope.kind == .class || (cenv.scope.kind == .module && cenv.locals != cenv.globals)) = false := by rw [hkind]; rfl
  intro k
  induction k with
  | zero =>
    intro i hi
    refine ⟨rfl, fun s hs => ?_⟩
    obtain ⟨hk, hit, m, hn⟩ := hs
    have hin : i = n := by omega
    subst hin
    show RunTo _ A _ ((compTurn (.GeneratorExp elt [⟨.Name x px, iter, [], 0⟩] scope pos) 0 (.ref I) .none cenv).onRaise (leaving cenv)) s _
    rw [compTurn_gen, Sem.onRaise_eq_wrap]
    refine run_bind_wrap (.of (wpAny_standAt ?_))
    refine run_bind_wrap (.of ((Walks.range hh' I 0 1 i).done s _ _ hit fun h' tk hk' => ?_))
    exact run_end (.ok .next) ⟨rfl, h', tk, rfl, fun y o h1 _ e => hk' y o (by simpa using h1) e⟩
  | succ k ih =>
    intro i hi
    have ih' := ih (i + 1) (by omega)
    refine ⟨rfl, fun s hs => ?_⟩
    obtain ⟨hk, hit, m, hn⟩ := hs
    have hlt : i < n := by omega
    show RunTo _ A _ ((compTurn (.GeneratorExp elt [⟨.Name x px, iter, [], 0⟩] scope pos) 0 (.ref I) .none cenv).onRaise (leaving cenv)) s _
    rw [compTurn_gen, Sem.onRaise_eq_wrap]
    refine run_bind_wrap (.of (wpAny_standAt ?_))
    refine run_bind_wrap (.of ((Walks.range hh' I 0 1 n).item i s _ _ hlt hit fun v h₁ tk₁ hv hit₁ hk₁ => ?_))
    have hk₁' : ∀ y o, y ≠ I → s.heap.get? y = some o → h₁.get? y = some o := fun y o h1 e => hk₁ y o (by simpa using h1) e
    refine run_bind_wrap (.of (wpAny_of_eq (rfl : letOwnedTupleGo (.Name x px) (.ref I) v = pure ()) ?_))
    refine run_bind_wrap (.of (wpAny_assign_Name (wpAny_storeName_local hx (hn.at' fun o e => hk₁' _ o (Ne.symm hIC) e) (fun h₂ hn₂ hs₂ => ?_) hp)))
    refine run_bind_wrap (.of (wpAny_tests_nil ?_))
    simp only [if_true]
    have hy : ∀ v, yieldOut cenv v = yieldValue v := fun v => by simp only [yieldOut, hco, Bool.false_eq_true, if_false]
    simp only [hy]
    rw [Sem.bind_eq_wrap', Sem.bind_eq_wrap', Sem.wrap_wrap, Sem.wrap_wrap]
    have hk₂ : ∀ y o, y ≠ I → y ≠ cenv.locals → s.heap.get? y = some o → h₂.get? y = some o := fun y o h1 h2 e => hs₂.extBut y o h2 (hk₁' y o h1 e)
    have hit₂ : IsRangeIter h₂ I (0 + ((i + 1 : Nat) : Int) * 1) ((n : Int) - ((i + 1 : Nat) : Int)) 1 := hs₂.extBut I _ hIC hit₁
    refine run_wrap (hel _ _ _ _ (fun b o h1 h2 e => hk₂ b o h1 h2 (hk b o h1 h2 e)) fun h₃ b tk₃ hfr hb hk₃ => ?_)
    refine run_at (run_yield fun p' => ⟨_, _, _, _, p', rfl, ?_, ResC.again ih' rfl rfl⟩)
    refine ⟨h₃, tk₃, b, rfl, rfl, ?_, hb, fun y o h1 h2 e => hk₃ y o (hk₂ y o h1 h2 e), fun b' o h1 h2 e => hk₃ b' o (hk₂ b' o h1 h2 (hk b' o h1 h2 e)), hk₃ I _ hit₂, _, hn₂.keeps hk₃⟩
    cases e : s.heap.get? b with
    | none => rfl
    | some o =>
      exfalso
      by_cases h1 : b = I
      · subst h1
        have : h₂.get? b = none := hfr
        rw [show h₂.get? b = _ from hit₂] at this; cases this
      · by_cases h2 : b = cenv.locals
        · subst h2
          obtain ⟨o', es, ep, ho', _⟩ := hn₂
          have : h₂.get? cenv.locals = none := hfr
          rw [ho'] at this; cases this
        · have : h₂.get? b = none := hfr
          rw [hk₂ b o h1 h2 e] at this; cases this

theorem gen_start (hh : A.handled = none) (hx : cenv.kindOf x = some .local) (hkind : cenv.scope.kind = .function) (hco : cenv.scope.isCoroutine = false) (hIC : I ≠ cenv.locals)
    (hel : ∀ (A' : Around) (s : Shared) (Q : Value → Shared → Prop) (E : Value → Shared → Prop), (∀ b o, b ≠ I → b ≠ cenv.locals → h₀.get? b = some o → s.heap.get? b = some o) →
      (∀ h' b tk, s.heap.get? b = none → h'.get? b = some ob → (∀ y o, s.heap.get? y = some o → h'.get? y = some o) → Q (.ref b) { s with heap := h', toks := tk }) → wpC (model prog w) A' (eval elt cenv) Q E s) :
    ResC (model prog w) A (GSt I cenv.locals h₀ n) (GOut I cenv.locals h₀ n ob) (GFi I cenv.locals) n 0
      (.compStart (.GeneratorExp elt [⟨.Name x px, iter, [], 0⟩] scope pos) 0 (.ref I) .none cenv)
      ((model prog w).den (.compStart (.GeneratorExp elt [⟨.Name x px, iter, [], 0⟩] scope pos) 0 (.ref I) .none cenv)) := by
  have hh' : (A.over (.compStart (.GeneratorExp elt [⟨.Name x px, iter, [], 0⟩] scope pos) 0 (.ref I) .none cenv) []).handled = none := hh
  have loop := gen_loop (prog := prog) (w := w) (A := A) (elt := elt) (iter := iter) (x := x) (px := px) (scope := scope) (pos := pos) (I := I) (cenv := cenv) (h₀ := h₀) (n := n) (ob := ob) hh hx hkind hco hIC hel n 0 (by omega)
  have go : ∀ (Φ : Shared → End → Shared → Prop), (∀ s, GSt I cenv.locals h₀ n 0 s → RunTo (model prog w) A (.compLoop (.GeneratorExp elt [⟨.Name x px, iter, [], 0⟩] scope pos) 0 (.ref I) .none cenv)
      ((model prog w).den (.compLoop (.GeneratorExp elt [⟨.Name x px, iter, [], 0⟩] scope pos) 0 (.ref I) .none cenv)) s (Φ s)) → ∀ s, GSt I cenv.locals h₀ n 0 s →
      RunTo (model prog w) A (.compStart (.GeneratorExp elt [⟨.Name x px, iter, [], 0⟩] scope pos) 0 (.ref I) .none cenv)
        ((model prog w).den (.compStart (.GeneratorExp elt [⟨.Name x px, iter, [], 0⟩] scope pos) 0 (.ref I) .none cenv)) s (Φ s) := by
    intro Φ hl s hs
    show RunTo _ A _ ((compStart (.GeneratorExp elt [⟨.Name x px, iter, [], 0⟩] scope pos) 0 (.ref I) .none cenv).onRaise (leaving cenv)) s _
    unfold compStart
    rw [Sem.onRaise_eq_wrap]
    show RunTo _ A _ ((ask >>= _).wrap _ _ _ _) s _
    refine run_bind_wrap (.of (wpAny_askSetting ?_))
    split
    · exact run_again rfl rfl (hl s hs)
    · first
        | exact run_bind_wrap (.of (wpAny_rule (run_bind_wrap (.of (wpAny_standAt (run_bind_wrap (.of ((Walks.range hh' I 0 1 n).self 0 s _ _ hs.2.1 (run_again rfl rfl (hl s hs))))))))))
        | (refine run_bind_wrap (.of (wpAny_rule ?_)); show RunTo _ A _ ((standAt iter.pos >>= _).wrap _ _ _ _) s _; exact run_bind_wrap (.of (wpAny_standAt (run_bind_wrap (.of ((Walks.range hh' I 0 1 n).self 0 s _ _ hs.2.1 (run_again rfl rfl (hl s hs))))))))
  cases n with
  | zero => exact ⟨rfl, go _ loop.2⟩
  | succ n => exact ⟨rfl, go _ loop.2⟩
end
end Mine
end

section
open PySem PyProof.Rows
open Sem (wp)
set_option autoImplicit false
set_option maxRecDepth 100000
namespace Mine

theorem ext_loop_ok : okc (.builtin "list.extend.loop" ⟨[], []⟩) = true := by decide +kernel
theorem iadd_ok : okc (.builtin "list.__iadd__" ⟨[], []⟩) = true := by decide +kernel
theorem collect_ok : okc (.builtin "proto.collect" ⟨[], []⟩) = true := by decide +kernel
theorem tuple_new_ok : okc (.builtin "tuple.__new__" ⟨[], []⟩) = true := by decide +kernel

/-- what the consumer holds after i items -/
structure Cons (I C a : Addr) (g : Nat) (h₀ : Heap) (n : Nat) (ob : Obj) (S : Addr) (bs : List Addr) (s₀ s : Shared) : Prop where
  st : GSt I C h₀ n bs.length s
  gen : s.heap.IsGen a g
  lim : s.heap.NoLimit
  lst : ∃ c, s.heap.get? S = some { cls := .type "list", data := .seq (bs.map Value.ref).toArray c }
  obs : ∀ b ∈ bs, s.heap.get? b = some ob ∧ h₀.get? b = none ∧ b ≠ S ∧ b ≠ I ∧ b ≠ C
  nod : bs.Nodup
  os : s.os = s₀.os
  gs : ∀ j, j ≠ g → s.gens[j]? = s₀.gens[j]?
  sz : s.gens.size = s₀.gens.size

section
variable {prog : Program} {w : World} {A : Around} {I C a : Addr} {g : Nat} {h₀ : Heap} {n : Nat} {ob : Obj} {S : Addr} {s₀ : Shared} {R : Result → Shared → Prop} {res : Value}

theorem getgen {gens : Array GenState} {g j : Nat} {x : GenState} (h : j ≠ g) : (gens.setIfInBounds g x)[j]? = gens[j]? := by
  rw [Array.getElem?_setIfInBounds]; rw [if_neg (Ne.symm h)]

theorem ext_loop (hh : A.handled = none) (hroom : A.depth < recursionLimit) (hn : n ≤ 100000) (hSI : S ≠ I) (hSC : S ≠ C) (hS0 : h₀.get? S = none) (haI : a ≠ I) (haC : a ≠ C) (hlim : ∀ s : Shared, (∀ b o, b ≠ I → b ≠ C → h₀.get? b = some o → s.heap.get? b = some o) → s.heap.NoLimit)
    (hga : h₀.IsGen a g) :
    ∀ (k : Nat) (bs : List Addr) (s : Shared) (gs : GenState), bs.length + k = n → Cons I C a g h₀ n ob S bs s₀ s → s.gens[g]? = some gs → GoesC (model prog w) A.in1.in1 (GSt I C h₀ n) (GOut I C h₀ n ob) (GFi I C) k bs.length gs →
    (∀ (bs' : List Addr) (s' : Shared), bs'.length = n → (∀ b o, b ≠ I → b ≠ C → h₀.get? b = some o → s'.heap.get? b = some o) → (∃ c, s'.heap.get? S = some { cls := .type "list", data := .seq (bs'.map Value.ref).toArray c }) →
      (∀ b ∈ bs', s'.heap.get? b = some ob ∧ h₀.get? b = none ∧ b ≠ S ∧ b ≠ I ∧ b ≠ C) → bs'.Nodup → s'.os = s₀.os → (∀ j, j ≠ g → s'.gens[j]? = s₀.gens[j]?) → s'.gens.size = s₀.gens.size → s'.gens[g]? = some .finished → R (.ok (.ret res)) s') →
    codeC (model prog w) A (.builtin "list.extend.loop" ⟨[.ref S, .ref a, res], []⟩) R s := by
  intro k
  induction k with
  | zero =>
    intro bs s gs hk cs hgs hgo hR
    refine codeC_builtin F.entry_extend_loop ext_loop_ok ?_
    rw [Around.under_plainId F.plain_extend_loop _]
    show wpC _ A.in1 (pyNext (.ref a) >>= _) _ _ s
    refine wpC_bind (next_end (A := A.in1) hh cs.lim hroom cs.gen hgs hgo cs.st fun s₁ hF h' hk' => ?_)
    obtain ⟨h₁, tk₁, rfl, hk₁⟩ := hF
    have hkk : ∀ y o, y ≠ I → y ≠ C → s.heap.get? y = some o → h'.get? y = some o := fun y o h1 h2 e => hk' y o (hk₁ y o h1 h2 e)
    have hgsz : g < s.gens.size := (Array.getElem?_eq_some_iff.mp hgs).1
    refine wpC_pure (hR bs _ (by omega) (fun b o h1 h2 e => hkk b o h1 h2 (cs.st.1 b o h1 h2 e)) ?_ (fun b hb => ?_) cs.nod cs.os (fun j hj => ?_) ?_ ?_)
    · obtain ⟨c, e⟩ := cs.lst
      exact ⟨c, hkk _ _ hSI hSC e⟩
    · obtain ⟨e1, e2, e3, e4, e5⟩ := cs.obs b hb
      exact ⟨hkk b _ e4 e5 e1, e2, e3, e4, e5⟩
    · show ((s.gens.setIfInBounds g .running).setIfInBounds g .finished)[j]? = _
      rw [getgen hj, getgen hj]; exact cs.gs j hj
    · show ((s.gens.setIfInBounds g .running).setIfInBounds g .finished).size = _
      simp; exact cs.sz
    · show ((s.gens.setIfInBounds g .running).setIfInBounds g .finished)[g]? = _
      rw [Array.getElem?_setIfInBounds]; simp [hgsz]
  | succ k ih =>
    intro bs s gs hk cs hgs hgo hR
    refine codeC_builtin F.entry_extend_loop ext_loop_ok ?_
    rw [Around.under_plainId F.plain_extend_loop _]
    show wpC _ A.in1 (pyNext (.ref a) >>= _) _ _ s
    refine wpC_bind (next_item (A := A.in1) cs.lim hroom cs.gen hgs hgo cs.st fun v s₁ gs' hO hG hb => ?_)
    obtain ⟨h₁, tk₁, b, rfl, rfl, hfr, hbo, hk₁, hst₁⟩ := hO
    have hgsz : g < s.gens.size := (Array.getElem?_eq_some_iff.mp hgs).1
    obtain ⟨c, hS⟩ := cs.lst
    have hS₁ := hk₁ S _ hSI hSC hS
    show wpC _ A.in1 (updateSeq S (·.push (.ref b)) >>= _) _ _ _
    have hbS : b ≠ S := by
      rintro rfl
      have h2 : s.heap.get? b = none := hfr
      rw [h2] at hS; cases hS
    have hsz : (bs.map Value.ref).toArray.size = bs.length := by simp
    refine wpC_seq (wpAny_updateSeq hS₁ rfl (wpC_pure ⟨plainId_quiet F.plain_extend_loop _, ih (bs ++ [b]) _ gs' (by simp; omega) ?_ ?_ (by simpa using hG) hR⟩) (by rw [hsz, sizeLine_eq]; omega) (by show ((bs.map Value.ref).toArray.push (.ref b)).size ≤ _; rw [Array.size_push, hsz, sizeLine_eq]; omega))
    · have oth : ∀ y o, y ≠ S → h₁.get? y = some o → (h₁.update S (Obj.mapSeq (·.push (.ref b)))).get? y = some o := fun y o hy e => (Heap.get?_update_other _ _ (Ne.symm hy)).trans e
      have hI : b ≠ I := by
        rintro rfl
        have h2 : s.heap.get? b = none := hfr
        rw [show s.heap.get? b = _ from cs.st.2.1] at h2; cases h2
      have hC : b ≠ C := by
        rintro rfl
        obtain ⟨m, o, es, ep, e, _⟩ := cs.st.2.2
        have h2 : s.heap.get? b = none := hfr
        rw [e] at h2; cases h2
      have h0S : ∀ y o, h₀.get? y = some o → y ≠ S := fun y o e q => by rw [q, hS0] at e; cases e
      have keep : ∀ y o, y ≠ I → y ≠ C → h₀.get? y = some o → (h₁.update S (Obj.mapSeq (·.push (.ref b)))).get? y = some o := fun y o h1 h2 e => oth y o (h0S y o e) (hst₁.1 y o h1 h2 e)
      refine ⟨⟨keep, ?_, ?_⟩, ?_, hlim _ keep, ?_, fun y hy => ?_, ?_, cs.os, fun j hj => ?_, ?_⟩
      · have := hst₁.2.1
        rw [List.length_append, List.length_singleton]
        exact oth I _ (Ne.symm hSI) this
      · obtain ⟨m, o, es, ep, e, r⟩ := hst₁.2.2
        exact ⟨m, o, es, ep, oth C o (Ne.symm hSC) e, r⟩
      · obtain ⟨o, nm, qn, e, r⟩ := hga
        exact ⟨o, nm, qn, keep a o haI haC e, r⟩
      · have hu := Heap.get?_update_self (h := h₁) (Obj.mapSeq (·.push (.ref b))) hS₁ rfl
        have e1 : (List.map Value.ref (bs ++ [b])).toArray = (bs.map Value.ref).toArray.push (.ref b) := by simp
        rw [e1]
        exact ⟨_, hu⟩
      · rcases List.mem_append.mp hy with hy | hy
        · obtain ⟨e1, e2, e3, e4, e5⟩ := cs.obs y hy
          exact ⟨oth y _ e3 (hk₁ y _ e4 e5 e1), e2, e3, e4, e5⟩
        · have : y = b := by simpa using hy
          subst this
          refine ⟨oth y _ hbS hbo, ?_, hbS, hI, hC⟩
          cases e : h₀.get? y with
          | none => rfl
          | some o =>
            have h2 : s.heap.get? y = none := hfr
            rw [cs.st.1 y o hI hC e] at h2; cases h2
      · rw [List.nodup_append]
        refine ⟨cs.nod, by simp, fun y hy z hz q => ?_⟩
        have : z = b := by simpa using hz
        subst this; subst q
        have h2 : s.heap.get? y = none := hfr
        rw [(cs.obs y hy).1] at h2; cases h2
      · show ((s.gens.setIfInBounds g .running).setIfInBounds g gs')[j]? = _
        rw [getgen hj, getgen hj]; exact cs.gs j hj
      · show ((s.gens.setIfInBounds g .running).setIfInBounds g gs').size = _
        simp; exact cs.sz
    · show ((s.gens.setIfInBounds g .running).setIfInBounds g gs')[g]? = _
      rw [Array.getElem?_setIfInBounds]; simp [hgsz]
end
end Mine
end

section
open PySem PyProof.Rows
open Sem (wp)
set_option autoImplicit false
set_option maxRecDepth 100000
namespace Mine

/-- what stands when a generator has been gone through -/
structure Gone (I C : Addr) (g : Nat) (h₀ : Heap) (n : Nat) (ob : Obj) (bs : List Addr) (s₀ s' : Shared) : Prop where
  len : bs.length = n
  keep : ∀ b o, b ≠ I → b ≠ C → h₀.get? b = some o → s'.heap.get? b = some o
  obs : ∀ b ∈ bs, s'.heap.get? b = some ob ∧ h₀.get? b = none
  nod : bs.Nodup
  os : s'.os = s₀.os
  gs : ∀ j, j ≠ g → s'.gens[j]? = s₀.gens[j]?
  sz : s'.gens.size = s₀.gens.size
  fin : s'.gens[g]? = some .finished

section
variable {prog : Program} {w : World} {A : Around} {E : Value → Shared → Prop} {I C a : Addr} {g : Nat} {h₀ : Heap} {n : Nat} {ob : Obj} {s : Shared}

theorem collectC {Q : List Value → Shared → Prop} {gs : GenState} (hh : A.handled = none) (hroom : A.depth < recursionLimit) (hn : n ≤ 100000) (haI : a ≠ I) (haC : a ≠ C)
    (hlim : ∀ s : Shared, (∀ b o, b ≠ I → b ≠ C → h₀.get? b = some o → s.heap.get? b = some o) → s.heap.NoLimit) (hga : h₀.IsGen a g) (hst : GSt I C h₀ n 0 s) (hsz : h₀.objs.size ≤ s.heap.objs.size)
    (hgs : s.gens[g]? = some gs) (hgo : GoesC (model prog w) A.in1.in1 (GSt I C h₀ n) (GOut I C h₀ n ob) (GFi I C) n 0 gs)
    (hQ : ∀ bs s', Gone I C g h₀ n ob bs s s' → Q (bs.map Value.ref) s') : wpC (model prog w) A (collect (.ref a)) Q E s := by
  have hgen : s.heap.IsGen a g := by obtain ⟨o, nm, qn, e, r⟩ := hga; exact ⟨o, nm, qn, hst.1 a o haI haC e, r⟩
  have hT : ∀ h' : Heap, (∀ b o, s.heap.get? b = some o → h'.get? b = some o) → ({ s with heap := h' } : Shared).TypeIs (.ref a) "generator" := fun h' hk => (hgen.keeps hk).typeIs (s := { s with heap := h' })
  have hS0 : h₀.get? s.heap.objs.size = none := by
    cases e : h₀.get? s.heap.objs.size with
    | none => rfl
    | some o => exact absurd (Heap.lt_size e) (Nat.not_lt.mpr hsz)
  have hSn : s.heap.get? s.heap.objs.size = none := (by cases e : s.heap.get? s.heap.objs.size with | none => rfl | some o => exact absurd (Heap.lt_size e) (Nat.lt_irrefl _))
  have hSI : s.heap.objs.size ≠ I := by intro q; have := hst.2.1; rw [← q] at this; rw [show s.heap.get? _ = _ from this] at hSn; cases hSn
  have hSC : s.heap.objs.size ≠ C := by intro q; obtain ⟨m, o, es, ep, e, _⟩ := hst.2.2; rw [← q, hSn] at e; cases e
  have hSa : s.heap.objs.size ≠ a := by intro q; obtain ⟨o, nm, qn, e, _⟩ := hgen; rw [← q, hSn] at e; cases e
  unfold collect
  refine wpC_bind (wpC_runValue (codeC_builtin F.entry_proto_collect collect_ok ?_))
  rw [Around.under_plainId F.plain_proto_collect _]
  show wpC _ A.in1 (newList [] >>= fun l => again (.builtin "list.__iadd__" ⟨[l, .ref a], []⟩)) _ _ s
  refine wpC_seq (wpAny_newObj_type ?_)
  refine wpC_pure ⟨plainId_quiet F.plain_list_iadd _, codeC_builtin F.entry_list_iadd iadd_ok ?_⟩
  rw [Around.under_plainId F.plain_list_iadd _]
  show wpC _ A.in1 (Builtin.List.listExtendWith (.ref s.heap.objs.size) (.ref a) (.ref s.heap.objs.size)) _ _ _
  have kp : ∀ b o, s.heap.get? b = some o → (s.heap.push { cls := .type "list", data := .seq ([] : List Value).toArray }).get? b = some o := fun b o e => Heap.get?_push_of_some _ e
  unfold Builtin.List.listExtendWith
  refine wpC_seq (wpAny_typeOf (hT _ kp) ?_)
  have h1 : Builtin.List.listSameRef (.ref s.heap.objs.size) (.ref a) = false := by simp [Builtin.List.listSameRef, hSa]
  have h2 : (Value.type "generator" == Value.type "list") = false := by decide
  have h3 : (Value.type "generator" == Value.type "tuple") = false := by decide
  simp only [h1, h2, h3, Bool.or_false, Bool.false_eq_true, if_false]
  refine wpC_seq (wpAny_pyIter_gen (hgen.keeps kp) ?_)
  refine wpC_seq (wpAny_holding ?_)
  unfold Builtin.List.listLengthHint
  refine wpAny_bind (wpAny_specialOf (hT _ kp) F.gen_no_len ?_)
  show wpAny _ A.in1 (specialOf (Value.ref a) (Str.ofString "__length_hint__") >>= _) _ _ _
  refine wpAny_bind (wpAny_specialOf (hT _ kp) F.gen_no_hint ?_)
  refine wpAny_pure ?_
  show wpC _ A.in1 (rule "list.extend.makes-room" >>= fun _ => Builtin.List.listTouch (.ref s.heap.objs.size) >>= fun _ =>
    again (.builtin "list.extend.loop" ⟨[.ref s.heap.objs.size, .ref a, .ref s.heap.objs.size], []⟩)) _ _ _
  refine wpC_seq (wpAny_rule ?_)
  have hS₁ : (s.heap.push { cls := .type "list", data := .seq ([] : List Value).toArray }).get? s.heap.objs.size = some { cls := .type "list", data := .seq ([] : List Value).toArray } := Heap.get?_push_size _ rfl
  refine wpC_seq ?_
  show wpAny _ A.in1 (updateSeq s.heap.objs.size (·.push .none) >>= fun _ => updateSeq s.heap.objs.size (·.pop)) _ _ _
  refine wpAny_bind (wpAny_updateSeq hS₁ rfl ?_)
  have hS₂ := Heap.get?_update_self (Obj.mapSeq (·.push Value.none)) hS₁ rfl
  refine wpAny_updateSeq hS₂ rfl ?_
  have hS₃ := Heap.get?_update_self (Obj.mapSeq (·.pop)) hS₂ rfl
  have oth : ∀ b o, b ≠ s.heap.objs.size → s.heap.get? b = some o →
      (((s.heap.push { cls := .type "list", data := .seq ([] : List Value).toArray }).update s.heap.objs.size (Obj.mapSeq (·.push Value.none))).update s.heap.objs.size (Obj.mapSeq (·.pop))).get? b = some o :=
    fun b o hb e => (Heap.get?_update_other _ _ (Ne.symm hb)).trans ((Heap.get?_update_other _ _ (Ne.symm hb)).trans (kp b o e))
  have oth' : ∀ b o, s.heap.get? b = some o → (((s.heap.push { cls := .type "list", data := .seq ([] : List Value).toArray }).update s.heap.objs.size (Obj.mapSeq (·.push Value.none))).update s.heap.objs.size (Obj.mapSeq (·.pop))).get? b = some o :=
    fun b o e => oth b o (by rintro rfl; rw [hSn] at e; cases e) e
  have hkeep : ∀ b o, b ≠ I → b ≠ C → h₀.get? b = some o → (((s.heap.push { cls := .type "list", data := .seq ([] : List Value).toArray }).update s.heap.objs.size (Obj.mapSeq (·.push Value.none))).update s.heap.objs.size (Obj.mapSeq (·.pop))).get? b = some o :=
    fun b o h1 h2 e => oth' b o (hst.1 b o h1 h2 e)
  refine wpC_pure ⟨plainId_quiet F.plain_extend_loop _, ext_loop (s₀ := s) hh hroom hn hSI hSC hS0 haI haC hlim hga n [] _ gs (by simp) ⟨⟨hkeep, oth' I _ hst.2.1, ?_⟩, hgen.keeps oth', hlim _ hkeep, ⟨_, hS₃⟩, fun b hb => by simp at hb, .nil, rfl, fun _ _ => rfl, rfl⟩ hgs hgo ?_⟩
  · obtain ⟨m, hn⟩ := hst.2.2; exact ⟨m, hn.keeps oth'⟩
  · intro bs' s' hlen hkp hlst hobs hnd hos hgg hszz hfin
    obtain ⟨c, hS'⟩ := hlst
    show wpC _ A (load s.heap.objs.size >>= _) _ _ s'
    refine wpC_seq (wpAny_load hS' (wpC_pure ?_))
    have := hQ bs' s' ⟨hlen, hkp, fun b hb => ⟨(hobs b hb).1, (hobs b hb).2.1⟩, hnd, hos, hgg, hszz, hfin⟩
    simpa using this
end
end Mine
end

section
open PySem PyProof.Rows
open Sem (wp)
set_option autoImplicit false
set_option maxRecDepth 100000
namespace Mine

section
variable {prog : Program} {w : World} {A : Around} {E : Value → Shared → Prop} {s : Shared}

noncomputable def givesNone (Q : Value → Shared → Prop) (E : Value → Shared → Prop) (obj : Value) (r : Result) (s' : Shared) : Prop := match r with | .ok (.ret v) => v = .none ∧ Q obj s' | .ok _ => False | .error e => E e s'
/-- what a call of a type asks: __new__ over clean stacks, __init__ gives None -/
theorem callTypeN {T newId initId : String} {Bi : Builtin} {args : List Value} {Q Q₁ : Value → Shared → Prop} (ft : TypeCalled T newId initId)
    (hct : checkTypeCall T ⟨args, []⟩ = pure ()) (entryI : entryFor table initId = some Bi) (hoki : okc (.builtin initId ⟨[], []⟩) = true)
    (hnew : codeC (model prog w) A.in1 (.call (.builtin newId) ⟨.type T :: args, []⟩) (wants Q₁ E) s)
    (hnext : ∀ obj s₁, Q₁ obj s₁ → s₁.TypeIs obj T ∧ argsOk initId ⟨obj :: args, []⟩ ∧
      wpC (model prog w) A.in1.in1 (Bi ⟨obj :: args, []⟩) (fun fin s' => match fin with | .done f => givesNone Q E obj (.ok f) s' | .again c' => c'.quiet = true ∧ codeC (model prog w) A.in1 c' (givesNone Q E obj) s') (fun e s' => givesNone Q E obj (.error e) s') s₁) :
    wpC (model prog w) A (call (.type T) args) Q E s := by
  obtain ⟨c, tl, hmro⟩ := ft.mro
  refine wpC_call (codeC_of_tree rfl ?_)
  show wpC _ _ (callAny (.type T) ⟨args, []⟩) _ _ _
  refine wpC_pure ⟨Code.quiet_builtin _ (by decide +kernel), codeC_builtin F.entry_type_call (by decide +kernel) ?_⟩
  rw [Around.under_plain (weight_type_call_type T args []) rfl]
  unfold Builtin.«type.__call__»
  dsimp only
  rw [if_neg (by rw [ft.notType]; exact Bool.false_ne_true)]
  rw [if_neg (by rw [ft.canCreate]; exact Bool.false_ne_true)]
  refine wpC_seq (wpAny_of_eq hct ?_)
  refine wpC_seq (wpAny_of_eq hmro ?_)
  rw [if_neg (by simp)]
  refine wpC_seq (wpAny_of_eq ft.made ?_)
  dsimp only
  refine wpC_seq (wpAny_pure ?_)
  refine wpC_bind (wpC_holding (wpC_call (codeC_mono hnew fun r s₁ hr => ?_)))
  cases r with
  | error e => exact hr
  | ok fl =>
    cases fl with
    | ret obj =>
      obtain ⟨hT, hok, hsi⟩ := hnext _ _ hr
      show wpC _ _ _ _ _ _
      refine wpC_seq (wpAny_isInstance hT ft.sub ?_)
      rw [if_neg (by simp)]
      refine wpC_bind (wpC_holding (callSpecialC hT ft.init (wpC_call (codeC_mono (R := givesNone Q E obj) (codeC_call_builtin ft.init.plain entryI hoki (ft.init.check _ _ _ _ _ _ _ _ hT hok hsi)) fun r₂ s₂ hr₂ => ?_))))
      cases r₂ with
      | error e => exact hr₂
      | ok fl₂ =>
        cases fl₂ with
        | ret r =>
          obtain ⟨rfl, hq⟩ := hr₂
          show wpC _ _ (if ((Value.none != Value.none) = true) then _ else ret obj) _ _ _
          rw [if_neg (by decide)]
          exact wpC_pure hq
        | _ => exact hr₂.elim
    | _ => exact hr.elim
end

section
variable {prog : Program} {w : World} {A : Around} {E : Value → Shared → Prop} {I C a : Addr} {g : Nat} {h₀ : Heap} {n : Nat} {ob : Obj} {s : Shared}

theorem tuple_newC {Q₁ : Value → Shared → Prop} {gs : GenState} (hh : A.handled = none) (hroom : A.depth < recursionLimit) (hn : n ≤ 100000) (haI : a ≠ I) (haC : a ≠ C)
    (hlim : ∀ s : Shared, (∀ b o, b ≠ I → b ≠ C → h₀.get? b = some o → s.heap.get? b = some o) → s.heap.NoLimit) (hga : h₀.IsGen a g) (hst : GSt I C h₀ n 0 s) (hsz : h₀.objs.size ≤ s.heap.objs.size)
    (hgs : s.gens[g]? = some gs) (hgo : GoesC (model prog w) A.in1.in1.in1 (GSt I C h₀ n) (GOut I C h₀ n ob) (GFi I C) n 0 gs)
    (hQ : ∀ bs s', Gone I C g h₀ n ob bs s s' → Q₁ (.ref s'.heap.objs.size) { s' with heap := s'.heap.push { cls := .type "tuple", data := .seq (bs.map Value.ref).toArray } }) :
    codeC (model prog w) A (.call (.builtin "tuple.__new__") ⟨[.type "tuple", .ref a], []⟩) (wants Q₁ E) s := by
  have hgen : s.heap.IsGen a g := by obtain ⟨o, nm, qn, e, r⟩ := hga; exact ⟨o, nm, qn, hst.1 a o haI haC e, r⟩
  refine codeC_of_tree rfl ?_
  show wpC _ A.in1 (do checkBuiltinCall "tuple.__new__" ⟨[.type "tuple", .ref a], []⟩; again (.builtin "tuple.__new__" ⟨[.type "tuple", .ref a], []⟩)) _ _ s
  refine wpC_seq (wpAny_of_eq (F.newCall_tuple_1 _) (wpC_pure ⟨plainId_quiet F.plain_tuple_new _, codeC_builtin F.entry_tuple_new tuple_new_ok ?_⟩))
  rw [Around.under_plainId F.plain_tuple_new _]
  unfold Builtin.«tuple.__new__»
  refine wpC_seq (m := isType (.type "tuple")) (wpAny_of_eq (a := true) rfl ?_)
  rw [if_neg (by decide)]
  refine wpC_seq (wpAny_of_eq sub_tuple_self ?_)
  rw [if_neg (by decide)]
  dsimp only
  rw [if_neg (by decide +kernel)]
  refine wpC_seq (wpAny_of_eq madeHere_tuple ?_)
  refine wpC_seq (wpAny_of_eq init_tuple_lookup ?_)
  rw [if_pos (by decide)]
  refine wpC_seq (m := noKeywords _ _) (wpAny_of_eq rfl ?_)
  refine wpC_seq (m := checkCount _ _ _ _) (wpAny_of_eq rfl ?_)
  rw [if_pos (by decide)]
  refine wpC_seq (m := Builtin.Tuple.tupleIsExact (.ref a)) (wpAny_bind (wpAny_typeOf hgen.typeIs (wpAny_pure ?_)))
  rw [if_neg (by decide)]
  refine wpC_bind (collectC (A := A.in1) hh hroom hn haI haC hlim hga hst hsz hgs hgo fun bs s' hG => ?_)
  refine wpC_seq (wpAny_pure ?_)
  show wpC _ _ (Builtin.Tuple.tupleExact (bs.map Value.ref).toArray >>= fun v => ret v) _ _ _
  unfold Builtin.Tuple.tupleExact
  have hsl : sizeLine = 2 ^ 24 := rfl
  refine wpC_seq (wpAny_newObj_type (wpC_pure ?_) (by show (bs.map Value.ref).toArray.size ≤ sizeLine; rw [hsl]; simp [hG.len]; omega))
  exact hQ bs s' hG

theorem tuple_genC {Q : Value → Shared → Prop} {gs : GenState} (hh : A.handled = none) (hroom : A.depth < recursionLimit) (hn : n ≤ 100000) (haI : a ≠ I) (haC : a ≠ C)
    (hlim : ∀ s : Shared, (∀ b o, b ≠ I → b ≠ C → h₀.get? b = some o → s.heap.get? b = some o) → s.heap.NoLimit) (hga : h₀.IsGen a g) (hst : GSt I C h₀ n 0 s) (hsz : h₀.objs.size ≤ s.heap.objs.size)
    (hgs : s.gens[g]? = some gs) (hgo : GoesC (model prog w) A.in1.in1.in1.in1 (GSt I C h₀ n) (GOut I C h₀ n ob) (GFi I C) n 0 gs)
    (hQ : ∀ bs s', Gone I C g h₀ n ob bs s s' → Q (.ref s'.heap.objs.size) { s' with heap := s'.heap.push { cls := .type "tuple", data := .seq (bs.map Value.ref).toArray } }) :
    wpC (model prog w) A (call (.type "tuple") [.ref a]) Q E s := by
  refine callTypeN (Q₁ := fun obj s₁ => s₁.TypeIs obj "tuple" ∧ Q obj s₁) F.called_tuple (F.typeCall_tuple_1 _) F.entry_object_init (by decide +kernel)
    (tuple_newC (A := A.in1) hh hroom hn haI haC hlim hga hst hsz hgs hgo fun bs s' hG => ⟨⟨_, Heap.get?_push_size _ rfl, rfl⟩, hQ bs s' hG⟩) fun obj s₁ h₁ => ?_
  refine ⟨h₁.1, F.args_object_init_2 obj _, wpC.of (wpAny_mono (object_init_meets (rest := [.ref a]) F.called_tuple.init.lookup F.called_tuple.made (by decide) prog w A.in1 (givesNone Q E obj) s₁ ⟨h₁.1, rfl, h₁.2⟩) (fun fin s' h' => ?_) fun _ _ h' => h')⟩
  cases fin with
  | done f => exact h'
  | again c' => exact ⟨h'.1, .of h'.2⟩
end
end Mine
end

section
open PySem PyProof.Rows
set_option autoImplicit false
set_option maxRecDepth 100000
namespace Mine

noncomputable def Gh.tracks (g : Gh) (bs : List Addr) : Gh := { g with φ := g.φ ++ bs }
theorem Gh.tracks_le (g : Gh) (bs : List Addr) : g.Le (g.tracks bs) := ⟨⟨fun _ _ e => e, fun k b e => by
  show (g.φ ++ bs)[k]? = some b
  have hk : k < g.φ.length := (List.getElem?_eq_some_iff.mp e).1
  rw [List.getElem?_append_left hk]; exact e⟩, rfl⟩
theorem Rel.tracks {K : Addr → Option Obj} {h : Heap} {o : Obj} {ao : AO} (hf : OR ao o) : ∀ {bs : List Addr} {g : Gh} {H : List AO}, Rel K g H h → (∀ b ∈ bs, h.get? b = some o ∧ b ∉ g.φ ∧ g.C b = none ∧ K b = none) → bs.Nodup →
    Rel K (g.tracks bs) (H ++ List.replicate bs.length ao) h
  | [], g, H, R, _, _ => by
    have : g.tracks [] = g := by unfold Gh.tracks; rw [List.append_nil]
    rw [this]; simpa using R
  | b :: bs, g, H, R, hb, hn => by
    obtain ⟨h1, h2, h3, h4⟩ := hb b (List.mem_cons_self ..)
    have hn' := List.nodup_cons.mp hn
    have R₁ := R.track h1 hf h2 h3 h4
    have R₂ := Rel.tracks hf (bs := bs) R₁ (fun c hc => by
      obtain ⟨q1, q2, q3, q4⟩ := hb c (List.mem_cons_of_mem _ hc)
      refine ⟨q1, fun hm => ?_, q3, q4⟩
      have hm' : c ∈ g.φ ++ [b] := hm
      rcases List.mem_append.mp hm' with hm' | hm'
      · exact q2 hm'
      · simp at hm'; subst hm'; exact hn'.1 hc) hn'.2
    have e1 : (g.track b).tracks bs = g.tracks (b :: bs) := by
      show ({ g with φ := (g.φ ++ [b]) ++ bs } : Gh) = { g with φ := g.φ ++ b :: bs }
      rw [List.append_assoc]; rfl
    have e2 : (H ++ [ao]) ++ List.replicate bs.length ao = H ++ List.replicate (b :: bs).length ao := by
      rw [List.append_assoc]; rfl
    rw [e1, e2] at R₂
    exact R₂

/-- a table that the call lays codes into: no kept thing of ours is one -/
theorem Rel.tab {K : Addr → Option Obj} {g : Gh} {H : List AO} {h h' : Heap} {P : Addr} {op op' : Obj} (R : Rel K g H h) (hK : K P = some op) (hn : ¬ FD op) (hk : ∀ b o, b ≠ P → h.get? b = some o → h'.get? b = some o) (hP : h'.get? P = some op') :
    Rel (K1 K P op') g H h' where
  kept := fun a o e => by
    unfold K1 at e
    split at e
    · rename_i q; subst q; cases e; exact hP
    · rename_i q; exact hk a o q (R.kept a o e)
  frz := fun a o e => by
    obtain ⟨h1, h2⟩ := R.frz a o e
    refine ⟨hk a o ?_ h1, h2⟩
    rintro rfl
    rw [R.kept _ _ hK] at h1; cases h1; exact hn h2
  trk := fun k ao e => by
    obtain ⟨a, o, h1, h2, h3⟩ := R.trk k ao e
    refine ⟨a, o, h1, hk a o ?_ h2, h3⟩
    rintro rfl
    rw [(R.ap _ (List.mem_of_getElem? h1)).2] at hK; cases hK
  len := R.len
  nod := R.nod
  ap := fun a ha => ⟨(R.ap a ha).1, by
    unfold K1
    rw [if_neg (by rintro rfl; rw [(R.ap _ ha).2] at hK; cases hK)]
    exact (R.ap a ha).2⟩
  rs := fun a ha => ⟨(R.rs a ha).1, by
    unfold K1
    split
    · exact ⟨_, rfl⟩
    · exact (R.rs a ha).2⟩

noncomputable def Cx.tab (X : Cx) (P : Addr) (op : Obj) (h1 : P ≠ mainGlobals) (h2 : P ≠ builtinsNs) (h3 : P ≠ cStatics) : Cx :=
  { X with
    h₁ := X.h₁.update P fun _ => op
    hg := X.hg.at' fun o e => (Heap.get?_update_other _ _ h1).trans e
    hb := X.hb.at' fun o e => (Heap.get?_update_other _ _ h2).trans e
    lim := by obtain ⟨mc, hn, hm⟩ := X.lim; exact ⟨mc, hn.at' fun o e => (Heap.get?_update_other _ _ h3).trans e, hm⟩ }
theorem Bs.tab {X : Cx} {K : Addr → Option Obj} {g : Gh} {P : Addr} {op op' : Obj} {h1 h2 h3} (B : Bs X K g) (hX : X.h₁.get? P = some op) (hn : ¬ FD op') (hf : op'.isFreed = false) : Bs (X.tab P op' h1 h2 h3) (K1 K P op') g := by
  have key : ∀ a o, (X.h₁.update P fun _ => op').get? a = some o → (a = P ∧ o = op') ∨ (a ≠ P ∧ X.h₁.get? a = some o) := fun a o e => by
    by_cases q : a = P
    · subst q; rw [Heap.get?_update_self _ hX hf] at e; cases e; exact .inl ⟨rfl, rfl⟩
    · rw [Heap.get?_update_other _ _ (Ne.symm q)] at e; exact .inr ⟨q, e⟩
  refine ⟨fun a o e => ?_, fun a o e hfd => ?_⟩
  · rcases key a o e with ⟨rfl, rfl⟩ | ⟨q, e⟩
    · unfold K1; rw [if_pos rfl]
    · unfold K1; rw [if_neg q]; exact B.k a o e
  · rcases key a o e with ⟨rfl, rfl⟩ | ⟨q, e⟩
    · exact absurd hfd hn
    · exact B.c a o e hfd

/-- the object that a table of codes is -/
noncomputable def tabO (ps : Array Value) : Obj := { cls := .none, data := .fields ps }
theorem tabO_notFD (ps : Array Value) : ¬ FD (tabO ps) := by
  rintro (⟨i, n, h⟩ | ⟨h, _⟩)
  · cases h
  · cases h

theorem Fm.tab {K : Addr → Option Obj} {env : Env} {nm : List Str} {ρ : List AV} {g : Gh} {h h' : Heap} {P : Addr} {op op' : Obj} (F : Fm K env nm ρ g h) (hK : K P = some op) (hk : ∀ b o, b ≠ P → h.get? b = some o → h'.get? b = some o) : Fm (K1 K P op') env nm ρ g h' := by
  have hP : P ≠ env.locals ∧ P ∉ env.cells.map (·.2) := ⟨(by rintro rfl; rw [F.kL] at hK; cases hK), fun hm => (by rw [F.kc P hm] at hK; cases hK)⟩
  exact (F.keeps hP hk).addI hP

end Mine
end

section
open PySem PyProof.Rows
set_option autoImplicit false
set_option maxRecDepth 100000
namespace Mine

/-- tuple(bytearray(row) for .. in range(n)): n new bytearrays -/
noncomputable def dGen (it : Den) (nr : Nat) : Den := fun ρ H => match it ρ H with
  | some (.rng 0 n 1, H₁) => match ρ[nr]? with
    | some (.ref k) => match H₁[k]? with
      | some ao => if ao.byt = false ∧ 0 ≤ n ∧ n ≤ 10000 ∧ ao.xs.length ≤ 10000 ∧ ao.xs.all (fun n => decide (0 ≤ n) && decide (n < 256)) = true ∧ Builtin.Range.small 0 n 1 = true then
          some (.tup ((List.range n.toNat).map fun j => .ref (H₁.length + j)), H₁ ++ List.replicate n.toNat ⟨true, ao.xs⟩) else none
      | none => none
    | _ => none
  | _ => none

theorem vrs_refs {g : Gh} {f : Nat → AV} {bs : List Addr} {m : Nat} (hf : ∀ (j : Nat) (b : Addr), bs[j]? = some b → VR g (f (m + j)) (.ref b)) : VRs g ((List.range' m bs.length).map f) (bs.map Value.ref) := by
  induction bs generalizing m with
  | nil => exact VRs.nil
  | cons b bs ih =>
    rw [List.length_cons, List.range'_succ, List.map_cons, List.map_cons]
    refine VRs.cons (by have := hf 0 b (by simp); simpa using this) (ih fun j c hj => ?_)
    have := hf (j + 1) c (by simpa using hj)
    have e : m + 1 + j = m + (j + 1) := by omega
    rw [e]; exact this

section
variable {X : Cx} {d : Nat} {sc : Scope} {nm : List Str}

/-- what the statement of the generator asks of the text and of the base -/
structure GenOk (X : Cx) (sc scope : Scope) (i row : Str) (c P : Addr) : Prop where
  co : scope.isCoroutine = false
  cell : ∀ y ∈ scope.names, y.2 ≠ .cell
  zero : scope.names.lookup (".0" : Str) = some NameKind.local
  loc : scope.names.lookup i = some .local
  kind : scope.kind = .function
  free : scope.names.lookup row = some .free
  glb : scope.names.lookup ("bytearray" : Str) = some .globalImplicit
  clo : ∀ (env : Env) (c : Addr), env.cells.lookup row = some c → closureFor scope env = pure [(row, c)]
  ocell : sc.names.lookup row = some .cell
  code : X.h₁.IsCode c P #[]
  tab : X.h₁.TableAt c P #[]
  gba : X.mg "bytearray" = none ∧ X.mb "bytearray" = some (.type "bytearray")
  bm : ∃ bm o, X.mg "__builtins__" = some (.ref bm) ∧ bm ≠ builtinsNs ∧ X.h₁.get? bm = some o ∧ o.cls = .type "module" ∧ o.dict = some builtinsNs ∧ o.data = .plain
  n1 : P ≠ mainGlobals
  n2 : P ≠ builtinsNs
  n3 : P ≠ cStatics

theorem gen_asg {it : Den} {nr nx : Nat} {i row x : Str} {pi pb pr pc ppos iter_ : Pos} {iter : Expr} {scope : Scope} {gpos pt pos px spos : Pos} {c P : Addr} (G : GenOk X sc scope i row c P) (hi : SndE X d sc nm iter it) (hr : nm[nr]? = some row) (hx : nm[nx]? = some x)
    (hfold : ∀ env x, genFold iter env x = pure x) (htup : GV X "tuple" (.type "tuple")) (htn : sc.names.lookup ("tuple" : Str) = some .globalImplicit) (hrd : (row == ("__debug__" : Str)) = false) (hrc : (row == ("__classdict__" : Str)) = false)
    {A : Around} {env : Env} {K : Addr → Option Obj} {g : Gh} {H : List AO} {ρ ρ' : List AV} {s : Shared} {Q : Flow → Shared → Prop} {E : Value → Shared → Prop} {fl : Fl} {H' : List AO}
    (hA : AOk A d) (hE : EnvI sc env) (hcode : env.code = .ref c) (hB : Bs X K g) (hF : Fm K env nm ρ g s.heap) (hR : Rel K g H s.heap) (e : sAsg nx (dGen it nr) ρ H = some (fl, ρ', H'))
    (k : ∀ more g' s' flow, g.Le g' → Bs (X.tab P (tabO more) G.n1 G.n2 G.n3) (K1 K P (tabO more)) g' → Fm (K1 K P (tabO more)) env nm ρ' g' s'.heap → Rel (K1 K P (tabO more)) g' H' s'.heap → FlR g' fl flow → Rest s s' → Q flow s') :
    wpC (model X.prog X.w) A (exec (.Assign [.Name x px] (.Call (.Name "tuple" pt) [.GeneratorExp (.Call (.Name "bytearray" pb) [.Name row pr] [] pc) [⟨.Name i pi, iter, [], 0⟩] scope gpos] [] pos) spos) env) Q E s := by
  unfold sAsg at e
  split at e
  · rename_i v H₀ e₀
    cases e
    unfold dGen at e₀
    split at e₀
    · rename_i nn H₁ e₁
      split at e₀
      · rename_i kk hρ
        split at e₀
        · rename_i ao hk
          split at e₀
          · rename_i hc
            cases e₀
            obtain ⟨c1, c2, c3, c4, c5, c6⟩ := hc
            have hkind : env.scope.kind = .function := by rw [hE.es]; exact hE.ek
            -- the name row
            obtain ⟨vrow0, hld0, _⟩ := hF.fr nr row (.ref kk) hr hρ (by intro q; cases q)
            have hkc : env.kindOf row = some .cell := by unfold Env.kindOf; rw [hE.es]; exact G.ocell
            rcases hld0 with ⟨hkl, _⟩ | ⟨_, cc, oc0, hcc, _, _⟩
            · rw [hkc] at hkl; cases hkl
            have hcm : cc ∈ env.cells.map (·.2) := List.mem_map.mpr ⟨(row, cc), mem_of_lookup hcc, rfl⟩
            rw [exec_Assign_Name env x px _ spos (by rfl)]
            refine wpC_seq (wpAny_standAt (wpC_bind ?_))
            rw [arm_eval_Call_Name']
            refine wpC_seq (gv_loads hE hB hR htn htup (by decide) ?_)
            show wpC _ _ (callWith pos (.type "tuple") [] [(false, eval (.GeneratorExp (.Call (.Name "bytearray" pb) [.Name row pr] [] pc) [⟨.Name i pi, iter, [], 0⟩] scope gpos) env)] []) _ _ _
            refine callWithTypeC rfl (Calls.evalArgs_plain (Calls.spliced_cons ?_))
            have hroom : A.depth < recursionLimit := by have := hA.dp; show A.depth < 1000; omega
            refine wpAny_GeneratorExp_make G.co (G.clo env cc hcc) G.cell G.zero G.kind hroom (hi.inS hA hE hB hF hR e₁ fun g₁ s₁ va hg₁ F₁ R₁ V₁ r₁ => ?_) (hfold env)
            simp only [VR] at V₁
            obtain ⟨r, t, u, z, rfl, hC⟩ := V₁
            refine wpAny_pyIter_range (R₁.frz _ _ hC).1 c6 ?_
            have hrs : Builtin.Range.rangeSize 0 nn 1 = nn := by
              unfold Builtin.Range.rangeSize
              rw [if_pos (by decide)]
              split
              · simp
              · omega
            rw [hrs]
            generalize hh2 : s₁.heap.push { cls := .type "range_iterator", data := .fields #[rawInt 0, rawInt nn, rawInt 1] } = h₂
            have hk₂ : ∀ b o, s₁.heap.get? b = some o → h₂.get? b = some o := fun b o e => by rw [← hh2]; exact Heap.get?_push_of_some _ e
            have hI₂ : h₂.get? s₁.heap.objs.size = some { cls := .type "range_iterator", data := .fields #[rawInt 0, rawInt nn, rawInt 1] } := by rw [← hh2]; exact Heap.get?_push_size _ rfl
            have R₂ : Rel K g₁ _ h₂ := R₁.ext hk₂
            have F₂ := F₁.ext hk₂
            have hB₁ := hB.mono hg₁
            have kb₂ : ∀ b o, X.h₁.get? b = some o → h₂.get? b = some o := fun b o e => R₂.kept _ _ (hB₁.k _ _ e)
            refine ⟨X.lim.keeps kb₂, wpAny_genexprCodeX (s := { s₁ with heap := h₂ }) hcode (G.code.keeps kb₂) (G.tab.keeps kb₂) rfl fun c' h₃ tk₃ hx₃ _ _ _ _ htab₃ _ => ?_⟩
            generalize hmore : (#[] ++ #[rawInt gpos.line, rawInt gpos.col, Value.ref c'] : Array Value) = more at htab₃
            have hXP : X.h₁.get? P = some (tabO #[]) := G.tab.2
            have hKP : K P = some (tabO #[]) := hB.k _ _ hXP
            have hx₃' : ∀ b o, b ≠ P → h₂.get? b = some o → h₃.get? b = some o := fun b o hb e => hx₃ b o hb e
            have R₃ : Rel (K1 K P (tabO more)) g₁ _ h₃ := R₂.tab hKP (tabO_notFD _) hx₃' htab₃.2
            have F₃ : Fm (K1 K P (tabO more)) env nm ρ g₁ h₃ := F₂.tab hKP hx₃'
            have B₃ : Bs (X.tab P (tabO more) G.n1 G.n2 G.n3) (K1 K P (tabO more)) g₁ := hB₁.tab hXP (tabO_notFD _) rfl
            have kb₃ : ∀ b o, b ≠ P → X.h₁.get? b = some o → h₃.get? b = some o := fun b o hb e => hx₃' b o hb (kb₂ b o e)
            obtain ⟨bm, obm, hbm1, hbm2, hbm3, hbm4, hbm5, hbm6⟩ := G.bm
            have hbmP : bm ≠ P := by
              rintro rfl
              rw [hbm3] at hXP; cases hXP; cases hbm4
            have hG₃ : h₃.Ns mainGlobals X.mg := X.hg.at' fun o e => kb₃ _ o (Ne.symm G.n1) e
            have hb₃ : h₃.Ns builtinsNs X.mb := X.hb.at' fun o e => kb₃ _ o (Ne.symm G.n2) e
            refine wpAny_builtinsFor (s := { s₁ with heap := h₃, toks := tk₃ }) (by rw [hE.eg]; exact hG₃) hbm1 hbm2 (kb₃ _ _ hbmP hbm3) hbm4 hbm5 hbm6 ?_
            intro h₄ hn₄ hs₄
            -- the frame's dict lies at C, the generator at a
            have hCfr : h₃.get? h₃.objs.size = none := get?_size h₃
            have hk₄ : ∀ b o, h₃.get? b = some o → h₄.get? b = some o := fun b o e => hs₄.extBut b o (by rintro rfl; rw [hCfr] at e; cases e) (Heap.get?_push_of_some _ e)
            generalize hhz : h₄.push { cls := .type "generator", data := .fields #[.int s₁.gens.size 0, .str "<genexpr>" (tk₃ + 1), .str (env.qual ++ "<genexpr>") (tk₃ + 1 + 1)] } = hz
            have hkz : ∀ b o, h₄.get? b = some o → hz.get? b = some o := fun b o e => by rw [← hhz]; exact Heap.get?_push_of_some _ e
            have hk3z : ∀ b o, h₃.get? b = some o → hz.get? b = some o := fun b o e => hkz b o (hk₄ b o e)
            have hgenz : hz.IsGen h₄.objs.size s₁.gens.size := by
              rw [← hhz]; exact ⟨_, _, _, Heap.get?_push_size _ rfl, rfl, rfl, rfl⟩
            have hafr : h₄.get? h₄.objs.size = none := get?_size h₄
            have hIs₁ : s₁.heap.get? s₁.heap.objs.size = none := get?_size _
            have hIP : s₁.heap.objs.size ≠ P := by
              intro q
              have h1 := hR.kept _ _ hKP
              have h2 := (hF.close hR (Gh.Le.refl g) (hF.relOv hR)).2
              have h3 : s₁.heap.get? P = some (tabO #[]) := R₁.kept _ _ hKP
              rw [← q, hIs₁] at h3; cases h3
            have hI₃ : h₃.get? s₁.heap.objs.size = some { cls := .type "range_iterator", data := .fields #[rawInt 0, rawInt nn, rawInt 1] } := hx₃' _ _ hIP hI₂
            have hIC : s₁.heap.objs.size ≠ h₃.objs.size := by intro q; rw [q, hCfr] at hI₃; cases hI₃
            have haI : h₄.objs.size ≠ s₁.heap.objs.size := by intro q; have := hk₄ _ _ hI₃; rw [← q, hafr] at this; cases this
            have haC : h₄.objs.size ≠ h₃.objs.size := by
              intro q
              obtain ⟨o, es, ep, e, _⟩ := hn₄
              have e' : h₄.get? h₃.objs.size = some o := e
              rw [← q, hafr] at e'; cases e'
            -- what a base object is not
            have old : ∀ b o, s₁.heap.get? b = some o → b ≠ P → hz.get? b = some o ∧ b ≠ s₁.heap.objs.size ∧ b ≠ h₃.objs.size := fun b o e hb => by
              have e3 := hx₃' b o hb (hk₂ b o e)
              refine ⟨hk3z b o e3, ?_, ?_⟩
              · rintro rfl; rw [hIs₁] at e; cases e
              · rintro rfl; rw [hCfr] at e3; cases e3
            have oldB : ∀ b o, X.h₁.get? b = some o → b ≠ P → hz.get? b = some o ∧ b ≠ s₁.heap.objs.size ∧ b ≠ h₃.objs.size := fun b o e hb => old b o (R₁.kept _ _ (hB₁.k _ _ e)) hb
            have hnsz : ∀ (a : Addr) (m : Str → Option Value), X.h₁.Ns a m → a ≠ P → ∀ s₆ : Shared, (∀ b o, b ≠ s₁.heap.objs.size → b ≠ h₃.objs.size → hz.get? b = some o → s₆.heap.get? b = some o) → s₆.heap.Ns a m := fun a m hn ha s₆ h6 => by
              obtain ⟨o, es, ep, e, r⟩ := hn
              obtain ⟨e1, e2, e3⟩ := oldB a o e ha
              exact ⟨o, es, ep, h6 a o e2 e3 e1, r⟩
            -- the list that row holds
            obtain ⟨vrow, hld, hvr1⟩ := F₁.fr nr row (.ref kk) hr hρ (by intro q; cases q)
            rcases hld with ⟨hkl, _⟩ | ⟨_, cc', oc, hcc', hoc, hdc⟩
            · rw [hkc] at hkl; cases hkl
            rw [hcc] at hcc'; cases hcc'
            have hccs : s₁.heap.get? cc = some oc := by unfold ov at hoc; rw [if_pos (.inr hcm)] at hoc; exact hoc
            simp only [VR] at hvr1
            obtain ⟨L, rfl, hφL⟩ := hvr1
            obtain ⟨L', oL, q1, q2, q3⟩ := R₁.trk kk ao hk
            rw [hφL] at q1; cases q1
            have hLP : L ≠ P := by
              rintro rfl
              have := (R₁.ap _ (List.mem_of_getElem? hφL)).2
              rw [hKP] at this; cases this
            obtain ⟨zL, zL1, zL2⟩ := old L oL q2 hLP
            unfold OR at q3
            rw [if_neg (by rw [c1]; exact Bool.false_ne_true)] at q3
            obtain ⟨vsL, nL, ⟨hcL, _, hdL⟩, hIL⟩ := q3
            have hall : ∀ n ∈ ao.xs, 0 ≤ n ∧ n < 256 := fun n hn => by
              have := List.all_eq_true.mp c5 n hn
              simpa using this
            -- the cell
            have hcP : cc ≠ P := by
              rintro rfl
              rw [hF.kc _ hcm] at hKP; cases hKP
            obtain ⟨zc, zc1, zc2⟩ := old cc oc hccs hcP
            refine Calls.spliced_nil ?_
            have hnn : ((nn.toNat : Nat) : Int) = nn := by omega
            have hlim : ∀ s₆ : Shared, (∀ b o, b ≠ s₁.heap.objs.size → b ≠ h₃.objs.size → hz.get? b = some o → s₆.heap.get? b = some o) → s₆.heap.NoLimit := fun s₆ h6 => by
              obtain ⟨mc, hn, hm⟩ := X.lim
              exact ⟨mc, hnsz _ _ hn (Ne.symm G.n3) s₆ h6, hm⟩
            have hst : ∀ (s₆ : Shared), s₆.heap = hz → GSt s₁.heap.objs.size h₃.objs.size hz nn.toNat 0 s₆ := fun s₆ e => by
              refine ⟨fun b o _ _ e' => by rw [e]; exact e', ?_, ?_⟩
              · rw [e, hnn]
                have := hk3z _ _ hI₃
                simpa using this
              · rw [e]; exact ⟨_, hn₄.keeps hkz⟩
            refine tuple_genC (I := s₁.heap.objs.size) (C := h₃.objs.size) (a := h₄.objs.size) (g := s₁.gens.size) (h₀ := hz) (n := nn.toNat) (ob := { cls := .type "bytearray", data := .bytearray (toBytes ao.xs) 0 })
              (gs := .fresh (.compStart (.GeneratorExp (.Call (.Name "bytearray" pb) [.Name row pr] [] pc) [⟨.Name i pi, iter, [], 0⟩] scope gpos) 0 (.ref s₁.heap.objs.size) .none (genEnv scope [(row, cc)] h₃.objs.size (.ref c') builtinsNs env)))
              hA.hd hroom (by omega) haI haC hlim hgenz (hst _ rfl) (Nat.le_refl _) (by show (s₁.gens.push _)[s₁.gens.size]? = _; simp) ?_ fun bs s₇ hG => ?_
            · refine gen_start (cenv := genEnv scope [(row, cc)] h₃.objs.size (.ref c') builtinsNs env) hA.hd G.loc G.kind G.co hIC fun A' s₆ Q₆ E₆ hkeep hQ₆ => ?_
              rw [arm_eval_Call_Name']
              have kc : ∀ b o, b ≠ s₁.heap.objs.size → b ≠ h₃.objs.size → hz.get? b = some o → s₆.heap.get? b = some o := hkeep
              refine wpC_seq (Calls.Name_function_global G.kind G.glb (Calls.loadGlobal_builtin (env := genEnv scope [(row, cc)] h₃.objs.size (.ref c') builtinsNs env) (mg := X.mg) (by show s₆.heap.Ns env.globals X.mg; rw [hE.eg]; exact hnsz _ _ X.hg (Ne.symm G.n1) s₆ kc) G.gba.1 (hnsz _ _ X.hb (Ne.symm G.n2) s₆ kc) G.gba.2 ?_) (by decide))
              show wpC _ _ (callWith pc (.type "bytearray") [] [(false, eval (.Name row pr) (genEnv scope [(row, cc)] h₃.objs.size (.ref c') builtinsNs env))] []) _ _ _
              refine callWithTypeC rfl (Calls.evalArgs_plain (Calls.spliced_cons ?_))
              refine wpAny_Name (wpAny_loadName_free G.kind G.free (by show List.lookup row [(row, cc)] = some cc; simp [List.lookup]) ⟨oc, kc _ _ zc1 zc2 zc, hdc⟩ (Calls.spliced_nil ?_) hrc) hrd
              refine ba_call (.inl rfl) (kc _ _ zL1 zL2 zL) hcL hdL hIL hall c4 fun h' hn' hk' => ?_
              exact hQ₆ h' _ s₆.toks (get?_size _) hn' hk'
            · have hIn := F₁.notI hIs₁
              obtain ⟨hKI, hCI, hφI⟩ := R₁.fresh hIs₁
              have hKI' : K1 K P (tabO more) s₁.heap.objs.size = none := by unfold K1; rw [if_neg hIP]; exact hKI
              have keep₇ : ∀ b o, b ≠ s₁.heap.objs.size → h₃.get? b = some o → s₇.heap.get? b = some o := fun b o hb e =>
                hG.keep b o hb (by rintro rfl; rw [hCfr] at e; cases e) (hk3z b o e)
              have R₇ : Rel (K1 K P (tabO more)) g₁ _ s₇.heap := R₃.but hKI' hCI hφI keep₇
              have F₇ : Fm (K1 K P (tabO more)) env nm ρ g₁ s₇.heap := F₃.keeps hIn keep₇
              have hbz : ∀ b ∈ bs, s₇.heap.get? b = some { cls := .type "bytearray", data := .bytearray (toBytes ao.xs) 0 } ∧ b ∉ g₁.φ ∧ g₁.C b = none ∧ K1 K P (tabO more) b = none := fun b hb => by
                obtain ⟨e1, e2⟩ := hG.obs b hb
                have h3n : h₃.get? b = none := by
                  cases e : h₃.get? b with
                  | none => rfl
                  | some o => rw [hk3z b o e] at e2; cases e2
                obtain ⟨f1, f2, f3⟩ := R₃.fresh h3n
                exact ⟨e1, f3, f2, f1⟩
              have hOR : OR ⟨true, ao.xs⟩ { cls := .type "bytearray", data := .bytearray (toBytes ao.xs) 0 } := by
                unfold OR; rw [if_pos rfl]; exact ⟨_, rfl, toBytes_back hall⟩
              have R₈ := R₇.tracks hOR hbz hG.nod
              have hle := Gh.tracks_le g₁ bs
              have hVs : VRs (g₁.tracks bs) ((List.range nn.toNat).map fun j => AV.ref (H₁.length + j)) (bs.map Value.ref) := by
                have := vrs_refs (g := g₁.tracks bs) (f := fun j => AV.ref (H₁.length + j)) (bs := bs) (m := 0) fun j b hj => by
                  simp only [VR]
                  refine ⟨b, rfl, ?_⟩
                  show (g₁.φ ++ bs)[H₁.length + (0 + j)]? = some b
                  rw [List.getElem?_append_right (by rw [R₇.len]; omega), R₇.len]
                  have : H₁.length + (0 + j) - H₁.length = j := by omega
                  rw [this]; exact hj
                rw [hG.len, ← List.range_eq_range'] at this
                exact this
              obtain ⟨g₉, hle₉, R₉, V₉⟩ := vr_new_tuple (vs := (bs.map Value.ref).toArray) R₈ (by simpa using hVs)
              have hk₉ : ∀ b o, s₇.heap.get? b = some o → (s₇.heap.push { cls := .type "tuple", data := .seq (bs.map Value.ref).toArray }).get? b = some o := fun b o e => Heap.get?_push_of_some _ e
              have F₉ : Fm (K1 K P (tabO more)) env nm ρ g₉ (s₇.heap.push { cls := .type "tuple", data := .seq (bs.map Value.ref).toArray }) := (F₇.mono (hle.trans hle₉)).ext hk₉
              rw [hG.len] at R₉
              have rr : Rest s { s₇ with heap := s₇.heap.push { cls := .type "tuple", data := .seq (bs.map Value.ref).toArray } } := by
                refine ⟨hG.os.trans r₁.1, fun hb y hy => ?_⟩
                have hb₁ := r₁.2 hb
                obtain ⟨j, hj, hjy⟩ := Array.getElem_of_mem hy
                have hj' : s₇.gens[j]? = some y := by rw [← hjy]; exact Array.getElem?_eq_getElem hj
                by_cases hg : j = s₁.gens.size
                · subst hg
                  rw [hG.fin] at hj'; cases hj'; rfl
                · have h5 := hG.gs j hg
                  rw [hj'] at h5
                  have h5' : some y = (s₁.gens.push _)[j]? := h5
                  rw [Array.getElem?_push, if_neg hg] at h5'
                  exact hb₁ y (Array.mem_of_getElem? h5'.symm)
              refine wpC_seq (wpAny_standAt (wpC_seq (wpAny_bindName (Fm.store (s := { s₇ with heap := s₇.heap.push { cls := .type "tuple", data := .seq (bs.map Value.ref).toArray } }) F₉ R₉ hE hx V₉ fun h' tk F' R' => ?_))))
              exact wpC_pure (k more g₉ _ _ (hg₁.trans (hle.trans hle₉)) (B₃.mono (hle.trans hle₉)) F' R' rfl (rr.trans Rest.ht))
          · cases e₀
        · cases e₀
      · cases e₀
    · cases e₀
  · cases e
end
end Mine
end

section
open PySem PyProof.Rows
set_option autoImplicit false
set_option maxRecDepth 100000
namespace Mine

section
variable {X : Cx} {d : Nat} {sc : Scope} {nm : List Str}

theorem strlen_app (a b : Str) : (a ++ b).length = a.length + b.length := strLen_append a b

/-- the words of the error -/
theorem msg_ok {c1 c2 c3 : Str} {k1 k2 k3 : Nat} {p1 p2 p3 p4 p5 pj : Pos} {v1 v2 : Expr} {f1 f2 : Den} (h₁ : SndE X d sc nm v1 f1) (h₂ : SndE X d sc nm v2 f2)
    {A : Around} {env : Env} {K : Addr → Option Obj} {g : Gh} {H H₁ H₂ : List AO} {ρ : List AV} {s : Shared} {Q : Value → Shared → Prop} {E : Value → Shared → Prop} {a b : Int}
    (hA : AOk A d) (hE : EnvI sc env) (hB : Bs X K g) (hF : Fm K env nm ρ g s.heap) (hR : Rel K g H s.heap) (e₁ : f1 ρ H = some (.int a, H₁)) (e₂ : f2 ρ H₁ = some (.int b, H₂)) (ha : a.natAbs.log2 < 1920) (hb : b.natAbs.log2 < 1920)
    (hc : c1.length + c2.length + c3.length ≤ 10000)
    (k : ∀ g' s' x t, g.Le g' → Fm K env nm ρ g' s'.heap → Rel K g' H₂ s'.heap → Rest s s' → Q (.str x t) s') :
    wpAny (model X.prog X.w) A (eval (.JoinedStr [.Constant (.str c1) k1 p1, .FormattedValue v1 (-1) none p2, .Constant (.str c2) k2 p3, .FormattedValue v2 (-1) none p4, .Constant (.str c3) k3 p5] pj) env) Q E s := by
  have hsl : sizeLine = 2 ^ 24 := rfl
  have la := int_text_len_1921 ha
  have lb := int_text_len_1921 hb
  have l0 : (Str.empty : Str).length = 0 := rfl
  refine JoinedStr_many (joinParts_cons (wpAny_Constant_str ⟨by rw [strlen_app, l0, hsl]; omega, ?_⟩))
  refine joinParts_cons (FormattedValue_plain (SndE.inS (s := { s with toks := s.toks + 1 }) h₁ hA hE hB hF hR e₁ fun g₁ s₁ val₁ hg₁ F₁ R₁ V₁ r₁ => ?_))
  simp only [VR] at V₁
  obtain ⟨t₁, rfl⟩ := V₁
  refine formatField_int_small ha ⟨by rw [strlen_app, strlen_app, l0, hsl]; omega, ?_⟩
  show wpAny _ _ (joinParts _ (eval (.Constant (.str c2) k2 p3) env :: [eval (.FormattedValue v2 (-1) none p4) env, eval (.Constant (.str c3) k3 p5) env])) _ _ _
  refine joinParts_cons (wpAny_Constant_str ⟨by simp only [strlen_app, l0, hsl]; omega, ?_⟩)
  refine joinParts_cons (FormattedValue_plain (SndE.inS (s := { s₁ with toks := s₁.toks + 1 + 1 + 1 }) h₂ hA hE (hB.mono hg₁) F₁ R₁ e₂ fun g₂ s₂ val₂ hg₂ F₂ R₂ V₂ r₂ => ?_))
  simp only [VR] at V₂
  obtain ⟨t₂, rfl⟩ := V₂
  refine formatField_int_small hb ⟨by simp only [strlen_app, l0, hsl]; omega, ?_⟩
  refine joinParts_cons (wpAny_Constant_str ⟨by simp only [strlen_app, l0, hsl]; omega, ?_⟩)
  refine joinParts_nil ?_ (by simp only [strlen_app, l0, hsl]; omega)
  exact k g₂ _ _ _ (hg₁.trans hg₂) F₂ R₂ (((Rest.t (s := s)).trans r₁).trans ((Rest.t (s := s₁)).trans (r₂.trans Rest.t)))

theorem raise_ok {c1 c2 c3 : Str} {k1 k2 k3 : Nat} {p1 p2 p3 p4 p5 pj np cpos pos : Pos} {v1 v2 : Expr} {f1 f2 : Den} (h₁ : SndE X d sc nm v1 f1) (h₂ : SndE X d sc nm v2 f2) (hv : GV X "ValueError" (.type "ValueError")) (hx : sc.names.lookup ("ValueError" : Str) = some .globalImplicit)
    {A : Around} {env : Env} {K : Addr → Option Obj} {g : Gh} {H H₁ H₂ : List AO} {ρ : List AV} {s : Shared} {Q : Flow → Shared → Prop} {E : Value → Shared → Prop} {a b : Int}
    (hA : AOk A d) (hE : EnvI sc env) (hB : Bs X K g) (hF : Fm K env nm ρ g s.heap) (hR : Rel K g H s.heap) (e₁ : f1 ρ H = some (.int a, H₁)) (e₂ : f2 ρ H₁ = some (.int b, H₂)) (ha : a.natAbs.log2 < 1920) (hb : b.natAbs.log2 < 1920)
    (hc : c1.length + c2.length + c3.length ≤ 10000)
    (k : ∀ g' s' h' e vs, g.Le g' → Fm K env nm ρ g' s'.heap → Rel K g' H₂ s'.heap → Rest s s' → Heap.MadeExc s'.heap h' e "ValueError" vs → E (.ref e) { s' with heap := h' }) :
    wpAny (model X.prog X.w) A (exec (.Raise (some (.Call (.Name "ValueError" np) [.JoinedStr [.Constant (.str c1) k1 p1, .FormattedValue v1 (-1) none p2, .Constant (.str c2) k2 p3, .FormattedValue v2 (-1) none p4, .Constant (.str c3) k3 p5] pj] [] cpos)) none pos) env) Q E s := by
  refine Raise_madeB PySem.F.excCall_ValueError PySem.F.excRaise_ValueError hA.hd (gv_loads hE hB hR hx hv (by decide) ⟨rfl, ?_⟩)
  show wpAny _ _ (spliced [(false, eval (.JoinedStr [.Constant (.str c1) k1 p1, .FormattedValue v1 (-1) none p2, .Constant (.str c2) k2 p3, .FormattedValue v2 (-1) none p4, .Constant (.str c3) k3 p5] pj) env)]) _ _ _
  refine Calls.spliced_cons (msg_ok h₁ h₂ hA hE hB hF hR e₁ e₂ ha hb hc fun g' s' x t hg' F' R' r' => Calls.spliced_nil ⟨by have hsl : sizeLine = 2 ^ 24 := rfl; rw [hsl]; simp, fun h' e hm => ?_⟩)
  exact k g' s' h' e _ hg' F' R' r' hm
end
end Mine
end

section
open PySem PyProof.Rows
set_option autoImplicit false
set_option maxRecDepth 100000
namespace Mine

section
variable {M : Model} {A : Around} {E : Value → Shared → Prop} {s : Shared} {env : Env}
theorem execs_append (l₁ l₂ : List Stmt) : execs (l₁ ++ l₂) env = execs l₁ env >>= fun f => match f with | .next => execs l₂ env | f => pure f := by
  induction l₁ with
  | nil => rfl
  | cons x l ih =>
    rw [List.cons_append, execs_cons, execs_cons, ih, bind_assoc]
    congr 1
    funext f
    cases f <;> rfl
theorem wpC_execs_append {l₁ l₂ : List Stmt} {Q : Flow → Shared → Prop} (h : wpC M A (execs l₁ env) (fun f s' => match f with | .next => wpC M A (execs l₂ env) Q E s' | f => Q f s') E s) : wpC M A (execs (l₁ ++ l₂) env) Q E s := by
  rw [execs_append]
  refine wpC_bind (wpC_mono h (fun f s' h' => ?_) fun _ _ x => x)
  cases f with
  | next => exact h'
  | _ => exact wpC_pure h'
theorem wpC_Try {body orelse : List Stmt} {h₀ : ExceptHandler} {hs : List ExceptHandler} {pos : Pos} {Q : Flow → Shared → Prop}
    (h : wpC M A (execs body env) (fun f s₁ => match f with | .next => wpC M A (execs orelse env) Q E s₁ | f => Q f s₁)
      (fun e s₁ => wpAny M A (noteFrame e env) (fun _ s₂ => wpAny M A (setFlight e none) (fun _ s₃ => wpAny M A (handleBy e env (h₀ :: hs)) Q E s₃) E s₂) E s₁) s) :
    wpC M A (exec (.Try body (h₀ :: hs) orelse [] pos) env) Q E s := by
  rw [arm_exec_Try]
  refine wpC_seq (wpAny_standAt ?_)
  unfold tryStmt
  simp only [List.isEmpty_nil, if_true, List.isEmpty_cons, Bool.false_and, Bool.false_eq_true, if_false]
  refine wpC_bind (wpC_attempt (wpC_mono h (fun f s₁ h₁ => ?_) fun e s₁ h₁ => ?_))
  · cases f <;> first | exact h₁ | exact wpC_pure h₁
  · exact wpC.of (wpAny_bind (wpAny_mono h₁ (fun _ _ h₂ => wpAny_bind h₂) fun _ _ x => x))
end

section
variable {X : Cx} {d : Nat} {sc sc' : Scope} {nm nm' : List Str}

theorem ve_nt : isSubtype (.type ((Manifest.find? "ValueError").elim "type" fun y => y.metatype)) (.type "tuple") = pure false := by
  have : ((Manifest.find? "ValueError").elim "type" fun y => y.metatype) = "type" := by decide +kernel
  rw [this, isSubtype_type]; kernel_rfl

theorem Fm.baseNone {K : Addr → Option Obj} {env : Env} {ρ : List AV} {g : Gh} {h : Heap} (F : Fm K env nm ρ g h) (hB : Bs X K g) : X.h₁.get? env.locals = none := by
  cases e : X.h₁.get? env.locals with
  | none => rfl
  | some o => have := hB.k _ _ e; rw [F.kL] at this; cases this

/-- the try of the law: the def's body is pre and an if that raises -/
theorem try_ok {a : Addr} {o : Obj} {fd : FuncData} {pre : List Stmt} {test : Expr} {pif : Pos} {ps : List Str} {as : List AV} {f : DenS} {ft : DenB} {x : Str} {xs : List Expr} {r : DenL} {f1 f2 : Den} {v1 v2 : Expr} {nsh : Nat} {sh : Str}
    {c1 c2 c3 : Str} {k1 k2 k3 k9 : Nat} {p1 p2 p3 p4 p5 pj np0 cpos rpos p₁ pos pe np pS p9 pc pr ph pt : Pos}
    (O : OwnFn X a o fd (pre ++ [.If test [.Raise (some (.Call (.Name "ValueError" np0) [.JoinedStr [.Constant (.str c1) k1 p1, .FormattedValue v1 (-1) none p2, .Constant (.str c2) k2 p3, .FormattedValue v2 (-1) none p4, .Constant (.str c3) k3 p5] pj] [] cpos)) none rpos] [] pif]) sc')
    (hb : Binds X fd ps as.length []) (hN : NamesOk sc' nm' ps) (hl : ps.length = as.length) (hpre : SndS X d sc' nm' pre f) (htest : SndB X d sc' nm' test ft) (hs1 : SndE X d sc' nm' v1 f1) (hs2 : SndE X d sc' nm' v2 f2)
    (hve : GV X "ValueError" (.type "ValueError")) (hvx : sc'.names.lookup ("ValueError" : Str) = some .globalImplicit) (hvx' : sc.names.lookup ("ValueError" : Str) = some .globalImplicit) (hcl : c1.length + c2.length + c3.length ≤ 10000)
    (hv : GV X x (.ref a)) (hargs : SndL X d sc nm xs r) (hne : xs ≠ []) (hx : sc.names.lookup x = some .globalImplicit) (hxd : (x == ("__debug__" : Str)) = false) (hsh : nm[nsh]? = some sh) (hshl : sc.names.lookup sh = some .local) (hsd : (sh == ("__debug__" : Str)) = false)
    (hi : ∀ env, swapsWith (.Call (.Name x p₁) xs [] pos) none pe.line env = pure false)
    {A : Around} {env : Env} {K : Addr → Option Obj} {g : Gh} {H H₁ H₂ H₃ : List AO} {ρ ρ₂ : List AV} {s : Shared} {Q : Flow → Shared → Prop} {E : Value → Shared → Prop} {bt : Bool}
    (hA : AOk A (d + 1)) (hA' : AOk A d) (hfr : A.frames = some [env]) (hE : EnvI sc env) (hef : env.frame = some env.locals) (hB : Bs X K g) (hF : Fm K env nm ρ g s.heap) (hR : Rel K g H s.heap)
    (e₁ : r ρ H = some (as, H₁)) (e₂ : f (as ++ List.replicate (nm'.length - as.length) .und) H₁ = some (.next, ρ₂, H₂)) (e₃ : ft ρ₂ H₂ = some (bt, H₃))
    (kN : bt = false → ∀ g' s', g.Le g' → Fm K env nm ρ g' s'.heap → Rel K g' H₃ s'.heap → Rest s s' → Q .next s')
    (kX : bt = true → ∃ (i1 i2 i3 : Int) (H₄ H₅ : List AO), f1 ρ₂ H₃ = some (.int i1, H₄) ∧ f2 ρ₂ H₄ = some (.int i2, H₅) ∧ i1.natAbs.log2 < 1920 ∧ i2.natAbs.log2 < 1920 ∧ ρ[nsh]? = some (.int i3) ∧
      ∀ s', (∀ b o, X.h₁.get? b = some o → s'.heap.get? b = some o) → Rest s s' → Q (.ret (.bool (i3 == 9))) s') :
    wpC (model X.prog X.w) A (exec (.Try [.Expr (.Call (.Name x p₁) xs [] pos) pe] [.ExceptHandler (some (.Name "ValueError" np)) none [.Return (some (.Compare (.Name sh pS) [.Eq] [.Constant (.int 9) k9 p9] pc)) pr] ph] [] [] pt) env) Q E s := by
  have hkind : env.scope.kind = .function := by rw [hE.es]; exact hE.ek
  refine wpC_Try ?_
  rw [execs_cons]
  refine wpC_bind ?_
  have hint : interactive env = false := by unfold interactive; rw [hE.es, hE.ek]; rfl
  rw [exec_Expr env _ pe hint (hi env)]
  refine wpC_seq (wpAny_standAt (wpC_bind ?_))
  rw [arm_eval_Call_Name']
  -- within the caller's frame
  have hRo := hF.relOv hR
  have hBo := hB.ov hF
  refine wpC_seq (gv_loads hE hBo hRo hx hv hxd ?_)
  obtain ⟨t, rest, hbk⟩ := hargs.ne hne env pos
  have run := fun Q' E' => hargs.run pos A env (ov K env s.heap) g H ρ s Q' E' _ _ hA' hE hBo hF.fr hRo e₁
  rw [hbk] at run
  show wpC _ _ (callWith pos (.ref a) [] (backTo pos (starEach xs env)) []) _ _ _
  rw [hbk]
  refine callWithC (o := o) (fd := fd) (Calls.evalArgs_plain (run _ _ fun g₁ s₁ vs hg₁ R₁ V₁ r₁ => ⟨⟨R₁.kept _ _ (hBo.k _ _ O.ho), O.hd⟩, ?_⟩))
  have hB₁ := hBo.mono hg₁
  show wpC _ _ (call (.ref a) vs) _ _ _
  refine wpC_call (own_enter (d := d) O hb hN (das := []) (dv := []) (fun g => VRs.nil) (by simpa using hl) hA hB₁ R₁ rfl V₁ fun env' s₂ hE' hef' _ F₂ R₂ r₂ => ?_)
  refine wpC_execs_append ?_
  have e₂' : f (as ++ [] ++ List.replicate (nm'.length - (as.length + ([] : List AV).length)) .und) H₁ = some (.next, ρ₂, H₂) := by simpa using e₂
  refine hpre _ env' (ov K env s.heap) g₁ H₁ _ s₂ _ _ .next ρ₂ H₂ hA.deeper hE' hB₁ F₂ R₂ e₂' fun g₃ s₃ fw hg₃ F₃ R₃ hfl r₃ => ?_
  have hfl' : fw = .next := hfl
  subst hfl'
  dsimp only
  rw [execs_cons, exec_If]
  refine wpC_bind (wpC_seq (wpAny_standAt (wpC_seq (htest.inS hA.deeper hE' (hB₁.mono hg₃) F₃ R₃ e₃ fun g₄ s₄ hg₄ F₄ R₄ r₄ => ?_))))
  cases bt with
  | false =>
    rw [if_neg Bool.false_ne_true]
    refine wpC_pure (wpC_pure ?_)
    obtain ⟨F₅, R₅⟩ := hF.close hR ((hg₁.trans hg₃).trans hg₄) R₄
    refine .of (wpAny_dropValue ?_)
    dsimp only
    refine wpC_pure ?_
    dsimp only
    exact wpC_pure (kN rfl g₄ s₄ ((hg₁.trans hg₃).trans hg₄) F₅ R₅ (((r₁.trans r₂).trans r₃).trans r₄))
  | true =>
    obtain ⟨i1, i2, i3, H₄, H₅, q1, q2, b1, b2, q3, kx⟩ := kX rfl
    rw [if_pos rfl, execs_cons]
    refine wpC_bind (.of (raise_ok hs1 hs2 hve hvx hA.deeper hE' ((hB₁.mono hg₃).mono hg₄) F₄ R₄ q1 q2 b1 b2 hcl fun g₅ s₅ h₅ e vs' hg₅ F₅ R₅ r₅ hm => ?_))
    -- the callee is left
    have hB₅ : Bs X (ov K env s.heap) g₅ := ((hB₁.mono hg₃).mono hg₄).mono hg₅
    have hbase : X.h₁.StaysIn s₅.heap := fun b o e => R₅.kept _ _ (hB₅.k _ _ e)
    obtain ⟨mL, hnL⟩ := hF.ns
    obtain ⟨oL, esL, epL, hoL, hrL⟩ := id hnL
    have hoL₅ : s₅.heap.get? env.locals = some oL := R₅.kept _ _ (by unfold ov; rw [if_pos (.inl rfl)]; exact hoL)
    have hnL₅ : s₅.heap.Ns env.locals mL := ⟨oL, esL, epL, hoL₅, hrL⟩
    obtain ⟨mC, hnC⟩ := F₅.ns
    have hff : s₅.heap.FunFrames X.h₁ [env', env] := by
      refine Heap.FunFrames.cons (by rw [hE'.es, hE'.ek]; decide) hef' hnC (F₅.baseNone hB₅) (Heap.FunFrames.cons (by rw [hkind]; decide) hef hnL₅ (hF.baseNone hB) trivial)
    have hmo : Heap.MadeExcOf s₅.heap h₅ e (.type "ValueError") vs' := ⟨hm.keeps, hm.new, hm.there⟩
    refine .of (wpAny_leaves_madeW (base := X.h₁) (h := s₅.heap) (outer := [env]) (by rw [Around.frames_deeper hfr]) hef' hbase hff hmo fun h₆ tt hfl₆ _ _ hsm₆ => ?_)
    -- the try takes it
    refine wpAny_looks_onW (base := X.h₁) (outer := []) hfr hef hfl₆ fun h₇ hheld₇ hsm₇ => ?_
    refine wpAny_landsW hheld₇ fun h₈ hfl₈ hsm₈ => ?_
    have hb₈ : X.h₁.StaysIn h₈ := hfl₈.1
    obtain ⟨ob, hob, hobc⟩ := hfl₈.there
    have hn₈ : h₈.Ns env.locals mL := hsm₈.ns (hsm₇.ns (hsm₆.ns (hnL₅.keeps hm.keeps)))
    have hgl : ∀ (A₀ : Around) (s₀ : Shared) (Q₀ : Value → Shared → Prop) (E₀ : Value → Shared → Prop), X.h₁.StaysIn s₀.heap → Q₀ (.type "ValueError") s₀ → wpAny (model X.prog X.w) A₀ (eval (.Name "ValueError" np) env) Q₀ E₀ s₀ := fun A₀ s₀ Q₀ E₀ hst hq => by
      refine Calls.Name_function_global hkind (by unfold Env.kindOf; rw [hE.es]; exact hvx') ?_ (by decide)
      rcases hve with hv | ⟨h0, hv⟩
      · exact Calls.loadGlobal_global (by rw [hE.eg]; exact X.hg.keeps hst) hv hq
      · exact Calls.loadGlobal_builtin (by rw [hE.eg]; exact X.hg.keeps hst) h0 (by rw [hE.eb]; exact X.hb.keeps hst) hv hq
    refine wpAny_handleBy_builtin (X := "ValueError") (T := "ValueError") (b := true) F.isExc_ValueError ve_nt F.self_ValueError (hgl _ _ _ _ hb₈ ⟨rfl, ⟨ob, hob, hobc⟩, ?_⟩)
    refine lands_againW hfl₈ fun h₉ hfl₉ hsm₉ => ?_
    have hn₉ : h₉.Ns env.locals mL := hsm₉.ns hn₈
    -- return short == 9
    have hshv : ∃ tsh, mL sh = some (.int i3 tsh) := by
      obtain ⟨val, hld, hvr⟩ := hF.fr nsh sh (.int i3) hsh q3 (by intro q; cases q)
      simp only [VR] at hvr
      obtain ⟨tsh, rfl⟩ := hvr
      rcases hld with ⟨_, o', es', ep', ho', hd', hk', hf'⟩ | ⟨hk', _⟩
      · unfold ov at ho'
        rw [if_pos (.inl rfl), hoL] at ho'
        cases ho'
        obtain ⟨hdL, hkL, hfL⟩ := hrL
        rw [hdL] at hd'; cases hd'
        exact ⟨tsh, by rw [← hfL]; exact hf'⟩
      · have : env.kindOf sh = some .local := by unfold Env.kindOf; rw [hE.es]; exact hshl
        rw [this] at hk'
        rcases hk' with hk' | hk' <;> cases hk'
    obtain ⟨tsh, hshv⟩ := hshv
    rw [execs_cons, exec_Return_some]
    refine wpAny_bind (wpAny_bind (wpAny_standAt (wpAny_bind ?_)))
    refine wpAny_Compare1 (wpAny_Name (wpAny_loadName_local hkind (by unfold Env.kindOf; rw [hE.es]; exact hshl) hn₉ hshv ?_) hsd) rfl
    refine wpAny_Constant_int ?_
    refine P.eq_int ?_
    refine wpAny_pure (wpAny_pure (kx _ (fun b o e => hfl₉.1 b o e) ?_))
    exact ((((r₁.trans r₂).trans r₃).trans r₄).trans r₅).trans Rest.ht
end
end Mine
end

section
open PySem PyProof.Rows
set_option autoImplicit false
set_option maxRecDepth 100000
namespace Mine

/-- the k-th def of the text -/
noncomputable def fnAt (k : Nat) : Option (Arguments × List Stmt × Scope) := match PySem.Challenge.pw_md0047_01.main.body[k]? with
  | some (.FunctionDef _ args body _ _ _ scope _ _ _) => some (args, body, scope)
  | _ => none
noncomputable def bodyOf (k : Nat) : List Stmt := match fnAt k with
  | some (_, b, _) => b
  | none => []
noncomputable def scOf (k : Nat) : Scope := match fnAt k with
  | some (_, _, s) => s
  | none => { kind := .module, names := [], isGenerator := false, isCoroutine := false, more := [] }

theorem cellOf_some {env : Env} {y : Str} {c : Addr} (h : env.cells.lookup y = some c) : cellOf env y = pure c := by unfold cellOf; rw [h]
theorem closure_go {env : Env} {y : Str} {c : Addr} (h : env.cells.lookup y = some c) : ∀ (names : List (Str × NameKind)) (cs : List (Str × Addr)), (∀ z ∈ names, z.2 = .free → z.1 = y) →
    (forIn names cs (fun (x : Str × NameKind) (cs : List (Str × Addr)) => (if (x.2 == .free) = true then (do let a ← cellOf env x.1; pure (ForInStep.yield ((x.1, a) :: cs))) else pure (ForInStep.yield cs) : Sem (ForInStep (List (Str × Addr)))))) =
      (pure (List.replicate (names.filter (·.2 == .free)).length (y, c) ++ cs) : Sem (List (Str × Addr)))
  | [], cs, _ => by simp
  | (n, k) :: r, cs, hn => by
    rw [List.forIn_cons]
    have ih := closure_go h r
    cases hk : k == NameKind.free with
    | false =>
      simp only [hk, Bool.false_eq_true, if_false, pure_bind, List.filter_cons]
      exact ih cs fun z hz => hn z (List.mem_cons_of_mem _ hz)
    | true =>
      have hk' : k = .free := by simpa using hk
      have hny : n = y := hn (n, k) (List.mem_cons_self ..) hk'
      subst hny
      simp only [hk, if_true, cellOf_some h, pure_bind, List.filter_cons, List.length_cons]
      rw [ih ((n, c) :: cs) fun z hz => hn z (List.mem_cons_of_mem _ hz), List.replicate_succ', List.append_assoc]
      rfl
theorem closure_one {scope : Scope} {y : Str} (h1 : ∀ z ∈ scope.names, z.2 = .free → z.1 = y) (h2 : (scope.names.filter (·.2 == .free)).length = 1) (env : Env) (c : Addr) (h : env.cells.lookup y = some c) : closureFor scope env = pure [(y, c)] := by
  have := closure_go h scope.names [] h1
  rw [h2] at this
  unfold closureFor
  show (forIn scope.names [] (fun (x : Str × NameKind) (cs : List (Str × Addr)) => (if (x.2 == .free) = true then (do let a ← cellOf env x.1; pure (ForInStep.yield ((x.1, a) :: cs))) else pure (ForInStep.yield cs) : Sem (ForInStep (List (Str × Addr))))) >>= fun cs => pure cs) = _
  rw [this]
  rfl

/-- a list of written ints -/
noncomputable def CI : List Int → List Expr → Prop
  | [], es => es = []
  | n :: ns, es => ∃ k p r, es = .Constant (.int n) k p :: r ∧ CI ns r
noncomputable def lInts (ns : List Int) : DenL := fun _ H => some (ns.map .int, H)
theorem sndL_ints {X : Cx} {d : Nat} {sc : Scope} {nm : List Str} : ∀ {ns : List Int} {es : List Expr}, CI ns es → SndL X d sc nm es (lInts ns)
  | [], es, h => by
    simp only [CI] at h
    subst h
    exact sndL_nil
  | n :: ns, es, h => by
    simp only [CI] at h
    obtain ⟨k, p, r, rfl, h⟩ := h
    have := sndL_cons (x := .Constant (.int n) k p) (snd_int (X := X) (d := d) (sc := sc) (nm := nm)) (sndL_ints h)
    have e : lCons (dInt n) (lInts ns) = lInts (n :: ns) := rfl
    rw [e] at this
    exact this
end Mine
end

section
set_option genInjectivity false
open PySem PyProof.Rows
set_option autoImplicit false
set_option maxRecDepth 100000
set_option maxHeartbeats 4000000
namespace Mine

noncomputable def avAlign : AV := .tup [.tup [.int 6, .int 18], .tup [.int 6, .int 22], .tup [.int 6, .int 26], .tup [.int 6, .int 30], .tup [.int 6, .int 34], .tup [.int 6, .int 22, .int 38], .tup [.int 6, .int 24, .int 42], .tup [.int 6, .int 26, .int 46], .tup [.int 6, .int 28, .int 50], .tup [.int 6, .int 30, .int 54], .tup [.int 6, .int 32, .int 58], .tup [.int 6, .int 34, .int 62], .tup [.int 6, .int 26, .int 46, .int 66], .tup [.int 6, .int 26, .int 48, .int 70], .tup [.int 6, .int 26, .int 50, .int 74], .tup [.int 6, .int 30, .int 54, .int 78], .tup [.int 6, .int 30, .int 56, .int 82], .tup [.int 6, .int 30, .int 58, .int 86], .tup [.int 6, .int 34, .int 62, .int 90], .tup [.int 6, .int 28, .int 50, .int 72, .int 94], .tup [.int 6, .int 26, .int 50, .int 74, .int 98], .tup [.int 6, .int 30, .int 54, .int 78, .int 102], .tup [.int 6, .int 28, .int 54, .int 80, .int 106], .tup [.int 6, .int 32, .int 58, .int 84, .int 110], .tup [.int 6, .int 30, .int 58, .int 86, .int 114], .tup [.int 6, .int 34, .int 62, .int 90, .int 118], .tup [.int 6, .int 26, .int 50, .int 74, .int 98, .int 122], .tup [.int 6, .int 30, .int 54, .int 78, .int 102, .int 126], .tup [.int 6, .int 26, .int 52, .int 78, .int 104, .int 130], .tup [.int 6, .int 30, .int 56, .int 82, .int 108, .int 134], .tup [.int 6, .int 34, .int 60, .int 86, .int 112, .int 138], .tup [.int 6, .int 30, .int 58, .int 86, .int 114, .int 142], .tup [.int 6, .int 34, .int 62, .int 90, .int 118, .int 146], .tup [.int 6, .int 30, .int 54, .int 78, .int 102, .int 126, .int 150], .tup [.int 6, .int 24, .int 50, .int 76, .int 102, .int 128, .int 154], .tup [.int 6, .int 28, .int 54, .int 80, .int 106, .int 132, .int 158], .tup [.int 6, .int 32, .int 58, .int 84, .int 110, .int 136, .int 162], .tup [.int 6, .int 26, .int 54, .int 82, .int 110, .int 138, .int 166], .tup [.int 6, .int 30, .int 58, .int 86, .int 114, .int 142, .int 170]]
noncomputable def avFinder : AV := .tup [.tup [.int 0, .int 0, .int 0, .int 0, .int 0, .int 0, .int 0, .int 0, .int 0], .tup [.int 0, .int 1, .int 1, .int 1, .int 1, .int 1, .int 1, .int 1, .int 0], .tup [.int 0, .int 1, .int 0, .int 0, .int 0, .int 0, .int 0, .int 1, .int 0], .tup [.int 0, .int 1, .int 0, .int 1, .int 1, .int 1, .int 0, .int 1, .int 0], .tup [.int 0, .int 1, .int 0, .int 1, .int 1, .int 1, .int 0, .int 1, .int 0], .tup [.int 0, .int 1, .int 0, .int 1, .int 1, .int 1, .int 0, .int 1, .int 0], .tup [.int 0, .int 1, .int 0, .int 0, .int 0, .int 0, .int 0, .int 1, .int 0], .tup [.int 0, .int 1, .int 1, .int 1, .int 1, .int 1, .int 1, .int 1, .int 0], .tup [.int 0, .int 0, .int 0, .int 0, .int 0, .int 0, .int 0, .int 0, .int 0]]

noncomputable abbrev Frz (X : Cx) (a : AV) (v : Value) : Prop := ∀ g : Gh, (∀ b o, X.h₁.get? b = some o → FD o → g.C b = some o) → VR g a v

/-- what the base holds: the built-ins' names, the tables, the defs -/
structure Facts (X : Cx) where
  gLen : GV X "len" (.builtin "len")
  gAbs : GV X "abs" (.builtin "abs")
  gMax : GV X "max" (.builtin "max")
  gSum : GV X "sum" (.builtin "sum")
  gRange : GV X "range" (.type "range")
  gList : GV X "list" (.type "list")
  gTuple : GV X "tuple" (.type "tuple")
  gVE : GV X "ValueError" (.type "ValueError")
  xM1 : Value
  xM3 : Value
  xAlign : Value
  xFinder : Value
  gM1 : GV X "VERSION_M1" xM1
  gM3 : GV X "VERSION_M3" xM3
  gAlign : GV X "ALIGNMENT_POS" xAlign
  gFinder : GV X "_FINDER_PATTERN" xFinder
  vM1 : Frz X (.int (-3)) xM1
  vM3 : Frz X (.int (-1)) xM3
  vAlign : Frz X avAlign xAlign
  vFinder : Frz X avFinder xFinder
  aFp : Addr
  obFp : Obj
  fdFp : FuncData
  gFp : GV X "add_finder_patterns" (.ref aFp)
  oFp : OwnFn X aFp obFp fdFp (bodyOf 5) (scOf 5)
  bFp : Binds X fdFp ["matrix", "width", "height"] 3 []
  aTp : Addr
  obTp : Obj
  fdTp : FuncData
  gTp : GV X "add_timing_pattern" (.ref aTp)
  oTp : OwnFn X aTp obTp fdTp (bodyOf 6) (scOf 6)
  bTp : Binds X fdTp ["matrix", "is_micro"] 2 []
  aAp : Addr
  obAp : Obj
  fdAp : FuncData
  gAp : GV X "add_alignment_patterns" (.ref aAp)
  oAp : OwnFn X aAp obAp fdAp (bodyOf 7) (scOf 7)
  bAp : Binds X fdAp ["matrix", "width", "height"] 3 []
  aCw : Addr
  obCw : Obj
  fdCw : FuncData
  gCw : GV X "add_codewords" (.ref aCw)
  oCw : OwnFn X aCw obCw fdCw (bodyOf 8) (scOf 8)
  bCw : Binds X fdCw ["matrix", "codewords", "version"] 3 []
  aMm : Addr
  obMm : Obj
  fdMm : FuncData
  gMm : GV X "make_matrix" (.ref aMm)
  oMm : OwnFn X aMm obMm fdMm (bodyOf 9) (scOf 9)
  bMm : Binds X fdMm ["width", "height", "reserve_regions", "add_timing"] 2 [.bool true, .bool true]
  aLp : Addr
  obLp : Obj
  fdLp : FuncData
  gLp : GV X "_law_picture" (.ref aLp)
  oLp : OwnFn X aLp obLp fdLp (bodyOf 11) (scOf 11)
  bLp : Binds X fdLp ["version"] 1 []

noncomputable def nmTp : List Str := ["matrix", "is_micro", "j", "stop", "col", "bit", "i"]
noncomputable def dTp : DenS := (sCons (sTup (tgT [2, 3]) (dIte (bVal (dLoc 1)) (dTup (lCons (dInt 0) (lCons (dCall (lCons (dLoc 0) lNil) pLen) lNil))) (dTup (lCons (dInt 6) (lCons (dBin .sub (dCall (lCons (dLoc 0) lNil) pLen) (dInt 8)) lNil))))) (sCons (sAsg 4 (dIdx (dLoc 0) (dLoc 2))) (sCons (sAsg 5 (dInt 1)) (sCons (sFor (tgN 6) (dCall (lCons (dInt 8) (lCons (dLoc 3) lNil)) pRange) (sCons (sSetI (dLoc 5) (dIdx (dLoc 0) (dLoc 6)) (dLoc 2)) (sCons (sSetI (dLoc 5) (dLoc 4) (dLoc 6)) (sCons (sAug 5 .bxor (dInt 1)) sNil)))) sNil))))
theorem sndTp {X : Cx} {d : Nat} (Fa : Facts X) : SndS X d (scOf 6) nmTp (bodyOf 6) dTp := by
  conv in (scOf 6) => whnf
  conv in (bodyOf 6) => whnf
  exact (@sndS_cons _ _ _ _ _ _ _ _ (@sndT_tup _ _ _ _ _ _ _ _ _ _ _ ⟨_, _, _, rfl, rfl, _, _, _, rfl, rfl, rfl⟩ (@snd_ite _ _ _ _ _ _ _ _ _ _ _ (@sndB_val _ _ _ _ _ _ (@snd_loc _ _ _ _ _ _ _ rfl (by decide) (by decide)) (fun _ => rfl)) (@snd_tup _ _ _ _ _ _ _ _ (@sndL_cons _ _ _ _ _ _ _ _ (@snd_int _ _ _ _ _ _ _ ) (@sndL_cons _ _ _ _ _ _ _ _ (@snd_call _ _ _ _ _ _ _ _ _ _ _ Fa.gLen trivial prim_len (@sndL_cons _ _ _ _ _ _ _ _ (@snd_loc _ _ _ _ _ _ _ rfl (by decide) (by decide)) (@sndL_nil _ _ _ _ ) (fun _ => rfl)) (List.cons_ne_nil _ _) rfl (by decide)) (@sndL_nil _ _ _ _ ) (fun _ => rfl)) (fun _ => rfl))) (@snd_tup _ _ _ _ _ _ _ _ (@sndL_cons _ _ _ _ _ _ _ _ (@snd_int _ _ _ _ _ _ _ ) (@sndL_cons _ _ _ _ _ _ _ _ (@snd_bin _ _ _ _ (.sub) _ _ _ _ _ (@snd_call _ _ _ _ _ _ _ _ _ _ _ Fa.gLen trivial prim_len (@sndL_cons _ _ _ _ _ _ _ _ (@snd_loc _ _ _ _ _ _ _ rfl (by decide) (by decide)) (@sndL_nil _ _ _ _ ) (fun _ => rfl)) (List.cons_ne_nil _ _) rfl (by decide)) (@snd_int _ _ _ _ _ _ _ )) (@sndL_nil _ _ _ _ ) (fun _ => rfl)) (fun _ => rfl)))) (fun _ => rfl) (fun _ => rfl)) (@sndS_cons _ _ _ _ _ _ _ _ (@sndT_asg _ _ _ _ _ _ _ _ _ _ (@SndE.c _ _ _ _ _ _ (@snd_idx _ _ _ _ _ _ _ _ _ (@snd_loc _ _ _ _ _ _ _ rfl (by decide) (by decide)) (@snd_loc _ _ _ _ _ _ _ rfl (by decide) (by decide)) (fun _ _ => ⟨_, rfl⟩))) rfl (fun _ => rfl)) (@sndS_cons _ _ _ _ _ _ _ _ (@sndT_asg _ _ _ _ _ _ _ _ _ _ (@SndE.c _ _ _ _ _ _ (@snd_int _ _ _ _ _ _ _ )) rfl (fun _ => rfl)) (@sndS_cons _ _ _ _ _ _ _ _ (@sndT_for _ _ _ _ _ _ _ _ _ _ _ (@sndTg_name _ _ _ _ _ _ _ rfl) (@snd_call _ _ _ _ _ _ _ _ _ _ _ Fa.gRange trivial prim_range (@sndL_cons _ _ _ _ _ _ _ _ (@snd_int _ _ _ _ _ _ _ ) (@sndL_cons _ _ _ _ _ _ _ _ (@snd_loc _ _ _ _ _ _ _ rfl (by decide) (by decide)) (@sndL_nil _ _ _ _ ) (fun _ => rfl)) (fun _ => rfl)) (List.cons_ne_nil _ _) rfl (by decide)) (@sndS_cons _ _ _ _ _ _ _ _ (@sndT_setI _ _ _ _ _ _ _ _ _ _ _ _ (@snd_loc _ _ _ _ _ _ _ rfl (by decide) (by decide)) (@snd_idx _ _ _ _ _ _ _ _ _ (@snd_loc _ _ _ _ _ _ _ rfl (by decide) (by decide)) (@snd_loc _ _ _ _ _ _ _ rfl (by decide) (by decide)) (fun _ _ => ⟨_, rfl⟩)) (@snd_loc _ _ _ _ _ _ _ rfl (by decide) (by decide)) (fun _ => rfl)) (@sndS_cons _ _ _ _ _ _ _ _ (@sndT_setI _ _ _ _ _ _ _ _ _ _ _ _ (@snd_loc _ _ _ _ _ _ _ rfl (by decide) (by decide)) (@snd_loc _ _ _ _ _ _ _ rfl (by decide) (by decide)) (@snd_loc _ _ _ _ _ _ _ rfl (by decide) (by decide)) (fun _ => rfl)) (@sndS_cons _ _ _ _ _ _ _ _ (@sndT_aug _ _ _ _ _ (.bxor) _ _ _ _ _ (@snd_int _ _ _ _ _ _ _ ) rfl (by decide)) (@sndS_nil _ _ _ _ )))) (fun _ _ => rfl)) (@sndS_nil _ _ _ _ )))))
end Mine
end

section
open PySem PyProof.Rows
set_option autoImplicit false
set_option maxRecDepth 100000
set_option maxHeartbeats 4000000
namespace Mine
noncomputable def nmFp : List Str := ["matrix", "width", "height", "is_square", "corners", "finder_range", "i", "j", "offset", "sepoffset", "r"]
noncomputable def dFp : DenS := (sCons (sAsg 3 (dCmp .eq (dLoc 1) (dLoc 2))) (sCons (sAsg 4 (dTup (lCons (dTup (lCons (dInt 0) (lCons (dInt 0) lNil))) (lCons (dTup (lCons (dInt 0) (lCons (dBin .sub (dCall (lCons (dLoc 0) lNil) pLen) (dInt 8)) lNil))) (lCons (dTup (lCons (dNeg (dInt 8)) (lCons (dInt 0) lNil))) lNil))))) (sCons (sIf (bAnd (bVal (dLoc 3)) (bAnd (bCmp .lt (dLoc 1) (dInt 21)) bTrue)) (sCons (sAsg 4 (dTup (lCons (dTup (lCons (dInt 0) (lCons (dInt 0) lNil))) lNil))) sNil) sNil) (sCons (sAsg 5 (dCall (lCons (dInt 8) lNil) pRange)) (sCons (sFor (tgT [6, 7]) (dLoc 4) (sCons (sAsg 8 (dIte (bCmp .eq (dLoc 6) (dInt 0)) (dInt 1) (dInt 0))) (sCons (sAsg 9 (dIte (bCmp .ne (dLoc 7) (dInt 0)) (dInt 0) (dInt 1))) (sCons (sFor (tgN 10) (dLoc 5) (sCons (sSetS (dSlc (dIdx (dGlb avFinder) (dBin .add (dLoc 8) (dLoc 10))) (ptSome (dLoc 9)) (ptSome (dBin .add (dLoc 9) (dInt 8)))) (dIdx (dLoc 0) (dBin .add (dLoc 6) (dLoc 10))) (ptSome (dLoc 7)) (ptSome (dBin .add (dLoc 7) (dInt 8)))) sNil)) sNil)))) sNil)))))
theorem sndFp {X : Cx} {d : Nat} (Fa : Facts X) : SndS X d (scOf 5) nmFp (bodyOf 5) dFp := by
  conv in (scOf 5) => whnf
  conv in (bodyOf 5) => whnf
  exact (@sndS_cons _ _ _ _ _ _ _ _ (@sndT_asg _ _ _ _ _ _ _ _ _ _ (@SndE.c _ _ _ _ _ _ (@snd_cmp _ _ _ _ (.eq) _ _ _ _ _ (@snd_loc _ _ _ _ _ _ _ rfl (by decide) (by decide)) (@snd_loc _ _ _ _ _ _ _ rfl (by decide) (by decide)) rfl)) rfl (fun _ => rfl)) (@sndS_cons _ _ _ _ _ _ _ _ (@sndT_asg _ _ _ _ _ _ _ _ _ _ (@SndE.c _ _ _ _ _ _ (@snd_tup _ _ _ _ _ _ _ _ (@sndL_cons _ _ _ _ _ _ _ _ (@snd_tup _ _ _ _ _ _ _ _ (@sndL_cons _ _ _ _ _ _ _ _ (@snd_int _ _ _ _ _ _ _ ) (@sndL_cons _ _ _ _ _ _ _ _ (@snd_int _ _ _ _ _ _ _ ) (@sndL_nil _ _ _ _ ) (fun _ => rfl)) (fun _ => rfl))) (@sndL_cons _ _ _ _ _ _ _ _ (@snd_tup _ _ _ _ _ _ _ _ (@sndL_cons _ _ _ _ _ _ _ _ (@snd_int _ _ _ _ _ _ _ ) (@sndL_cons _ _ _ _ _ _ _ _ (@snd_bin _ _ _ _ (.sub) _ _ _ _ _ (@snd_call _ _ _ _ _ _ _ _ _ _ _ Fa.gLen trivial prim_len (@sndL_cons _ _ _ _ _ _ _ _ (@snd_loc _ _ _ _ _ _ _ rfl (by decide) (by decide)) (@sndL_nil _ _ _ _ ) (fun _ => rfl)) (List.cons_ne_nil _ _) rfl (by decide)) (@snd_int _ _ _ _ _ _ _ )) (@sndL_nil _ _ _ _ ) (fun _ => rfl)) (fun _ => rfl))) (@sndL_cons _ _ _ _ _ _ _ _ (@snd_tup _ _ _ _ _ _ _ _ (@sndL_cons _ _ _ _ _ _ _ _ (@snd_neg _ _ _ _ _ _ _ (@snd_int _ _ _ _ _ _ _ )) (@sndL_cons _ _ _ _ _ _ _ _ (@snd_int _ _ _ _ _ _ _ ) (@sndL_nil _ _ _ _ ) (fun _ => rfl)) (fun _ => rfl))) (@sndL_nil _ _ _ _ ) (fun _ => rfl)) (fun _ => rfl)) (fun _ => rfl)))) rfl (fun _ => rfl)) (@sndS_cons _ _ _ _ _ _ _ _ (@sndT_if _ _ _ _ _ _ _ _ _ _ _ (@sndB_and _ _ _ _ _ _ _ (@sndA_cons _ _ _ _ _ _ _ _ (@sndB_val _ _ _ _ _ _ (@snd_loc _ _ _ _ _ _ _ rfl (by decide) (by decide)) (fun _ => rfl)) (@sndA_cons _ _ _ _ _ _ _ _ (@sndB_cmp _ _ _ _ (.lt) _ _ _ _ _ (@snd_loc _ _ _ _ _ _ _ rfl (by decide) (by decide)) (@snd_int _ _ _ _ _ _ _ ) rfl) (@sndA_nil _ _ _ _ )))) (@sndS_cons _ _ _ _ _ _ _ _ (@sndT_asg _ _ _ _ _ _ _ _ _ _ (@SndE.c _ _ _ _ _ _ (@snd_tup _ _ _ _ _ _ _ _ (@sndL_cons _ _ _ _ _ _ _ _ (@snd_tup _ _ _ _ _ _ _ _ (@sndL_cons _ _ _ _ _ _ _ _ (@snd_int _ _ _ _ _ _ _ ) (@sndL_cons _ _ _ _ _ _ _ _ (@snd_int _ _ _ _ _ _ _ ) (@sndL_nil _ _ _ _ ) (fun _ => rfl)) (fun _ => rfl))) (@sndL_nil _ _ _ _ ) (fun _ => rfl)))) rfl (fun _ => rfl)) (@sndS_nil _ _ _ _ )) (@sndS_nil _ _ _ _ )) (@sndS_cons _ _ _ _ _ _ _ _ (@sndT_asg _ _ _ _ _ _ _ _ _ _ (@SndE.c _ _ _ _ _ _ (@snd_call _ _ _ _ _ _ _ _ _ _ _ Fa.gRange trivial prim_range (@sndL_cons _ _ _ _ _ _ _ _ (@snd_int _ _ _ _ _ _ _ ) (@sndL_nil _ _ _ _ ) (fun _ => rfl)) (List.cons_ne_nil _ _) rfl (by decide))) rfl (fun _ => rfl)) (@sndS_cons _ _ _ _ _ _ _ _ (@sndT_for _ _ _ _ _ _ _ _ _ _ _ (@sndTg_tup _ _ _ _ _ _ _ _ ⟨_, _, _, rfl, rfl, _, _, _, rfl, rfl, rfl⟩) (@snd_loc _ _ _ _ _ _ _ rfl (by decide) (by decide)) (@sndS_cons _ _ _ _ _ _ _ _ (@sndT_asg _ _ _ _ _ _ _ _ _ _ (@SndE.c _ _ _ _ _ _ (@snd_ite _ _ _ _ _ _ _ _ _ _ _ (@sndB_cmp _ _ _ _ (.eq) _ _ _ _ _ (@snd_loc _ _ _ _ _ _ _ rfl (by decide) (by decide)) (@snd_int _ _ _ _ _ _ _ ) rfl) (@snd_int _ _ _ _ _ _ _ ) (@snd_int _ _ _ _ _ _ _ ))) rfl (fun _ => rfl)) (@sndS_cons _ _ _ _ _ _ _ _ (@sndT_asg _ _ _ _ _ _ _ _ _ _ (@SndE.c _ _ _ _ _ _ (@snd_ite _ _ _ _ _ _ _ _ _ _ _ (@sndB_cmp _ _ _ _ (.ne) _ _ _ _ _ (@snd_loc _ _ _ _ _ _ _ rfl (by decide) (by decide)) (@snd_int _ _ _ _ _ _ _ ) rfl) (@snd_int _ _ _ _ _ _ _ ) (@snd_int _ _ _ _ _ _ _ ))) rfl (fun _ => rfl)) (@sndS_cons _ _ _ _ _ _ _ _ (@sndT_for _ _ _ _ _ _ _ _ _ _ _ (@sndTg_name _ _ _ _ _ _ _ rfl) (@snd_loc _ _ _ _ _ _ _ rfl (by decide) (by decide)) (@sndS_cons _ _ _ _ _ _ _ _ (@sndT_setS _ _ _ _ _ _ _ _ _ _ _ _ _ _ _ (@snd_slc _ _ _ _ _ _ _ _ _ _ _ _ (@snd_idx _ _ _ _ _ _ _ _ _ (@snd_glb _ _ _ _ _ _ _ _ Fa.gFinder Fa.vFinder rfl (by decide)) (@snd_bin _ _ _ _ (.add) _ _ _ _ _ (@snd_loc _ _ _ _ _ _ _ rfl (by decide) (by decide)) (@snd_loc _ _ _ _ _ _ _ rfl (by decide) (by decide))) (fun _ _ => ⟨_, rfl⟩)) (@sndP_some _ _ _ _ _ _ (@snd_loc _ _ _ _ _ _ _ rfl (by decide) (by decide))) (@sndP_some _ _ _ _ _ _ (@snd_bin _ _ _ _ (.add) _ _ _ _ _ (@snd_loc _ _ _ _ _ _ _ rfl (by decide) (by decide)) (@snd_int _ _ _ _ _ _ _ )))) (@snd_idx _ _ _ _ _ _ _ _ _ (@snd_loc _ _ _ _ _ _ _ rfl (by decide) (by decide)) (@snd_bin _ _ _ _ (.add) _ _ _ _ _ (@snd_loc _ _ _ _ _ _ _ rfl (by decide) (by decide)) (@snd_loc _ _ _ _ _ _ _ rfl (by decide) (by decide))) (fun _ _ => ⟨_, rfl⟩)) (@sndP_some _ _ _ _ _ _ (@snd_loc _ _ _ _ _ _ _ rfl (by decide) (by decide))) (@sndP_some _ _ _ _ _ _ (@snd_bin _ _ _ _ (.add) _ _ _ _ _ (@snd_loc _ _ _ _ _ _ _ rfl (by decide) (by decide)) (@snd_int _ _ _ _ _ _ _ ))) (fun _ => rfl)) (@sndS_nil _ _ _ _ )) (fun _ _ => rfl)) (@sndS_nil _ _ _ _ )))) (fun _ _ => rfl)) (@sndS_nil _ _ _ _ ))))))
end Mine
end

section
open PySem PyProof.Rows
set_option autoImplicit false
set_option maxRecDepth 100000
set_option maxHeartbeats 4000000
namespace Mine
noncomputable def nmAp : List Str := ["matrix", "width", "height", "is_square", "version", "pattern", "positions", "alignment_range", "min_pos", "max_pos", "finder_positions", "x", "y", "i", "j", "r"]
noncomputable def dAp : DenS := (sCons (sAsg 3 (dCmp .eq (dLoc 1) (dLoc 2))) (sCons (sAsg 4 (dBin .fdiv (dBin .sub (dLoc 1) (dInt 17)) (dInt 4))) (sCons (sIf (bAnd (bVal (dLoc 3)) (bAnd (bCmp .lt (dLoc 4) (dInt 2)) bTrue)) (sCons sRet0 sNil) sNil) (sCons (sAsg 5 (dTup (lInts [1, 1, 1, 1, 1, 1, 0, 0, 0, 1, 1, 0, 1, 0, 1, 1, 0, 0, 0, 1, 1, 1, 1, 1, 1]))) (sCons (sAsg 6 (dIdx (dGlb avAlign) (dBin .sub (dLoc 4) (dInt 2)))) (sCons (sAsg 7 (dCall (lCons (dInt 5) lNil) pRange)) (sCons (sAsg 8 (dIdx (dLoc 6) (dInt 0))) (sCons (sAsg 9 (dIdx (dLoc 6) (dNeg (dInt 1)))) (sCons (sAsg 10 (dTup (lCons (dTup (lCons (dLoc 8) (lCons (dLoc 8) lNil))) (lCons (dTup (lCons (dLoc 8) (lCons (dLoc 9) lNil))) (lCons (dTup (lCons (dLoc 9) (lCons (dLoc 8) lNil))) lNil))))) (sCons (sFor (tgT [11, 12]) (dComp (dLoc 6) 2 (some ("positions", 6)) bTrue (aInner (dLoc 2) 1 bTrue (aEmit (dTup (lCons (dLoc 0) (lCons (dLoc 1) lNil)))))) (sCons (sIf (bCmp .isin (dTup (lCons (dLoc 11) (lCons (dLoc 12) lNil))) (dLoc 10)) (sCons sCont sNil) sNil) (sCons (sSw 13 14 (dTup (lCons (dBin .sub (dLoc 11) (dInt 2)) (lCons (dBin .sub (dLoc 12) (dInt 2)) lNil)))) (sCons (sFor (tgN 15) (dLoc 7) (sCons (sSetS (dSlc (dLoc 5) (ptSome (dBin .mul (dLoc 15) (dInt 5))) (ptSome (dBin .add (dBin .mul (dLoc 15) (dInt 5)) (dInt 5)))) (dIdx (dLoc 0) (dBin .add (dLoc 13) (dLoc 15))) (ptSome (dLoc 14)) (ptSome (dBin .add (dLoc 14) (dInt 5)))) sNil)) sNil)))) sNil))))))))))
theorem sndAp {X : Cx} {d : Nat} (Fa : Facts X) : SndS X d (scOf 7) nmAp (bodyOf 7) dAp := by
  conv in (scOf 7) => whnf
  conv in (bodyOf 7) => whnf
  exact (@sndS_cons _ _ _ _ _ _ _ _ (@sndT_asg _ _ _ _ _ _ _ _ _ _ (@SndE.c _ _ _ _ _ _ (@snd_cmp _ _ _ _ (.eq) _ _ _ _ _ (@snd_loc _ _ _ _ _ _ _ rfl (by decide) (by decide)) (@snd_loc _ _ _ _ _ _ _ rfl (by decide) (by decide)) rfl)) rfl (fun _ => rfl)) (@sndS_cons _ _ _ _ _ _ _ _ (@sndT_asg _ _ _ _ _ _ _ _ _ _ (@SndE.c _ _ _ _ _ _ (@snd_bin _ _ _ _ (.fdiv) _ _ _ _ _ (@snd_bin _ _ _ _ (.sub) _ _ _ _ _ (@snd_loc _ _ _ _ _ _ _ rfl (by decide) (by decide)) (@snd_int _ _ _ _ _ _ _ )) (@snd_int _ _ _ _ _ _ _ ))) rfl (fun _ => rfl)) (@sndS_cons _ _ _ _ _ _ _ _ (@sndT_if _ _ _ _ _ _ _ _ _ _ _ (@sndB_and _ _ _ _ _ _ _ (@sndA_cons _ _ _ _ _ _ _ _ (@sndB_val _ _ _ _ _ _ (@snd_loc _ _ _ _ _ _ _ rfl (by decide) (by decide)) (fun _ => rfl)) (@sndA_cons _ _ _ _ _ _ _ _ (@sndB_cmp _ _ _ _ (.lt) _ _ _ _ _ (@snd_loc _ _ _ _ _ _ _ rfl (by decide) (by decide)) (@snd_int _ _ _ _ _ _ _ ) rfl) (@sndA_nil _ _ _ _ )))) (@sndS_cons _ _ _ _ _ _ _ _ (@sndT_ret0 _ _ _ _ _ ) (@sndS_nil _ _ _ _ )) (@sndS_nil _ _ _ _ )) (@sndS_cons _ _ _ _ _ _ _ _ (@sndT_asg _ _ _ _ _ _ _ _ _ _ (@SndE.c _ _ _ _ _ _ (@snd_tup _ _ _ _ _ _ _ _ (@sndL_ints _ _ _ _ _ _ ⟨_, _, _, rfl, _, _, _, rfl, _, _, _, rfl, _, _, _, rfl, _, _, _, rfl, _, _, _, rfl, _, _, _, rfl, _, _, _, rfl, _, _, _, rfl, _, _, _, rfl, _, _, _, rfl, _, _, _, rfl, _, _, _, rfl, _, _, _, rfl, _, _, _, rfl, _, _, _, rfl, _, _, _, rfl, _, _, _, rfl, _, _, _, rfl, _, _, _, rfl, _, _, _, rfl, _, _, _, rfl, _, _, _, rfl, _, _, _, rfl, _, _, _, rfl, rfl⟩))) rfl (fun _ => rfl)) (@sndS_cons _ _ _ _ _ _ _ _ (@sndT_asg _ _ _ _ _ _ _ _ _ _ (@SndE.c _ _ _ _ _ _ (@snd_idx _ _ _ _ _ _ _ _ _ (@snd_glb _ _ _ _ _ _ _ _ Fa.gAlign Fa.vAlign rfl (by decide)) (@snd_bin _ _ _ _ (.sub) _ _ _ _ _ (@snd_loc _ _ _ _ _ _ _ rfl (by decide) (by decide)) (@snd_int _ _ _ _ _ _ _ )) (fun _ _ => ⟨_, rfl⟩))) rfl (fun _ => rfl)) (@sndS_cons _ _ _ _ _ _ _ _ (@sndT_asg _ _ _ _ _ _ _ _ _ _ (@SndE.c _ _ _ _ _ _ (@snd_call _ _ _ _ _ _ _ _ _ _ _ Fa.gRange trivial prim_range (@sndL_cons _ _ _ _ _ _ _ _ (@snd_int _ _ _ _ _ _ _ ) (@sndL_nil _ _ _ _ ) (fun _ => rfl)) (List.cons_ne_nil _ _) rfl (by decide))) rfl (fun _ => rfl)) (@sndS_cons _ _ _ _ _ _ _ _ (@sndT_asg _ _ _ _ _ _ _ _ _ _ (@SndE.c _ _ _ _ _ _ (@snd_idx _ _ _ _ _ _ _ _ _ (@snd_loc _ _ _ _ _ _ _ rfl (by decide) (by decide)) (@snd_int _ _ _ _ _ _ _ ) (fun _ _ => ⟨_, rfl⟩))) rfl (fun _ => rfl)) (@sndS_cons _ _ _ _ _ _ _ _ (@sndT_asg _ _ _ _ _ _ _ _ _ _ (@SndE.c _ _ _ _ _ _ (@snd_idx _ _ _ _ _ _ _ _ _ (@snd_loc _ _ _ _ _ _ _ rfl (by decide) (by decide)) (@snd_neg _ _ _ _ _ _ _ (@snd_int _ _ _ _ _ _ _ )) (fun _ _ => ⟨_, rfl⟩))) rfl (fun _ => rfl)) (@sndS_cons _ _ _ _ _ _ _ _ (@sndT_asg _ _ _ _ _ _ _ _ _ _ (@SndE.c _ _ _ _ _ _ (@snd_tup _ _ _ _ _ _ _ _ (@sndL_cons _ _ _ _ _ _ _ _ (@snd_tup _ _ _ _ _ _ _ _ (@sndL_cons _ _ _ _ _ _ _ _ (@snd_loc _ _ _ _ _ _ _ rfl (by decide) (by decide)) (@sndL_cons _ _ _ _ _ _ _ _ (@snd_loc _ _ _ _ _ _ _ rfl (by decide) (by decide)) (@sndL_nil _ _ _ _ ) (fun _ => rfl)) (fun _ => rfl))) (@sndL_cons _ _ _ _ _ _ _ _ (@snd_tup _ _ _ _ _ _ _ _ (@sndL_cons _ _ _ _ _ _ _ _ (@snd_loc _ _ _ _ _ _ _ rfl (by decide) (by decide)) (@sndL_cons _ _ _ _ _ _ _ _ (@snd_loc _ _ _ _ _ _ _ rfl (by decide) (by decide)) (@sndL_nil _ _ _ _ ) (fun _ => rfl)) (fun _ => rfl))) (@sndL_cons _ _ _ _ _ _ _ _ (@snd_tup _ _ _ _ _ _ _ _ (@sndL_cons _ _ _ _ _ _ _ _ (@snd_loc _ _ _ _ _ _ _ rfl (by decide) (by decide)) (@sndL_cons _ _ _ _ _ _ _ _ (@snd_loc _ _ _ _ _ _ _ rfl (by decide) (by decide)) (@sndL_nil _ _ _ _ ) (fun _ => rfl)) (fun _ => rfl))) (@sndL_nil _ _ _ _ ) (fun _ => rfl)) (fun _ => rfl)) (fun _ => rfl)))) rfl (fun _ => rfl)) (@sndS_cons _ _ _ _ _ _ _ _ (@sndT_for _ _ _ _ _ _ _ _ _ _ _ (@sndTg_tup _ _ _ _ _ _ _ _ ⟨_, _, _, rfl, rfl, _, _, _, rfl, rfl, rfl⟩) (@snd_comp _ _ _ _ _ _ _ _ _ _ _ _ _ _ (["x", "y"]) ((some ("positions", 6))) _ _ _ (@turns_two0 _ _ _ _ _ _ _ _ _ _ _ ) (@snd_loc _ _ _ _ _ _ _ rfl (by decide) (by decide)) ⟨by decide, rfl, by decide, rfl⟩ (.one "positions" 6 rfl rfl (closure_one (by decide) (by decide)) rfl) rfl (by decide) (@sndIf_nil _ _ _ _ ) (@snd_inner _ _ _ _ _ _ _ _ _ _ _ _ _ _ _ _ _ _ _ (@snd_loc _ _ _ _ _ _ _ rfl (by decide) (by decide)) rfl rfl (@sndIf_nil _ _ _ _ ) (@snd_emit _ _ _ _ _ _ (@snd_tup _ _ _ _ _ _ _ _ (@sndL_cons _ _ _ _ _ _ _ _ (@snd_loc _ _ _ _ _ _ _ rfl (by decide) (by decide)) (@sndL_cons _ _ _ _ _ _ _ _ (@snd_loc _ _ _ _ _ _ _ rfl (by decide) (by decide)) (@sndL_nil _ _ _ _ ) (fun _ => rfl)) (fun _ => rfl)))) (fun _ _ => rfl)) (fun _ _ => rfl)) (@sndS_cons _ _ _ _ _ _ _ _ (@sndT_if _ _ _ _ _ _ _ _ _ _ _ (@sndB_cmp _ _ _ _ (.isin) _ _ _ _ _ (@snd_tup _ _ _ _ _ _ _ _ (@sndL_cons _ _ _ _ _ _ _ _ (@snd_loc _ _ _ _ _ _ _ rfl (by decide) (by decide)) (@sndL_cons _ _ _ _ _ _ _ _ (@snd_loc _ _ _ _ _ _ _ rfl (by decide) (by decide)) (@sndL_nil _ _ _ _ ) (fun _ => rfl)) (fun _ => rfl))) (@snd_loc _ _ _ _ _ _ _ rfl (by decide) (by decide)) rfl) (@sndS_cons _ _ _ _ _ _ _ _ (@sndT_cont _ _ _ _ _ ) (@sndS_nil _ _ _ _ )) (@sndS_nil _ _ _ _ )) (@sndS_cons _ _ _ _ _ _ _ _ (@sndT_sw _ _ _ _ _ _ _ _ _ _ _ _ _ _ _ rfl rfl (@snd_tup _ _ _ _ _ _ _ _ (@sndL_cons _ _ _ _ _ _ _ _ (@snd_bin _ _ _ _ (.sub) _ _ _ _ _ (@snd_loc _ _ _ _ _ _ _ rfl (by decide) (by decide)) (@snd_int _ _ _ _ _ _ _ )) (@sndL_cons _ _ _ _ _ _ _ _ (@snd_bin _ _ _ _ (.sub) _ _ _ _ _ (@snd_loc _ _ _ _ _ _ _ rfl (by decide) (by decide)) (@snd_int _ _ _ _ _ _ _ )) (@sndL_nil _ _ _ _ ) (fun _ => rfl)) (fun _ => rfl))) (fun env h => by unfold swappedStores Env.blockKind Env.kindOf; rw [h.es]; rfl) (fun _ => rfl)) (@sndS_cons _ _ _ _ _ _ _ _ (@sndT_for _ _ _ _ _ _ _ _ _ _ _ (@sndTg_name _ _ _ _ _ _ _ rfl) (@snd_loc _ _ _ _ _ _ _ rfl (by decide) (by decide)) (@sndS_cons _ _ _ _ _ _ _ _ (@sndT_setS _ _ _ _ _ _ _ _ _ _ _ _ _ _ _ (@snd_slc _ _ _ _ _ _ _ _ _ _ _ _ (@snd_loc _ _ _ _ _ _ _ rfl (by decide) (by decide)) (@sndP_some _ _ _ _ _ _ (@snd_bin _ _ _ _ (.mul) _ _ _ _ _ (@snd_loc _ _ _ _ _ _ _ rfl (by decide) (by decide)) (@snd_int _ _ _ _ _ _ _ ))) (@sndP_some _ _ _ _ _ _ (@snd_bin _ _ _ _ (.add) _ _ _ _ _ (@snd_bin _ _ _ _ (.mul) _ _ _ _ _ (@snd_loc _ _ _ _ _ _ _ rfl (by decide) (by decide)) (@snd_int _ _ _ _ _ _ _ )) (@snd_int _ _ _ _ _ _ _ )))) (@snd_idx _ _ _ _ _ _ _ _ _ (@snd_loc _ _ _ _ _ _ _ rfl (by decide) (by decide)) (@snd_bin _ _ _ _ (.add) _ _ _ _ _ (@snd_loc _ _ _ _ _ _ _ rfl (by decide) (by decide)) (@snd_loc _ _ _ _ _ _ _ rfl (by decide) (by decide))) (fun _ _ => ⟨_, rfl⟩)) (@sndP_some _ _ _ _ _ _ (@snd_loc _ _ _ _ _ _ _ rfl (by decide) (by decide))) (@sndP_some _ _ _ _ _ _ (@snd_bin _ _ _ _ (.add) _ _ _ _ _ (@snd_loc _ _ _ _ _ _ _ rfl (by decide) (by decide)) (@snd_int _ _ _ _ _ _ _ ))) (fun _ => rfl)) (@sndS_nil _ _ _ _ )) (fun _ _ => rfl)) (@sndS_nil _ _ _ _ )))) (fun _ _ => rfl)) (@sndS_nil _ _ _ _ )))))))))))
end Mine
end

section
open PySem PyProof.Rows
set_option autoImplicit false
set_option maxRecDepth 100000
set_option maxHeartbeats 4000000
namespace Mine
noncomputable def nmLp : List Str := ["version", "size", "rows", "eye", "i", "j", "down", "right", "bit", "place", "middles", "ring"]
noncomputable def dLp : DenS := (sCons (sAsg 1 (dBin .add (dInt 17) (dBin .mul (dInt 4) (dLoc 0)))) (sCons (sAsg 2 (dComp (dCall (lCons (dLoc 1) lNil) pRange) 1 (some ("size", 1)) bTrue (aEmit (dBin .mul (dLst (lCons (dInt 2) lNil)) (dLoc 1))))) (sCons (sAsg 3 (dComp (dCall (lCons (dNeg (dInt 4)) (lCons (dInt 5) lNil)) pRange) 2 none bTrue (aInner (dCall (lCons (dNeg (dInt 4)) (lCons (dInt 5) lNil)) pRange) 1 bTrue (aEmit (dTup (lCons (dLoc 0) (lCons (dLoc 1) (lCons (dIdx (dLst (lInts [1, 1, 0, 1, 0])) (dCall (lCons (dCall (lCons (dLoc 0) lNil) pAbs) (lCons (dCall (lCons (dLoc 1) lNil) pAbs) lNil)) pMax)) lNil)))))))) (sCons (sFor (tgT [4, 5]) (dLst (lCons (dTup (lCons (dInt 3) (lCons (dInt 3) lNil))) (lCons (dTup (lCons (dInt 3) (lCons (dBin .sub (dLoc 1) (dInt 4)) lNil))) (lCons (dTup (lCons (dBin .sub (dLoc 1) (dInt 4)) (lCons (dInt 3) lNil))) lNil)))) (sCons (sFor (tgT [6, 7, 8]) (dLoc 3) (sCons (sIf (bAnd (bCmp2 .le .lt (dInt 0) (dBin .add (dLoc 4) (dLoc 6)) (dLoc 1)) (bAnd (bCmp2 .le .lt (dInt 0) (dBin .add (dLoc 5) (dLoc 7)) (dLoc 1)) bTrue)) (sCons (sSetI (dLoc 8) (dIdx (dLoc 2) (dBin .add (dLoc 4) (dLoc 6))) (dBin .add (dLoc 5) (dLoc 7))) sNil) sNil) sNil)) sNil)) (sCons (sFor (tgN 9) (dBin .add (dCall (lCons (dCall (lCons (dInt 9) lNil) pRange) lNil) pListB) (dCall (lCons (dCall (lCons (dBin .sub (dLoc 1) (dInt 8)) (lCons (dLoc 1) lNil)) pRange) lNil) pListB)) (sCons (sSetI (dInt 0) (dIdx (dLoc 2) (dInt 8)) (dLoc 9)) (sCons (sSetI (dInt 0) (dIdx (dLoc 2) (dLoc 9)) (dInt 8)) sNil))) (sCons (sFor (tgN 9) (dCall (lCons (dInt 8) (lCons (dBin .sub (dLoc 1) (dInt 8)) lNil)) pRange) (sCons (sSetI (dBin .sub (dInt 1) (dBin .mod (dLoc 9) (dInt 2))) (dIdx (dLoc 2) (dInt 6)) (dLoc 9)) (sCons (sSetI (dBin .sub (dInt 1) (dBin .mod (dLoc 9) (dInt 2))) (dIdx (dLoc 2) (dLoc 9)) (dInt 6)) sNil))) (sCons (sFor (tgN 9) (dCall (lCons (dIte (bCmp .gt (dLoc 0) (dInt 6)) (dInt 18) (dInt 0)) lNil) pRange) (sCons (sSetI (dInt 0) (dIdx (dLoc 2) (dBin .add (dBin .sub (dLoc 1) (dInt 11)) (dBin .mod (dLoc 9) (dInt 3)))) (dBin .fdiv (dLoc 9) (dInt 3))) (sCons (sSetI (dInt 0) (dIdx (dLoc 2) (dBin .fdiv (dLoc 9) (dInt 3))) (dBin .add (dBin .sub (dLoc 1) (dInt 11)) (dBin .mod (dLoc 9) (dInt 3)))) sNil))) (sCons (sAsg 10 (dIte (bCmp .eq (dLoc 0) (dInt 7)) (dLst (lCons (dInt 6) (lCons (dInt 22) (lCons (dInt 38) lNil)))) (dLst (lCons (dInt 6) (lCons (dBin .sub (dLoc 1) (dInt 7)) lNil))))) (sCons (sAsg 11 (dComp (dCall (lCons (dNeg (dInt 2)) (lCons (dInt 3) lNil)) pRange) 2 none bTrue (aInner (dCall (lCons (dNeg (dInt 2)) (lCons (dInt 3) lNil)) pRange) 1 bTrue (aEmit (dTup (lCons (dLoc 0) (lCons (dLoc 1) (lCons (dIdx (dLst (lCons (dInt 1) (lCons (dInt 0) (lCons (dInt 1) lNil)))) (dCall (lCons (dCall (lCons (dLoc 0) lNil) pAbs) (lCons (dCall (lCons (dLoc 1) lNil) pAbs) lNil)) pMax)) lNil)))))))) (sCons (sFor (tgN 4) (dLoc 10) (sCons (sFor (tgN 5) (dLoc 10) (sCons (sIf (bAnd (bNot (bAnd (bCmp .lt (dLoc 4) (dInt 9)) (bAnd (bCmp .lt (dLoc 5) (dInt 9)) bTrue))) (bAnd (bNot (bAnd (bCmp .lt (dLoc 4) (dInt 9)) (bAnd (bCmp .gt (dLoc 5) (dBin .sub (dLoc 1) (dInt 9))) bTrue))) (bAnd (bNot (bAnd (bCmp .gt (dLoc 4) (dBin .sub (dLoc 1) (dInt 9))) (bAnd (bCmp .lt (dLoc 5) (dInt 9)) bTrue))) bTrue))) (sCons (sFor (tgT [6, 7, 8]) (dLoc 11) (sCons (sSetI (dLoc 8) (dIdx (dLoc 2) (dBin .add (dLoc 4) (dLoc 6))) (dBin .add (dLoc 5) (dLoc 7))) sNil)) sNil) sNil) sNil)) sNil)) (sCons (sRet (dLoc 2)) sNil)))))))))))
theorem sndLp {X : Cx} {d : Nat} (Fa : Facts X) : SndS X d (scOf 11) nmLp (bodyOf 11) dLp := by
  conv in (scOf 11) => whnf
  conv in (bodyOf 11) => whnf
  exact (@sndS_cons _ _ _ _ _ _ _ _ (@sndT_asg _ _ _ _ _ _ _ _ _ _ (@SndE.c _ _ _ _ _ _ (@snd_bin _ _ _ _ (.add) _ _ _ _ _ (@snd_int _ _ _ _ _ _ _ ) (@snd_bin _ _ _ _ (.mul) _ _ _ _ _ (@snd_int _ _ _ _ _ _ _ ) (@snd_loc _ _ _ _ _ _ _ rfl (by decide) (by decide))))) rfl (fun _ => rfl)) (@sndS_cons _ _ _ _ _ _ _ _ (@sndT_asgComp _ _ _ _ _ _ _ _ _ _ _ _ _ _ (["line"]) ((some ("size", 1))) _ _ _ _ _ _ _ (@turns_one _ _ _ _ _ _ _ ) (@snd_call _ _ _ _ _ _ _ _ _ _ _ Fa.gRange trivial prim_range (@sndL_cons _ _ _ _ _ _ _ _ (@snd_loc _ _ _ _ _ _ _ rfl (by decide) (by decide)) (@sndL_nil _ _ _ _ ) (fun _ => rfl)) (List.cons_ne_nil _ _) rfl (by decide)) ⟨by decide, rfl, by decide, rfl⟩ (.one "size" 1 rfl rfl (closure_one (by decide) (by decide)) rfl) rfl (by decide) (@sndIf_nil _ _ _ _ ) (@snd_emit _ _ _ _ _ _ (@snd_bin _ _ _ _ (.mul) _ _ _ _ _ (@snd_lst _ _ _ _ _ _ _ (@sndL_cons _ _ _ _ _ _ _ _ (@snd_int _ _ _ _ _ _ _ ) (@sndL_nil _ _ _ _ ) (fun _ => rfl))) (@snd_loc _ _ _ _ _ _ _ rfl (by decide) (by decide)))) rfl (fun env h => by unfold swapsWith Env.blockKind Env.kindOf; rw [h.es]; rfl) (fun _ _ => rfl)) (@sndS_cons _ _ _ _ _ _ _ _ (@sndT_asgComp _ _ _ _ _ _ _ _ _ _ _ _ _ _ (["down", "right"]) (none) _ _ _ _ _ _ _ (@turns_two0 _ _ _ _ _ _ _ _ _ _ _ ) (@snd_call _ _ _ _ _ _ _ _ _ _ _ Fa.gRange trivial prim_range (@sndL_cons _ _ _ _ _ _ _ _ (@snd_neg _ _ _ _ _ _ _ (@snd_int _ _ _ _ _ _ _ )) (@sndL_cons _ _ _ _ _ _ _ _ (@snd_int _ _ _ _ _ _ _ ) (@sndL_nil _ _ _ _ ) (fun _ => rfl)) (fun _ => rfl)) (List.cons_ne_nil _ _) rfl (by decide)) ⟨by decide, rfl, by decide, rfl⟩ (.none fun env => closureFor_none (by decide)) rfl (by decide) (@sndIf_nil _ _ _ _ ) (@snd_inner _ _ _ _ _ _ _ _ _ _ _ _ _ _ _ _ _ _ _ (@snd_call _ _ _ _ _ _ _ _ _ _ _ Fa.gRange trivial prim_range (@sndL_cons _ _ _ _ _ _ _ _ (@snd_neg _ _ _ _ _ _ _ (@snd_int _ _ _ _ _ _ _ )) (@sndL_cons _ _ _ _ _ _ _ _ (@snd_int _ _ _ _ _ _ _ ) (@sndL_nil _ _ _ _ ) (fun _ => rfl)) (fun _ => rfl)) (List.cons_ne_nil _ _) rfl (by decide)) rfl rfl (@sndIf_nil _ _ _ _ ) (@snd_emit _ _ _ _ _ _ (@snd_tup _ _ _ _ _ _ _ _ (@sndL_cons _ _ _ _ _ _ _ _ (@snd_loc _ _ _ _ _ _ _ rfl (by decide) (by decide)) (@sndL_cons _ _ _ _ _ _ _ _ (@snd_loc _ _ _ _ _ _ _ rfl (by decide) (by decide)) (@sndL_cons _ _ _ _ _ _ _ _ (@snd_idx _ _ _ _ _ _ _ _ _ (@snd_lst _ _ _ _ _ _ _ (@sndL_ints _ _ _ _ _ _ ⟨_, _, _, rfl, _, _, _, rfl, _, _, _, rfl, _, _, _, rfl, _, _, _, rfl, rfl⟩)) (@snd_call _ _ _ _ _ _ _ _ _ _ _ Fa.gMax trivial prim_max (@sndL_cons _ _ _ _ _ _ _ _ (@snd_call _ _ _ _ _ _ _ _ _ _ _ Fa.gAbs trivial prim_abs (@sndL_cons _ _ _ _ _ _ _ _ (@snd_loc _ _ _ _ _ _ _ rfl (by decide) (by decide)) (@sndL_nil _ _ _ _ ) (fun _ => rfl)) (List.cons_ne_nil _ _) rfl (by decide)) (@sndL_cons _ _ _ _ _ _ _ _ (@snd_call _ _ _ _ _ _ _ _ _ _ _ Fa.gAbs trivial prim_abs (@sndL_cons _ _ _ _ _ _ _ _ (@snd_loc _ _ _ _ _ _ _ rfl (by decide) (by decide)) (@sndL_nil _ _ _ _ ) (fun _ => rfl)) (List.cons_ne_nil _ _) rfl (by decide)) (@sndL_nil _ _ _ _ ) (fun _ => rfl)) (fun _ => rfl)) (List.cons_ne_nil _ _) rfl (by decide)) (fun _ _ => ⟨_, rfl⟩)) (@sndL_nil _ _ _ _ ) (fun _ => rfl)) (fun _ => rfl)) (fun _ => rfl)))) (fun _ _ => rfl)) rfl (fun env h => by unfold swapsWith Env.blockKind Env.kindOf; rw [h.es]; rfl) (fun _ _ => rfl)) (@sndS_cons _ _ _ _ _ _ _ _ (@sndT_for _ _ _ _ _ _ _ _ _ _ _ (@sndTg_tup _ _ _ _ _ _ _ _ ⟨_, _, _, rfl, rfl, _, _, _, rfl, rfl, rfl⟩) (@snd_lst _ _ _ _ _ _ _ (@sndL_cons _ _ _ _ _ _ _ _ (@snd_tup _ _ _ _ _ _ _ _ (@sndL_cons _ _ _ _ _ _ _ _ (@snd_int _ _ _ _ _ _ _ ) (@sndL_cons _ _ _ _ _ _ _ _ (@snd_int _ _ _ _ _ _ _ ) (@sndL_nil _ _ _ _ ) (fun _ => rfl)) (fun _ => rfl))) (@sndL_cons _ _ _ _ _ _ _ _ (@snd_tup _ _ _ _ _ _ _ _ (@sndL_cons _ _ _ _ _ _ _ _ (@snd_int _ _ _ _ _ _ _ ) (@sndL_cons _ _ _ _ _ _ _ _ (@snd_bin _ _ _ _ (.sub) _ _ _ _ _ (@snd_loc _ _ _ _ _ _ _ rfl (by decide) (by decide)) (@snd_int _ _ _ _ _ _ _ )) (@sndL_nil _ _ _ _ ) (fun _ => rfl)) (fun _ => rfl))) (@sndL_cons _ _ _ _ _ _ _ _ (@snd_tup _ _ _ _ _ _ _ _ (@sndL_cons _ _ _ _ _ _ _ _ (@snd_bin _ _ _ _ (.sub) _ _ _ _ _ (@snd_loc _ _ _ _ _ _ _ rfl (by decide) (by decide)) (@snd_int _ _ _ _ _ _ _ )) (@sndL_cons _ _ _ _ _ _ _ _ (@snd_int _ _ _ _ _ _ _ ) (@sndL_nil _ _ _ _ ) (fun _ => rfl)) (fun _ => rfl))) (@sndL_nil _ _ _ _ ) (fun _ => rfl)) (fun _ => rfl)) (fun _ => rfl))) (@sndS_cons _ _ _ _ _ _ _ _ (@sndT_for _ _ _ _ _ _ _ _ _ _ _ (@sndTg_tup _ _ _ _ _ _ _ _ ⟨_, _, _, rfl, rfl, _, _, _, rfl, rfl, _, _, _, rfl, rfl, rfl⟩) (@snd_loc _ _ _ _ _ _ _ rfl (by decide) (by decide)) (@sndS_cons _ _ _ _ _ _ _ _ (@sndT_if _ _ _ _ _ _ _ _ _ _ _ (@sndB_and _ _ _ _ _ _ _ (@sndA_cons _ _ _ _ _ _ _ _ (@sndB_cmp2 _ _ _ _ (.le) (.lt) _ _ _ _ _ _ _ (@snd_int _ _ _ _ _ _ _ ) (@snd_bin _ _ _ _ (.add) _ _ _ _ _ (@snd_loc _ _ _ _ _ _ _ rfl (by decide) (by decide)) (@snd_loc _ _ _ _ _ _ _ rfl (by decide) (by decide))) (@snd_loc _ _ _ _ _ _ _ rfl (by decide) (by decide)) rfl) (@sndA_cons _ _ _ _ _ _ _ _ (@sndB_cmp2 _ _ _ _ (.le) (.lt) _ _ _ _ _ _ _ (@snd_int _ _ _ _ _ _ _ ) (@snd_bin _ _ _ _ (.add) _ _ _ _ _ (@snd_loc _ _ _ _ _ _ _ rfl (by decide) (by decide)) (@snd_loc _ _ _ _ _ _ _ rfl (by decide) (by decide))) (@snd_loc _ _ _ _ _ _ _ rfl (by decide) (by decide)) rfl) (@sndA_nil _ _ _ _ )))) (@sndS_cons _ _ _ _ _ _ _ _ (@sndT_setI _ _ _ _ _ _ _ _ _ _ _ _ (@snd_loc _ _ _ _ _ _ _ rfl (by decide) (by decide)) (@snd_idx _ _ _ _ _ _ _ _ _ (@snd_loc _ _ _ _ _ _ _ rfl (by decide) (by decide)) (@snd_bin _ _ _ _ (.add) _ _ _ _ _ (@snd_loc _ _ _ _ _ _ _ rfl (by decide) (by decide)) (@snd_loc _ _ _ _ _ _ _ rfl (by decide) (by decide))) (fun _ _ => ⟨_, rfl⟩)) (@snd_bin _ _ _ _ (.add) _ _ _ _ _ (@snd_loc _ _ _ _ _ _ _ rfl (by decide) (by decide)) (@snd_loc _ _ _ _ _ _ _ rfl (by decide) (by decide))) (fun _ => rfl)) (@sndS_nil _ _ _ _ )) (@sndS_nil _ _ _ _ )) (@sndS_nil _ _ _ _ )) (fun _ _ => rfl)) (@sndS_nil _ _ _ _ )) (fun _ _ => rfl)) (@sndS_cons _ _ _ _ _ _ _ _ (@sndT_for _ _ _ _ _ _ _ _ _ _ _ (@sndTg_name _ _ _ _ _ _ _ rfl) (@snd_bin _ _ _ _ (.add) _ _ _ _ _ (@snd_call _ _ _ _ _ _ _ _ _ _ _ Fa.gList trivial prim_listB (@sndL_cons _ _ _ _ _ _ _ _ (@snd_call _ _ _ _ _ _ _ _ _ _ _ Fa.gRange trivial prim_range (@sndL_cons _ _ _ _ _ _ _ _ (@snd_int _ _ _ _ _ _ _ ) (@sndL_nil _ _ _ _ ) (fun _ => rfl)) (List.cons_ne_nil _ _) rfl (by decide)) (@sndL_nil _ _ _ _ ) (fun _ => rfl)) (List.cons_ne_nil _ _) rfl (by decide)) (@snd_call _ _ _ _ _ _ _ _ _ _ _ Fa.gList trivial prim_listB (@sndL_cons _ _ _ _ _ _ _ _ (@snd_call _ _ _ _ _ _ _ _ _ _ _ Fa.gRange trivial prim_range (@sndL_cons _ _ _ _ _ _ _ _ (@snd_bin _ _ _ _ (.sub) _ _ _ _ _ (@snd_loc _ _ _ _ _ _ _ rfl (by decide) (by decide)) (@snd_int _ _ _ _ _ _ _ )) (@sndL_cons _ _ _ _ _ _ _ _ (@snd_loc _ _ _ _ _ _ _ rfl (by decide) (by decide)) (@sndL_nil _ _ _ _ ) (fun _ => rfl)) (fun _ => rfl)) (List.cons_ne_nil _ _) rfl (by decide)) (@sndL_nil _ _ _ _ ) (fun _ => rfl)) (List.cons_ne_nil _ _) rfl (by decide))) (@sndS_cons _ _ _ _ _ _ _ _ (@sndT_setI _ _ _ _ _ _ _ _ _ _ _ _ (@snd_int _ _ _ _ _ _ _ ) (@snd_idx _ _ _ _ _ _ _ _ _ (@snd_loc _ _ _ _ _ _ _ rfl (by decide) (by decide)) (@snd_int _ _ _ _ _ _ _ ) (fun _ _ => ⟨_, rfl⟩)) (@snd_loc _ _ _ _ _ _ _ rfl (by decide) (by decide)) (fun _ => rfl)) (@sndS_cons _ _ _ _ _ _ _ _ (@sndT_setI _ _ _ _ _ _ _ _ _ _ _ _ (@snd_int _ _ _ _ _ _ _ ) (@snd_idx _ _ _ _ _ _ _ _ _ (@snd_loc _ _ _ _ _ _ _ rfl (by decide) (by decide)) (@snd_loc _ _ _ _ _ _ _ rfl (by decide) (by decide)) (fun _ _ => ⟨_, rfl⟩)) (@snd_int _ _ _ _ _ _ _ ) (fun _ => rfl)) (@sndS_nil _ _ _ _ ))) (fun _ _ => rfl)) (@sndS_cons _ _ _ _ _ _ _ _ (@sndT_for _ _ _ _ _ _ _ _ _ _ _ (@sndTg_name _ _ _ _ _ _ _ rfl) (@snd_call _ _ _ _ _ _ _ _ _ _ _ Fa.gRange trivial prim_range (@sndL_cons _ _ _ _ _ _ _ _ (@snd_int _ _ _ _ _ _ _ ) (@sndL_cons _ _ _ _ _ _ _ _ (@snd_bin _ _ _ _ (.sub) _ _ _ _ _ (@snd_loc _ _ _ _ _ _ _ rfl (by decide) (by decide)) (@snd_int _ _ _ _ _ _ _ )) (@sndL_nil _ _ _ _ ) (fun _ => rfl)) (fun _ => rfl)) (List.cons_ne_nil _ _) rfl (by decide)) (@sndS_cons _ _ _ _ _ _ _ _ (@sndT_setI _ _ _ _ _ _ _ _ _ _ _ _ (@snd_bin _ _ _ _ (.sub) _ _ _ _ _ (@snd_int _ _ _ _ _ _ _ ) (@snd_bin _ _ _ _ (.mod) _ _ _ _ _ (@snd_loc _ _ _ _ _ _ _ rfl (by decide) (by decide)) (@snd_int _ _ _ _ _ _ _ ))) (@snd_idx _ _ _ _ _ _ _ _ _ (@snd_loc _ _ _ _ _ _ _ rfl (by decide) (by decide)) (@snd_int _ _ _ _ _ _ _ ) (fun _ _ => ⟨_, rfl⟩)) (@snd_loc _ _ _ _ _ _ _ rfl (by decide) (by decide)) (fun _ => rfl)) (@sndS_cons _ _ _ _ _ _ _ _ (@sndT_setI _ _ _ _ _ _ _ _ _ _ _ _ (@snd_bin _ _ _ _ (.sub) _ _ _ _ _ (@snd_int _ _ _ _ _ _ _ ) (@snd_bin _ _ _ _ (.mod) _ _ _ _ _ (@snd_loc _ _ _ _ _ _ _ rfl (by decide) (by decide)) (@snd_int _ _ _ _ _ _ _ ))) (@snd_idx _ _ _ _ _ _ _ _ _ (@snd_loc _ _ _ _ _ _ _ rfl (by decide) (by decide)) (@snd_loc _ _ _ _ _ _ _ rfl (by decide) (by decide)) (fun _ _ => ⟨_, rfl⟩)) (@snd_int _ _ _ _ _ _ _ ) (fun _ => rfl)) (@sndS_nil _ _ _ _ ))) (fun _ _ => rfl)) (@sndS_cons _ _ _ _ _ _ _ _ (@sndT_for _ _ _ _ _ _ _ _ _ _ _ (@sndTg_name _ _ _ _ _ _ _ rfl) (@snd_call _ _ _ _ _ _ _ _ _ _ _ Fa.gRange trivial prim_range (@sndL_cons _ _ _ _ _ _ _ _ (@snd_ite _ _ _ _ _ _ _ _ _ _ _ (@sndB_cmp _ _ _ _ (.gt) _ _ _ _ _ (@snd_loc _ _ _ _ _ _ _ rfl (by decide) (by decide)) (@snd_int _ _ _ _ _ _ _ ) rfl) (@snd_int _ _ _ _ _ _ _ ) (@snd_int _ _ _ _ _ _ _ )) (@sndL_nil _ _ _ _ ) (fun _ => rfl)) (List.cons_ne_nil _ _) rfl (by decide)) (@sndS_cons _ _ _ _ _ _ _ _ (@sndT_setI _ _ _ _ _ _ _ _ _ _ _ _ (@snd_int _ _ _ _ _ _ _ ) (@snd_idx _ _ _ _ _ _ _ _ _ (@snd_loc _ _ _ _ _ _ _ rfl (by decide) (by decide)) (@snd_bin _ _ _ _ (.add) _ _ _ _ _ (@snd_bin _ _ _ _ (.sub) _ _ _ _ _ (@snd_loc _ _ _ _ _ _ _ rfl (by decide) (by decide)) (@snd_int _ _ _ _ _ _ _ )) (@snd_bin _ _ _ _ (.mod) _ _ _ _ _ (@snd_loc _ _ _ _ _ _ _ rfl (by decide) (by decide)) (@snd_int _ _ _ _ _ _ _ ))) (fun _ _ => ⟨_, rfl⟩)) (@snd_bin _ _ _ _ (.fdiv) _ _ _ _ _ (@snd_loc _ _ _ _ _ _ _ rfl (by decide) (by decide)) (@snd_int _ _ _ _ _ _ _ )) (fun _ => rfl)) (@sndS_cons _ _ _ _ _ _ _ _ (@sndT_setI _ _ _ _ _ _ _ _ _ _ _ _ (@snd_int _ _ _ _ _ _ _ ) (@snd_idx _ _ _ _ _ _ _ _ _ (@snd_loc _ _ _ _ _ _ _ rfl (by decide) (by decide)) (@snd_bin _ _ _ _ (.fdiv) _ _ _ _ _ (@snd_loc _ _ _ _ _ _ _ rfl (by decide) (by decide)) (@snd_int _ _ _ _ _ _ _ )) (fun _ _ => ⟨_, rfl⟩)) (@snd_bin _ _ _ _ (.add) _ _ _ _ _ (@snd_bin _ _ _ _ (.sub) _ _ _ _ _ (@snd_loc _ _ _ _ _ _ _ rfl (by decide) (by decide)) (@snd_int _ _ _ _ _ _ _ )) (@snd_bin _ _ _ _ (.mod) _ _ _ _ _ (@snd_loc _ _ _ _ _ _ _ rfl (by decide) (by decide)) (@snd_int _ _ _ _ _ _ _ ))) (fun _ => rfl)) (@sndS_nil _ _ _ _ ))) (fun _ _ => rfl)) (@sndS_cons _ _ _ _ _ _ _ _ (@sndT_asg _ _ _ _ _ _ _ _ _ _ (@SndE.c _ _ _ _ _ _ (@snd_ite _ _ _ _ _ _ _ _ _ _ _ (@sndB_cmp _ _ _ _ (.eq) _ _ _ _ _ (@snd_loc _ _ _ _ _ _ _ rfl (by decide) (by decide)) (@snd_int _ _ _ _ _ _ _ ) rfl) (@snd_lst _ _ _ _ _ _ _ (@sndL_cons _ _ _ _ _ _ _ _ (@snd_int _ _ _ _ _ _ _ ) (@sndL_cons _ _ _ _ _ _ _ _ (@snd_int _ _ _ _ _ _ _ ) (@sndL_cons _ _ _ _ _ _ _ _ (@snd_int _ _ _ _ _ _ _ ) (@sndL_nil _ _ _ _ ) (fun _ => rfl)) (fun _ => rfl)) (fun _ => rfl))) (@snd_lst _ _ _ _ _ _ _ (@sndL_cons _ _ _ _ _ _ _ _ (@snd_int _ _ _ _ _ _ _ ) (@sndL_cons _ _ _ _ _ _ _ _ (@snd_bin _ _ _ _ (.sub) _ _ _ _ _ (@snd_loc _ _ _ _ _ _ _ rfl (by decide) (by decide)) (@snd_int _ _ _ _ _ _ _ )) (@sndL_nil _ _ _ _ ) (fun _ => rfl)) (fun _ => rfl))))) rfl (fun _ => rfl)) (@sndS_cons _ _ _ _ _ _ _ _ (@sndT_asgComp _ _ _ _ _ _ _ _ _ _ _ _ _ _ (["down", "right"]) (none) _ _ _ _ _ _ _ (@turns_two0 _ _ _ _ _ _ _ _ _ _ _ ) (@snd_call _ _ _ _ _ _ _ _ _ _ _ Fa.gRange trivial prim_range (@sndL_cons _ _ _ _ _ _ _ _ (@snd_neg _ _ _ _ _ _ _ (@snd_int _ _ _ _ _ _ _ )) (@sndL_cons _ _ _ _ _ _ _ _ (@snd_int _ _ _ _ _ _ _ ) (@sndL_nil _ _ _ _ ) (fun _ => rfl)) (fun _ => rfl)) (List.cons_ne_nil _ _) rfl (by decide)) ⟨by decide, rfl, by decide, rfl⟩ (.none fun env => closureFor_none (by decide)) rfl (by decide) (@sndIf_nil _ _ _ _ ) (@snd_inner _ _ _ _ _ _ _ _ _ _ _ _ _ _ _ _ _ _ _ (@snd_call _ _ _ _ _ _ _ _ _ _ _ Fa.gRange trivial prim_range (@sndL_cons _ _ _ _ _ _ _ _ (@snd_neg _ _ _ _ _ _ _ (@snd_int _ _ _ _ _ _ _ )) (@sndL_cons _ _ _ _ _ _ _ _ (@snd_int _ _ _ _ _ _ _ ) (@sndL_nil _ _ _ _ ) (fun _ => rfl)) (fun _ => rfl)) (List.cons_ne_nil _ _) rfl (by decide)) rfl rfl (@sndIf_nil _ _ _ _ ) (@snd_emit _ _ _ _ _ _ (@snd_tup _ _ _ _ _ _ _ _ (@sndL_cons _ _ _ _ _ _ _ _ (@snd_loc _ _ _ _ _ _ _ rfl (by decide) (by decide)) (@sndL_cons _ _ _ _ _ _ _ _ (@snd_loc _ _ _ _ _ _ _ rfl (by decide) (by decide)) (@sndL_cons _ _ _ _ _ _ _ _ (@snd_idx _ _ _ _ _ _ _ _ _ (@snd_lst _ _ _ _ _ _ _ (@sndL_cons _ _ _ _ _ _ _ _ (@snd_int _ _ _ _ _ _ _ ) (@sndL_cons _ _ _ _ _ _ _ _ (@snd_int _ _ _ _ _ _ _ ) (@sndL_cons _ _ _ _ _ _ _ _ (@snd_int _ _ _ _ _ _ _ ) (@sndL_nil _ _ _ _ ) (fun _ => rfl)) (fun _ => rfl)) (fun _ => rfl))) (@snd_call _ _ _ _ _ _ _ _ _ _ _ Fa.gMax trivial prim_max (@sndL_cons _ _ _ _ _ _ _ _ (@snd_call _ _ _ _ _ _ _ _ _ _ _ Fa.gAbs trivial prim_abs (@sndL_cons _ _ _ _ _ _ _ _ (@snd_loc _ _ _ _ _ _ _ rfl (by decide) (by decide)) (@sndL_nil _ _ _ _ ) (fun _ => rfl)) (List.cons_ne_nil _ _) rfl (by decide)) (@sndL_cons _ _ _ _ _ _ _ _ (@snd_call _ _ _ _ _ _ _ _ _ _ _ Fa.gAbs trivial prim_abs (@sndL_cons _ _ _ _ _ _ _ _ (@snd_loc _ _ _ _ _ _ _ rfl (by decide) (by decide)) (@sndL_nil _ _ _ _ ) (fun _ => rfl)) (List.cons_ne_nil _ _) rfl (by decide)) (@sndL_nil _ _ _ _ ) (fun _ => rfl)) (fun _ => rfl)) (List.cons_ne_nil _ _) rfl (by decide)) (fun _ _ => ⟨_, rfl⟩)) (@sndL_nil _ _ _ _ ) (fun _ => rfl)) (fun _ => rfl)) (fun _ => rfl)))) (fun _ _ => rfl)) rfl (fun env h => by unfold swapsWith Env.blockKind Env.kindOf; rw [h.es]; rfl) (fun _ _ => rfl)) (@sndS_cons _ _ _ _ _ _ _ _ (@sndT_for _ _ _ _ _ _ _ _ _ _ _ (@sndTg_name _ _ _ _ _ _ _ rfl) (@snd_loc _ _ _ _ _ _ _ rfl (by decide) (by decide)) (@sndS_cons _ _ _ _ _ _ _ _ (@sndT_for _ _ _ _ _ _ _ _ _ _ _ (@sndTg_name _ _ _ _ _ _ _ rfl) (@snd_loc _ _ _ _ _ _ _ rfl (by decide) (by decide)) (@sndS_cons _ _ _ _ _ _ _ _ (@sndT_if _ _ _ _ _ _ _ _ _ _ _ (@sndB_and _ _ _ _ _ _ _ (@sndA_cons _ _ _ _ _ _ _ _ (@sndB_not _ _ _ _ _ _ _ (@sndB_and _ _ _ _ _ _ _ (@sndA_cons _ _ _ _ _ _ _ _ (@sndB_cmp _ _ _ _ (.lt) _ _ _ _ _ (@snd_loc _ _ _ _ _ _ _ rfl (by decide) (by decide)) (@snd_int _ _ _ _ _ _ _ ) rfl) (@sndA_cons _ _ _ _ _ _ _ _ (@sndB_cmp _ _ _ _ (.lt) _ _ _ _ _ (@snd_loc _ _ _ _ _ _ _ rfl (by decide) (by decide)) (@snd_int _ _ _ _ _ _ _ ) rfl) (@sndA_nil _ _ _ _ ))))) (@sndA_cons _ _ _ _ _ _ _ _ (@sndB_not _ _ _ _ _ _ _ (@sndB_and _ _ _ _ _ _ _ (@sndA_cons _ _ _ _ _ _ _ _ (@sndB_cmp _ _ _ _ (.lt) _ _ _ _ _ (@snd_loc _ _ _ _ _ _ _ rfl (by decide) (by decide)) (@snd_int _ _ _ _ _ _ _ ) rfl) (@sndA_cons _ _ _ _ _ _ _ _ (@sndB_cmp _ _ _ _ (.gt) _ _ _ _ _ (@snd_loc _ _ _ _ _ _ _ rfl (by decide) (by decide)) (@snd_bin _ _ _ _ (.sub) _ _ _ _ _ (@snd_loc _ _ _ _ _ _ _ rfl (by decide) (by decide)) (@snd_int _ _ _ _ _ _ _ )) rfl) (@sndA_nil _ _ _ _ ))))) (@sndA_cons _ _ _ _ _ _ _ _ (@sndB_not _ _ _ _ _ _ _ (@sndB_and _ _ _ _ _ _ _ (@sndA_cons _ _ _ _ _ _ _ _ (@sndB_cmp _ _ _ _ (.gt) _ _ _ _ _ (@snd_loc _ _ _ _ _ _ _ rfl (by decide) (by decide)) (@snd_bin _ _ _ _ (.sub) _ _ _ _ _ (@snd_loc _ _ _ _ _ _ _ rfl (by decide) (by decide)) (@snd_int _ _ _ _ _ _ _ )) rfl) (@sndA_cons _ _ _ _ _ _ _ _ (@sndB_cmp _ _ _ _ (.lt) _ _ _ _ _ (@snd_loc _ _ _ _ _ _ _ rfl (by decide) (by decide)) (@snd_int _ _ _ _ _ _ _ ) rfl) (@sndA_nil _ _ _ _ ))))) (@sndA_nil _ _ _ _ ))))) (@sndS_cons _ _ _ _ _ _ _ _ (@sndT_for _ _ _ _ _ _ _ _ _ _ _ (@sndTg_tup _ _ _ _ _ _ _ _ ⟨_, _, _, rfl, rfl, _, _, _, rfl, rfl, _, _, _, rfl, rfl, rfl⟩) (@snd_loc _ _ _ _ _ _ _ rfl (by decide) (by decide)) (@sndS_cons _ _ _ _ _ _ _ _ (@sndT_setI _ _ _ _ _ _ _ _ _ _ _ _ (@snd_loc _ _ _ _ _ _ _ rfl (by decide) (by decide)) (@snd_idx _ _ _ _ _ _ _ _ _ (@snd_loc _ _ _ _ _ _ _ rfl (by decide) (by decide)) (@snd_bin _ _ _ _ (.add) _ _ _ _ _ (@snd_loc _ _ _ _ _ _ _ rfl (by decide) (by decide)) (@snd_loc _ _ _ _ _ _ _ rfl (by decide) (by decide))) (fun _ _ => ⟨_, rfl⟩)) (@snd_bin _ _ _ _ (.add) _ _ _ _ _ (@snd_loc _ _ _ _ _ _ _ rfl (by decide) (by decide)) (@snd_loc _ _ _ _ _ _ _ rfl (by decide) (by decide))) (fun _ => rfl)) (@sndS_nil _ _ _ _ )) (fun _ _ => rfl)) (@sndS_nil _ _ _ _ )) (@sndS_nil _ _ _ _ )) (@sndS_nil _ _ _ _ )) (fun _ _ => rfl)) (@sndS_nil _ _ _ _ )) (fun _ _ => rfl)) (@sndS_cons _ _ _ _ _ _ _ _ (@sndT_ret _ _ _ _ _ _ _ (@SndE.c _ _ _ _ _ _ (@snd_loc _ _ _ _ _ _ _ rfl (by decide) (by decide)))) (@sndS_nil _ _ _ _ ))))))))))))
end Mine
end

section
open PySem PyProof.Rows
set_option autoImplicit false
set_option maxRecDepth 100000
set_option maxHeartbeats 4000000
namespace Mine

theorem namesTp : NamesOk (scOf 6) nmTp ["matrix", "is_micro"] where
  pre := ⟨_, rfl⟩
  loc := by decide +kernel
  kd := by decide +kernel
  nd := by decide +kernel
  one := fun L y c h => by
    have e : cellsFrom L (scOf 6).names [] = [] := rfl
    rw [e] at h ⊢
    simp at h
    
noncomputable def pTp : PDen := pFn 2 [] nmTp.length dTp
theorem primTp {X : Cx} {d : Nat} (Fa : Facts X) : PrimC X (d + 1) (.ref Fa.aTp) pTp := primC_own Fa.oTp Fa.bTp namesTp (fun _ => VRs.nil) rfl (sndTp Fa)

theorem namesFp : NamesOk (scOf 5) nmFp ["matrix", "width", "height"] where
  pre := ⟨_, rfl⟩
  loc := by decide +kernel
  kd := by decide +kernel
  nd := by decide +kernel
  one := fun L y c h => by
    have e : cellsFrom L (scOf 5).names [] = [] := rfl
    rw [e] at h ⊢
    simp at h
    
noncomputable def pFp : PDen := pFn 3 [] nmFp.length dFp
theorem primFp {X : Cx} {d : Nat} (Fa : Facts X) : PrimC X (d + 1) (.ref Fa.aFp) pFp := primC_own Fa.oFp Fa.bFp namesFp (fun _ => VRs.nil) rfl (sndFp Fa)

theorem namesAp : NamesOk (scOf 7) nmAp ["matrix", "width", "height"] where
  pre := ⟨_, rfl⟩
  loc := by decide +kernel
  kd := by decide +kernel
  nd := by decide +kernel
  one := fun L y c h => by
    have e : cellsFrom L (scOf 7).names [] = [(("positions" : Str), L)] := rfl
    rw [e] at h ⊢
    simp at h
    obtain ⟨rfl, rfl⟩ := h; simp
noncomputable def pAp : PDen := pFn 3 [] nmAp.length dAp
theorem primAp {X : Cx} {d : Nat} (Fa : Facts X) : PrimC X (d + 1) (.ref Fa.aAp) pAp := primC_own Fa.oAp Fa.bAp namesAp (fun _ => VRs.nil) rfl (sndAp Fa)

theorem namesLp : NamesOk (scOf 11) nmLp ["version"] where
  pre := ⟨_, rfl⟩
  loc := by decide +kernel
  kd := by decide +kernel
  nd := by decide +kernel
  one := fun L y c h => by
    have e : cellsFrom L (scOf 11).names [] = [(("size" : Str), L)] := rfl
    rw [e] at h ⊢
    simp at h
    obtain ⟨rfl, rfl⟩ := h; simp
noncomputable def pLp : PDen := pFn 1 [] nmLp.length dLp
theorem primLp {X : Cx} {d : Nat} (Fa : Facts X) : PrimC X (d + 1) (.ref Fa.aLp) pLp := primC_own Fa.oLp Fa.bLp namesLp (fun _ => VRs.nil) rfl (sndLp Fa)
end Mine
end

section
open PySem PyProof.Rows
set_option autoImplicit false
set_option maxRecDepth 100000
set_option maxHeartbeats 4000000
namespace Mine
noncomputable def nmCw : List Str := ["matrix", "codewords", "version", "matrix_size", "is_micro", "inc", "idx", "codeword_length", "range_two", "right", "vertical", "z", "j", "upwards", "i", "row"]
noncomputable def dC1 : DenS := (sCons (sAsg 3 (dCall (lCons (dLoc 0) lNil) pLen)) (sCons (sAsg 4 (dCmp .lt (dLoc 2) (dInt 1))) (sCons (sAsg 5 (dIte (bCmp .notin (dLoc 2) (dTup (lCons (dGlb (.int (-3))) (lCons (dGlb (.int (-1))) lNil)))) (dInt 0) (dInt 2))) (sCons (sAsg 6 (dInt 0)) (sCons (sAsg 7 (dCall (lCons (dLoc 1) lNil) pLen)) (sCons (sAsg 8 (dCall (lCons (dInt 2) lNil) pRange)) (sCons (sFor (tgN 9) (dCall (lCons (dBin .sub (dLoc 3) (dInt 1)) (lCons (dInt 0) (lCons (dNeg (dInt 2)) lNil))) pRange) (sCons (sIf (bAnd (bNot (bVal (dLoc 4))) (bAnd (bCmp .le (dLoc 9) (dInt 6)) bTrue)) (sCons (sAug 9 .sub (dInt 1)) sNil) sNil) (sCons (sFor (tgN 10) (dCall (lCons (dLoc 3) lNil) pRange) (sCons (sFor (tgN 11) (dLoc 8) (sCons (sAsg 12 (dBin .sub (dLoc 9) (dLoc 11))) (sCons (sAsg 13 (dCmp .eq (dBin .band (dBin .add (dLoc 9) (dLoc 5)) (dInt 2)) (dInt 0))) (sCons (sIf (bNot (bVal (dLoc 4))) (sCons (sAug 13 .bxor (dCmp .lt (dLoc 12) (dInt 6))) sNil) sNil) (sCons (sAsg 14 (dIte (bVal (dLoc 13)) (dBin .sub (dBin .sub (dLoc 3) (dInt 1)) (dLoc 10)) (dLoc 10))) (sCons (sAsg 15 (dIdx (dLoc 0) (dLoc 14))) (sCons (sIf (bAnd (bCmp .eq (dIdx (dLoc 15) (dLoc 12)) (dInt 2)) (bAnd (bCmp .lt (dLoc 6) (dLoc 7)) bTrue)) (sCons (sSetI (dIdx (dLoc 1) (dLoc 6)) (dLoc 15) (dLoc 12)) (sCons (sAug 6 .add (dInt 1)) sNil)) sNil) sNil))))))) sNil)) sNil))) sNil)))))))
theorem sndC1 {X : Cx} {d : Nat} (Fa : Facts X) : SndS X (d) (scOf 8) nmCw (((bodyOf 8).drop 0).take 7) dC1 := by
  conv in (scOf 8) => whnf
  conv in (bodyOf 8) => whnf
  simp only [List.drop_succ_cons, List.drop_zero, List.take_succ_cons, List.take_zero]
  exact (@sndS_cons _ _ _ _ _ _ _ _ (@sndT_asg _ _ _ _ _ _ _ _ _ _ (@SndE.c _ _ _ _ _ _ (@snd_call _ _ _ _ _ _ _ _ _ _ _ Fa.gLen trivial prim_len (@sndL_cons _ _ _ _ _ _ _ _ (@snd_loc _ _ _ _ _ _ _ rfl (by decide) (by decide)) (@sndL_nil _ _ _ _ ) (fun _ => rfl)) (List.cons_ne_nil _ _) rfl (by decide))) rfl (fun _ => rfl)) (@sndS_cons _ _ _ _ _ _ _ _ (@sndT_asg _ _ _ _ _ _ _ _ _ _ (@SndE.c _ _ _ _ _ _ (@snd_cmp _ _ _ _ (.lt) _ _ _ _ _ (@snd_loc _ _ _ _ _ _ _ rfl (by decide) (by decide)) (@snd_int _ _ _ _ _ _ _ ) rfl)) rfl (fun _ => rfl)) (@sndS_cons _ _ _ _ _ _ _ _ (@sndT_asg _ _ _ _ _ _ _ _ _ _ (@SndE.c _ _ _ _ _ _ (@snd_ite _ _ _ _ _ _ _ _ _ _ _ (@sndB_cmp _ _ _ _ (.notin) _ _ _ _ _ (@snd_loc _ _ _ _ _ _ _ rfl (by decide) (by decide)) (@snd_tup _ _ _ _ _ _ _ _ (@sndL_cons _ _ _ _ _ _ _ _ (@snd_glb _ _ _ _ _ _ _ _ Fa.gM1 Fa.vM1 rfl (by decide)) (@sndL_cons _ _ _ _ _ _ _ _ (@snd_glb _ _ _ _ _ _ _ _ Fa.gM3 Fa.vM3 rfl (by decide)) (@sndL_nil _ _ _ _ ) (fun _ => rfl)) (fun _ => rfl))) rfl) (@snd_int _ _ _ _ _ _ _ ) (@snd_int _ _ _ _ _ _ _ ))) rfl (fun _ => rfl)) (@sndS_cons _ _ _ _ _ _ _ _ (@sndT_asg _ _ _ _ _ _ _ _ _ _ (@SndE.c _ _ _ _ _ _ (@snd_int _ _ _ _ _ _ _ )) rfl (fun _ => rfl)) (@sndS_cons _ _ _ _ _ _ _ _ (@sndT_asg _ _ _ _ _ _ _ _ _ _ (@SndE.c _ _ _ _ _ _ (@snd_call _ _ _ _ _ _ _ _ _ _ _ Fa.gLen trivial prim_len (@sndL_cons _ _ _ _ _ _ _ _ (@snd_loc _ _ _ _ _ _ _ rfl (by decide) (by decide)) (@sndL_nil _ _ _ _ ) (fun _ => rfl)) (List.cons_ne_nil _ _) rfl (by decide))) rfl (fun _ => rfl)) (@sndS_cons _ _ _ _ _ _ _ _ (@sndT_asg _ _ _ _ _ _ _ _ _ _ (@SndE.c _ _ _ _ _ _ (@snd_call _ _ _ _ _ _ _ _ _ _ _ Fa.gRange trivial prim_range (@sndL_cons _ _ _ _ _ _ _ _ (@snd_int _ _ _ _ _ _ _ ) (@sndL_nil _ _ _ _ ) (fun _ => rfl)) (List.cons_ne_nil _ _) rfl (by decide))) rfl (fun _ => rfl)) (@sndS_cons _ _ _ _ _ _ _ _ (@sndT_for _ _ _ _ _ _ _ _ _ _ _ (@sndTg_name _ _ _ _ _ _ _ rfl) (@snd_call _ _ _ _ _ _ _ _ _ _ _ Fa.gRange trivial prim_range (@sndL_cons _ _ _ _ _ _ _ _ (@snd_bin _ _ _ _ (.sub) _ _ _ _ _ (@snd_loc _ _ _ _ _ _ _ rfl (by decide) (by decide)) (@snd_int _ _ _ _ _ _ _ )) (@sndL_cons _ _ _ _ _ _ _ _ (@snd_int _ _ _ _ _ _ _ ) (@sndL_cons _ _ _ _ _ _ _ _ (@snd_neg _ _ _ _ _ _ _ (@snd_int _ _ _ _ _ _ _ )) (@sndL_nil _ _ _ _ ) (fun _ => rfl)) (fun _ => rfl)) (fun _ => rfl)) (List.cons_ne_nil _ _) rfl (by decide)) (@sndS_cons _ _ _ _ _ _ _ _ (@sndT_if _ _ _ _ _ _ _ _ _ _ _ (@sndB_and _ _ _ _ _ _ _ (@sndA_cons _ _ _ _ _ _ _ _ (@sndB_not _ _ _ _ _ _ _ (@sndB_val _ _ _ _ _ _ (@snd_loc _ _ _ _ _ _ _ rfl (by decide) (by decide)) (fun _ => rfl))) (@sndA_cons _ _ _ _ _ _ _ _ (@sndB_cmp _ _ _ _ (.le) _ _ _ _ _ (@snd_loc _ _ _ _ _ _ _ rfl (by decide) (by decide)) (@snd_int _ _ _ _ _ _ _ ) rfl) (@sndA_nil _ _ _ _ )))) (@sndS_cons _ _ _ _ _ _ _ _ (@sndT_aug _ _ _ _ _ (.sub) _ _ _ _ _ (@snd_int _ _ _ _ _ _ _ ) rfl (by decide)) (@sndS_nil _ _ _ _ )) (@sndS_nil _ _ _ _ )) (@sndS_cons _ _ _ _ _ _ _ _ (@sndT_for _ _ _ _ _ _ _ _ _ _ _ (@sndTg_name _ _ _ _ _ _ _ rfl) (@snd_call _ _ _ _ _ _ _ _ _ _ _ Fa.gRange trivial prim_range (@sndL_cons _ _ _ _ _ _ _ _ (@snd_loc _ _ _ _ _ _ _ rfl (by decide) (by decide)) (@sndL_nil _ _ _ _ ) (fun _ => rfl)) (List.cons_ne_nil _ _) rfl (by decide)) (@sndS_cons _ _ _ _ _ _ _ _ (@sndT_for _ _ _ _ _ _ _ _ _ _ _ (@sndTg_name _ _ _ _ _ _ _ rfl) (@snd_loc _ _ _ _ _ _ _ rfl (by decide) (by decide)) (@sndS_cons _ _ _ _ _ _ _ _ (@sndT_asg _ _ _ _ _ _ _ _ _ _ (@SndE.c _ _ _ _ _ _ (@snd_bin _ _ _ _ (.sub) _ _ _ _ _ (@snd_loc _ _ _ _ _ _ _ rfl (by decide) (by decide)) (@snd_loc _ _ _ _ _ _ _ rfl (by decide) (by decide)))) rfl (fun _ => rfl)) (@sndS_cons _ _ _ _ _ _ _ _ (@sndT_asg _ _ _ _ _ _ _ _ _ _ (@SndE.c _ _ _ _ _ _ (@snd_cmp _ _ _ _ (.eq) _ _ _ _ _ (@snd_bin _ _ _ _ (.band) _ _ _ _ _ (@snd_bin _ _ _ _ (.add) _ _ _ _ _ (@snd_loc _ _ _ _ _ _ _ rfl (by decide) (by decide)) (@snd_loc _ _ _ _ _ _ _ rfl (by decide) (by decide))) (@snd_int _ _ _ _ _ _ _ )) (@snd_int _ _ _ _ _ _ _ ) rfl)) rfl (fun _ => rfl)) (@sndS_cons _ _ _ _ _ _ _ _ (@sndT_if _ _ _ _ _ _ _ _ _ _ _ (@sndB_not _ _ _ _ _ _ _ (@sndB_val _ _ _ _ _ _ (@snd_loc _ _ _ _ _ _ _ rfl (by decide) (by decide)) (fun _ => rfl))) (@sndS_cons _ _ _ _ _ _ _ _ (@sndT_aug _ _ _ _ _ (.bxor) _ _ _ _ _ (@snd_cmp _ _ _ _ (.lt) _ _ _ _ _ (@snd_loc _ _ _ _ _ _ _ rfl (by decide) (by decide)) (@snd_int _ _ _ _ _ _ _ ) rfl) rfl (by decide)) (@sndS_nil _ _ _ _ )) (@sndS_nil _ _ _ _ )) (@sndS_cons _ _ _ _ _ _ _ _ (@sndT_asg _ _ _ _ _ _ _ _ _ _ (@SndE.c _ _ _ _ _ _ (@snd_ite _ _ _ _ _ _ _ _ _ _ _ (@sndB_val _ _ _ _ _ _ (@snd_loc _ _ _ _ _ _ _ rfl (by decide) (by decide)) (fun _ => rfl)) (@snd_bin _ _ _ _ (.sub) _ _ _ _ _ (@snd_bin _ _ _ _ (.sub) _ _ _ _ _ (@snd_loc _ _ _ _ _ _ _ rfl (by decide) (by decide)) (@snd_int _ _ _ _ _ _ _ )) (@snd_loc _ _ _ _ _ _ _ rfl (by decide) (by decide))) (@snd_loc _ _ _ _ _ _ _ rfl (by decide) (by decide)))) rfl (fun _ => rfl)) (@sndS_cons _ _ _ _ _ _ _ _ (@sndT_asg _ _ _ _ _ _ _ _ _ _ (@SndE.c _ _ _ _ _ _ (@snd_idx _ _ _ _ _ _ _ _ _ (@snd_loc _ _ _ _ _ _ _ rfl (by decide) (by decide)) (@snd_loc _ _ _ _ _ _ _ rfl (by decide) (by decide)) (fun _ _ => ⟨_, rfl⟩))) rfl (fun _ => rfl)) (@sndS_cons _ _ _ _ _ _ _ _ (@sndT_if _ _ _ _ _ _ _ _ _ _ _ (@sndB_and _ _ _ _ _ _ _ (@sndA_cons _ _ _ _ _ _ _ _ (@sndB_cmp _ _ _ _ (.eq) _ _ _ _ _ (@snd_idx _ _ _ _ _ _ _ _ _ (@snd_loc _ _ _ _ _ _ _ rfl (by decide) (by decide)) (@snd_loc _ _ _ _ _ _ _ rfl (by decide) (by decide)) (fun _ _ => ⟨_, rfl⟩)) (@snd_int _ _ _ _ _ _ _ ) rfl) (@sndA_cons _ _ _ _ _ _ _ _ (@sndB_cmp _ _ _ _ (.lt) _ _ _ _ _ (@snd_loc _ _ _ _ _ _ _ rfl (by decide) (by decide)) (@snd_loc _ _ _ _ _ _ _ rfl (by decide) (by decide)) rfl) (@sndA_nil _ _ _ _ )))) (@sndS_cons _ _ _ _ _ _ _ _ (@sndT_setI _ _ _ _ _ _ _ _ _ _ _ _ (@snd_idx _ _ _ _ _ _ _ _ _ (@snd_loc _ _ _ _ _ _ _ rfl (by decide) (by decide)) (@snd_loc _ _ _ _ _ _ _ rfl (by decide) (by decide)) (fun _ _ => ⟨_, rfl⟩)) (@snd_loc _ _ _ _ _ _ _ rfl (by decide) (by decide)) (@snd_loc _ _ _ _ _ _ _ rfl (by decide) (by decide)) (fun _ => rfl)) (@sndS_cons _ _ _ _ _ _ _ _ (@sndT_aug _ _ _ _ _ (.add) _ _ _ _ _ (@snd_int _ _ _ _ _ _ _ ) rfl (by decide)) (@sndS_nil _ _ _ _ ))) (@sndS_nil _ _ _ _ )) (@sndS_nil _ _ _ _ ))))))) (fun _ _ => rfl)) (@sndS_nil _ _ _ _ )) (fun _ _ => rfl)) (@sndS_nil _ _ _ _ ))) (fun _ _ => rfl)) (@sndS_nil _ _ _ _ ))))))))
noncomputable def dCt : DenB := (bCmp .ne (dLoc 6) (dCall (lCons (dLoc 1) lNil) pLen))
noncomputable def dCv1 : Den := (dLoc 6)
noncomputable def dCv2 : Den := (dCall (lCons (dLoc 1) lNil) pLen)
end Mine
end

section
open PySem PyProof.Rows
set_option autoImplicit false
set_option maxRecDepth 100000
set_option maxHeartbeats 4000000
namespace Mine
noncomputable def nmMm : List Str := ["width", "height", "reserve_regions", "add_timing", "is_square", "is_micro", "row", "matrix", "i", "row_eight"]
noncomputable def dM1 : DenS := (sCons (sAsg 4 (dCmp .eq (dLoc 0) (dLoc 1))) (sCons (sAsg 5 (dAnd (dLoc 4) (dCmp .lt (dLoc 0) (dInt 21)))) (sCons (sAsg 6 (dBin .mul (dLst (lCons (dInt 2) lNil)) (dLoc 0))) sNil)))
theorem sndM1 {X : Cx} {d : Nat} (Fa : Facts X) : SndS X (d) (scOf 9) nmMm (((bodyOf 9).drop 0).take 3) dM1 := by
  conv in (scOf 9) => whnf
  conv in (bodyOf 9) => whnf
  simp only [List.drop_succ_cons, List.drop_zero, List.take_succ_cons, List.take_zero]
  exact (@sndS_cons _ _ _ _ _ _ _ _ (@sndT_asg _ _ _ _ _ _ _ _ _ _ (@SndE.c _ _ _ _ _ _ (@snd_cmp _ _ _ _ (.eq) _ _ _ _ _ (@snd_loc _ _ _ _ _ _ _ rfl (by decide) (by decide)) (@snd_loc _ _ _ _ _ _ _ rfl (by decide) (by decide)) rfl)) rfl (fun _ => rfl)) (@sndS_cons _ _ _ _ _ _ _ _ (@sndT_asg _ _ _ _ _ _ _ _ _ _ (@SndE.c _ _ _ _ _ _ (@snd_and _ _ _ _ _ _ _ _ _ (@snd_loc _ _ _ _ _ _ _ rfl (by decide) (by decide)) (@snd_cmp _ _ _ _ (.lt) _ _ _ _ _ (@snd_loc _ _ _ _ _ _ _ rfl (by decide) (by decide)) (@snd_int _ _ _ _ _ _ _ ) rfl))) rfl (fun _ => rfl)) (@sndS_cons _ _ _ _ _ _ _ _ (@sndT_asg _ _ _ _ _ _ _ _ _ _ (@SndE.c _ _ _ _ _ _ (@snd_bin _ _ _ _ (.mul) _ _ _ _ _ (@snd_lst _ _ _ _ _ _ _ (@sndL_cons _ _ _ _ _ _ _ _ (@snd_int _ _ _ _ _ _ _ ) (@sndL_nil _ _ _ _ ) (fun _ => rfl))) (@snd_loc _ _ _ _ _ _ _ rfl (by decide) (by decide)))) rfl (fun _ => rfl)) (@sndS_nil _ _ _ _ ))))
noncomputable def dM2 : DenS := (sCons (sIf (bVal (dLoc 2)) (sCons (sIf (bAnd (bVal (dLoc 4)) (bAnd (bCmp .gt (dLoc 0) (dInt 41)) bTrue)) (sCons (sFor (tgN 8) (dCall (lCons (dInt 6) lNil) pRange) (sCons (sAsg 6 (dIdx (dLoc 7) (dLoc 8))) (sCons (sSetI (dInt 0) (dLoc 6) (dNeg (dInt 11))) (sCons (sSetI (dInt 0) (dLoc 6) (dNeg (dInt 10))) (sCons (sSetI (dInt 0) (dLoc 6) (dNeg (dInt 9))) (sCons (sSetI (dInt 0) (dIdx (dLoc 7) (dNeg (dInt 11))) (dLoc 8)) (sCons (sSetI (dInt 0) (dIdx (dLoc 7) (dNeg (dInt 10))) (dLoc 8)) (sCons (sSetI (dInt 0) (dIdx (dLoc 7) (dNeg (dInt 9))) (dLoc 8)) sNil)))))))) sNil) sNil) (sCons (sAsg 9 (dIdx (dLoc 7) (dInt 8))) (sCons (sFor (tgN 8) (dCall (lCons (dInt 9) lNil) pRange) (sCons (sSetI (dInt 0) (dIdx (dLoc 7) (dLoc 8)) (dInt 8)) (sCons (sSetI (dInt 0) (dLoc 9) (dLoc 8)) (sCons (sIf (bNot (bVal (dLoc 5))) (sCons (sSetI (dInt 0) (dIdx (dLoc 7) (dNeg (dLoc 8))) (dInt 8)) (sCons (sSetI (dInt 0) (dLoc 9) (dNeg (dLoc 8))) sNil)) sNil) sNil)))) sNil))) sNil) (sCons (sIf (bVal (dLoc 3)) (sCons (sEx (dCall (lCons (dLoc 7) (lCons (dLoc 5) lNil)) pTp)) sNil) sNil) (sCons (sRet (dLoc 7)) sNil)))
theorem sndM2 {X : Cx} {d : Nat} (Fa : Facts X) : SndS X (d + 1) (scOf 9) nmMm (((bodyOf 9).drop 4).take 3) dM2 := by
  conv in (scOf 9) => whnf
  conv in (bodyOf 9) => whnf
  simp only [List.drop_succ_cons, List.drop_zero, List.take_succ_cons, List.take_zero]
  exact (@sndS_cons _ _ _ _ _ _ _ _ (@sndT_if _ _ _ _ _ _ _ _ _ _ _ (@sndB_val _ _ _ _ _ _ (@snd_loc _ _ _ _ _ _ _ rfl (by decide) (by decide)) (fun _ => rfl)) (@sndS_cons _ _ _ _ _ _ _ _ (@sndT_if _ _ _ _ _ _ _ _ _ _ _ (@sndB_and _ _ _ _ _ _ _ (@sndA_cons _ _ _ _ _ _ _ _ (@sndB_val _ _ _ _ _ _ (@snd_loc _ _ _ _ _ _ _ rfl (by decide) (by decide)) (fun _ => rfl)) (@sndA_cons _ _ _ _ _ _ _ _ (@sndB_cmp _ _ _ _ (.gt) _ _ _ _ _ (@snd_loc _ _ _ _ _ _ _ rfl (by decide) (by decide)) (@snd_int _ _ _ _ _ _ _ ) rfl) (@sndA_nil _ _ _ _ )))) (@sndS_cons _ _ _ _ _ _ _ _ (@sndT_for _ _ _ _ _ _ _ _ _ _ _ (@sndTg_name _ _ _ _ _ _ _ rfl) (@snd_call _ _ _ _ _ _ _ _ _ _ _ Fa.gRange trivial prim_range (@sndL_cons _ _ _ _ _ _ _ _ (@snd_int _ _ _ _ _ _ _ ) (@sndL_nil _ _ _ _ ) (fun _ => rfl)) (List.cons_ne_nil _ _) rfl (by decide)) (@sndS_cons _ _ _ _ _ _ _ _ (@sndT_asg _ _ _ _ _ _ _ _ _ _ (@SndE.c _ _ _ _ _ _ (@snd_idx _ _ _ _ _ _ _ _ _ (@snd_loc _ _ _ _ _ _ _ rfl (by decide) (by decide)) (@snd_loc _ _ _ _ _ _ _ rfl (by decide) (by decide)) (fun _ _ => ⟨_, rfl⟩))) rfl (fun _ => rfl)) (@sndS_cons _ _ _ _ _ _ _ _ (@sndT_setI _ _ _ _ _ _ _ _ _ _ _ _ (@snd_int _ _ _ _ _ _ _ ) (@snd_loc _ _ _ _ _ _ _ rfl (by decide) (by decide)) (@snd_neg _ _ _ _ _ _ _ (@snd_int _ _ _ _ _ _ _ )) (fun _ => rfl)) (@sndS_cons _ _ _ _ _ _ _ _ (@sndT_setI _ _ _ _ _ _ _ _ _ _ _ _ (@snd_int _ _ _ _ _ _ _ ) (@snd_loc _ _ _ _ _ _ _ rfl (by decide) (by decide)) (@snd_neg _ _ _ _ _ _ _ (@snd_int _ _ _ _ _ _ _ )) (fun _ => rfl)) (@sndS_cons _ _ _ _ _ _ _ _ (@sndT_setI _ _ _ _ _ _ _ _ _ _ _ _ (@snd_int _ _ _ _ _ _ _ ) (@snd_loc _ _ _ _ _ _ _ rfl (by decide) (by decide)) (@snd_neg _ _ _ _ _ _ _ (@snd_int _ _ _ _ _ _ _ )) (fun _ => rfl)) (@sndS_cons _ _ _ _ _ _ _ _ (@sndT_setI _ _ _ _ _ _ _ _ _ _ _ _ (@snd_int _ _ _ _ _ _ _ ) (@snd_idx _ _ _ _ _ _ _ _ _ (@snd_loc _ _ _ _ _ _ _ rfl (by decide) (by decide)) (@snd_neg _ _ _ _ _ _ _ (@snd_int _ _ _ _ _ _ _ )) (fun _ _ => ⟨_, rfl⟩)) (@snd_loc _ _ _ _ _ _ _ rfl (by decide) (by decide)) (fun _ => rfl)) (@sndS_cons _ _ _ _ _ _ _ _ (@sndT_setI _ _ _ _ _ _ _ _ _ _ _ _ (@snd_int _ _ _ _ _ _ _ ) (@snd_idx _ _ _ _ _ _ _ _ _ (@snd_loc _ _ _ _ _ _ _ rfl (by decide) (by decide)) (@snd_neg _ _ _ _ _ _ _ (@snd_int _ _ _ _ _ _ _ )) (fun _ _ => ⟨_, rfl⟩)) (@snd_loc _ _ _ _ _ _ _ rfl (by decide) (by decide)) (fun _ => rfl)) (@sndS_cons _ _ _ _ _ _ _ _ (@sndT_setI _ _ _ _ _ _ _ _ _ _ _ _ (@snd_int _ _ _ _ _ _ _ ) (@snd_idx _ _ _ _ _ _ _ _ _ (@snd_loc _ _ _ _ _ _ _ rfl (by decide) (by decide)) (@snd_neg _ _ _ _ _ _ _ (@snd_int _ _ _ _ _ _ _ )) (fun _ _ => ⟨_, rfl⟩)) (@snd_loc _ _ _ _ _ _ _ rfl (by decide) (by decide)) (fun _ => rfl)) (@sndS_nil _ _ _ _ )))))))) (fun _ _ => rfl)) (@sndS_nil _ _ _ _ )) (@sndS_nil _ _ _ _ )) (@sndS_cons _ _ _ _ _ _ _ _ (@sndT_asg _ _ _ _ _ _ _ _ _ _ (@SndE.c _ _ _ _ _ _ (@snd_idx _ _ _ _ _ _ _ _ _ (@snd_loc _ _ _ _ _ _ _ rfl (by decide) (by decide)) (@snd_int _ _ _ _ _ _ _ ) (fun _ _ => ⟨_, rfl⟩))) rfl (fun _ => rfl)) (@sndS_cons _ _ _ _ _ _ _ _ (@sndT_for _ _ _ _ _ _ _ _ _ _ _ (@sndTg_name _ _ _ _ _ _ _ rfl) (@snd_call _ _ _ _ _ _ _ _ _ _ _ Fa.gRange trivial prim_range (@sndL_cons _ _ _ _ _ _ _ _ (@snd_int _ _ _ _ _ _ _ ) (@sndL_nil _ _ _ _ ) (fun _ => rfl)) (List.cons_ne_nil _ _) rfl (by decide)) (@sndS_cons _ _ _ _ _ _ _ _ (@sndT_setI _ _ _ _ _ _ _ _ _ _ _ _ (@snd_int _ _ _ _ _ _ _ ) (@snd_idx _ _ _ _ _ _ _ _ _ (@snd_loc _ _ _ _ _ _ _ rfl (by decide) (by decide)) (@snd_loc _ _ _ _ _ _ _ rfl (by decide) (by decide)) (fun _ _ => ⟨_, rfl⟩)) (@snd_int _ _ _ _ _ _ _ ) (fun _ => rfl)) (@sndS_cons _ _ _ _ _ _ _ _ (@sndT_setI _ _ _ _ _ _ _ _ _ _ _ _ (@snd_int _ _ _ _ _ _ _ ) (@snd_loc _ _ _ _ _ _ _ rfl (by decide) (by decide)) (@snd_loc _ _ _ _ _ _ _ rfl (by decide) (by decide)) (fun _ => rfl)) (@sndS_cons _ _ _ _ _ _ _ _ (@sndT_if _ _ _ _ _ _ _ _ _ _ _ (@sndB_not _ _ _ _ _ _ _ (@sndB_val _ _ _ _ _ _ (@snd_loc _ _ _ _ _ _ _ rfl (by decide) (by decide)) (fun _ => rfl))) (@sndS_cons _ _ _ _ _ _ _ _ (@sndT_setI _ _ _ _ _ _ _ _ _ _ _ _ (@snd_int _ _ _ _ _ _ _ ) (@snd_idx _ _ _ _ _ _ _ _ _ (@snd_loc _ _ _ _ _ _ _ rfl (by decide) (by decide)) (@snd_neg _ _ _ _ _ _ _ (@snd_loc _ _ _ _ _ _ _ rfl (by decide) (by decide))) (fun _ _ => ⟨_, rfl⟩)) (@snd_int _ _ _ _ _ _ _ ) (fun _ => rfl)) (@sndS_cons _ _ _ _ _ _ _ _ (@sndT_setI _ _ _ _ _ _ _ _ _ _ _ _ (@snd_int _ _ _ _ _ _ _ ) (@snd_loc _ _ _ _ _ _ _ rfl (by decide) (by decide)) (@snd_neg _ _ _ _ _ _ _ (@snd_loc _ _ _ _ _ _ _ rfl (by decide) (by decide))) (fun _ => rfl)) (@sndS_nil _ _ _ _ ))) (@sndS_nil _ _ _ _ )) (@sndS_nil _ _ _ _ )))) (fun _ _ => rfl)) (@sndS_nil _ _ _ _ )))) (@sndS_nil _ _ _ _ )) (@sndS_cons _ _ _ _ _ _ _ _ (@sndT_if _ _ _ _ _ _ _ _ _ _ _ (@sndB_val _ _ _ _ _ _ (@snd_loc _ _ _ _ _ _ _ rfl (by decide) (by decide)) (fun _ => rfl)) (@sndS_cons _ _ _ _ _ _ _ _ (@sndT_ex _ _ _ _ _ _ _ (@sndC_call _ _ _ _ _ _ _ _ _ _ _ _ _ Fa.gTp Fa.oTp.ho Fa.oTp.hd (primTp Fa) (@sndL_cons _ _ _ _ _ _ _ _ (@snd_loc _ _ _ _ _ _ _ rfl (by decide) (by decide)) (@sndL_cons _ _ _ _ _ _ _ _ (@snd_loc _ _ _ _ _ _ _ rfl (by decide) (by decide)) (@sndL_nil _ _ _ _ ) (fun _ => rfl)) (fun _ => rfl)) (List.cons_ne_nil _ _) rfl (by decide)) (fun _ => rfl)) (@sndS_nil _ _ _ _ )) (@sndS_nil _ _ _ _ )) (@sndS_cons _ _ _ _ _ _ _ _ (@sndT_ret _ _ _ _ _ _ _ (@SndE.c _ _ _ _ _ _ (@snd_loc _ _ _ _ _ _ _ rfl (by decide) (by decide)))) (@sndS_nil _ _ _ _ ))))
noncomputable def dMit : Den := (dCall (lCons (dLoc 1) lNil) pRange)
end Mine
end

section
open PySem PyProof.Rows
set_option autoImplicit false
set_option maxRecDepth 100000
set_option maxHeartbeats 4000000
namespace Mine
noncomputable def nmLw : List Str := ["script", "numbers", "version", "size", "matrix", "rows", "room", "short", "length", "seeds", "base", "bits", "columns", "laid", "pair", "step", "i", "j"]
noncomputable def dL1 : DenS := (sCons (sAsg 1 (dBin .add (dLoc 0) (dSlc (dLst (lCons (dInt 0) (lCons (dInt 0) lNil))) (ptSome (dCall (lCons (dLoc 0) lNil) pLen)) ptNone))) (sCons (sAsg 2 (dBin .add (dInt 2) (dBin .mod (dIdx (dLoc 1) (dInt 0)) (dInt 6)))) (sCons (sAsg 3 (dBin .add (dInt 17) (dBin .mul (dInt 4) (dLoc 2)))) sNil)))
theorem sndL1 {X : Cx} {d : Nat} (Fa : Facts X) : SndS X (d) (scOf 12) nmLw (((bodyOf 12).drop 0).take 3) dL1 := by
  conv in (scOf 12) => whnf
  conv in (bodyOf 12) => whnf
  simp only [List.drop_succ_cons, List.drop_zero, List.take_succ_cons, List.take_zero]
  exact (@sndS_cons _ _ _ _ _ _ _ _ (@sndT_asg _ _ _ _ _ _ _ _ _ _ (@SndE.c _ _ _ _ _ _ (@snd_bin _ _ _ _ (.add) _ _ _ _ _ (@snd_loc _ _ _ _ _ _ _ rfl (by decide) (by decide)) (@snd_slc _ _ _ _ _ _ _ _ _ _ _ _ (@snd_lst _ _ _ _ _ _ _ (@sndL_cons _ _ _ _ _ _ _ _ (@snd_int _ _ _ _ _ _ _ ) (@sndL_cons _ _ _ _ _ _ _ _ (@snd_int _ _ _ _ _ _ _ ) (@sndL_nil _ _ _ _ ) (fun _ => rfl)) (fun _ => rfl))) (@sndP_some _ _ _ _ _ _ (@snd_call _ _ _ _ _ _ _ _ _ _ _ Fa.gLen trivial prim_len (@sndL_cons _ _ _ _ _ _ _ _ (@snd_loc _ _ _ _ _ _ _ rfl (by decide) (by decide)) (@sndL_nil _ _ _ _ ) (fun _ => rfl)) (List.cons_ne_nil _ _) rfl (by decide))) (@sndP_none _ _ _ _ )))) rfl (fun _ => rfl)) (@sndS_cons _ _ _ _ _ _ _ _ (@sndT_asg _ _ _ _ _ _ _ _ _ _ (@SndE.c _ _ _ _ _ _ (@snd_bin _ _ _ _ (.add) _ _ _ _ _ (@snd_int _ _ _ _ _ _ _ ) (@snd_bin _ _ _ _ (.mod) _ _ _ _ _ (@snd_idx _ _ _ _ _ _ _ _ _ (@snd_loc _ _ _ _ _ _ _ rfl (by decide) (by decide)) (@snd_int _ _ _ _ _ _ _ ) (fun _ _ => ⟨_, rfl⟩)) (@snd_int _ _ _ _ _ _ _ )))) rfl (fun _ => rfl)) (@sndS_cons _ _ _ _ _ _ _ _ (@sndT_asg _ _ _ _ _ _ _ _ _ _ (@SndE.c _ _ _ _ _ _ (@snd_bin _ _ _ _ (.add) _ _ _ _ _ (@snd_int _ _ _ _ _ _ _ ) (@snd_bin _ _ _ _ (.mul) _ _ _ _ _ (@snd_int _ _ _ _ _ _ _ ) (@snd_loc _ _ _ _ _ _ _ rfl (by decide) (by decide))))) rfl (fun _ => rfl)) (@sndS_nil _ _ _ _ ))))
noncomputable def dL2 : DenS := (sCons (sEx (dCall (lCons (dLoc 4) (lCons (dLoc 3) (lCons (dLoc 3) lNil))) pFp)) (sCons (sEx (dCall (lCons (dLoc 4) (lCons (dLoc 3) (lCons (dLoc 3) lNil))) pAp)) (sCons (sAsg 5 (dCall (lCons (dLoc 2) lNil) pLp)) (sCons (sAsg 6 (dCall (lCons (dComp (dLoc 5) 1 none bTrue (aEmit (dCount (dLoc 0) (dInt 2)))) lNil) pSum)) (sCons (sAsg 7 (dBin .mod (dIdx (dLoc 1) (dInt 1)) (dInt 10))) (sCons (sAsg 8 (dIte (bCmp .lt (dLoc 7) (dInt 9)) (dBin .sub (dLoc 6) (dLoc 7)) (dBin .add (dLoc 6) (dInt 1)))) (sCons (sAsg 9 (dBin .add (dComp (dSlc (dLoc 1) (ptSome (dInt 2)) (ptSome (dInt 14))) 1 none bTrue (aEmit (dBin .mod (dLoc 0) (dInt 65536)))) (dLst (lCons (dInt 40503) lNil)))) (sCons (sAsg 10 (dComp (dCall (lCons (dInt 61) lNil) pRange) 1 (some ("seeds", 9)) bTrue (aEmit (dBin .mod (dBin .fdiv (dBin .add (dIdx (dLoc 1) (dBin .mod (dLoc 0) (dCall (lCons (dLoc 1) lNil) pLen))) (dBin .mul (dBin .mul (dInt 1327) (dLoc 0)) (dLoc 0))) (dInt 64)) (dInt 2))))) (sCons (sAsg 11 (dSlc (dBin .mul (dLoc 10) (dInt 26)) ptNone (ptSome (dLoc 8)))) sNil)))))))))
theorem sndL2 {X : Cx} {d : Nat} (Fa : Facts X) : SndS X (d + 2) (scOf 12) nmLw (((bodyOf 12).drop 4).take 9) dL2 := by
  conv in (scOf 12) => whnf
  conv in (bodyOf 12) => whnf
  simp only [List.drop_succ_cons, List.drop_zero, List.take_succ_cons, List.take_zero]
  exact (@sndS_cons _ _ _ _ _ _ _ _ (@sndT_ex _ _ _ _ _ _ _ (@sndC_call _ _ _ _ _ _ _ _ _ _ _ _ _ Fa.gFp Fa.oFp.ho Fa.oFp.hd (primFp Fa) (@sndL_cons _ _ _ _ _ _ _ _ (@snd_loc _ _ _ _ _ _ _ rfl (by decide) (by decide)) (@sndL_cons _ _ _ _ _ _ _ _ (@snd_loc _ _ _ _ _ _ _ rfl (by decide) (by decide)) (@sndL_cons _ _ _ _ _ _ _ _ (@snd_loc _ _ _ _ _ _ _ rfl (by decide) (by decide)) (@sndL_nil _ _ _ _ ) (fun _ => rfl)) (fun _ => rfl)) (fun _ => rfl)) (List.cons_ne_nil _ _) rfl (by decide)) (fun _ => rfl)) (@sndS_cons _ _ _ _ _ _ _ _ (@sndT_ex _ _ _ _ _ _ _ (@sndC_call _ _ _ _ _ _ _ _ _ _ _ _ _ Fa.gAp Fa.oAp.ho Fa.oAp.hd (primAp Fa) (@sndL_cons _ _ _ _ _ _ _ _ (@snd_loc _ _ _ _ _ _ _ rfl (by decide) (by decide)) (@sndL_cons _ _ _ _ _ _ _ _ (@snd_loc _ _ _ _ _ _ _ rfl (by decide) (by decide)) (@sndL_cons _ _ _ _ _ _ _ _ (@snd_loc _ _ _ _ _ _ _ rfl (by decide) (by decide)) (@sndL_nil _ _ _ _ ) (fun _ => rfl)) (fun _ => rfl)) (fun _ => rfl)) (List.cons_ne_nil _ _) rfl (by decide)) (fun _ => rfl)) (@sndS_cons _ _ _ _ _ _ _ _ (@sndT_asg _ _ _ _ _ _ _ _ _ _ (@sndC_call _ _ _ _ _ _ _ _ _ _ _ _ _ Fa.gLp Fa.oLp.ho Fa.oLp.hd (primLp Fa) (@sndL_cons _ _ _ _ _ _ _ _ (@snd_loc _ _ _ _ _ _ _ rfl (by decide) (by decide)) (@sndL_nil _ _ _ _ ) (fun _ => rfl)) (List.cons_ne_nil _ _) rfl (by decide)) rfl (fun _ => rfl)) (@sndS_cons _ _ _ _ _ _ _ _ (@sndT_asg _ _ _ _ _ _ _ _ _ _ (@SndE.c _ _ _ _ _ _ (@snd_call _ _ _ _ _ _ _ _ _ _ _ Fa.gSum trivial prim_sum (@sndL_cons _ _ _ _ _ _ _ _ (@snd_comp _ _ _ _ _ _ _ _ _ _ _ _ _ _ (["row"]) (none) _ _ _ (@turns_one _ _ _ _ _ _ _ ) (@snd_loc _ _ _ _ _ _ _ rfl (by decide) (by decide)) ⟨by decide, rfl, by decide, rfl⟩ (.none fun env => closureFor_none (by decide)) rfl (by decide) (@sndIf_nil _ _ _ _ ) (@snd_emit _ _ _ _ _ _ (@snd_count _ _ _ _ _ _ _ _ _ _ (@snd_loc _ _ _ _ _ _ _ rfl (by decide) (by decide)) (@snd_int _ _ _ _ _ _ _ ) (fun _ => rfl) (fun _ => rfl) rfl)) (fun _ _ => rfl)) (@sndL_nil _ _ _ _ ) (fun _ => rfl)) (List.cons_ne_nil _ _) rfl (by decide))) rfl (fun _ => rfl)) (@sndS_cons _ _ _ _ _ _ _ _ (@sndT_asg _ _ _ _ _ _ _ _ _ _ (@SndE.c _ _ _ _ _ _ (@snd_bin _ _ _ _ (.mod) _ _ _ _ _ (@snd_idx _ _ _ _ _ _ _ _ _ (@snd_loc _ _ _ _ _ _ _ rfl (by decide) (by decide)) (@snd_int _ _ _ _ _ _ _ ) (fun _ _ => ⟨_, rfl⟩)) (@snd_int _ _ _ _ _ _ _ ))) rfl (fun _ => rfl)) (@sndS_cons _ _ _ _ _ _ _ _ (@sndT_asg _ _ _ _ _ _ _ _ _ _ (@SndE.c _ _ _ _ _ _ (@snd_ite _ _ _ _ _ _ _ _ _ _ _ (@sndB_cmp _ _ _ _ (.lt) _ _ _ _ _ (@snd_loc _ _ _ _ _ _ _ rfl (by decide) (by decide)) (@snd_int _ _ _ _ _ _ _ ) rfl) (@snd_bin _ _ _ _ (.sub) _ _ _ _ _ (@snd_loc _ _ _ _ _ _ _ rfl (by decide) (by decide)) (@snd_loc _ _ _ _ _ _ _ rfl (by decide) (by decide))) (@snd_bin _ _ _ _ (.add) _ _ _ _ _ (@snd_loc _ _ _ _ _ _ _ rfl (by decide) (by decide)) (@snd_int _ _ _ _ _ _ _ )))) rfl (fun _ => rfl)) (@sndS_cons _ _ _ _ _ _ _ _ (@sndT_asg _ _ _ _ _ _ _ _ _ _ (@SndE.c _ _ _ _ _ _ (@snd_bin _ _ _ _ (.add) _ _ _ _ _ (@snd_comp _ _ _ _ _ _ _ _ _ _ _ _ _ _ (["number"]) (none) _ _ _ (@turns_one _ _ _ _ _ _ _ ) (@snd_slc _ _ _ _ _ _ _ _ _ _ _ _ (@snd_loc _ _ _ _ _ _ _ rfl (by decide) (by decide)) (@sndP_some _ _ _ _ _ _ (@snd_int _ _ _ _ _ _ _ )) (@sndP_some _ _ _ _ _ _ (@snd_int _ _ _ _ _ _ _ ))) ⟨by decide, rfl, by decide, rfl⟩ (.none fun env => closureFor_none (by decide)) rfl (by decide) (@sndIf_nil _ _ _ _ ) (@snd_emit _ _ _ _ _ _ (@snd_bin _ _ _ _ (.mod) _ _ _ _ _ (@snd_loc _ _ _ _ _ _ _ rfl (by decide) (by decide)) (@snd_int _ _ _ _ _ _ _ ))) (fun _ _ => rfl)) (@snd_lst _ _ _ _ _ _ _ (@sndL_cons _ _ _ _ _ _ _ _ (@snd_int _ _ _ _ _ _ _ ) (@sndL_nil _ _ _ _ ) (fun _ => rfl))))) rfl (fun _ => rfl)) (@sndS_cons _ _ _ _ _ _ _ _ (@sndT_asgComp _ _ _ _ _ _ _ _ _ _ _ _ _ _ (["k"]) ((some ("seeds", 9))) _ _ _ _ _ _ _ (@turns_one _ _ _ _ _ _ _ ) (@snd_call _ _ _ _ _ _ _ _ _ _ _ Fa.gRange trivial prim_range (@sndL_cons _ _ _ _ _ _ _ _ (@snd_int _ _ _ _ _ _ _ ) (@sndL_nil _ _ _ _ ) (fun _ => rfl)) (List.cons_ne_nil _ _) rfl (by decide)) ⟨by decide, rfl, by decide, rfl⟩ (.one "seeds" 9 rfl rfl (closure_one (by decide) (by decide)) rfl) rfl (by decide) (@sndIf_nil _ _ _ _ ) (@snd_emit _ _ _ _ _ _ (@snd_bin _ _ _ _ (.mod) _ _ _ _ _ (@snd_bin _ _ _ _ (.fdiv) _ _ _ _ _ (@snd_bin _ _ _ _ (.add) _ _ _ _ _ (@snd_idx _ _ _ _ _ _ _ _ _ (@snd_loc _ _ _ _ _ _ _ rfl (by decide) (by decide)) (@snd_bin _ _ _ _ (.mod) _ _ _ _ _ (@snd_loc _ _ _ _ _ _ _ rfl (by decide) (by decide)) (@snd_call _ _ _ _ _ _ _ _ _ _ _ Fa.gLen trivial prim_len (@sndL_cons _ _ _ _ _ _ _ _ (@snd_loc _ _ _ _ _ _ _ rfl (by decide) (by decide)) (@sndL_nil _ _ _ _ ) (fun _ => rfl)) (List.cons_ne_nil _ _) rfl (by decide))) (fun _ _ => ⟨_, rfl⟩)) (@snd_bin _ _ _ _ (.mul) _ _ _ _ _ (@snd_bin _ _ _ _ (.mul) _ _ _ _ _ (@snd_int _ _ _ _ _ _ _ ) (@snd_loc _ _ _ _ _ _ _ rfl (by decide) (by decide))) (@snd_loc _ _ _ _ _ _ _ rfl (by decide) (by decide)))) (@snd_int _ _ _ _ _ _ _ )) (@snd_int _ _ _ _ _ _ _ ))) rfl (fun env h => by unfold swapsWith Env.blockKind Env.kindOf; rw [h.es]; rfl) (fun _ _ => rfl)) (@sndS_cons _ _ _ _ _ _ _ _ (@sndT_asg _ _ _ _ _ _ _ _ _ _ (@SndE.c _ _ _ _ _ _ (@snd_slc _ _ _ _ _ _ _ _ _ _ _ _ (@snd_bin _ _ _ _ (.mul) _ _ _ _ _ (@snd_loc _ _ _ _ _ _ _ rfl (by decide) (by decide)) (@snd_int _ _ _ _ _ _ _ )) (@sndP_none _ _ _ _ ) (@sndP_some _ _ _ _ _ _ (@snd_loc _ _ _ _ _ _ _ rfl (by decide) (by decide))))) rfl (fun _ => rfl)) (@sndS_nil _ _ _ _ ))))))))))
noncomputable def dL3 : DenS := (sCons (sIf (bCmp .eq (dLoc 7) (dInt 9)) (sCons (sRet (dBool false)) sNil) sNil) (sCons (sAsg 12 (dComp (dCall (lCons (dBin .sub (dLoc 3) (dInt 1)) (lCons (dNeg (dInt 1)) (lCons (dNeg (dInt 1)) lNil))) pRange) 1 none (bCmp .ne (dLoc 0) (dInt 6)) (aEmit (dLoc 0)))) (sCons (sAsg 13 (dInt 0)) (sCons (sFor (tgN 14) (dCall (lCons (dBin .fdiv (dLoc 3) (dInt 2)) lNil) pRange) (sCons (sFor (tgN 15) (dCall (lCons (dLoc 3) lNil) pRange) (sCons (sAsg 16 (dIte (bCmp .eq (dBin .mod (dLoc 14) (dInt 2)) (dInt 1)) (dLoc 15) (dBin .sub (dBin .sub (dLoc 3) (dInt 1)) (dLoc 15)))) (sCons (sFor (tgN 17) (dSlc (dLoc 12) (ptSome (dBin .mul (dInt 2) (dLoc 14))) (ptSome (dBin .add (dBin .mul (dInt 2) (dLoc 14)) (dInt 2)))) (sCons (sIf (bAnd (bCmp .eq (dIdx (dIdx (dLoc 5) (dLoc 16)) (dLoc 17)) (dInt 2)) (bAnd (bCmp .lt (dLoc 13) (dLoc 8)) bTrue)) (sCons (sSetI (dIdx (dLoc 11) (dLoc 13)) (dIdx (dLoc 5) (dLoc 16)) (dLoc 17)) (sCons (sAug 13 .add (dInt 1)) sNil)) sNil) sNil)) sNil))) sNil)) (sCons (sRet (dCmp .eq (dComp (dLoc 4) 1 none bTrue (aEmit (dCall (lCons (dLoc 0) lNil) pListB))) (dLoc 5))) sNil)))))
theorem sndL3 {X : Cx} {d : Nat} (Fa : Facts X) : SndS X (d) (scOf 12) nmLw (((bodyOf 12).drop 14).take 5) dL3 := by
  conv in (scOf 12) => whnf
  conv in (bodyOf 12) => whnf
  simp only [List.drop_succ_cons, List.drop_zero, List.take_succ_cons, List.take_zero]
  exact (@sndS_cons _ _ _ _ _ _ _ _ (@sndT_if _ _ _ _ _ _ _ _ _ _ _ (@sndB_cmp _ _ _ _ (.eq) _ _ _ _ _ (@snd_loc _ _ _ _ _ _ _ rfl (by decide) (by decide)) (@snd_int _ _ _ _ _ _ _ ) rfl) (@sndS_cons _ _ _ _ _ _ _ _ (@sndT_ret _ _ _ _ _ _ _ (@SndE.c _ _ _ _ _ _ (@snd_bool _ _ _ _ _ _ _ ))) (@sndS_nil _ _ _ _ )) (@sndS_nil _ _ _ _ )) (@sndS_cons _ _ _ _ _ _ _ _ (@sndT_asgComp _ _ _ _ _ _ _ _ _ _ _ _ _ _ (["j"]) (none) _ _ _ _ _ _ _ (@turns_one _ _ _ _ _ _ _ ) (@snd_call _ _ _ _ _ _ _ _ _ _ _ Fa.gRange trivial prim_range (@sndL_cons _ _ _ _ _ _ _ _ (@snd_bin _ _ _ _ (.sub) _ _ _ _ _ (@snd_loc _ _ _ _ _ _ _ rfl (by decide) (by decide)) (@snd_int _ _ _ _ _ _ _ )) (@sndL_cons _ _ _ _ _ _ _ _ (@snd_neg _ _ _ _ _ _ _ (@snd_int _ _ _ _ _ _ _ )) (@sndL_cons _ _ _ _ _ _ _ _ (@snd_neg _ _ _ _ _ _ _ (@snd_int _ _ _ _ _ _ _ )) (@sndL_nil _ _ _ _ ) (fun _ => rfl)) (fun _ => rfl)) (fun _ => rfl)) (List.cons_ne_nil _ _) rfl (by decide)) ⟨by decide, rfl, by decide, rfl⟩ (.none fun env => closureFor_none (by decide)) rfl (by decide) (@sndIf_one _ _ _ _ _ _ (@sndB_cmp _ _ _ _ (.ne) _ _ _ _ _ (@snd_loc _ _ _ _ _ _ _ rfl (by decide) (by decide)) (@snd_int _ _ _ _ _ _ _ ) rfl)) (@snd_emit _ _ _ _ _ _ (@snd_loc _ _ _ _ _ _ _ rfl (by decide) (by decide))) rfl (fun env h => by unfold swapsWith Env.blockKind Env.kindOf; rw [h.es]; rfl) (fun _ _ => rfl)) (@sndS_cons _ _ _ _ _ _ _ _ (@sndT_asg _ _ _ _ _ _ _ _ _ _ (@SndE.c _ _ _ _ _ _ (@snd_int _ _ _ _ _ _ _ )) rfl (fun _ => rfl)) (@sndS_cons _ _ _ _ _ _ _ _ (@sndT_for _ _ _ _ _ _ _ _ _ _ _ (@sndTg_name _ _ _ _ _ _ _ rfl) (@snd_call _ _ _ _ _ _ _ _ _ _ _ Fa.gRange trivial prim_range (@sndL_cons _ _ _ _ _ _ _ _ (@snd_bin _ _ _ _ (.fdiv) _ _ _ _ _ (@snd_loc _ _ _ _ _ _ _ rfl (by decide) (by decide)) (@snd_int _ _ _ _ _ _ _ )) (@sndL_nil _ _ _ _ ) (fun _ => rfl)) (List.cons_ne_nil _ _) rfl (by decide)) (@sndS_cons _ _ _ _ _ _ _ _ (@sndT_for _ _ _ _ _ _ _ _ _ _ _ (@sndTg_name _ _ _ _ _ _ _ rfl) (@snd_call _ _ _ _ _ _ _ _ _ _ _ Fa.gRange trivial prim_range (@sndL_cons _ _ _ _ _ _ _ _ (@snd_loc _ _ _ _ _ _ _ rfl (by decide) (by decide)) (@sndL_nil _ _ _ _ ) (fun _ => rfl)) (List.cons_ne_nil _ _) rfl (by decide)) (@sndS_cons _ _ _ _ _ _ _ _ (@sndT_asg _ _ _ _ _ _ _ _ _ _ (@SndE.c _ _ _ _ _ _ (@snd_ite _ _ _ _ _ _ _ _ _ _ _ (@sndB_cmp _ _ _ _ (.eq) _ _ _ _ _ (@snd_bin _ _ _ _ (.mod) _ _ _ _ _ (@snd_loc _ _ _ _ _ _ _ rfl (by decide) (by decide)) (@snd_int _ _ _ _ _ _ _ )) (@snd_int _ _ _ _ _ _ _ ) rfl) (@snd_loc _ _ _ _ _ _ _ rfl (by decide) (by decide)) (@snd_bin _ _ _ _ (.sub) _ _ _ _ _ (@snd_bin _ _ _ _ (.sub) _ _ _ _ _ (@snd_loc _ _ _ _ _ _ _ rfl (by decide) (by decide)) (@snd_int _ _ _ _ _ _ _ )) (@snd_loc _ _ _ _ _ _ _ rfl (by decide) (by decide))))) rfl (fun _ => rfl)) (@sndS_cons _ _ _ _ _ _ _ _ (@sndT_for _ _ _ _ _ _ _ _ _ _ _ (@sndTg_name _ _ _ _ _ _ _ rfl) (@snd_slc _ _ _ _ _ _ _ _ _ _ _ _ (@snd_loc _ _ _ _ _ _ _ rfl (by decide) (by decide)) (@sndP_some _ _ _ _ _ _ (@snd_bin _ _ _ _ (.mul) _ _ _ _ _ (@snd_int _ _ _ _ _ _ _ ) (@snd_loc _ _ _ _ _ _ _ rfl (by decide) (by decide)))) (@sndP_some _ _ _ _ _ _ (@snd_bin _ _ _ _ (.add) _ _ _ _ _ (@snd_bin _ _ _ _ (.mul) _ _ _ _ _ (@snd_int _ _ _ _ _ _ _ ) (@snd_loc _ _ _ _ _ _ _ rfl (by decide) (by decide))) (@snd_int _ _ _ _ _ _ _ )))) (@sndS_cons _ _ _ _ _ _ _ _ (@sndT_if _ _ _ _ _ _ _ _ _ _ _ (@sndB_and _ _ _ _ _ _ _ (@sndA_cons _ _ _ _ _ _ _ _ (@sndB_cmp _ _ _ _ (.eq) _ _ _ _ _ (@snd_idx _ _ _ _ _ _ _ _ _ (@snd_idx _ _ _ _ _ _ _ _ _ (@snd_loc _ _ _ _ _ _ _ rfl (by decide) (by decide)) (@snd_loc _ _ _ _ _ _ _ rfl (by decide) (by decide)) (fun _ _ => ⟨_, rfl⟩)) (@snd_loc _ _ _ _ _ _ _ rfl (by decide) (by decide)) (fun _ _ => ⟨_, rfl⟩)) (@snd_int _ _ _ _ _ _ _ ) rfl) (@sndA_cons _ _ _ _ _ _ _ _ (@sndB_cmp _ _ _ _ (.lt) _ _ _ _ _ (@snd_loc _ _ _ _ _ _ _ rfl (by decide) (by decide)) (@snd_loc _ _ _ _ _ _ _ rfl (by decide) (by decide)) rfl) (@sndA_nil _ _ _ _ )))) (@sndS_cons _ _ _ _ _ _ _ _ (@sndT_setI _ _ _ _ _ _ _ _ _ _ _ _ (@snd_idx _ _ _ _ _ _ _ _ _ (@snd_loc _ _ _ _ _ _ _ rfl (by decide) (by decide)) (@snd_loc _ _ _ _ _ _ _ rfl (by decide) (by decide)) (fun _ _ => ⟨_, rfl⟩)) (@snd_idx _ _ _ _ _ _ _ _ _ (@snd_loc _ _ _ _ _ _ _ rfl (by decide) (by decide)) (@snd_loc _ _ _ _ _ _ _ rfl (by decide) (by decide)) (fun _ _ => ⟨_, rfl⟩)) (@snd_loc _ _ _ _ _ _ _ rfl (by decide) (by decide)) (fun _ => rfl)) (@sndS_cons _ _ _ _ _ _ _ _ (@sndT_aug _ _ _ _ _ (.add) _ _ _ _ _ (@snd_int _ _ _ _ _ _ _ ) rfl (by decide)) (@sndS_nil _ _ _ _ ))) (@sndS_nil _ _ _ _ )) (@sndS_nil _ _ _ _ )) (fun _ _ => rfl)) (@sndS_nil _ _ _ _ ))) (fun _ _ => rfl)) (@sndS_nil _ _ _ _ )) (fun _ _ => rfl)) (@sndS_cons _ _ _ _ _ _ _ _ (@sndT_ret _ _ _ _ _ _ _ (@SndE.c _ _ _ _ _ _ (@snd_cmp _ _ _ _ (.eq) _ _ _ _ _ (@snd_comp _ _ _ _ _ _ _ _ _ _ _ _ _ _ (["row"]) (none) _ _ _ (@turns_one _ _ _ _ _ _ _ ) (@snd_loc _ _ _ _ _ _ _ rfl (by decide) (by decide)) ⟨by decide, rfl, by decide, rfl⟩ (.none fun env => closureFor_none (by decide)) rfl (by decide) (@sndIf_nil _ _ _ _ ) (@snd_emit _ _ _ _ _ _ (@snd_call _ _ _ _ _ _ _ _ _ _ _ Fa.gList trivial prim_listB (@sndL_cons _ _ _ _ _ _ _ _ (@snd_loc _ _ _ _ _ _ _ rfl (by decide) (by decide)) (@sndL_nil _ _ _ _ ) (fun _ => rfl)) (List.cons_ne_nil _ _) rfl (by decide))) (fun _ _ => rfl)) (@snd_loc _ _ _ _ _ _ _ rfl (by decide) (by decide)) rfl))) (@sndS_nil _ _ _ _ ))))))
noncomputable def dTryArgs : DenL := (lCons (dLoc 4) (lCons (dLoc 11) (lCons (dLoc 2) lNil)))
noncomputable def dMmArgs : DenL := (lCons (dLoc 3) (lCons (dLoc 3) lNil))
end Mine
end

section
open PySem PyProof.Rows
set_option autoImplicit false
set_option maxRecDepth 100000
namespace Mine

noncomputable def unds (n : Nat) : List AV := List.replicate n .und
/-- make_matrix, as it is told -/
noncomputable def mmRun (as : List AV) (H : List AO) : Option (AV × List AO) :=
  match dM1 (as ++ [.bool true, .bool true] ++ unds (nmMm.length - (as.length + 2))) H with
  | some (.next, ρ, H) => match sAsg 7 (dGen dMit 6) ρ H with
    | some (.next, ρ, H) => match dM2 ρ H with
      | some (.ret v, _, H) => some (v, H)
      | _ => none
    | _ => none
  | _ => none
end Mine
end

section
open PySem PyProof.Rows
set_option autoImplicit false
set_option maxRecDepth 100000
namespace Mine

/-- what stands before the bits are laid: matrix, rows, the mutable ones -/
noncomputable def prep (v : Int) : Option (AV × AV × List AO) :=
  match mmRun [.int (17 + 4 * v), .int (17 + 4 * v)] [] with
  | some (m, H) => match pFp [m, .int (17 + 4 * v), .int (17 + 4 * v)] H with
    | some (_, H) => match pAp [m, .int (17 + 4 * v), .int (17 + 4 * v)] H with
      | some (_, H) => match pLp [.int v] H with
        | some (r, H) => some (m, r, H)
        | none => none
      | none => none
    | none => none
  | none => none
noncomputable def refsFrom (k n : Nat) : List AV := (List.range n).map fun j => .ref (k + j)
noncomputable def refsEq : List AV → List AV → Bool
  | [], [] => true
  | .ref a :: r, .ref b :: t => a == b && refsEq r t
  | _, _ => false
noncomputable def rowsOk (n : Nat) (b : Bool) (H : List AO) : Bool := H.all fun ao => (ao.byt == b) && (ao.xs.length == n)
end Mine
end

section
open PySem PyProof.Rows
set_option autoImplicit false
set_option maxRecDepth 100000
namespace Mine

/-! laying bits into a picture, place by place -/
noncomputable abbrev Pic := List (List Int)
noncomputable def layP (len : Int) (bits : List Int) (s : Int × Pic) (p : Nat × Nat) : Int × Pic := match s.2[p.1]? with
  | some r => if r[p.2]? = some 2 ∧ s.1 < len then (s.1 + 1, s.2.set p.1 (r.set p.2 (bits.getD s.1.toNat 0))) else s
  | none => s

theorem forGo_fold {σ : Type} (Inv : σ → List AV → List AO → Prop) (f : σ → Int → σ) {st : DenT} {body : DenS} : ∀ (ns : List Int) (s : σ) (ρ : List AV) (H : List AO),
    (∀ s n ρ H, n ∈ ns → Inv s ρ H → ∃ ρ₀ ρ' H', st ρ (.int n) = some ρ₀ ∧ body ρ₀ H = some (.next, ρ', H') ∧ Inv (f s n) ρ' H') → Inv s ρ H →
    ∃ ρ' H', forGo st body (ns.map .int) ρ H = some (.next, ρ', H') ∧ Inv (ns.foldl f s) ρ' H'
  | [], s, ρ, H, _, hi => ⟨ρ, H, rfl, hi⟩
  | n :: ns, s, ρ, H, h, hi => by
    obtain ⟨ρ₀, ρ₁, H₁, e1, e2, h1⟩ := h s n ρ H (List.mem_cons_self ..) hi
    obtain ⟨ρ', H', e3, h3⟩ := forGo_fold Inv f ns (f s n) ρ₁ H₁ (fun s m ρ H hm => h s m ρ H (List.mem_cons_of_mem _ hm)) h1
    refine ⟨ρ', H', ?_, h3⟩
    rw [List.map_cons]
    show (match st ρ (.int n) with | some ρ₀ => _ | none => none) = _
    rw [e1]
    show (match body ρ₀ H with | some (.next, ρ₁, H₁) => _ | some (.cont, ρ₁, H₁) => _ | some (.ret v, ρ₁, H₁) => _ | none => none) = _
    rw [e2]
    exact e3

/-- the picture P stands in the mutable ones from k on -/
structure AtK (k : Nat) (b : Bool) (n : Nat) (P : Pic) (H : List AO) : Prop where
  at_ : ∀ (i : Nat) (r : List Int), P[i]? = some r → H[k + i]? = some ⟨b, r⟩
  len : P.length = n
  row : ∀ (i : Nat) (r : List Int), P[i]? = some r → r.length = n

theorem AtK.set {k : Nat} {b : Bool} {n : Nat} {P : Pic} {H : List AO} (h : AtK k b n P H) {i : Nat} {r : List Int} (hr : P[i]? = some r) (j : Nat) (x : Int) : AtK k b n (P.set i (r.set j x)) (H.set (k + i) ⟨b, r.set j x⟩) := by
  have hi : i < P.length := (List.getElem?_eq_some_iff.mp hr).1
  have hk : k + i < H.length := (List.getElem?_eq_some_iff.mp (h.at_ i r hr)).1
  refine ⟨fun m q e => ?_, by rw [List.length_set]; exact h.len, fun m q e => ?_⟩
  · rw [List.getElem?_set] at e ⊢
    by_cases hm : i = m
    · subst hm
      rw [if_pos rfl, if_pos hi] at e
      cases e
      rw [if_pos rfl, if_pos hk]
    · rw [if_neg hm] at e
      rw [if_neg (by omega)]
      exact h.at_ m q e
  · rw [List.getElem?_set] at e
    by_cases hm : i = m
    · subst hm
      rw [if_pos rfl, if_pos hi] at e
      cases e
      rw [List.length_set]; exact h.row i r hr
    · rw [if_neg hm] at e; exact h.row m q e
theorem refsFrom_get {k n i : Nat} (h : i < n) : (refsFrom k n)[i]? = some (.ref (k + i)) := by
  unfold refsFrom; simp [h]
theorem refsFrom_len (k n : Nat) : (refsFrom k n).length = n := by unfold refsFrom; simp

theorem foldl_flat {α β σ : Type} (f : σ → β → σ) (g : α → List β) : ∀ (l : List α) (s : σ), l.foldl (fun s a => (g a).foldl f s) s = (l.flatMap g).foldl f s
  | [], _ => rfl
  | a :: l, s => by rw [List.foldl_cons, List.flatMap_cons, List.foldl_append, foldl_flat f g l]
theorem foldl_map' {α β σ : Type} (f : σ → β → σ) (g : α → β) : ∀ (l : List α) (s : σ), l.foldl (fun s a => f s (g a)) s = (l.map g).foldl f s
  | [], _ => rfl
  | a :: l, s => by rw [List.foldl_cons, List.map_cons, List.foldl_cons, foldl_map' f g l]

/-! how many are laid -/
noncomputable def two (x : Int) : Bool := x == 2
noncomputable def Sim (P P' : Pic) : Prop := P.map (·.map two) = P'.map (·.map two)
theorem Sim.get {P P' : Pic} (h : Sim P P') (i : Nat) : (P[i]?).map (·.map two) = (P'[i]?).map (·.map two) := by
  have := congrArg (fun l => l[i]?) h
  simpa using this
/-- no bound: every free place counts -/
noncomputable def cntP (s : Int × Pic) (p : Nat × Nat) : Int × Pic := match s.2[p.1]? with
  | some r => if r[p.2]? = some 2 then (s.1 + 1, s.2.set p.1 (r.set p.2 0)) else s
  | none => s
theorem two_get {r r' : List Int} (h : r.map two = r'.map two) (j : Nat) : r[j]? = some 2 ↔ r'[j]? = some 2 := by
  have := congrArg (fun l => l[j]?) h
  simp only [List.getElem?_map] at this
  cases e1 : r[j]? with
  | none =>
    rw [e1] at this
    cases e2 : r'[j]? with
    | none => simp
    | some y => rw [e2] at this; simp at this
  | some x =>
    rw [e1] at this
    cases e2 : r'[j]? with
    | none => rw [e2] at this; simp at this
    | some y =>
      rw [e2] at this
      have h' : two x = two y := by simpa using this
      have h2 : (x = 2) ↔ (y = 2) := by
        unfold two at h'
        constructor
        · intro q; rw [q] at h'; simpa using h'.symm
        · intro q; rw [q] at h'; simpa using h'
      simpa using h2
theorem Sim.set {P P' : Pic} (h : Sim P P') {i j : Nat} {r r' : List Int} (e : P[i]? = some r) (e' : P'[i]? = some r') {x y : Int} (hx : x ≠ 2) (hy : y ≠ 2) : Sim (P.set i (r.set j x)) (P'.set i (r'.set j y)) := by
  unfold Sim at h ⊢
  rw [List.map_set, List.map_set, h, List.map_set, List.map_set]
  have h2 : r.map two = r'.map two := by
    have := Sim.get h i; rw [e, e'] at this; simpa using this
  have hxx : two x = two y := by
    unfold two
    rw [beq_eq_false_iff_ne.mpr hx, beq_eq_false_iff_ne.mpr hy]
  rw [h2, hxx]
/-- laying with a bound against counting without one -/
theorem lay_cnt {len : Int} {bits : List Int} (hlen : 0 ≤ len) (hb : ∀ x ∈ bits, x ≠ 2) : ∀ (ps : List (Nat × Nat)) (a c : Int) (P P' : Pic), ((a = c ∧ c ≤ len ∧ Sim P P') ∨ (a = len ∧ len ≤ c)) →
    (ps.foldl (layP len bits) (a, P)).1 = min len (ps.foldl cntP (c, P')).1
  | [], a, c, P, P', h => by
    simp only [List.foldl_nil]
    rcases h with ⟨h1, h2, _⟩ | ⟨h1, h2⟩ <;> omega
  | p :: ps, a, c, P, P', h => by
    rw [List.foldl_cons, List.foldl_cons]
    have hgd : ∀ m : Nat, bits.getD m 0 ≠ 2 := fun m => by
      rw [List.getD_eq_getElem?_getD]
      cases e : bits[m]? with
      | none => simp
      | some x => simp; exact hb x (List.mem_of_getElem? e)
    rcases h with ⟨rfl, h2, h3⟩ | ⟨rfl, h2⟩
    · have hg := h3.get p.1
      unfold layP cntP
      dsimp only
      cases e1 : P[p.1]? with
      | none =>
        rw [e1] at hg
        cases e2 : P'[p.1]? with
        | none => exact lay_cnt hlen hb ps _ _ _ _ (.inl ⟨rfl, h2, h3⟩)
        | some r' => rw [e2] at hg; simp at hg
      | some r =>
        rw [e1] at hg
        cases e2 : P'[p.1]? with
        | none => rw [e2] at hg; simp at hg
        | some r' =>
          rw [e2] at hg
          have hrr : r.map two = r'.map two := by simpa using hg
          have htt := two_get hrr p.2
          dsimp only
          by_cases hj : r'[p.2]? = some 2
          · rw [if_pos hj]
            by_cases hl : a < len
            · rw [if_pos ⟨htt.mpr hj, hl⟩]
              exact lay_cnt hlen hb ps _ _ _ _ (.inl ⟨rfl, by omega, h3.set e1 e2 (hgd _) (by decide)⟩)
            · rw [if_neg (fun q => hl q.2)]
              exact lay_cnt hlen hb ps _ _ _ _ (.inr ⟨by omega, by omega⟩)
          · rw [if_neg hj, if_neg (fun q => hj (htt.mp q.1))]
            exact lay_cnt hlen hb ps _ _ _ _ (.inl ⟨rfl, h2, h3⟩)
    · have ha : ∀ s : Pic, layP a bits (a, s) p = (a, s) := fun s => by
        unfold layP
        dsimp only
        split
        · rw [if_neg (fun q => absurd q.2 (by omega))]
        · rfl
      rw [ha]
      have hc : ∃ c' P'', cntP (c, P') p = (c', P'') ∧ c ≤ c' := by
        unfold cntP
        dsimp only
        split
        · split
          · exact ⟨_, _, rfl, by omega⟩
          · exact ⟨_, _, rfl, by omega⟩
        · exact ⟨_, _, rfl, by omega⟩
      obtain ⟨c', P'', hc1, hc2⟩ := hc
      rw [hc1]
      exact lay_cnt hlen hb ps _ _ _ _ (.inr ⟨rfl, by omega⟩)
end Mine
end

section
open PySem PyProof.Rows
set_option autoImplicit false
set_option maxRecDepth 100000
set_option maxHeartbeats 4000000
namespace Mine

noncomputable def inTail : DenS := (sCons (sAsg 15 (dIdx (dLoc 0) (dLoc 14))) (sCons (sIf (bAnd (bCmp .eq (dIdx (dLoc 15) (dLoc 12)) (dInt 2)) (bAnd (bCmp .lt (dLoc 6) (dLoc 7)) bTrue)) (sCons (sSetI (dIdx (dLoc 1) (dLoc 6)) (dLoc 15) (dLoc 12)) (sCons (sAug 6 .add (dInt 1)) sNil)) sNil) sNil))
noncomputable def inB : DenS := (sCons (sAsg 12 (dBin .sub (dLoc 9) (dLoc 11))) (sCons (sAsg 13 (dCmp .eq (dBin .band (dBin .add (dLoc 9) (dLoc 5)) (dInt 2)) (dInt 0))) (sCons (sIf (bNot (bVal (dLoc 4))) (sCons (sAug 13 .bxor (dCmp .lt (dLoc 12) (dInt 6))) sNil) sNil) (sCons (sAsg 14 (dIte (bVal (dLoc 13)) (dBin .sub (dBin .sub (dLoc 3) (dInt 1)) (dLoc 10)) (dLoc 10))) inTail))))
noncomputable def outB : DenS := (sCons (sIf (bAnd (bNot (bVal (dLoc 4))) (bAnd (bCmp .le (dLoc 9) (dInt 6)) bTrue)) (sCons (sAug 9 .sub (dInt 1)) sNil) sNil) (sCons (sFor (tgN 10) (dCall (lCons (dLoc 3) lNil) pRange) (sCons (sFor (tgN 11) (dLoc 8) inB) sNil)) sNil))
theorem dC1_eq : dC1 = (sCons (sAsg 3 (dCall (lCons (dLoc 0) lNil) pLen)) (sCons (sAsg 4 (dCmp .lt (dLoc 2) (dInt 1))) (sCons (sAsg 5 (dIte (bCmp .notin (dLoc 2) (dTup (lCons (dGlb (.int (-3))) (lCons (dGlb (.int (-1))) lNil)))) (dInt 0) (dInt 2))) (sCons (sAsg 6 (dInt 0)) (sCons (sAsg 7 (dCall (lCons (dLoc 1) lNil) pLen)) (sCons (sAsg 8 (dCall (lCons (dInt 2) lNil) pRange)) (sCons (sFor (tgN 9) (dCall (lCons (dBin .sub (dLoc 3) (dInt 1)) (lCons (dInt 0) (lCons (dNeg (dInt 2)) lNil))) pRange) outB) sNil))))))) := rfl

/-- the direction at a place of add_codewords -/
noncomputable def upC (right z : Int) : Bool := (Builtin.bitAnd right 2 == 0) != decide (right - z < 6)
noncomputable def iC (n : Nat) (right ve z : Int) : Int := if upC right z then (n : Int) - 1 - ve else ve

theorem in_head {mv cw vv x12 x13 x14 x15 : AV} {n : Nat} {idx len right ve z : Int} {H : List AO} :
    inB [mv, cw, vv, .int n, .bool false, .int 0, .int idx, .int len, .rng 0 2 1, .int right, .int ve, .int z, x12, x13, x14, x15] H =
      inTail [mv, cw, vv, .int n, .bool false, .int 0, .int idx, .int len, .rng 0 2 1, .int right, .int ve, .int z, .int (right - z), .bool (upC right z), .int (iC n right ve z), x15] H := by
  unfold iC
  cases hu : upC right z with
  | true =>
    unfold upC at hu
    simp [inB, sCons, sAsg, dLoc, dBin, bop, bInt, dCmp, cop, sIf, bNot, bVal, sAug, augV, dIte, AV.isUnd, dInt, sNil, hu]
  | false =>
    unfold upC at hu
    simp [inB, sCons, sAsg, dLoc, dBin, bop, bInt, dCmp, cop, sIf, bNot, bVal, sAug, augV, dIte, AV.isUnd, dInt, sNil, hu]

section
variable {k n : Nat} {b : Bool} {H : List AO}
theorem idx_tup {i : Int} (h0 : 0 ≤ i) (h1 : i < n) (hn : n ≤ 1000) : idxV (.tup (refsFrom k n)) (.int i) H = some (.ref (k + i.toNat)) := by
  unfold idxV
  dsimp only
  rw [if_pos (by omega), refsFrom_len, seqIndex_at h0 h1]
  show (refsFrom k n)[i.toNat]? = _
  exact refsFrom_get (by omega)
theorem idx_lst {i : Int} (h0 : 0 ≤ i) (h1 : i < n) (hn : n ≤ 1000) : idxV (.lst (refsFrom k n)) (.int i) H = some (.ref (k + i.toNat)) := by
  unfold idxV
  dsimp only
  rw [if_pos (by omega), refsFrom_len, seqIndex_at h0 h1]
  show (refsFrom k n)[i.toNat]? = _
  exact refsFrom_get (by omega)
theorem idx_ref {m : Nat} {j x : Int} {ao : AO} (hm : H[m]? = some ao) (h0 : 0 ≤ j) (hx : ao.xs[j.toNat]? = some x) (hl : ao.xs.length ≤ 1000) : idxV (.ref m) (.int j) H = some (.int x) := by
  have h1 : j.toNat < ao.xs.length := (List.getElem?_eq_some_iff.mp hx).1
  have h2 : j < ao.xs.length := by omega
  unfold idxV
  dsimp only
  rw [hm]
  dsimp only
  rw [if_pos (by omega), seqIndex_at h0 h2]
  show Option.map _ (ao.xs[j.toNat]?) = _
  rw [hx]; rfl
theorem idx_bits {bits : List Int} {idx : Int} (h0 : 0 ≤ idx) (h1 : idx < bits.length) (hl : bits.length ≤ 100000) : idxV (.lst (bits.map .int)) (.int idx) H = some (.int (bits.getD idx.toNat 0)) := by
  unfold idxV
  dsimp only
  rw [if_pos (by omega), List.length_map, seqIndex_at h0 h1]
  show (bits.map AV.int)[idx.toNat]? = _
  have h2 : idx.toNat < bits.length := by omega
  rw [List.getElem?_map, List.getD_eq_getElem?_getD, List.getElem?_eq_getElem h2]; rfl
theorem set_ref {m : Nat} {j x : Int} {ao : AO} (hm : H[m]? = some ao) (h0 : 0 ≤ j) (h1 : j < ao.xs.length) (hl : ao.xs.length ≤ 1000) (hx : 0 ≤ x ∧ x < 256) : setV (.ref m) (.int j) (.int x) H = some (H.set m ⟨ao.byt, ao.xs.set j.toNat x⟩) := by
  unfold setV
  dsimp only
  rw [hm]
  dsimp only
  rw [if_pos (by omega), seqIndex_at h0 h1]
  dsimp only
  rw [if_pos]
  unfold setOk
  split
  · simp [hx.1, hx.2]
  · simp [h0]

theorem in_tail {cw vv x13 x15 : AV} {bits : List Int} {idx right ve z j i : Int} {P : Pic} (hk : AtK k b n P H) (hn : n ≤ 1000) (h0 : 0 ≤ i) (h1 : i < n) (h2 : 0 ≤ j) (h3 : j < n) (hi : 0 ≤ idx) (hl : bits.length ≤ 100000) (hb : ∀ x ∈ bits, 0 ≤ x ∧ x < 256) :
    ∃ H' P', layP bits.length bits (idx, P) (i.toNat, j.toNat) = P' ∧ AtK k b n P'.2 H' ∧ 0 ≤ P'.1 ∧ H'.length = H.length ∧ (∀ m, (m < k ∨ k + n ≤ m) → H'[m]? = H[m]?) ∧
      inTail [.tup (refsFrom k n), .lst (bits.map .int), vv, .int n, .bool false, .int 0, .int idx, .int (bits.length : Nat), .rng 0 2 1, .int right, .int ve, .int z, .int j, x13, .int i, x15] H =
        some (.next, [.tup (refsFrom k n), .lst (bits.map .int), vv, .int n, .bool false, .int 0, .int P'.1, .int (bits.length : Nat), .rng 0 2 1, .int right, .int ve, .int z, .int j, x13, .int i, .ref (k + i.toNat)], H') := by
  have hiP : i.toNat < P.length := by rw [hk.len]; omega
  have hr : P[i.toNat]? = some P[i.toNat] := List.getElem?_eq_getElem hiP
  generalize P[i.toNat] = r at hr
  have hH := hk.at_ _ _ hr
  have hrl := hk.row _ _ hr
  have hjr : j.toNat < r.length := by rw [hrl]; omega
  have hx : r[j.toNat]? = some r[j.toNat] := List.getElem?_eq_getElem hjr
  generalize r[j.toNat] = x at hx
  have e1 := idx_tup (k := k) (H := H) h0 h1 hn
  have e2 := idx_ref hH h2 hx (by show r.length ≤ 1000; rw [hrl]; exact hn)
  by_cases hc : x = 2 ∧ idx < (bits.length : Nat)
  · obtain ⟨hx2, hlt⟩ := hc
    subst hx2
    have e3 := idx_bits (H := H) hi hlt hl
    have hbx : 0 ≤ bits.getD idx.toNat 0 ∧ bits.getD idx.toNat 0 < 256 := by
      have h2 : idx.toNat < bits.length := by omega
      rw [List.getD_eq_getElem?_getD, List.getElem?_eq_getElem h2]
      exact hb _ (List.getElem_mem h2)
    have e4 := set_ref hH h2 (by show j < (r.length : Nat); rw [hrl]; exact h3) (by show r.length ≤ 1000; rw [hrl]; exact hn) hbx
    generalize hbt : bits.getD idx.toNat 0 = bt at e3 e4 hbx
    refine ⟨H.set (k + i.toNat) ⟨b, r.set j.toNat bt⟩, (idx + 1, P.set i.toNat (r.set j.toNat bt)), ?_, hk.set hr _ _, by show 0 ≤ idx + 1; omega, List.length_set, fun m hm => ?_, ?_⟩
    · unfold layP
      dsimp only
      rw [hr]
      dsimp only
      rw [if_pos ⟨hx, hlt⟩, hbt]
    · rw [List.getElem?_set, if_neg (by omega)]
    · simp [inTail, sCons, sAsg, dLoc, dIdx, sIf, bAnd, bCmp, cop, AV.isUnd, dInt, bTrue, sSetI, sAug, augV, bInt, sNil, e1, e2, e3, e4, hlt]
  · refine ⟨H, (idx, P), ?_, hk, hi, rfl, fun _ _ => rfl, ?_⟩
    · unfold layP
      dsimp only
      rw [hr]
      dsimp only
      rw [if_neg]
      rintro ⟨q1, q2⟩
      rw [hx] at q1; cases q1
      exact hc ⟨rfl, q2⟩
    · by_cases hx2 : x = 2
      · have hlt : ¬ idx < (bits.length : Nat) := fun q => hc ⟨hx2, q⟩
        subst hx2
        simp [inTail, sCons, sAsg, dLoc, dIdx, sIf, bAnd, bCmp, cop, AV.isUnd, dInt, bTrue, sSetI, sAug, augV, bInt, sNil, e1, e2, hlt]
      · have hxb : (x == 2) = false := by simpa using hx2
        simp [inTail, sCons, sAsg, dLoc, dIdx, sIf, bAnd, bCmp, cop, AV.isUnd, dInt, bTrue, sSetI, sAug, augV, bInt, sNil, e1, e2, hxb]
end
end Mine
end

section
open PySem PyProof.Rows
set_option autoImplicit false
set_option maxRecDepth 100000
set_option maxHeartbeats 4000000
namespace Mine

/-- what the loops keep: the picture at k, all else as it was -/
structure Keep (k : Nat) (b : Bool) (n : Nat) (H₀ : List AO) (s : Int × Pic) (H : List AO) : Prop where
  at_ : AtK k b n s.2 H
  pos : 0 ≤ s.1
  len : H.length = H₀.length
  out : ∀ m, (m < k ∨ k + n ≤ m) → H[m]? = H₀[m]?

section
variable {k n : Nat} {b : Bool} {H₀ : List AO} {bits : List Int} {vv : AV}

noncomputable def rhoC (k n : Nat) (bits : List Int) (vv : AV) (idx : Int) (x9 x10 x11 x12 x13 x14 x15 : AV) : List AV :=
  [.tup (refsFrom k n), .lst (bits.map .int), vv, .int n, .bool false, .int 0, .int idx, .int (bits.length : Nat), .rng 0 2 1, x9, x10, x11, x12, x13, x14, x15]
noncomputable def InvC (k n : Nat) (b : Bool) (bits : List Int) (vv : AV) (H₀ : List AO) (s : Int × Pic) (ρ : List AV) (H : List AO) : Prop :=
  Keep k b n H₀ s H ∧ ∃ x9 x10 x11 x12 x13 x14 x15, ρ = rhoC k n bits vv s.1 x9 x10 x11 x12 x13 x14 x15
noncomputable def InvC9 (k n : Nat) (b : Bool) (bits : List Int) (vv : AV) (H₀ : List AO) (right : Int) (s : Int × Pic) (ρ : List AV) (H : List AO) : Prop :=
  Keep k b n H₀ s H ∧ ∃ x10 x11 x12 x13 x14 x15, ρ = rhoC k n bits vv s.1 (.int right) x10 x11 x12 x13 x14 x15
noncomputable def InvC10 (k n : Nat) (b : Bool) (bits : List Int) (vv : AV) (H₀ : List AO) (right ve : Int) (s : Int × Pic) (ρ : List AV) (H : List AO) : Prop :=
  Keep k b n H₀ s H ∧ ∃ x11 x12 x13 x14 x15, ρ = rhoC k n bits vv s.1 (.int right) (.int ve) x11 x12 x13 x14 x15

theorem inB_step (hn : n ≤ 1000) (hl : bits.length ≤ 100000) (hb : ∀ x ∈ bits, 0 ≤ x ∧ x < 256) {right ve z : Int} (h0 : 0 ≤ ve) (h1 : ve < n) (h2 : 0 ≤ right - z) (h3 : right - z < n) {s : Int × Pic} {H : List AO} {x12 x13 x14 x15 : AV} (hk : Keep k b n H₀ s H) :
    ∃ ρ' H', inB (rhoC k n bits vv s.1 (.int right) (.int ve) (.int z) x12 x13 x14 x15) H = some (.next, ρ', H') ∧ InvC10 k n b bits vv H₀ right ve (layP bits.length bits s ((iC n right ve z).toNat, (right - z).toNat)) ρ' H' := by
  obtain ⟨idx, P⟩ := s
  have hi0 : 0 ≤ iC n right ve z := by unfold iC; split <;> omega
  have hi1 : iC n right ve z < n := by unfold iC; split <;> omega
  obtain ⟨H', P', e1, a1, a2, a3, a4, e2⟩ := in_tail (cw := .none) (vv := vv) (x13 := .bool (upC right z)) (x15 := x15) (right := right) (ve := ve) (z := z) hk.at_ hn hi0 hi1 h2 h3 hk.pos hl hb
  refine ⟨rhoC k n bits vv P'.1 (.int right) (.int ve) (.int z) (.int (right - z)) (.bool (upC right z)) (.int (iC n right ve z)) (.ref (k + (iC n right ve z).toNat)), H', ?_, ?_⟩
  · unfold rhoC
    rw [in_head]
    exact e2
  · have e1' : layP bits.length bits (idx, P) ((iC n right ve z).toNat, (right - z).toNat) = P' := e1
    rw [e1']
    exact ⟨⟨a1, a2, a3.trans hk.len, fun m hm => (a4 m hm).trans (hk.out m hm)⟩, _, _, _, _, _, rfl⟩

theorem sCons_next {f g : DenS} {ρ ρ₁ : List AV} {H H₁ : List AO} (h : f ρ H = some (.next, ρ₁, H₁)) : sCons f g ρ H = g ρ₁ H₁ := by
  unfold sCons; rw [h]
theorem sFor_of {st : DenT} {it : Den} {body : DenS} {ρ : List AV} {H H₁ : List AO} {a : AV} {xs : List AV} (h : it ρ H = some (a, H₁)) (hx : itemsOf a = some xs) : sFor st it body ρ H = forGo st body xs ρ H₁ := by
  unfold sFor; rw [h]; dsimp only; rw [hx]

theorem pRange3 {a b c : Int} {H : List AO} (hc : c ≠ 0) (hc2 : c.natAbs < 1073741824) : pRange [.int a, .int b, .int c] H = some (.rng a b c, H) := by
  unfold pRange; dsimp only; rw [if_pos ⟨hc, hc2⟩]

noncomputable def foldZ (n : Nat) (bits : List Int) (right ve : Int) (s : Int × Pic) (z : Int) : Int × Pic := layP bits.length bits s ((iC n right ve z).toNat, (right - z).toNat)
noncomputable def foldV (n : Nat) (bits : List Int) (right : Int) (s : Int × Pic) (ve : Int) : Int × Pic := ([0, 1] : List Int).foldl (foldZ n bits right ve) s
noncomputable def adj (r : Int) : Int := if r ≤ 6 then r - 1 else r
noncomputable def foldR (n : Nat) (bits : List Int) (s : Int × Pic) (r : Int) : Int × Pic := (rngInts 0 n 1).foldl (foldV n bits (adj r)) s

theorem itemsOf_rng {a b c : Int} (h : Builtin.Range.small a b c = true) (h' : 0 ≤ Builtin.Range.rangeSize a b c) : itemsOf (.rng a b c) = some ((rngInts a b c).map .int) := by
  unfold itemsOf; dsimp only; rw [if_pos ⟨h, h'⟩]

theorem rng02 : itemsOf (.rng 0 2 1) = some (([0, 1] : List Int).map .int) := itemsOf_rng (by decide +kernel) (by decide +kernel)

theorem zLoop (hn : n ≤ 1000) (hl : bits.length ≤ 100000) (hb : ∀ x ∈ bits, 0 ≤ x ∧ x < 256) {right ve : Int} (h0 : 0 ≤ ve) (h1 : ve < n) (h2 : 1 ≤ right) (h3 : right < n) {s : Int × Pic} {H : List AO} {ρ : List AV} (hi : InvC10 k n b bits vv H₀ right ve s ρ H) :
    ∃ ρ' H', (sCons (sFor (tgN 11) (dLoc 8) inB) sNil) ρ H = some (.next, ρ', H') ∧ InvC9 k n b bits vv H₀ right (foldV n bits right s ve) ρ' H' := by
  obtain ⟨ρ', H', e, hI⟩ := forGo_fold (st := tgN 11) (body := inB) (InvC10 k n b bits vv H₀ right ve) (foldZ n bits right ve) [0, 1] s ρ H (fun s z ρ H hz hI => by
    obtain ⟨hk, x11, x12, x13, x14, x15, rfl⟩ := hI
    have hz' : z = 0 ∨ z = 1 := by simpa using hz
    obtain ⟨ρ', H', e1, e2⟩ := inB_step (vv := vv) (x12 := x12) (x13 := x13) (x14 := x14) (x15 := x15) hn hl hb (right := right) (ve := ve) (z := z) h0 h1 (by omega) (by omega) hk
    exact ⟨_, ρ', H', rfl, e1, e2⟩) hi
  obtain ⟨hk, x11, x12, x13, x14, x15, rfl⟩ := hI
  refine ⟨rhoC k n bits vv (List.foldl (foldZ n bits right ve) s [0, 1]).1 (.int right) (.int ve) x11 x12 x13 x14 x15, H', ?_, hk, _, _, _, _, _, _, rfl⟩
  obtain ⟨_, y11, y12, y13, y14, y15, rfl⟩ := hi
  have hd : dLoc 8 (rhoC k n bits vv s.1 (.int right) (.int ve) y11 y12 y13 y14 y15) H = some (.rng 0 2 1, H) := rfl
  rw [sCons_next ((sFor_of hd rng02).trans e)]
  rfl

theorem vLoop (hn : n ≤ 1000) (hl : bits.length ≤ 100000) (hb : ∀ x ∈ bits, 0 ≤ x ∧ x < 256) (hsm : Builtin.Range.small 0 n 1 = true) (hrs : 0 ≤ Builtin.Range.rangeSize 0 n 1) (hmem : ∀ r ∈ rngInts 0 n 1, 0 ≤ r ∧ r < n) {right : Int} (h2 : 1 ≤ right) (h3 : right < n) {s : Int × Pic} {H : List AO} {ρ : List AV} (hi : InvC9 k n b bits vv H₀ right s ρ H) :
    ∃ ρ' H', (sFor (tgN 10) (dCall (lCons (dLoc 3) lNil) pRange) (sCons (sFor (tgN 11) (dLoc 8) inB) sNil)) ρ H = some (.next, ρ', H') ∧ InvC k n b bits vv H₀ ((rngInts 0 n 1).foldl (foldV n bits right) s) ρ' H' := by
  obtain ⟨ρ', H', e, hI⟩ := forGo_fold (st := tgN 10) (body := (sCons (sFor (tgN 11) (dLoc 8) inB) sNil)) (InvC9 k n b bits vv H₀ right) (foldV n bits right) (rngInts 0 n 1) s ρ H (fun s ve ρ H hv hI => by
    obtain ⟨hk, x10, x11, x12, x13, x14, x15, rfl⟩ := hI
    obtain ⟨ρ', H', e1, e2⟩ := zLoop (vv := vv) hn hl hb (hmem ve hv).1 (hmem ve hv).2 h2 h3 (s := s) (H := H) (ρ := rhoC k n bits vv s.1 (.int right) (.int ve) x11 x12 x13 x14 x15) ⟨hk, _, _, _, _, _, rfl⟩
    exact ⟨_, ρ', H', rfl, e1, e2⟩) hi
  obtain ⟨hk, x10, x11, x12, x13, x14, x15, rfl⟩ := hI
  refine ⟨rhoC k n bits vv (List.foldl (foldV n bits right) s (rngInts 0 n 1)).1 (.int right) x10 x11 x12 x13 x14 x15, H', ?_, hk, _, _, _, _, _, _, _, rfl⟩
  obtain ⟨_, y10, y11, y12, y13, y14, y15, rfl⟩ := hi
  exact (sFor_of (a := .rng 0 n 1) (H₁ := H) (by simp [rhoC, dCall, lCons, lNil, dLoc, AV.isUnd, pRange]) (itemsOf_rng hsm hrs)).trans e

theorem outB_eq {s1 r : Int} {x10 x11 x12 x13 x14 x15 : AV} {H : List AO} : outB (rhoC k n bits vv s1 (.int r) x10 x11 x12 x13 x14 x15) H = (sCons (sFor (tgN 10) (dCall (lCons (dLoc 3) lNil) pRange) (sCons (sFor (tgN 11) (dLoc 8) inB) sNil)) sNil) (rhoC k n bits vv s1 (.int (adj r)) x10 x11 x12 x13 x14 x15) H := by
  unfold outB
  generalize (sCons (sFor (tgN 10) (dCall (lCons (dLoc 3) lNil) pRange) (sCons (sFor (tgN 11) (dLoc 8) inB) sNil)) sNil) = G
  unfold adj
  by_cases h6 : r ≤ 6
  · simp [rhoC, sCons, sIf, bAnd, bNot, bVal, bCmp, cop, dLoc, AV.isUnd, dInt, bTrue, sAug, augV, bInt, sNil, h6]
  · simp [rhoC, sCons, sIf, bAnd, bNot, bVal, bCmp, cop, dLoc, AV.isUnd, dInt, bTrue, sAug, augV, bInt, sNil, h6]

theorem rIter {idx : Int} {y9 y10 y11 y12 y13 y14 y15 : AV} {H : List AO} : dCall (lCons (dBin .sub (dLoc 3) (dInt 1)) (lCons (dInt 0) (lCons (dNeg (dInt 2)) lNil))) pRange (rhoC k n bits vv idx y9 y10 y11 y12 y13 y14 y15) H = pRange [.int ((n : Int) - 1), .int 0, .int (-2)] H := by
  simp [rhoC, dCall, lCons, lNil, dLoc, AV.isUnd, dBin, bop, bInt, dInt, dNeg]
theorem rRange {H : List AO} : pRange [.int ((n : Int) - 1), .int 0, .int (-2)] H = some (.rng ((n : Int) - 1) 0 (-2), H) := pRange3 (by decide) (by decide)

theorem rStep (hn : n ≤ 1000) (hl : bits.length ≤ 100000) (hb : ∀ x ∈ bits, 0 ≤ x ∧ x < 256) (hsm : Builtin.Range.small 0 n 1 = true) (hrs : 0 ≤ Builtin.Range.rangeSize 0 n 1) (hmem : ∀ r ∈ rngInts 0 n 1, 0 ≤ r ∧ r < n)
    {s : Int × Pic} {r : Int} {ρ : List AV} {H : List AO} (m1 : 2 ≤ r) (m2 : r < n) (hI : InvC k n b bits vv H₀ s ρ H) :
    ∃ ρ₀ ρ' H', tgN 9 ρ (.int r) = some ρ₀ ∧ outB ρ₀ H = some (.next, ρ', H') ∧ InvC k n b bits vv H₀ (foldR n bits s r) ρ' H' := by
  obtain ⟨hk, x9, x10, x11, x12, x13, x14, x15, rfl⟩ := hI
  have ha1 : 1 ≤ adj r := by unfold adj; split <;> omega
  have ha2 : adj r < n := by unfold adj; split <;> omega
  obtain ⟨ρ', H', e1, e2⟩ := vLoop (vv := vv) hn hl hb hsm hrs hmem ha1 ha2 (s := s) (H := H) (ρ := rhoC k n bits vv s.1 (.int (adj r)) x10 x11 x12 x13 x14 x15) ⟨hk, _, _, _, _, _, _, rfl⟩
  refine ⟨rhoC k n bits vv s.1 (.int r) x10 x11 x12 x13 x14 x15, ρ', H', rfl, ?_, ?_⟩
  · rw [outB_eq, sCons_next e1]; rfl
  · unfold foldR; exact e2

theorem rLoop (hn : n ≤ 1000) (hl : bits.length ≤ 100000) (hb : ∀ x ∈ bits, 0 ≤ x ∧ x < 256) (hsm : Builtin.Range.small 0 n 1 = true) (hrs : 0 ≤ Builtin.Range.rangeSize 0 n 1) (hmem : ∀ r ∈ rngInts 0 n 1, 0 ≤ r ∧ r < n)
    (hsm2 : Builtin.Range.small (n - 1) 0 (-2) = true) (hrs2 : 0 ≤ Builtin.Range.rangeSize (n - 1) 0 (-2)) (hmem2 : ∀ r ∈ rngInts (n - 1) 0 (-2), 2 ≤ r ∧ r < n) {s : Int × Pic} {H : List AO} {ρ : List AV} (hi : InvC k n b bits vv H₀ s ρ H) :
    ∃ ρ' H', (sFor (tgN 9) (dCall (lCons (dBin .sub (dLoc 3) (dInt 1)) (lCons (dInt 0) (lCons (dNeg (dInt 2)) lNil))) pRange) outB) ρ H = some (.next, ρ', H') ∧ InvC k n b bits vv H₀ ((rngInts (n - 1) 0 (-2)).foldl (foldR n bits) s) ρ' H' := by
  obtain ⟨ρ', H', e, hI⟩ := forGo_fold (st := tgN 9) (body := outB) (InvC k n b bits vv H₀) (foldR n bits) (rngInts (n - 1) 0 (-2)) s ρ H (fun s r ρ H hr hI => rStep hn hl hb hsm hrs hmem (hmem2 r hr).1 (hmem2 r hr).2 hI) hi
  refine ⟨ρ', H', ?_, hI⟩
  obtain ⟨_, y9, y10, y11, y12, y13, y14, y15, rfl⟩ := hi
  exact (sFor_of (rIter.trans rRange) (itemsOf_rng hsm2 hrs2)).trans e
end
end Mine
end

section
open PySem PyProof.Rows
set_option autoImplicit false
set_option maxRecDepth 100000
set_option maxHeartbeats 4000000
set_option linter.unusedSimpArgs false
namespace Mine

/-- what a size must answer -/
structure Side (n : Nat) : Prop where
  n1 : n ≤ 1000
  sm : Builtin.Range.small 0 n 1 = true
  rs : 0 ≤ Builtin.Range.rangeSize 0 n 1
  mem : ∀ r ∈ rngInts 0 n 1, 0 ≤ r ∧ r < n
  sm2 : Builtin.Range.small (n - 1) 0 (-2) = true
  rs2 : 0 ≤ Builtin.Range.rangeSize (n - 1) 0 (-2)
  mem2 : ∀ r ∈ rngInts (n - 1) 0 (-2), 2 ≤ r ∧ r < n

noncomputable def foldC (n : Nat) (bits : List Int) (s : Int × Pic) : Int × Pic := (rngInts (n - 1) 0 (-2)).foldl (foldR n bits) s
noncomputable def placesC (n : Nat) : List (Nat × Nat) := (rngInts (n - 1) 0 (-2)).flatMap fun r => (rngInts 0 n 1).flatMap fun ve => ([0, 1] : List Int).map fun z => ((iC n (adj r) ve z).toNat, (adj r - z).toNat)
theorem foldC_eq (n : Nat) (bits : List Int) (s : Int × Pic) : foldC n bits s = (placesC n).foldl (layP bits.length bits) s := by
  unfold foldC placesC
  rw [← foldl_flat]
  congr 1
  funext s r
  unfold foldR
  rw [← foldl_flat]
  congr 1

theorem notin_ok {v : Int} (hv : 2 ≤ v) {H : List AO} : cop .notin (.int v) (.tup [.int (-3), .int (-1)]) H = some true := by
  have h1 : ((-3 : Int) == v) = false := by simp; omega
  have h2 : ((-1 : Int) == v) = false := by simp; omega
  simp only [cop, toPy, toPys]
  rw [if_pos (by unfold PyData.depth; omega)]
  simp [PyData.eqv, h1, h2]

section
variable {k n : Nat} {b : Bool} {bits : List Int} {H : List AO}
theorem c1_head {v : Int} (hv : 2 ≤ v) (hn : n ≤ 1000) (hl : bits.length ≤ 100000) :
    dC1 ([.tup (refsFrom k n), .lst (bits.map .int), .int v] ++ unds 13) H = (sCons (sFor (tgN 9) (dCall (lCons (dBin .sub (dLoc 3) (dInt 1)) (lCons (dInt 0) (lCons (dNeg (dInt 2)) lNil))) pRange) outB) sNil) (rhoC k n bits (.int v) 0 .und .und .und .und .und .und .und) H := by
  rw [dC1_eq]
  generalize (sCons (sFor (tgN 9) (dCall (lCons (dBin .sub (dLoc 3) (dInt 1)) (lCons (dInt 0) (lCons (dNeg (dInt 2)) lNil))) pRange) outB) sNil) = G
  have h1 : cop .lt (.int v) (.int 1) H = some false := by simp [cop]; omega
  have h2 : n ≤ 1000000 := by omega
  have h3 : bits.length ≤ 1000000 := by omega
  have h4 := notin_ok hv (H := H)
  have h5 : (refsFrom k n).length = n := refsFrom_len k n
  have s0 : sAsg 3 (dCall (lCons (dLoc 0) lNil) pLen) ([.tup (refsFrom k n), .lst (bits.map .int), .int v] ++ unds 13) H = some (.next, [.tup (refsFrom k n), .lst (bits.map .int), .int v, .int n] ++ unds 12, H) := by
    simp [unds, List.replicate, sAsg, dCall, lCons, lNil, dLoc, AV.isUnd, pLen, h2, h5]
  have s1 : sAsg 4 (dCmp .lt (dLoc 2) (dInt 1)) ([.tup (refsFrom k n), .lst (bits.map .int), .int v, .int n] ++ unds 12) H = some (.next, [.tup (refsFrom k n), .lst (bits.map .int), .int v, .int n, .bool false] ++ unds 11, H) := by
    simp [unds, List.replicate, sAsg, dCmp, dLoc, dInt, AV.isUnd, h1]
  have s2 : sAsg 5 (dIte (bCmp .notin (dLoc 2) (dTup (lCons (dGlb (.int (-3))) (lCons (dGlb (.int (-1))) lNil)))) (dInt 0) (dInt 2)) ([.tup (refsFrom k n), .lst (bits.map .int), .int v, .int n, .bool false] ++ unds 11) H = some (.next, [.tup (refsFrom k n), .lst (bits.map .int), .int v, .int n, .bool false, .int 0] ++ unds 10, H) := by
    simp [unds, List.replicate, sAsg, dIte, bCmp, dLoc, dInt, AV.isUnd, dTup, lCons, lNil, dGlb, h4]
  have s3 : sAsg 6 (dInt 0) ([.tup (refsFrom k n), .lst (bits.map .int), .int v, .int n, .bool false, .int 0] ++ unds 10) H = some (.next, [.tup (refsFrom k n), .lst (bits.map .int), .int v, .int n, .bool false, .int 0, .int 0] ++ unds 9, H) := by
    simp [unds, List.replicate, sAsg, dInt]
  have s4 : sAsg 7 (dCall (lCons (dLoc 1) lNil) pLen) ([.tup (refsFrom k n), .lst (bits.map .int), .int v, .int n, .bool false, .int 0, .int 0] ++ unds 9) H = some (.next, [.tup (refsFrom k n), .lst (bits.map .int), .int v, .int n, .bool false, .int 0, .int 0, .int (bits.length : Nat)] ++ unds 8, H) := by
    simp [unds, List.replicate, sAsg, dCall, lCons, lNil, dLoc, AV.isUnd, pLen, h3]
  have s5 : sAsg 8 (dCall (lCons (dInt 2) lNil) pRange) ([.tup (refsFrom k n), .lst (bits.map .int), .int v, .int n, .bool false, .int 0, .int 0, .int (bits.length : Nat)] ++ unds 8) H = some (.next, rhoC k n bits (.int v) 0 .und .und .und .und .und .und .und, H) := by
    simp [unds, List.replicate, sAsg, dCall, lCons, lNil, dInt, pRange, rhoC]
  rw [sCons_next s0, sCons_next s1, sCons_next s2, sCons_next s3, sCons_next s4, sCons_next s5]

theorem c1_run (S : Side n) {v : Int} (hv : 2 ≤ v) (hl : bits.length ≤ 100000) (hb : ∀ x ∈ bits, 0 ≤ x ∧ x < 256) {P : Pic} (hk : AtK k b n P H) :
    ∃ ρ' H', dC1 ([.tup (refsFrom k n), .lst (bits.map .int), .int v] ++ unds 13) H = some (.next, ρ', H') ∧ InvC k n b bits (.int v) H (foldC n bits (0, P)) ρ' H' := by
  obtain ⟨ρ', H', e, hI⟩ := rLoop (k := k) (b := b) (vv := .int v) (H₀ := H) S.n1 hl hb S.sm S.rs S.mem S.sm2 S.rs2 S.mem2 (s := (0, P)) (H := H) (ρ := rhoC k n bits (.int v) 0 .und .und .und .und .und .und .und) ⟨⟨hk, Int.le_refl 0, rfl, fun _ _ => rfl⟩, _, _, _, _, _, _, _, rfl⟩
  refine ⟨ρ', H', ?_, hI⟩
  rw [c1_head hv S.n1 hl, sCons_next e]
  rfl
end
end Mine
end

section
open PySem PyProof.Rows
set_option autoImplicit false
set_option maxRecDepth 100000
set_option maxHeartbeats 4000000
set_option linter.unusedSimpArgs false
namespace Mine

/-! the law's own laying -/
noncomputable def jB : DenS := sCons (sIf (bAnd (bCmp .eq (dIdx (dIdx (dLoc 5) (dLoc 16)) (dLoc 17)) (dInt 2)) (bAnd (bCmp .lt (dLoc 13) (dLoc 8)) bTrue)) (sCons (sSetI (dIdx (dLoc 11) (dLoc 13)) (dIdx (dLoc 5) (dLoc 16)) (dLoc 17)) (sCons (sAug 13 .add (dInt 1)) sNil)) sNil) sNil
noncomputable def jIt : Den := dSlc (dLoc 12) (ptSome (dBin .mul (dInt 2) (dLoc 14))) (ptSome (dBin .add (dBin .mul (dInt 2) (dLoc 14)) (dInt 2)))
noncomputable def iAs : DenS := sAsg 16 (dIte (bCmp .eq (dBin .mod (dLoc 14) (dInt 2)) (dInt 1)) (dLoc 15) (dBin .sub (dBin .sub (dLoc 3) (dInt 1)) (dLoc 15)))
noncomputable def stepB : DenS := sCons iAs (sCons (sFor (tgN 17) jIt jB) sNil)
noncomputable def pairB : DenS := sCons (sFor (tgN 15) (dCall (lCons (dLoc 3) lNil) pRange) stepB) sNil
noncomputable def pairF : DenS := sFor (tgN 14) (dCall (lCons (dBin .fdiv (dLoc 3) (dInt 2)) lNil) pRange) pairB
noncomputable def dCols : Den := dComp (dCall (lCons (dBin .sub (dLoc 3) (dInt 1)) (lCons (dNeg (dInt 1)) (lCons (dNeg (dInt 1)) lNil))) pRange) 1 none (bCmp .ne (dLoc 0) (dInt 6)) (aEmit (dLoc 0))
noncomputable def dEnd : Den := dCmp .eq (dComp (dLoc 4) 1 none bTrue (aEmit (dCall (lCons (dLoc 0) lNil) pListB))) (dLoc 5)
theorem dL3_eq : dL3 = sCons (sIf (bCmp .eq (dLoc 7) (dInt 9)) (sCons (sRet (dBool false)) sNil) sNil) (sCons (sAsg 12 dCols) (sCons (sAsg 13 (dInt 0)) (sCons pairF (sCons (sRet dEnd) sNil)))) := rfl

noncomputable def sliceP (cols : List Int) (p : Int) : List Int := (cols.drop (lowAt (some (2 * p)) cols.length)).take (highAt (some (2 * p + 2)) cols.length - lowAt (some (2 * p)) cols.length)
noncomputable def iL (n : Nat) (p st : Int) : Int := if p.fmod 2 = 1 then st else (n : Int) - 1 - st

section
variable {k n : Nat} {b : Bool} {H₀ : List AO} {bits cols : List Int} {y0 y1 y2 y4 y6 y7 y9 y10 : AV}
noncomputable def rhoL (k n : Nat) (bits cols : List Int) (y0 y1 y2 y4 y6 y7 y9 y10 : AV) (idx : Int) (x14 x15 x16 x17 : AV) : List AV :=
  [y0, y1, y2, .int n, y4, .lst (refsFrom k n), y6, y7, .int (bits.length : Nat), y9, y10, .lst (bits.map .int), .lst (cols.map .int), .int idx, x14, x15, x16, x17]

theorem jB_step (hn : n ≤ 1000) (hl : bits.length ≤ 100000) (hb : ∀ x ∈ bits, 0 ≤ x ∧ x < 256) {i j : Int} (h0 : 0 ≤ i) (h1 : i < n) (h2 : 0 ≤ j) (h3 : j < n) {s : Int × Pic} {H : List AO} {x14 x15 : AV} (hk : Keep k b n H₀ s H) :
    ∃ H', jB (rhoL k n bits cols y0 y1 y2 y4 y6 y7 y9 y10 s.1 x14 x15 (.int i) (.int j)) H = some (.next, rhoL k n bits cols y0 y1 y2 y4 y6 y7 y9 y10 (layP bits.length bits s (i.toNat, j.toNat)).1 x14 x15 (.int i) (.int j), H') ∧ Keep k b n H₀ (layP bits.length bits s (i.toNat, j.toNat)) H' := by
  obtain ⟨idx, P⟩ := s
  have hA : AtK k b n P H := hk.at_
  have hi : 0 ≤ idx := hk.pos
  have hiP : i.toNat < P.length := by rw [hA.len]; omega
  have hr : P[i.toNat]? = some P[i.toNat] := List.getElem?_eq_getElem hiP
  generalize P[i.toNat] = r at hr
  have hH := hA.at_ _ _ hr
  have hrl := hA.row _ _ hr
  have hjr : j.toNat < r.length := by rw [hrl]; omega
  have hx : r[j.toNat]? = some r[j.toNat] := List.getElem?_eq_getElem hjr
  generalize r[j.toNat] = x at hx
  have e1 := idx_lst (k := k) (H := H) h0 h1 hn
  have e2 := idx_ref hH h2 hx (by show r.length ≤ 1000; rw [hrl]; exact hn)
  by_cases hc : x = 2 ∧ idx < (bits.length : Nat)
  · obtain ⟨hx2, hlt⟩ := hc
    subst hx2
    have e3 := idx_bits (H := H) hi hlt hl
    have hbx : 0 ≤ bits.getD idx.toNat 0 ∧ bits.getD idx.toNat 0 < 256 := by
      have h2 : idx.toNat < bits.length := by omega
      rw [List.getD_eq_getElem?_getD, List.getElem?_eq_getElem h2]
      exact hb _ (List.getElem_mem h2)
    have e4 := set_ref hH h2 (by show j < (r.length : Nat); rw [hrl]; exact h3) (by show r.length ≤ 1000; rw [hrl]; exact hn) hbx
    have e5 : layP bits.length bits (idx, P) (i.toNat, j.toNat) = (idx + 1, P.set i.toNat (r.set j.toNat (bits.getD idx.toNat 0))) := by
      unfold layP
      dsimp only
      rw [hr]
      dsimp only
      rw [if_pos ⟨hx, hlt⟩]
    rw [e5]
    generalize bits.getD idx.toNat 0 = bt at e3 e4 hbx
    refine ⟨H.set (k + i.toNat) ⟨b, r.set j.toNat bt⟩, ?_, hA.set hr _ _, by show 0 ≤ idx + 1; omega, by rw [List.length_set]; exact hk.len, fun m hm => ?_⟩
    · simp [jB, rhoL, sCons, sAsg, dLoc, dIdx, sIf, bAnd, bCmp, cop, AV.isUnd, dInt, bTrue, sSetI, sAug, augV, bInt, sNil, e1, e2, e3, e4, hlt]
    · rw [List.getElem?_set, if_neg (by omega)]; exact hk.out m hm
  · have e5 : layP bits.length bits (idx, P) (i.toNat, j.toNat) = (idx, P) := by
      unfold layP
      dsimp only
      rw [hr]
      dsimp only
      rw [if_neg]
      rintro ⟨q1, q2⟩
      rw [hx] at q1; cases q1
      exact hc ⟨rfl, q2⟩
    rw [e5]
    refine ⟨H, ?_, hk⟩
    by_cases hx2 : x = 2
    · have hlt : ¬ idx < (bits.length : Nat) := fun q => hc ⟨hx2, q⟩
      subst hx2
      simp [jB, rhoL, sCons, sAsg, dLoc, dIdx, sIf, bAnd, bCmp, cop, AV.isUnd, dInt, bTrue, sSetI, sAug, augV, bInt, sNil, e1, e2, hlt]
    · have hxb : (x == 2) = false := by simpa using hx2
      simp [jB, rhoL, sCons, sAsg, dLoc, dIdx, sIf, bAnd, bCmp, cop, AV.isUnd, dInt, bTrue, sSetI, sAug, augV, bInt, sNil, e1, e2, hxb]

noncomputable def lJ (n : Nat) (bits : List Int) (p st : Int) (s : Int × Pic) (j : Int) : Int × Pic := layP bits.length bits s ((iL n p st).toNat, j.toNat)
noncomputable def lS (n : Nat) (bits cols : List Int) (p : Int) (s : Int × Pic) (st : Int) : Int × Pic := (sliceP cols p).foldl (lJ n bits p st) s
noncomputable def lP (n : Nat) (bits cols : List Int) (s : Int × Pic) (p : Int) : Int × Pic := (rngInts 0 n 1).foldl (lS n bits cols p) s

theorem iAs_eq {p st idx : Int} {x16 x17 : AV} {H : List AO} : iAs (rhoL k n bits cols y0 y1 y2 y4 y6 y7 y9 y10 idx (.int p) (.int st) x16 x17) H = some (.next, rhoL k n bits cols y0 y1 y2 y4 y6 y7 y9 y10 idx (.int p) (.int st) (.int (iL n p st)) x17, H) := by
  unfold iL
  by_cases h : p.fmod 2 = 1
  · simp [iAs, rhoL, sAsg, dIte, bCmp, cop, dBin, bop, bInt, dLoc, AV.isUnd, dInt, h]
  · have hb : (p.fmod 2 == 1) = false := by simpa using h
    simp [iAs, rhoL, sAsg, dIte, bCmp, cop, dBin, bop, bInt, dLoc, AV.isUnd, dInt, h, hb]
theorem jIt_eq (hc : cols.length ≤ 1000) {p idx : Int} (hp : 0 ≤ p) {x15 x16 x17 : AV} {H : List AO} : jIt (rhoL k n bits cols y0 y1 y2 y4 y6 y7 y9 y10 idx (.int p) x15 x16 x17) H = some (.lst ((sliceP cols p).map .int), H) := by
  have h1 : Builtin.Int.intBits 2 ≤ 64 := by decide +kernel
  have h2 : slcV (.lst (cols.map .int)) (some (2 * p)) (some (2 * p + 2)) H = some (.lst ((sliceP cols p).map .int)) := by
    unfold slcV
    dsimp only
    have a1 : nonneg (some (2 * p)) = true := by simp [nonneg]; omega
    have a2 : nonneg (some (2 * p + 2)) = true := by simp [nonneg]; omega
    rw [a1, a2, if_pos (by simp; omega)]
    unfold sliceP
    rw [List.length_map, ← List.map_drop, ← List.map_take]
  simp [jIt, rhoL, dSlc, ptSome, dBin, bop, bInt, dLoc, AV.isUnd, dInt, h1, h2]

theorem jLoop (hn : n ≤ 1000) (hl : bits.length ≤ 100000) (hb : ∀ x ∈ bits, 0 ≤ x ∧ x < 256) (hc : cols.length ≤ 1000) (hcm : ∀ j ∈ cols, 0 ≤ j ∧ j < n) {p st : Int} (hp : 0 ≤ p) (h0 : 0 ≤ st) (h1 : st < n) {s : Int × Pic} {H : List AO} {x16 x17 : AV} (hk : Keep k b n H₀ s H) :
    ∃ x16' x17' H', stepB (rhoL k n bits cols y0 y1 y2 y4 y6 y7 y9 y10 s.1 (.int p) (.int st) x16 x17) H = some (.next, rhoL k n bits cols y0 y1 y2 y4 y6 y7 y9 y10 (lS n bits cols p s st).1 (.int p) (.int st) x16' x17', H') ∧ Keep k b n H₀ (lS n bits cols p s st) H' := by
  have hi0 : 0 ≤ iL n p st := by unfold iL; split <;> omega
  have hi1 : iL n p st < n := by unfold iL; split <;> omega
  obtain ⟨ρ', H', e, hK, y17, hρ⟩ := forGo_fold (st := tgN 17) (body := jB) (fun s ρ H => Keep k b n H₀ s H ∧ ∃ x17, ρ = rhoL k n bits cols y0 y1 y2 y4 y6 y7 y9 y10 s.1 (.int p) (.int st) (.int (iL n p st)) x17) (lJ n bits p st) (sliceP cols p) s (rhoL k n bits cols y0 y1 y2 y4 y6 y7 y9 y10 s.1 (.int p) (.int st) (.int (iL n p st)) x17) H (fun s j ρ H hj hI => by
    obtain ⟨hk, x17, rfl⟩ := hI
    have hjc : j ∈ cols := List.mem_of_mem_drop (List.mem_of_mem_take hj)
    obtain ⟨H', e1, e2⟩ := jB_step (cols := cols) (y0 := y0) (y1 := y1) (y2 := y2) (y4 := y4) (y6 := y6) (y7 := y7) (y9 := y9) (y10 := y10) (x14 := .int p) (x15 := .int st) hn hl hb hi0 hi1 (hcm j hjc).1 (hcm j hjc).2 hk
    exact ⟨_, _, H', rfl, e1, e2, _, rfl⟩) ⟨hk, _, rfl⟩
  subst hρ
  refine ⟨.int (iL n p st), y17, H', ?_, hK⟩
  unfold stepB
  rw [sCons_next iAs_eq, sCons_next ((sFor_of (jIt_eq hc hp) rfl).trans e)]
  rfl

theorem sLoop (S : Side n) (hl : bits.length ≤ 100000) (hb : ∀ x ∈ bits, 0 ≤ x ∧ x < 256) (hc : cols.length ≤ 1000) (hcm : ∀ j ∈ cols, 0 ≤ j ∧ j < n) {p : Int} (hp : 0 ≤ p) {s : Int × Pic} {H : List AO} {x15 x16 x17 : AV} (hk : Keep k b n H₀ s H) :
    ∃ x15' x16' x17' H', pairB (rhoL k n bits cols y0 y1 y2 y4 y6 y7 y9 y10 s.1 (.int p) x15 x16 x17) H = some (.next, rhoL k n bits cols y0 y1 y2 y4 y6 y7 y9 y10 (lP n bits cols s p).1 (.int p) x15' x16' x17', H') ∧ Keep k b n H₀ (lP n bits cols s p) H' := by
  obtain ⟨ρ', H', e, hK, y15, y16, y17, hρ⟩ := forGo_fold (st := tgN 15) (body := stepB) (fun s ρ H => Keep k b n H₀ s H ∧ ∃ x15 x16 x17, ρ = rhoL k n bits cols y0 y1 y2 y4 y6 y7 y9 y10 s.1 (.int p) x15 x16 x17) (lS n bits cols p) (rngInts 0 n 1) s (rhoL k n bits cols y0 y1 y2 y4 y6 y7 y9 y10 s.1 (.int p) x15 x16 x17) H (fun s j ρ H hj hI => by
    obtain ⟨hk, x15, x16, x17, rfl⟩ := hI
    obtain ⟨x16', x17', H', e1, e2⟩ := jLoop (cols := cols) (y0 := y0) (y1 := y1) (y2 := y2) (y4 := y4) (y6 := y6) (y7 := y7) (y9 := y9) (y10 := y10) (x16 := x16) (x17 := x17) S.n1 hl hb hc hcm hp (S.mem j hj).1 (S.mem j hj).2 hk
    exact ⟨_, _, H', rfl, e1, e2, _, _, _, rfl⟩) ⟨hk, _, _, _, rfl⟩
  subst hρ
  refine ⟨y15, y16, y17, H', ?_, hK⟩
  unfold pairB
  have hd : dCall (lCons (dLoc 3) lNil) pRange (rhoL k n bits cols y0 y1 y2 y4 y6 y7 y9 y10 s.1 (.int p) x15 x16 x17) H = some (.rng 0 n 1, H) := by
    simp [rhoL, dCall, lCons, lNil, dLoc, AV.isUnd, pRange]
  rw [sCons_next ((sFor_of hd (itemsOf_rng S.sm S.rs)).trans e)]
  rfl

structure SideL (n : Nat) (cols : List Int) : Prop where
  sm : Builtin.Range.small 0 ((n : Int).fdiv 2) 1 = true
  rs : 0 ≤ Builtin.Range.rangeSize 0 ((n : Int).fdiv 2) 1
  mem : ∀ p ∈ rngInts 0 ((n : Int).fdiv 2) 1, 0 ≤ p
  cl : cols.length ≤ 1000
  cm : ∀ j ∈ cols, 0 ≤ j ∧ j < n

noncomputable def foldL (n : Nat) (bits cols : List Int) (s : Int × Pic) : Int × Pic := (rngInts 0 ((n : Int).fdiv 2) 1).foldl (lP n bits cols) s
noncomputable def placesL (n : Nat) (cols : List Int) : List (Nat × Nat) := (rngInts 0 ((n : Int).fdiv 2) 1).flatMap fun p => (rngInts 0 n 1).flatMap fun st => (sliceP cols p).map fun j => ((iL n p st).toNat, j.toNat)
theorem foldL_eq (n : Nat) (bits cols : List Int) (s : Int × Pic) : foldL n bits cols s = (placesL n cols).foldl (layP bits.length bits) s := by
  unfold foldL placesL
  rw [← foldl_flat]
  congr 1
  funext s r
  unfold lP
  rw [← foldl_flat]
  congr 1
  funext s st
  unfold lS
  rw [← foldl_map']
  rfl

theorem pLoop (S : Side n) (SL : SideL n cols) (hl : bits.length ≤ 100000) (hb : ∀ x ∈ bits, 0 ≤ x ∧ x < 256) {s : Int × Pic} {H : List AO} {x14 x15 x16 x17 : AV} (hk : Keep k b n H₀ s H) :
    ∃ x14' x15' x16' x17' H', pairF (rhoL k n bits cols y0 y1 y2 y4 y6 y7 y9 y10 s.1 x14 x15 x16 x17) H = some (.next, rhoL k n bits cols y0 y1 y2 y4 y6 y7 y9 y10 (foldL n bits cols s).1 x14' x15' x16' x17', H') ∧ Keep k b n H₀ (foldL n bits cols s) H' := by
  obtain ⟨ρ', H', e, hK, y14, y15, y16, y17, hρ⟩ := forGo_fold (st := tgN 14) (body := pairB) (fun s ρ H => Keep k b n H₀ s H ∧ ∃ x14 x15 x16 x17, ρ = rhoL k n bits cols y0 y1 y2 y4 y6 y7 y9 y10 s.1 x14 x15 x16 x17) (lP n bits cols) (rngInts 0 ((n : Int).fdiv 2) 1) s (rhoL k n bits cols y0 y1 y2 y4 y6 y7 y9 y10 s.1 x14 x15 x16 x17) H (fun s j ρ H hj hI => by
    obtain ⟨hk, x14, x15, x16, x17, rfl⟩ := hI
    obtain ⟨x15', x16', x17', H', e1, e2⟩ := sLoop (cols := cols) (y0 := y0) (y1 := y1) (y2 := y2) (y4 := y4) (y6 := y6) (y7 := y7) (y9 := y9) (y10 := y10) (x15 := x15) (x16 := x16) (x17 := x17) S hl hb SL.cl SL.cm (SL.mem j hj) hk
    exact ⟨_, _, H', rfl, e1, e2, _, _, _, _, rfl⟩) ⟨hk, _, _, _, _, rfl⟩
  subst hρ
  refine ⟨y14, y15, y16, y17, H', ?_, hK⟩
  unfold pairF
  have hd : dCall (lCons (dBin .fdiv (dLoc 3) (dInt 2)) lNil) pRange (rhoL k n bits cols y0 y1 y2 y4 y6 y7 y9 y10 s.1 x14 x15 x16 x17) H = some (.rng 0 ((n : Int).fdiv 2) 1, H) := by
    simp [rhoL, dCall, lCons, lNil, dLoc, AV.isUnd, pRange, dBin, bop, bInt, dInt]
  exact (sFor_of hd (itemsOf_rng SL.sm SL.rs)).trans e
end
end Mine
end

section
open PySem PyProof.Rows
set_option autoImplicit false
set_option maxRecDepth 100000
set_option maxHeartbeats 4000000
set_option linter.unusedSimpArgs false
namespace Mine

/-! the last comparison -/
theorem compGo_refs {H : List AO} {k n : Nat} {P : Pic} (hk : AtK k true n P H) (hn : n ≤ 1000) : ∀ (m i : Nat) (ρ : List AV) (acc : List AV), i + m = n → ρ.length = 1 → acc.length = i →
    ∃ ρ', compGo 0 bTrue (aEmit (dCall (lCons (dLoc 0) lNil) pListB)) ((List.range' i m).map fun j => .ref (k + j)) ρ H acc = some (ρ', H, acc ++ (P.drop i).map fun r => .lst (r.map .int))
  | 0, i, ρ, acc, h, hl, ha => by
    have : P.drop i = [] := List.drop_eq_nil_of_le (by rw [hk.len]; omega)
    rw [this]
    exact ⟨ρ, by simp [compGo]⟩
  | m + 1, i, ρ, acc, h, hl, ha => by
    have hi : i < P.length := by rw [hk.len]; omega
    have hr : P[i]? = some P[i] := List.getElem?_eq_getElem hi
    have hd : P.drop i = P[i] :: P.drop (i + 1) := List.drop_eq_getElem_cons hi
    rw [hd]
    generalize P[i] = r at hr
    have hH := hk.at_ _ _ hr
    have hrl := hk.row _ _ hr
    obtain ⟨x0, rfl⟩ : ∃ x, ρ = [x] := by
      match ρ, hl with
      | [x], _ => exact ⟨x, rfl⟩
    obtain ⟨ρ', e⟩ := compGo_refs hk hn m (i + 1) [.ref (k + i)] (acc ++ [.lst (r.map .int)]) (by omega) rfl (by simp [ha])
    refine ⟨ρ', ?_⟩
    rw [List.range'_succ, List.map_cons]
    have hc : r.length ≤ 100000 := by rw [hrl]; omega
    have ha' : acc.length ≤ 100000 := by omega
    have e1 : compGo 0 bTrue (aEmit (dCall (lCons (dLoc 0) lNil) pListB)) (.ref (k + i) :: (List.range' (i + 1) m).map fun j => .ref (k + j)) [x0] H acc = compGo 0 bTrue (aEmit (dCall (lCons (dLoc 0) lNil) pListB)) ((List.range' (i + 1) m).map fun j => .ref (k + j)) [.ref (k + i)] H (acc ++ [.lst (r.map .int)]) := by
      conv => lhs; unfold compGo
      simp [bTrue, aEmit, dCall, lCons, lNil, dLoc, AV.isUnd, pListB, hH, hc, ha']
    rw [e1, e]
    simp

theorem toPys_lsts {H : List AO} : ∀ (P : Pic), toPys H (P.map fun r => .lst (r.map .int)) = some (P.map fun r => .list (r.map .int))
  | [] => by simp [toPys]
  | r :: P => by
    have hi : ∀ r : List Int, toPys H (r.map .int) = some (r.map .int) := fun r => by
      induction r with
      | nil => simp [toPys]
      | cons x r ih => simp [toPys, toPy, ih]
    simp [toPys, toPy, toPys_lsts P, hi]
theorem toPys_refs {H : List AO} {k n : Nat} {P : Pic} (hk : AtK k false n P H) : ∀ (m i : Nat), i + m = n → toPys H ((List.range' i m).map fun j => .ref (k + j)) = some ((P.drop i).map fun r => .list (r.map .int))
  | 0, i, h => by
    have : P.drop i = [] := List.drop_eq_nil_of_le (by rw [hk.len]; omega)
    rw [this]; simp [toPys]
  | m + 1, i, h => by
    have hi : i < P.length := by rw [hk.len]; omega
    have hr : P[i]? = some P[i] := List.getElem?_eq_getElem hi
    have hd : P.drop i = P[i] :: P.drop (i + 1) := List.drop_eq_getElem_cons hi
    rw [hd]
    generalize P[i] = r at hr
    have hH := hk.at_ _ _ hr
    rw [List.range'_succ, List.map_cons]
    simp [toPys, toPy, hH, toPys_refs hk m (i + 1) (by omega)]
theorem lay_ints : ∀ r : List Int, PyData.canLayAll0 (r.map .int) = true ∧ PyData.depthAll (r.map .int) ≤ 1
  | [] => by simp [PyData.canLayAll0, PyData.depthAll]
  | x :: r => by
    have := lay_ints r
    simp [PyData.canLayAll0, PyData.depthAll, PyData.canLay0, PyData.depth, this]
theorem lay_pic : ∀ P : Pic, PyData.canLayAll0 (P.map fun r => .list (r.map .int)) = true ∧ PyData.depthAll (P.map fun r => .list (r.map .int)) ≤ 2
  | [] => by simp [PyData.canLayAll0, PyData.depthAll]
  | r :: P => by
    have h1 := lay_pic P
    have h2 := lay_ints r
    simp [PyData.canLayAll0, PyData.depthAll, PyData.canLay0, PyData.depth, h1, h2]
    omega
theorem refsFrom_range' (k n : Nat) : refsFrom k n = (List.range' 0 n).map fun j => .ref (k + j) := by
  unfold refsFrom; rw [List.range_eq_range']
theorem dEnd_true {H : List AO} {k k' n : Nat} {P : Pic} (hn : n ≤ 1000) (hk : AtK k true n P H) (hk' : AtK k' false n P H) {ρ : List AV} (h4 : ρ[4]? = some (.tup (refsFrom k n))) (h5 : ρ[5]? = some (.lst (refsFrom k' n))) : dEnd ρ H = some (.bool true, H) := by
  obtain ⟨ρ', e⟩ := compGo_refs hk hn n 0 [.und] [] (by omega) rfl rfl
  rw [← refsFrom_range'] at e
  have hp := toPys_refs hk' n 0 (by omega)
  rw [← refsFrom_range'] at hp
  simp only [List.drop_zero, List.nil_append] at e hp
  have hl := lay_pic P
  have hc : cop .eq (.lst (P.map fun r => .lst (r.map .int))) (.lst (refsFrom k' n)) H = some true := by
    simp only [cop, toPy, toPys_lsts, hp, Option.map_some]
    have hd : (PyData.list (P.map fun r => .list (r.map .int))).depth ≤ 64 := by simp only [PyData.depth]; omega
    rw [if_pos ⟨hd, hd⟩]
    rw [PySem.SeqAt.eqv_refl _ (by simp only [PyData.canLay0]; exact hl.1)]
  simp [dEnd, dCmp, dComp, dLoc, h4, h5, AV.isUnd, itemsOf, freeV, e, hc]
end Mine
end

section
open PySem PyProof.Rows
set_option autoImplicit false
set_option maxRecDepth 100000
set_option maxHeartbeats 4000000
set_option linter.unusedSimpArgs false
namespace Mine

/-! counting without a run: every free place is in the list of places -/
noncomputable def tot2 (P : Pic) : Int := (P.map fun r => ((r.count 2 : Nat) : Int)).sum
noncomputable def at2 (P : Pic) (i j : Nat) : Prop := ∃ r, P[i]? = some r ∧ r[j]? = some 2

theorem count_set2 : ∀ (r : List Int) (j : Nat), r[j]? = some 2 → (r.set j 0).count 2 + 1 = r.count 2
  | [], _, h => by simp at h
  | x :: r, 0, h => by
    simp only [List.getElem?_cons_zero, Option.some.injEq] at h
    subst h
    simp
  | x :: r, j + 1, h => by
    simp only [List.getElem?_cons_succ] at h
    have := count_set2 r j h
    rw [List.set_cons_succ, List.count_cons, List.count_cons]
    omega
theorem tot2_set : ∀ (P : Pic) (i : Nat) (r r' : List Int), P[i]? = some r → r'.count 2 + 1 = r.count 2 → tot2 (P.set i r') + 1 = tot2 P
  | [], _, _, _, h, _ => by simp at h
  | q :: P, 0, r, r', h, hc => by
    simp only [List.getElem?_cons_zero, Option.some.injEq] at h
    subst h
    rw [List.set_cons_zero]
    unfold tot2
    rw [List.map_cons, List.map_cons, List.sum_cons, List.sum_cons]
    omega
  | q :: P, i + 1, r, r', h, hc => by
    simp only [List.getElem?_cons_succ] at h
    have := tot2_set P i r r' h hc
    unfold tot2 at this
    rw [List.set_cons_succ]
    unfold tot2
    rw [List.map_cons, List.map_cons, List.sum_cons, List.sum_cons]
    omega
theorem cntP_tot (s : Int × Pic) (p : Nat × Nat) : (cntP s p).1 + tot2 (cntP s p).2 = s.1 + tot2 s.2 := by
  unfold cntP
  split
  · rename_i r hr
    split
    · rename_i h2
      have := tot2_set s.2 p.1 r (r.set p.2 0) hr (count_set2 r p.2 h2)
      dsimp only
      omega
    · rfl
  · rfl
theorem cntP_at (s : Int × Pic) (p : Nat × Nat) (i j : Nat) (h : at2 (cntP s p).2 i j) : at2 s.2 i j ∧ (i, j) ≠ p := by
  unfold cntP at h
  split at h
  · rename_i r hr
    split at h
    · rename_i h2
      obtain ⟨q, e1, e2⟩ := h
      dsimp only at e1
      rw [List.getElem?_set] at e1
      by_cases hi : p.1 = i
      · rw [if_pos hi] at e1
        split at e1
        · cases e1
          rw [List.getElem?_set] at e2
          by_cases hj : p.2 = j
          · rw [if_pos hj] at e2
            split at e2 <;> simp at e2
          · rw [if_neg hj] at e2
            exact ⟨⟨r, by rw [← hi]; exact hr, e2⟩, fun e => hj (by rw [← e])⟩
        · cases e1
      · rw [if_neg hi] at e1
        exact ⟨⟨q, e1, e2⟩, fun e => hi (by rw [← e])⟩
    · rename_i h2
      refine ⟨h, fun e => h2 ?_⟩
      subst e
      obtain ⟨q, e1, e2⟩ := h
      rw [hr] at e1
      cases e1
      exact e2
  · rename_i hr
    refine ⟨h, fun e => ?_⟩
    subst e
    obtain ⟨q, e1, e2⟩ := h
    rw [hr] at e1
    cases e1
theorem cnt_fold : ∀ (ps : List (Nat × Nat)) (s : Int × Pic), (ps.foldl cntP s).1 + tot2 (ps.foldl cntP s).2 = s.1 + tot2 s.2 ∧ ∀ i j, at2 (ps.foldl cntP s).2 i j → at2 s.2 i j ∧ (i, j) ∉ ps
  | [], s => ⟨rfl, fun i j h => ⟨h, by simp⟩⟩
  | p :: ps, s => by
    rw [List.foldl_cons]
    obtain ⟨h1, h2⟩ := cnt_fold ps (cntP s p)
    refine ⟨h1.trans (cntP_tot s p), fun i j h => ?_⟩
    obtain ⟨h3, h4⟩ := h2 i j h
    obtain ⟨h5, h6⟩ := cntP_at s p i j h3
    exact ⟨h5, fun hm => by
      rcases List.mem_cons.mp hm with e | e
      · exact h6 e
      · exact h4 e⟩
theorem tot2_zero : ∀ (P : Pic), (∀ i j, ¬ at2 P i j) → tot2 P = 0
  | [], _ => rfl
  | r :: P, h => by
    have h1 := tot2_zero P fun i j hh => h (i + 1) j (by
      obtain ⟨q, e1, e2⟩ := hh
      exact ⟨q, by rw [List.getElem?_cons_succ]; exact e1, e2⟩)
    have h2 : r.count 2 = 0 := List.count_eq_zero.mpr fun hm => by
      obtain ⟨j, hj⟩ := List.mem_iff_getElem?.mp hm
      exact h 0 j ⟨r, rfl, hj⟩
    unfold tot2 at h1 ⊢
    rw [List.map_cons, List.sum_cons, h1, h2]
    rfl

theorem mem_rngUp {n ve : Nat} (h : ve < n) : (ve : Int) ∈ rngInts 0 n 1 := by
  unfold rngInts
  refine List.mem_map.mpr ⟨ve, List.mem_range.mpr ?_, by omega⟩
  unfold Builtin.Range.rangeSize
  rw [if_pos (by decide), if_pos (by omega), Int.ediv_one]
  omega
theorem mem_rngDn {n r : Nat} (hn : n % 2 = 1) (hr : r % 2 = 0) (h0 : 0 < r) (h1 : r < n) : (r : Int) ∈ rngInts ((n : Int) - 1) 0 (-2) := by
  unfold rngInts
  refine List.mem_map.mpr ⟨(n - 1 - r) / 2, List.mem_range.mpr ?_, by omega⟩
  unfold Builtin.Range.rangeSize
  rw [if_neg (by decide), if_pos (by omega), Int.neg_neg]
  omega
theorem place_mem {n i j : Nat} (hn : n % 2 = 1) (h9 : 9 ≤ n) (hi : i < n) (hj : j < n) (h6 : j ≠ 6) : (i, j) ∈ placesC n := by
  have hex : ∃ (r : Nat) (z : Int), r % 2 = 0 ∧ 0 < r ∧ r < n ∧ (z = 0 ∨ z = 1) ∧ adj r - z = j := by
    unfold adj
    by_cases h7 : 6 < j
    · by_cases he : j % 2 = 0
      · exact ⟨j, 0, he, by omega, hj, .inl rfl, by rw [if_neg (by omega)]; omega⟩
      · exact ⟨j + 1, 1, by omega, by omega, by omega, .inr rfl, by rw [if_neg (by omega)]; omega⟩
    · by_cases he : j % 2 = 0
      · exact ⟨j + 2, 1, by omega, by omega, by omega, .inr rfl, by rw [if_pos (by omega)]; omega⟩
      · exact ⟨j + 1, 0, by omega, by omega, by omega, .inl rfl, by rw [if_pos (by omega)]; omega⟩
  obtain ⟨r, z, hr1, hr2, hr3, hz, ha⟩ := hex
  have hve : ∃ ve : Nat, ve < n ∧ (iC n (adj r) ve z).toNat = i := by
    unfold iC
    by_cases hu : upC (adj r) z = true
    · exact ⟨n - 1 - i, by omega, by rw [if_pos hu]; omega⟩
    · exact ⟨i, hi, by rw [if_neg hu]; omega⟩
  obtain ⟨ve, hv1, hv2⟩ := hve
  unfold placesC
  refine List.mem_flatMap.mpr ⟨r, mem_rngDn hn hr1 hr2 hr3, List.mem_flatMap.mpr ⟨ve, mem_rngUp hv1, List.mem_map.mpr ⟨z, ?_, ?_⟩⟩⟩
  · rcases hz with rfl | rfl <;> simp
  · rw [hv2, ha]; simp

theorem cnt_all {n : Nat} {P : Pic} {room : Int} (hn : n % 2 = 1) (h9 : 9 ≤ n) (hl : P.length = n) (hr : ∀ (i : Nat) (r : List Int), P[i]? = some r → r.length = n) (h6 : (P.all fun r => !(r[6]? == some 2)) = true) (ht : tot2 P = room) : ((placesC n).foldl cntP (0, P)).1 = room := by
  obtain ⟨h1, h2⟩ := cnt_fold (placesC n) (0, P)
  have h3 : tot2 ((placesC n).foldl cntP (0, P)).2 = 0 := tot2_zero _ fun i j h => by
    obtain ⟨⟨r, e1, e2⟩, h5⟩ := h2 i j h
    have hi : i < P.length := (List.getElem?_eq_some_iff.mp e1).1
    have hj : j < r.length := (List.getElem?_eq_some_iff.mp e2).1
    rw [hr i r e1] at hj
    rw [hl] at hi
    refine h5 (place_mem hn h9 hi hj fun e => ?_)
    subst e
    have := List.all_eq_true.mp h6 r (List.mem_of_getElem? e1)
    rw [e2] at this
    exact absurd this (by decide)
  rw [h3, ht] at h1
  omega
end Mine
end

section
open PySem PyProof.Rows
set_option autoImplicit false
set_option maxRecDepth 100000
set_option maxHeartbeats 4000000
set_option linter.unusedSimpArgs false
namespace Mine

/-! the versions -/
noncomputable def colsN (n : Nat) : List Int := (rngInts ((n : Int) - 1) (-1) (-1)).filter (· != 6)
noncomputable def verOk (v : Int) (n : Nat) (room : Int) : Bool := match prep v with
  | some (.tup ms, .lst rs, H) => refsEq ms (refsFrom 1 n) && refsEq rs (refsFrom (n + 1) n) && (H.length == 2 * n + 1) && rowsOk n true ((H.drop 1).take n) && rowsOk n false (H.drop (n + 1)) &&
      (((H.drop 1).take n).map (·.xs) == (H.drop (n + 1)).map (·.xs)) && ((((H.drop (n + 1)).map (·.xs)).map fun r => ((r.count 2 : Nat) : Int)).sum == room) && (((H.drop (n + 1)).map (·.xs)).all fun r => !(r[6]? == some 2))
  | _ => false

structure Ver (v : Int) (n : Nat) (room : Int) : Prop where
  nv : (n : Int) = 17 + 4 * v
  v2 : 2 ≤ v
  side : Side n
  sideL : SideL n (colsN n)
  sm3 : Builtin.Range.small ((n : Int) - 1) (-1) (-1) = true
  rs3 : 0 ≤ Builtin.Range.rangeSize ((n : Int) - 1) (-1) (-1)
  ln3 : (rngInts ((n : Int) - 1) (-1) (-1)).length ≤ 1000
  pl : placesC n = placesL n (colsN n)
  r1 : 9 ≤ room
  r2 : room ≤ 1585
  pr : ∃ (H : List AO) (P : Pic), prep v = some (.tup (refsFrom 1 n), .lst (refsFrom (n + 1) n), H) ∧ AtK 1 true n P H ∧ AtK (n + 1) false n P H ∧ H.length = 2 * n + 1 ∧ (P.map fun r => ((r.count 2 : Nat) : Int)).sum = room ∧ ((placesC n).foldl cntP (0, P)).1 = room

theorem refsEq_eq : ∀ (a b : List AV), refsEq a b = true → a = b
  | [], [], _ => rfl
  | .ref a :: r, .ref b :: t, h => by
    simp only [refsEq, Bool.and_eq_true, beq_iff_eq] at h
    rw [h.1, refsEq_eq r t h.2]
  | [], _ :: _, h => by simp [refsEq] at h
  | .ref _ :: _, [], h => by simp [refsEq] at h
  | .none :: _, _, h | .bool _ :: _, _, h | .int _ :: _, _, h | .tup _ :: _, _, h | .lst _ :: _, _, h | .rng _ _ _ :: _, _, h | .und :: _, _, h => by simp [refsEq] at h
  | .ref _ :: _, .none :: _, h | .ref _ :: _, .bool _ :: _, h | .ref _ :: _, .int _ :: _, h | .ref _ :: _, .tup _ :: _, h | .ref _ :: _, .lst _ :: _, h | .ref _ :: _, .rng _ _ _ :: _, h | .ref _ :: _, .und :: _, h => by simp [refsEq] at h

theorem atK_of {k n : Nat} {b : Bool} {H L : List AO} (hL : ∀ i ao, L[i]? = some ao → H[k + i]? = some ao) (hr : rowsOk n b L = true) (hl : L.length = n) : AtK k b n (L.map (·.xs)) H := by
  have hall : ∀ (i : Nat) (r : List Int), (L.map (·.xs))[i]? = some r → H[k + i]? = some ⟨b, r⟩ ∧ r.length = n := fun i r e => by
    rw [List.getElem?_map] at e
    cases e1 : L[i]? with
    | none => rw [e1] at e; simp at e
    | some ao =>
      rw [e1] at e
      simp only [Option.map_some, Option.some.injEq] at e
      unfold rowsOk at hr
      have := (List.all_eq_true.mp hr) ao (List.mem_of_getElem? e1)
      simp only [Bool.and_eq_true, beq_iff_eq] at this
      obtain ⟨bb, xs⟩ := ao
      simp only at e this
      subst e
      refine ⟨?_, this.2⟩
      rw [hL i _ e1, ← this.1]
  exact ⟨fun i r e => (hall i r e).1, by rw [List.length_map]; exact hl, fun i r e => (hall i r e).2⟩

theorem ver_pr {v : Int} {n : Nat} {room : Int} (hn : n % 2 = 1) (h9 : 9 ≤ n) (h : verOk v n room = true) : ∃ (H : List AO) (P : Pic), prep v = some (.tup (refsFrom 1 n), .lst (refsFrom (n + 1) n), H) ∧ AtK 1 true n P H ∧ AtK (n + 1) false n P H ∧ H.length = 2 * n + 1 ∧ (P.map fun r => ((r.count 2 : Nat) : Int)).sum = room ∧ ((placesC n).foldl cntP (0, P)).1 = room := by
  unfold verOk at h
  split at h
  · rename_i ms rs H e
    simp only [Bool.and_eq_true, beq_iff_eq] at h
    obtain ⟨⟨⟨⟨⟨⟨⟨h1, h2⟩, h3⟩, h4⟩, h5⟩, h6⟩, h7⟩, h8⟩ := h
    have hP : AtK (n + 1) false n ((H.drop (n + 1)).map (·.xs)) H := by
      refine atK_of (fun i ao e => ?_) h5 (by rw [List.length_drop]; omega)
      rw [List.getElem?_drop] at e; exact e
    refine ⟨H, (H.drop (n + 1)).map (·.xs), ?_, ?_, hP, h3, h7, cnt_all (P := (H.drop (n + 1)).map (·.xs)) hn h9 hP.len hP.row h8 (by unfold tot2; exact h7)⟩
    · rw [e, refsEq_eq _ _ h1, refsEq_eq _ _ h2]
    · rw [← h6]
      refine atK_of (fun i ao e => ?_) h4 (by rw [List.length_take, List.length_drop]; omega)
      rw [List.getElem?_take] at e
      split at e
      · rw [List.getElem?_drop] at e; exact e
      · cases e
  · cases h
end Mine
end

section
open PySem PyProof.Rows
set_option autoImplicit false
set_option maxRecDepth 100000
set_option maxHeartbeats 4000000
namespace Mine

theorem ver2 : Ver 2 25 359 where
  nv := by decide
  v2 := by decide
  side := ⟨by decide, by decide +kernel, by decide +kernel, by decide +kernel, by decide +kernel, by decide +kernel, by decide +kernel⟩
  sideL := ⟨by decide +kernel, by decide +kernel, by decide +kernel, by decide +kernel, by decide +kernel⟩
  sm3 := by decide +kernel
  rs3 := by decide +kernel
  ln3 := by decide +kernel
  pl := by decide +kernel
  r1 := by decide
  r2 := by decide
  pr := ver_pr (by decide) (by decide) (by decide +kernel)
theorem ver3 : Ver 3 29 567 where
  nv := by decide
  v2 := by decide
  side := ⟨by decide, by decide +kernel, by decide +kernel, by decide +kernel, by decide +kernel, by decide +kernel, by decide +kernel⟩
  sideL := ⟨by decide +kernel, by decide +kernel, by decide +kernel, by decide +kernel, by decide +kernel⟩
  sm3 := by decide +kernel
  rs3 := by decide +kernel
  ln3 := by decide +kernel
  pl := by decide +kernel
  r1 := by decide
  r2 := by decide
  pr := ver_pr (by decide) (by decide) (by decide +kernel)
theorem ver4 : Ver 4 33 807 where
  nv := by decide
  v2 := by decide
  side := ⟨by decide, by decide +kernel, by decide +kernel, by decide +kernel, by decide +kernel, by decide +kernel, by decide +kernel⟩
  sideL := ⟨by decide +kernel, by decide +kernel, by decide +kernel, by decide +kernel, by decide +kernel⟩
  sm3 := by decide +kernel
  rs3 := by decide +kernel
  ln3 := by decide +kernel
  pl := by decide +kernel
  r1 := by decide
  r2 := by decide
  pr := ver_pr (by decide) (by decide) (by decide +kernel)
theorem ver5 : Ver 5 37 1079 where
  nv := by decide
  v2 := by decide
  side := ⟨by decide, by decide +kernel, by decide +kernel, by decide +kernel, by decide +kernel, by decide +kernel, by decide +kernel⟩
  sideL := ⟨by decide +kernel, by decide +kernel, by decide +kernel, by decide +kernel, by decide +kernel⟩
  sm3 := by decide +kernel
  rs3 := by decide +kernel
  ln3 := by decide +kernel
  pl := by decide +kernel
  r1 := by decide
  r2 := by decide
  pr := ver_pr (by decide) (by decide) (by decide +kernel)
theorem ver6 : Ver 6 41 1383 where
  nv := by decide
  v2 := by decide
  side := ⟨by decide, by decide +kernel, by decide +kernel, by decide +kernel, by decide +kernel, by decide +kernel, by decide +kernel⟩
  sideL := ⟨by decide +kernel, by decide +kernel, by decide +kernel, by decide +kernel, by decide +kernel⟩
  sm3 := by decide +kernel
  rs3 := by decide +kernel
  ln3 := by decide +kernel
  pl := by decide +kernel
  r1 := by decide
  r2 := by decide
  pr := ver_pr (by decide) (by decide) (by decide +kernel)
theorem ver7 : Ver 7 45 1568 where
  nv := by decide
  v2 := by decide
  side := ⟨by decide, by decide +kernel, by decide +kernel, by decide +kernel, by decide +kernel, by decide +kernel, by decide +kernel⟩
  sideL := ⟨by decide +kernel, by decide +kernel, by decide +kernel, by decide +kernel, by decide +kernel⟩
  sm3 := by decide +kernel
  rs3 := by decide +kernel
  ln3 := by decide +kernel
  pl := by decide +kernel
  r1 := by decide
  r2 := by decide
  pr := ver_pr (by decide) (by decide) (by decide +kernel)
theorem ver_all (v : Int) (h : 2 ≤ v) (h' : v < 8) : ∃ n room, Ver v n room := by
  have : v = 2 ∨ v = 3 ∨ v = 4 ∨ v = 5 ∨ v = 6 ∨ v = 7 := by omega
  rcases this with rfl | rfl | rfl | rfl | rfl | rfl
  · exact ⟨_, _, ver2⟩
  · exact ⟨_, _, ver3⟩
  · exact ⟨_, _, ver4⟩
  · exact ⟨_, _, ver5⟩
  · exact ⟨_, _, ver6⟩
  · exact ⟨_, _, ver7⟩
end Mine
end

section
open PySem PyProof.Rows
set_option autoImplicit false
set_option maxRecDepth 100000
set_option maxHeartbeats 4000000
set_option linter.unusedSimpArgs false
namespace Mine

/-! comprehensions that emit ints -/
theorem compGo_ints {f : Den} {H : List AO} {rest : List AV} {G : Int → Prop} : ∀ (xs : List Int) (x0 : AV) (acc : List AV), (∀ x ∈ xs, ∃ y, f (.int x :: rest) H = some (.int y, H) ∧ G y) → acc.length + xs.length ≤ 100000 →
    ∃ (ys : List Int) (ρ' : List AV), ys.length = xs.length ∧ (∀ y ∈ ys, G y) ∧ compGo 0 bTrue (aEmit f) (xs.map .int) (x0 :: rest) H acc = some (ρ', H, acc ++ ys.map .int)
  | [], x0, acc, h, hl => ⟨[], x0 :: rest, rfl, by simp, by simp [compGo]⟩
  | x :: xs, x0, acc, h, hl => by
    obtain ⟨y, e, hy⟩ := h x (List.mem_cons_self ..)
    simp only [List.length_cons] at hl
    obtain ⟨ys, ρ', h1, h2, h3⟩ := compGo_ints xs (.int x) (acc ++ [.int y]) (fun z hz => h z (List.mem_cons_of_mem _ hz)) (by simp; omega)
    refine ⟨y :: ys, ρ', by simp [h1], ?_, ?_⟩
    · intro z hz
      rcases List.mem_cons.mp hz with rfl | hz
      · exact hy
      · exact h2 z hz
    · have ha : acc.length ≤ 100000 := by omega
      have e1 : compGo 0 bTrue (aEmit f) ((x :: xs).map .int) (x0 :: rest) H acc = compGo 0 bTrue (aEmit f) (xs.map .int) (.int x :: rest) H (acc ++ [.int y]) := by
        rw [List.map_cons]
        conv => lhs; unfold compGo
        simp [bTrue, aEmit, e, ha]
      rw [e1, h3]; simp

theorem compGo_cols {H : List AO} : ∀ (xs : List Int) (x0 : AV) (acc : List AV), acc.length + xs.length ≤ 100000 →
    ∃ ρ', compGo 0 (bCmp .ne (dLoc 0) (dInt 6)) (aEmit (dLoc 0)) (xs.map .int) [x0] H acc = some (ρ', H, acc ++ (xs.filter (· != 6)).map .int)
  | [], x0, acc, h => ⟨[x0], by simp [compGo]⟩
  | x :: xs, x0, acc, hl => by
    simp only [List.length_cons] at hl
    have ha : acc.length ≤ 100000 := by omega
    by_cases hx : x = 6
    · subst hx
      obtain ⟨ρ', e⟩ := compGo_cols xs (.int 6) acc (by omega)
      refine ⟨ρ', ?_⟩
      have e1 : compGo 0 (bCmp .ne (dLoc 0) (dInt 6)) (aEmit (dLoc 0)) (((6 : Int) :: xs).map .int) [x0] H acc = compGo 0 (bCmp .ne (dLoc 0) (dInt 6)) (aEmit (dLoc 0)) (xs.map .int) [.int 6] H acc := by
        rw [List.map_cons]
        conv => lhs; unfold compGo
        simp [bCmp, cop, dLoc, AV.isUnd, dInt]
      rw [e1, e]; simp
    · obtain ⟨ρ', e⟩ := compGo_cols xs (.int x) (acc ++ [.int x]) (by simp; omega)
      refine ⟨ρ', ?_⟩
      have e1 : compGo 0 (bCmp .ne (dLoc 0) (dInt 6)) (aEmit (dLoc 0)) ((x :: xs).map .int) [x0] H acc = compGo 0 (bCmp .ne (dLoc 0) (dInt 6)) (aEmit (dLoc 0)) (xs.map .int) [.int x] H (acc ++ [.int x]) := by
        rw [List.map_cons]
        conv => lhs; unfold compGo
        have hb : (x != 6) = true := by simpa using hx
        simp [bCmp, cop, dLoc, AV.isUnd, dInt, aEmit, ha, hb]
      rw [e1, e]; simp [hx]

theorem compGo_cnt {H : List AO} {k n : Nat} {P : Pic} (hk : AtK k false n P H) (hn : n ≤ 1000) : ∀ (m i : Nat) (x0 : AV) (acc : List AV), i + m = n → acc.length = i →
    ∃ ρ', compGo 0 bTrue (aEmit (dCount (dLoc 0) (dInt 2))) ((List.range' i m).map fun j => .ref (k + j)) [x0] H acc = some (ρ', H, acc ++ ((P.drop i).map fun r => ((r.count 2 : Nat) : Int)).map .int)
  | 0, i, x0, acc, h, ha => by
    have : P.drop i = [] := List.drop_eq_nil_of_le (by rw [hk.len]; omega)
    rw [this]
    exact ⟨[x0], by simp [compGo]⟩
  | m + 1, i, x0, acc, h, ha => by
    have hi : i < P.length := by rw [hk.len]; omega
    have hr : P[i]? = some P[i] := List.getElem?_eq_getElem hi
    have hd : P.drop i = P[i] :: P.drop (i + 1) := List.drop_eq_getElem_cons hi
    rw [hd]
    generalize P[i] = r at hr
    have hH := hk.at_ _ _ hr
    obtain ⟨ρ', e⟩ := compGo_cnt hk hn m (i + 1) (.ref (k + i)) (acc ++ [.int (r.count 2 : Nat)]) (by omega) (by simp [ha])
    refine ⟨ρ', ?_⟩
    rw [List.range'_succ, List.map_cons]
    have ha' : acc.length ≤ 100000 := by omega
    have e1 : compGo 0 bTrue (aEmit (dCount (dLoc 0) (dInt 2))) (.ref (k + i) :: (List.range' (i + 1) m).map fun j => .ref (k + j)) [x0] H acc = compGo 0 bTrue (aEmit (dCount (dLoc 0) (dInt 2))) ((List.range' (i + 1) m).map fun j => .ref (k + j)) [.ref (k + i)] H (acc ++ [.int (r.count 2 : Nat)]) := by
      conv => lhs; unfold compGo
      simp [bTrue, aEmit, dCount, dLoc, AV.isUnd, dInt, hH, ha']
    rw [e1, e]
    simp
theorem intsOf_map : ∀ (ns : List Int), intsOf (ns.map .int) = some ns
  | [] => rfl
  | n :: ns => by simp [intsOf, intsOf_map ns]

noncomputable def dRoom : Den := dCall (lCons (dComp (dLoc 5) 1 none bTrue (aEmit (dCount (dLoc 0) (dInt 2)))) lNil) pSum
theorem room_ok {H : List AO} {k n : Nat} {P : Pic} (hk : AtK k false n P H) (hn : n ≤ 1000) {ρ : List AV} (h5 : ρ[5]? = some (.lst (refsFrom k n))) : dRoom ρ H = some (.int (P.map fun r => ((r.count 2 : Nat) : Int)).sum, H) := by
  obtain ⟨ρ', e⟩ := compGo_cnt hk hn n 0 .und [] (by omega) rfl
  rw [← refsFrom_range'] at e
  simp only [List.drop_zero, List.nil_append] at e
  have e' : dComp (dLoc 5) 1 none bTrue (aEmit (dCount (dLoc 0) (dInt 2))) ρ H = some (.lst ((P.map fun r => ((r.count 2 : Nat) : Int)).map .int), H) := by
    simp only [dComp, dLoc, h5, AV.isUnd, itemsOf, freeV, List.append_nil, List.replicate]
    simp [e]
  have hi := intsOf_map (P.map fun r => ((r.count 2 : Nat) : Int))
  simp only [dRoom, dCall, lCons, lNil, e']
  simp only [pSum, hi]
theorem cols_ok {H : List AO} {n : Nat} {v room : Int} (V : Ver v n room) {ρ : List AV} (h3 : ρ[3]? = some (.int n)) : dCols ρ H = some (.lst ((colsN n).map .int), H) := by
  obtain ⟨ρ', e⟩ := compGo_cols (H := H) (rngInts ((n : Int) - 1) (-1) (-1)) .und [] (by have := V.ln3; simp; omega)
  have hr : pRange [.int ((n : Int) - 1), .int (-1), .int (-1)] H = some (.rng ((n : Int) - 1) (-1) (-1), H) := pRange3 (by decide) (by decide)
  have hd : dCall (lCons (dBin .sub (dLoc 3) (dInt 1)) (lCons (dNeg (dInt 1)) (lCons (dNeg (dInt 1)) lNil))) pRange ρ H = pRange [.int ((n : Int) - 1), .int (-1), .int (-1)] H := by
    simp [dCall, lCons, lNil, dLoc, h3, AV.isUnd, dBin, bop, bInt, dInt, dNeg]
  unfold dCols dComp
  rw [hd, hr]
  dsimp only
  rw [itemsOf_rng V.sm3 V.rs3]
  simp only [freeV, List.append_nil, List.replicate, e, List.nil_append]
  rfl
end Mine
end

section
open PySem PyProof.Rows
set_option autoImplicit false
set_option maxRecDepth 100000
set_option maxHeartbeats 4000000
set_option linter.unusedSimpArgs false
namespace Mine

noncomputable def numsOf (script : List Int) : List Int := script ++ ([0, 0] : List Int).drop (min script.length 2)
theorem nums_len (script : List Int) : 2 ≤ (numsOf script).length := by
  unfold numsOf; simp; omega
theorem nums_len' {script : List Int} (h : script.length ≤ 63) : (numsOf script).length ≤ 65 := by
  unfold numsOf; simp; omega
theorem idx_ints {ns : List Int} {i : Int} {H : List AO} (h0 : 0 ≤ i) (h1 : i < ns.length) (hl : ns.length ≤ 100000) : idxV (.lst (ns.map .int)) (.int i) H = some (.int (ns.getD i.toNat 0)) := idx_bits h0 h1 hl

theorem dBin_of {o : BOp} {f₁ f₂ : Den} {ρ : List AV} {H H₁ H₂ : List AO} {a b : AV} (h1 : f₁ ρ H = some (a, H₁)) (h2 : f₂ ρ H₁ = some (b, H₂)) : dBin o f₁ f₂ ρ H = bop o a b H₂ := by
  unfold dBin; rw [h1]; dsimp only; rw [h2]
theorem dSlc_of {f₁ : Den} {lo hi : DenP} {ρ : List AV} {H H₁ H₂ H₃ : List AO} {a v : AV} {l u : Option Int} (h1 : f₁ ρ H = some (a, H₁)) (h2 : lo ρ H₁ = some (l, H₂)) (h3 : hi ρ H₂ = some (u, H₃)) (h4 : slcV a l u H₃ = some v) : dSlc f₁ lo hi ρ H = some (v, H₃) := by
  unfold dSlc; rw [h1]; dsimp only; rw [h2]; dsimp only; rw [h3]; dsimp only; rw [h4]
section
variable {script : List Int} {H : List AO}
theorem l1_a (h : script.length ≤ 63) {rest : List AV} : dBin .add (dLoc 0) (dSlc (dLst (lCons (dInt 0) (lCons (dInt 0) lNil))) (ptSome (dCall (lCons (dLoc 0) lNil) pLen)) ptNone) (.lst (script.map .int) :: rest) H = some (.lst ((numsOf script).map .int), H) := by
  have h1 : script.length ≤ 1000000 := by omega
  have hs : slcV (.lst [.int 0, .int 0]) (some (script.length : Nat)) none H = some (.lst ((([0, 0] : List Int).drop (min script.length 2)).map .int)) := by
    unfold slcV
    dsimp only
    rw [if_pos (by simp [nonneg])]
    simp only [lowAt, highAt, List.length_cons, List.length_nil, Int.toNat_natCast, Nat.zero_add]
    have : min script.length 2 = 0 ∨ min script.length 2 = 1 ∨ min script.length 2 = 2 := by omega
    rcases this with q | q | q <;> rw [q] <;> rfl
  have e1 : dSlc (dLst (lCons (dInt 0) (lCons (dInt 0) lNil))) (ptSome (dCall (lCons (dLoc 0) lNil) pLen)) ptNone (.lst (script.map .int) :: rest) H = some (.lst ((([0, 0] : List Int).drop (min script.length 2)).map .int), H) := by
    have q1 : dLst (lCons (dInt 0) (lCons (dInt 0) lNil)) (.lst (script.map .int) :: rest) H = some (.lst [.int 0, .int 0], H) := by simp [dLst, lCons, lNil, dInt]
    have q2 : ptSome (dCall (lCons (dLoc 0) lNil) pLen) (.lst (script.map .int) :: rest) H = some (some ((script.length : Nat) : Int), H) := by
      simp [ptSome, dCall, lCons, lNil, dLoc, AV.isUnd, pLen, h1]
    exact dSlc_of q1 q2 rfl hs
  have e0 : dLoc 0 (.lst (script.map .int) :: rest) H = some (.lst (script.map .int), H) := rfl
  rw [dBin_of e0 e1]
  unfold bop
  dsimp only
  rw [if_pos (by simp; omega)]
  unfold numsOf
  rw [List.map_append]

noncomputable def verN (script : List Int) : Int := 2 + ((numsOf script).getD 0 0).fmod 6
theorem l1_run (h : script.length ≤ 63) : dL1 (.lst (script.map .int) :: unds 17) H = some (.next, [.lst (script.map .int), .lst ((numsOf script).map .int), .int (verN script), .int (17 + 4 * verN script)] ++ unds 14, H) := by
  have s0 : sAsg 1 (dBin .add (dLoc 0) (dSlc (dLst (lCons (dInt 0) (lCons (dInt 0) lNil))) (ptSome (dCall (lCons (dLoc 0) lNil) pLen)) ptNone)) (.lst (script.map .int) :: unds 17) H = some (.next, [.lst (script.map .int), .lst ((numsOf script).map .int)] ++ unds 16, H) := by
    unfold sAsg; rw [l1_a h]; rfl
  have hn := nums_len script
  have hn' := nums_len' h
  have hi : idxV (.lst ((numsOf script).map .int)) (.int 0) H = some (.int ((numsOf script).getD 0 0)) := idx_ints (Int.le_refl 0) (by omega) (by omega)
  have s1 : sAsg 2 (dBin .add (dInt 2) (dBin .mod (dIdx (dLoc 1) (dInt 0)) (dInt 6))) ([.lst (script.map .int), .lst ((numsOf script).map .int)] ++ unds 16) H = some (.next, [.lst (script.map .int), .lst ((numsOf script).map .int), .int (verN script)] ++ unds 15, H) := by
    unfold verN
    generalize (numsOf script).getD 0 0 = x at hi
    generalize (numsOf script) = y at hi
    simp [sAsg, dBin, dIdx, dLoc, dInt, AV.isUnd, hi, bop, bInt, unds, List.replicate]
  have h4 : Builtin.Int.intBits 4 ≤ 64 := by decide +kernel
  have s2 : sAsg 3 (dBin .add (dInt 17) (dBin .mul (dInt 4) (dLoc 2))) ([.lst (script.map .int), .lst ((numsOf script).map .int), .int (verN script)] ++ unds 15) H = some (.next, [.lst (script.map .int), .lst ((numsOf script).map .int), .int (verN script), .int (17 + 4 * verN script)] ++ unds 14, H) := by
    generalize verN script = x
    generalize (numsOf script) = y
    simp [sAsg, dBin, dIdx, dLoc, dInt, AV.isUnd, bop, bInt, unds, List.replicate, h4]
  unfold dL1
  rw [sCons_next s0, sCons_next s1, sCons_next s2]
  rfl
theorem verN_ok : 2 ≤ verN script ∧ verN script < 8 := by
  unfold verN
  have h1 := Int.fmod_nonneg_of_pos ((numsOf script).getD 0 0) (b := 6) (by decide)
  have h2 := Int.fmod_lt_of_pos ((numsOf script).getD 0 0) (b := 6) (by decide)
  omega

/-! seeds and bits -/
theorem seeds_ok {nums : List Int} (hn : nums.length ≤ 65) {ρ : List AV} (h1 : ρ[1]? = some (.lst (nums.map .int))) :
    ∃ seeds : List Int, 1 ≤ seeds.length ∧ seeds.length ≤ 13 ∧ dBin .add (dComp (dSlc (dLoc 1) (ptSome (dInt 2)) (ptSome (dInt 14))) 1 none bTrue (aEmit (dBin .mod (dLoc 0) (dInt 65536)))) (dLst (lCons (dInt 40503) lNil)) ρ H = some (.lst (seeds.map .int), H) := by
  have hs : slcV (.lst (nums.map .int)) (some 2) (some 14) H = some (.lst (((nums.drop (min 2 nums.length)).take (min 14 nums.length - min 2 nums.length)).map .int)) := by
    unfold slcV
    dsimp only
    rw [if_pos (by simp [nonneg]; omega)]
    rw [List.length_map, ← List.map_drop, ← List.map_take]
    rfl
  generalize hxs : (nums.drop (min 2 nums.length)).take (min 14 nums.length - min 2 nums.length) = xs at hs
  have hl : xs.length ≤ 12 := by rw [← hxs, List.length_take, List.length_drop]; omega
  obtain ⟨ys, ρ', l1, _, e⟩ := compGo_ints (f := dBin .mod (dLoc 0) (dInt 65536)) (H := H) (rest := []) (G := fun _ => True) xs .und [] (fun x _ => ⟨x.fmod 65536, by simp [dBin, dLoc, AV.isUnd, dInt, bop, bInt], trivial⟩) (by simp; omega)
  refine ⟨ys ++ [40503], by simp, by simp; omega, ?_⟩
  have e1 : dSlc (dLoc 1) (ptSome (dInt 2)) (ptSome (dInt 14)) ρ H = some (.lst (xs.map .int), H) := by
    simp [dSlc, ptSome, dInt, dLoc, h1, AV.isUnd, hs]
  have e2 : dComp (dSlc (dLoc 1) (ptSome (dInt 2)) (ptSome (dInt 14))) 1 none bTrue (aEmit (dBin .mod (dLoc 0) (dInt 65536))) ρ H = some (.lst (ys.map .int), H) := by
    unfold dComp
    rw [e1]
    simp only [itemsOf, freeV, List.append_nil, List.replicate, e, List.nil_append]
  have e3 : dLst (lCons (dInt 40503) lNil) ρ H = some (.lst [.int 40503], H) := by simp [dLst, lCons, lNil, dInt]
  rw [dBin_of e2 e3]
  unfold bop
  dsimp only
  rw [if_pos (by simp; omega)]
  simp

noncomputable def dBase : Den := dComp (dCall (lCons (dInt 61) lNil) pRange) 1 (some ("seeds", 9)) bTrue (aEmit (dBin .mod (dBin .fdiv (dBin .add (dIdx (dLoc 1) (dBin .mod (dLoc 0) (dCall (lCons (dLoc 1) lNil) pLen))) (dBin .mul (dBin .mul (dInt 1327) (dLoc 0)) (dLoc 0))) (dInt 64)) (dInt 2)))
theorem base_ok {seeds : List Int} (h1 : 1 ≤ seeds.length) (h2 : seeds.length ≤ 13) {ρ : List AV} (h9 : ρ[9]? = some (.lst (seeds.map .int))) :
    ∃ base : List Int, base.length = 61 ∧ (∀ x ∈ base, x = 0 ∨ x = 1) ∧ dBase ρ H = some (.lst (base.map .int), H) := by
  have hb1 : Builtin.Int.intBits 1327 ≤ 64 := by decide +kernel
  have hb2 : ∀ x ∈ rngInts 0 61 1, Builtin.Int.intBits (1327 * x) ≤ 64 := by decide +kernel
  obtain ⟨ys, ρ', l1, l2, e⟩ := compGo_ints (f := dBin .mod (dBin .fdiv (dBin .add (dIdx (dLoc 1) (dBin .mod (dLoc 0) (dCall (lCons (dLoc 1) lNil) pLen))) (dBin .mul (dBin .mul (dInt 1327) (dLoc 0)) (dLoc 0))) (dInt 64)) (dInt 2)) (H := H) (rest := [.lst (seeds.map .int)]) (G := fun y => y = 0 ∨ y = 1) (rngInts 0 61 1) .und [] (fun x hx => by
    have hp : (0 : Int) < (seeds.length : Nat) := by omega
    have hne : ((seeds.length : Nat) : Int) ≠ 0 := by omega
    have m0 := Int.fmod_nonneg_of_pos x hp
    have m1 := Int.fmod_lt_of_pos x hp
    have hi : idxV (.lst (seeds.map .int)) (.int (x.fmod (seeds.length : Nat))) H = some (.int (seeds.getD (x.fmod (seeds.length : Nat)).toNat 0)) := idx_ints m0 m1 (by omega)
    have hq := hb2 x hx
    have hl : seeds.length ≤ 1000000 := by omega
    refine ⟨((seeds.getD (x.fmod (seeds.length : Nat)).toNat 0 + 1327 * x * x).fdiv 64).fmod 2, ?_, ?_⟩
    · generalize seeds.getD (x.fmod (seeds.length : Nat)).toNat 0 = y at hi
      have a1 : dCall (lCons (dLoc 1) lNil) pLen [.int x, .lst (seeds.map .int)] H = some (.int (seeds.length : Nat), H) := by
        simp [dCall, lCons, lNil, dLoc, AV.isUnd, pLen, hl]
      have a0 : dLoc 0 [.int x, .lst (seeds.map .int)] H = some (.int x, H) := rfl
      have a2 : dBin .mod (dLoc 0) (dCall (lCons (dLoc 1) lNil) pLen) [.int x, .lst (seeds.map .int)] H = some (.int (x.fmod (seeds.length : Nat)), H) := by
        rw [dBin_of a0 a1]; unfold bop bInt; dsimp only; rw [if_pos hne]; rfl
      have a3 : dIdx (dLoc 1) (dBin .mod (dLoc 0) (dCall (lCons (dLoc 1) lNil) pLen)) [.int x, .lst (seeds.map .int)] H = some (.int y, H) := by
        have a4 : dLoc 1 [.int x, .lst (seeds.map .int)] H = some (.lst (seeds.map .int), H) := rfl
        unfold dIdx; rw [a4]; dsimp only; rw [a2]; dsimp only; rw [hi]
      have a5 : dBin .mul (dBin .mul (dInt 1327) (dLoc 0)) (dLoc 0) [.int x, .lst (seeds.map .int)] H = some (.int (1327 * x * x), H) := by
        simp [dBin, dInt, dLoc, AV.isUnd, bop, bInt, hb1, hq]
      have a6 : dBin .add (dIdx (dLoc 1) (dBin .mod (dLoc 0) (dCall (lCons (dLoc 1) lNil) pLen))) (dBin .mul (dBin .mul (dInt 1327) (dLoc 0)) (dLoc 0)) [.int x, .lst (seeds.map .int)] H = some (.int (y + 1327 * x * x), H) := by
        rw [dBin_of a3 a5]; rfl
      have a7 : dBin .fdiv (dBin .add (dIdx (dLoc 1) (dBin .mod (dLoc 0) (dCall (lCons (dLoc 1) lNil) pLen))) (dBin .mul (dBin .mul (dInt 1327) (dLoc 0)) (dLoc 0))) (dInt 64) [.int x, .lst (seeds.map .int)] H = some (.int ((y + 1327 * x * x).fdiv 64), H) := by
        rw [dBin_of a6 rfl]; rfl
      rw [dBin_of a7 rfl]; rfl
    · have b0 := Int.fmod_nonneg_of_pos ((seeds.getD (x.fmod (seeds.length : Nat)).toNat 0 + 1327 * x * x).fdiv 64) (b := 2) (by decide)
      have b1 := Int.fmod_lt_of_pos ((seeds.getD (x.fmod (seeds.length : Nat)).toNat 0 + 1327 * x * x).fdiv 64) (b := 2) (by decide)
      omega) (by decide +kernel)
  refine ⟨ys, l1.trans (by decide +kernel), l2, ?_⟩
  have hr : dCall (lCons (dInt 61) lNil) pRange ρ H = some (.rng 0 61 1, H) := by simp [dCall, lCons, lNil, dInt, pRange]
  unfold dBase dComp
  rw [hr]
  dsimp only
  rw [itemsOf_rng (by decide +kernel) (by decide +kernel)]
  simp only [freeV, h9, AV.isUnd, List.replicate, e, List.nil_append, List.cons_append]
  simp [e]

noncomputable def dBits : Den := dSlc (dBin .mul (dLoc 10) (dInt 26)) ptNone (ptSome (dLoc 8))
theorem bits_ok {base : List Int} {len : Int} (h1 : base.length = 61) (h2 : ∀ x ∈ base, x = 0 ∨ x = 1) (h3 : 0 ≤ len) (h4 : len ≤ 1586) {ρ : List AV} (h8 : ρ[8]? = some (.int len)) (h10 : ρ[10]? = some (.lst (base.map .int))) :
    ∃ (bits : List Int) (ao : AO), bits.length = len.toNat ∧ (∀ x ∈ bits, x = 0 ∨ x = 1) ∧ dBits ρ H = some (.lst (bits.map .int), H ++ [ao]) := by
  have hfl : (List.replicate 26 base).flatten.length = 1586 := by simp [h1]
  have hmem : ∀ x ∈ (List.replicate 26 base).flatten, x = 0 ∨ x = 1 := fun x hx => by
    obtain ⟨l, hl, hxl⟩ := List.mem_flatten.mp hx
    rw [(List.mem_replicate.mp hl).2] at hxl
    exact h2 x hxl
  generalize hL : (List.replicate 26 base).flatten = L at hfl hmem
  refine ⟨L.take len.toNat, ⟨false, L⟩, by rw [List.length_take]; omega, fun x hx => hmem x (List.mem_of_mem_take hx), ?_⟩
  have e1 : dBin .mul (dLoc 10) (dInt 26) ρ H = some (.ref H.length, H ++ [⟨false, L⟩]) := by
    have a0 : dLoc 10 ρ H = some (.lst (base.map .int), H) := by unfold dLoc; rw [h10]; rfl
    have hne : base.map AV.int ≠ [] := by
      intro q
      have := congrArg List.length q
      simp [h1] at this
    unfold dBin
    rw [a0]
    dsimp only [dInt]
    unfold bop
    dsimp only
    rw [intsOf_map]
    dsimp only
    rw [if_pos ⟨hne, by simp [h1], by decide, by decide⟩]
    rw [← hL]
    rfl
  have e2 : ptSome (dLoc 8) ρ (H ++ [⟨false, L⟩]) = some (some len, H ++ [⟨false, L⟩]) := by
    unfold ptSome dLoc; rw [h8]; rfl
  have e3 : slcV (.ref H.length) none (some len) (H ++ [⟨false, L⟩]) = some (.lst ((L.take len.toNat).map .int)) := by
    unfold slcV
    dsimp only
    have hg : (H ++ [(⟨false, L⟩ : AO)])[H.length]? = some ⟨false, L⟩ := by simp
    rw [hg]
    dsimp only
    rw [if_pos (by simp [nonneg, h3, hfl])]
    simp only [lowAt, highAt, List.drop_zero, Nat.sub_zero]
    rw [show min len.toNat L.length = len.toNat by omega]
  unfold dBits dSlc
  rw [e1]
  dsimp only [ptNone]
  rw [e2]
  dsimp only
  rw [e3]
end
end Mine
end

section
open PySem PyProof.Rows
set_option autoImplicit false
set_option maxRecDepth 100000
set_option maxHeartbeats 4000000
set_option linter.unusedSimpArgs false
namespace Mine

theorem AtK.app {k n : Nat} {b : Bool} {P : Pic} {H : List AO} (h : AtK k b n P H) (L : List AO) : AtK k b n P (H ++ L) := by
  refine ⟨fun i r e => ?_, h.len, h.row⟩
  have := h.at_ i r e
  rw [List.getElem?_append_left (List.getElem?_eq_some_iff.mp this).1]; exact this
theorem AtK.keep {k n k' : Nat} {b b' : Bool} {P : Pic} {H H' : List AO} {s : Int × Pic} (h : AtK k b n P H) (hk : Keep k' b' n H s H') (hd : k + n ≤ k' ∨ k' + n ≤ k) : AtK k b n P H' := by
  refine ⟨fun i r e => ?_, h.len, h.row⟩
  have hi : i < n := by rw [← h.len]; exact (List.getElem?_eq_some_iff.mp e).1
  rw [hk.out (k + i) (by omega)]
  exact h.at_ i r e

theorem prep_split {v : Int} {m r : AV} {H : List AO} (h : prep v = some (m, r, H)) : ∃ Ha a1 Hb a2 Hc, mmRun [.int (17 + 4 * v), .int (17 + 4 * v)] [] = some (m, Ha) ∧ pFp [m, .int (17 + 4 * v), .int (17 + 4 * v)] Ha = some (a1, Hb) ∧ pAp [m, .int (17 + 4 * v), .int (17 + 4 * v)] Hb = some (a2, Hc) ∧ pLp [.int v] Hc = some (r, H) := by
  unfold prep at h
  split at h
  · rename_i m' Ha e1
    split at h
    · rename_i a1 Hb e2
      split at h
      · rename_i a2 Hc e3
        split at h
        · rename_i r' H' e4
          simp only [Option.some.injEq, Prod.mk.injEq] at h
          obtain ⟨rfl, rfl, rfl⟩ := h
          exact ⟨_, _, _, _, _, e1, e2, e3, e4⟩
        · cases h
      · cases h
    · cases h
  · cases h

section
variable {v room : Int} {n : Nat}
theorem sEx_of {f : Den} {ρ : List AV} {H H₁ : List AO} {a : AV} (h : f ρ H = some (a, H₁)) : sEx f ρ H = some (.next, ρ, H₁) := by unfold sEx; rw [h]
theorem sAsg_of {i : Nat} {f : Den} {ρ : List AV} {H H₁ : List AO} {a : AV} (h : f ρ H = some (a, H₁)) : sAsg i f ρ H = some (.next, ρ.set i a, H₁) := by unfold sAsg; rw [h]
theorem sCons_asg {i : Nat} {f : Den} {g : DenS} {ρ : List AV} {H H₁ : List AO} {a : AV} (h : f ρ H = some (a, H₁)) : sCons (sAsg i f) g ρ H = g (ρ.set i a) H₁ := sCons_next (sAsg_of h)

noncomputable def lenOf (room short : Int) : Int := if short < 9 then room - short else room + 1
theorem l2_run (V : Ver v n room) {sc : AV} {nums : List Int} (hn : 2 ≤ nums.length) (hn' : nums.length ≤ 65) :
    ∃ (m r : AV) (Ha : List AO), mmRun [.int (17 + 4 * v), .int (17 + 4 * v)] [] = some (m, Ha) ∧ m = .tup (refsFrom 1 n) ∧ r = .lst (refsFrom (n + 1) n) ∧
      ∃ (short : Int) (H : List AO) (P : Pic) (y9 y10 : AV) (bits : List Int), 0 ≤ short ∧ short ≤ 9 ∧ AtK 1 true n P H ∧ AtK (n + 1) false n P H ∧ ((placesC n).foldl cntP (0, P)).1 = room ∧ ((bits.length : Nat) : Int) = lenOf room short ∧ (∀ x ∈ bits, x = 0 ∨ x = 1) ∧
        dL2 ([sc, .lst (nums.map .int), .int v, .int (17 + 4 * v), m] ++ unds 13) Ha = some (.next, [sc, .lst (nums.map .int), .int v, .int n, m, r, .int room, .int short, .int (bits.length : Nat), y9, y10, .lst (bits.map .int)] ++ unds 6, H) := by
  obtain ⟨H, P, hp, k1, k2, hl, hs, hc⟩ := V.pr
  obtain ⟨Ha, a1, Hb, a2, Hc, e1, e2, e3, e4⟩ := prep_split hp
  refine ⟨_, _, Ha, e1, rfl, rfl, ?_⟩
  have hsh0 := Int.fmod_nonneg_of_pos (nums.getD 1 0) (b := 10) (by decide)
  have hsh1 := Int.fmod_lt_of_pos (nums.getD 1 0) (b := 10) (by decide)
  have hi : idxV (.lst (nums.map .int)) (.int 1) H = some (.int (nums.getD 1 0)) := idx_ints (by decide) (by omega) (by omega)
  generalize nums.getD 1 0 = x1 at hsh0 hsh1 hi
  have hr1 := V.r1
  have hr2 := V.r2
  have hlen : 0 ≤ lenOf room (x1.fmod 10) ∧ lenOf room (x1.fmod 10) ≤ 1586 := by unfold lenOf; split <;> omega
  generalize hm : AV.tup (refsFrom 1 n) = m at e1 e2 e3
  generalize hrr : AV.lst (refsFrom (n + 1) n) = r at e4
  generalize hN : AV.lst (nums.map .int) = N at hi
  obtain ⟨seeds, q1, q2, e9⟩ := seeds_ok (H := H) hn' (ρ := [sc, N, .int v, .int (17 + 4 * v), m, r, .int room, .int (x1.fmod 10), .int (lenOf room (x1.fmod 10))] ++ unds 9) (by rw [← hN]; rfl)
  obtain ⟨base, q3, q4, e10⟩ := base_ok (H := H) q1 q2 (ρ := [sc, N, .int v, .int (17 + 4 * v), m, r, .int room, .int (x1.fmod 10), .int (lenOf room (x1.fmod 10)), .lst (seeds.map .int)] ++ unds 8) rfl
  obtain ⟨bits, ao, q5, q6, e11⟩ := bits_ok (H := H) (len := lenOf room (x1.fmod 10)) q3 q4 hlen.1 hlen.2 (ρ := [sc, N, .int v, .int (17 + 4 * v), m, r, .int room, .int (x1.fmod 10), .int (lenOf room (x1.fmod 10)), .lst (seeds.map .int), .lst (base.map .int)] ++ unds 7) rfl rfl
  have hbl : ((bits.length : Nat) : Int) = lenOf room (x1.fmod 10) := by omega
  refine ⟨x1.fmod 10, H ++ [ao], P, .lst (seeds.map .int), .lst (base.map .int), bits, hsh0, by omega, k1.app _, k2.app _, hc, hbl, q6, ?_⟩
  have e6 : dRoom ([sc, N, .int v, .int (17 + 4 * v), m, r] ++ unds 12) H = some (.int room, H) := by
    rw [room_ok k2 V.side.n1 (by rw [← hrr]; rfl), hs]
  have e7 : dBin .mod (dIdx (dLoc 1) (dInt 1)) (dInt 10) ([sc, N, .int v, .int (17 + 4 * v), m, r, .int room] ++ unds 11) H = some (.int (x1.fmod 10), H) := by
    have b1 : dIdx (dLoc 1) (dInt 1) ([sc, N, .int v, .int (17 + 4 * v), m, r, .int room] ++ unds 11) H = some (.int x1, H) := by
      have b0 : dLoc 1 ([sc, N, .int v, .int (17 + 4 * v), m, r, .int room] ++ unds 11) H = some (N, H) := by rw [← hN]; rfl
      unfold dIdx; rw [b0]; dsimp only [dInt]; rw [hi]
    rw [dBin_of b1 rfl]; rfl
  have e8 : dIte (bCmp .lt (dLoc 7) (dInt 9)) (dBin .sub (dLoc 6) (dLoc 7)) (dBin .add (dLoc 6) (dInt 1)) ([sc, N, .int v, .int (17 + 4 * v), m, r, .int room, .int (x1.fmod 10)] ++ unds 10) H = some (.int (lenOf room (x1.fmod 10)), H) := by
    unfold lenOf
    by_cases h9 : x1.fmod 10 < 9 <;> simp [dIte, bCmp, cop, dLoc, dInt, AV.isUnd, dBin, bop, bInt, h9]
  rw [hbl]
  have hnn : (AV.int (n : Int)) = .int (17 + 4 * v) := by rw [V.nv]
  rw [hnn]
  have f1 : dCall (lCons (dLoc 4) (lCons (dLoc 3) (lCons (dLoc 3) lNil))) pFp ([sc, N, .int v, .int (17 + 4 * v), m] ++ unds 13) Ha = some (a1, Hb) := by
    rw [← e2, ← hm]; rfl
  have f2 : dCall (lCons (dLoc 4) (lCons (dLoc 3) (lCons (dLoc 3) lNil))) pAp ([sc, N, .int v, .int (17 + 4 * v), m] ++ unds 13) Hb = some (a2, Hc) := by
    rw [← e3, ← hm]; rfl
  have f3 : dCall (lCons (dLoc 2) lNil) pLp ([sc, N, .int v, .int (17 + 4 * v), m] ++ unds 13) Hc = some (r, H) := by
    rw [← e4]; rfl
  unfold dL2
  rw [sCons_next (sEx_of f1), sCons_next (sEx_of f2), sCons_asg f3]
  refine Eq.trans (sCons_asg e6) ?_
  refine Eq.trans (sCons_asg e7) ?_
  refine Eq.trans (sCons_asg e8) ?_
  refine Eq.trans (sCons_asg e9) ?_
  refine Eq.trans (sCons_asg e10) ?_
  refine Eq.trans (sCons_asg e11) ?_
  rfl
end
end Mine
end

section
open PySem PyProof.Rows
set_option autoImplicit false
set_option maxRecDepth 100000
set_option maxHeartbeats 4000000
namespace Mine

noncomputable def genScope : Scope := match ((bodyOf 9)[3]? : Option Stmt) with
  | some (.Assign _ (.Call _ [.GeneratorExp _ _ sc _] _ _) _) => sc
  | _ => scOf 9
noncomputable def genI : Str := match ((bodyOf 9)[3]? : Option Stmt) with
  | some (.Assign _ (.Call _ [.GeneratorExp _ [⟨.Name i _, _, _, _⟩] _ _] _ _) _) => i
  | _ => ""

theorem AOk.less {A : Around} {d d' : Nat} (h : AOk A d) (hd : d' ≤ d) : AOk A d' := ⟨h.hd, by have := h.dp; omega, by have := h.un; omega⟩

theorem mmRun_split {as : List AV} {H H' : List AO} {v : AV} (e : mmRun as H = some (v, H')) : ∃ ρ₁ H₁ ρ₂ H₂ ρ₃, dM1 (as ++ [.bool true, .bool true] ++ unds (nmMm.length - (as.length + 2))) H = some (.next, ρ₁, H₁) ∧ sAsg 7 (dGen dMit 6) ρ₁ H₁ = some (.next, ρ₂, H₂) ∧ dM2 ρ₂ H₂ = some (.ret v, ρ₃, H') := by
  unfold mmRun at e
  split at e
  · rename_i ρ₁ H₁ e1
    split at e
    · rename_i ρ₂ H₂ e2
      split at e
      · rename_i v' ρ₃ H₃ e3
        cases e
        exact ⟨_, _, _, _, _, e1, e2, e3⟩
      · cases e
    · cases e
  · cases e

theorem namesMm : NamesOk (scOf 9) nmMm ["width", "height", "reserve_regions", "add_timing"] where
  pre := ⟨_, rfl⟩
  loc := by decide +kernel
  kd := by decide +kernel
  nd := by decide +kernel
  one := fun L y c h => by
    have e : cellsFrom L (scOf 9).names [] = [(("row" : Str), L)] := rfl
    rw [e] at h ⊢
    simp at h
    obtain ⟨rfl, rfl⟩ := h; simp

section
variable {X : Cx} {sc : Scope} {nm : List Str}
/-- the statement of the generator, as a step that changes the base's table -/
noncomputable def GenStep (X : Cx) (d : Nat) (sc : Scope) (nm : List Str) (c P : Addr) (n1 : P ≠ mainGlobals) (n2 : P ≠ builtinsNs) (n3 : P ≠ cStatics) (st : Stmt) (f : DenS) : Prop :=
  ∀ (A : Around) (env : Env) (K : Addr → Option Obj) (g : Gh) (H : List AO) (ρ ρ' : List AV) (s : Shared) (Q : Flow → Shared → Prop) (E : Value → Shared → Prop) (fl : Fl) (H' : List AO), AOk A d → EnvI sc env → env.code = .ref c → Bs X K g → Fm K env nm ρ g s.heap → Rel K g H s.heap → f ρ H = some (fl, ρ', H') →
    (∀ more g' s' flow, g.Le g' → Bs (X.tab P (tabO more) n1 n2 n3) (K1 K P (tabO more)) g' → Fm (K1 K P (tabO more)) env nm ρ' g' s'.heap → Rel (K1 K P (tabO more)) g' H' s'.heap → FlR g' fl flow → Rest s s' → Q flow s') →
    wpC (model X.prog X.w) A (exec st env) Q E s

theorem gen_call {a : Addr} {o : Obj} {fd : FuncData} {pre post : List Stmt} {st : Stmt} {c P : Addr} {n1 : P ≠ mainGlobals} {n2 : P ≠ builtinsNs} {n3 : P ≠ cStatics} {ps : List Str} {n : Nat} {dv : List Value} {das : List AV} {f1 f2 f3 : DenS} (O : OwnFn X a o fd (pre ++ st :: post) sc) (hb : Binds X fd ps n dv) (hN : NamesOk sc nm ps)
    (hdv : ∀ g : Gh, VRs g das dv) (hl : ps.length = n + das.length) (hc : fd.code = .ref c) (h1 : SndS X 1 sc nm pre f1) (h2 : GenStep X 1 sc nm c P n1 n2 n3 st f2) (h3 : ∀ more, SndS (X.tab P (tabO more) n1 n2 n3) 1 sc nm post f3)
    {A : Around} {K : Addr → Option Obj} {g : Gh} {H H₁ H₂ H' : List AO} {ρ₁ ρ₂ ρ₃ : List AV} {s : Shared} {Q : Value → Shared → Prop} {E : Value → Shared → Prop} {as : List AV} {vs : List Value} {v : AV}
    (hA : AOk A 2) (hB : Bs X K g) (hR : Rel K g H s.heap) (ha : as.length = n) (hv : VRs g as vs) (e1 : f1 (as ++ das ++ List.replicate (nm.length - (n + das.length)) .und) H = some (.next, ρ₁, H₁)) (e2 : f2 ρ₁ H₁ = some (.next, ρ₂, H₂)) (e3 : f3 ρ₂ H₂ = some (.ret v, ρ₃, H'))
    (k : ∀ more g' s' val, g.Le g' → Bs (X.tab P (tabO more) n1 n2 n3) (K1 K P (tabO more)) g' → Rel (K1 K P (tabO more)) g' H' s'.heap → VR g' v val → Rest s s' → Q val s') :
    wpC (model X.prog X.w) A (call (.ref a) vs) Q E s := by
  refine wpC_call (own_enter (d := 1) O hb hN hdv hl hA hB hR ha hv fun env s₁ hE hfr hco F R r => ?_)
  refine wpC_execs_append ?_
  refine h1 _ env K g H _ s₁ _ _ .next ρ₁ H₁ hA.deeper hE hB F R e1 fun g₁ s₂ fw hg₁ F₁ R₁ hfl r₁ => ?_
  have hfl' : fw = .next := hfl
  subst hfl'
  dsimp only
  rw [execs_cons]
  refine wpC_bind (h2 _ env K g₁ H₁ ρ₁ ρ₂ s₂ _ _ .next H₂ hA.deeper hE (hco.trans hc) (hB.mono hg₁) F₁ R₁ e2 fun more g₂ s₃ flow hg₂ B₂ F₂ R₂ hfl₂ r₂ => ?_)
  have hfl' : flow = .next := hfl₂
  subst hfl'
  dsimp only
  refine h3 more _ env (K1 K P (tabO more)) g₂ H₂ ρ₂ s₃ _ _ (.ret v) ρ₃ H' hA.deeper hE B₂ F₂ R₂ e3 fun g₃ s₄ fw hg₃ F₃ R₃ hfl₃ r₃ => ?_
  obtain ⟨val, rfl, hval⟩ := hfl₃
  exact k more g₃ s₄ val ((hg₁.trans hg₂).trans hg₃) (B₂.mono hg₃) R₃ hval (((r.trans r₁).trans r₂).trans r₃)
end

noncomputable def stGen : Stmt := match ((bodyOf 9)[3]? : Option Stmt) with
  | some s => s
  | none => .Pass default
theorem mm_body : bodyOf 9 = ((bodyOf 9).drop 0).take 3 ++ stGen :: ((bodyOf 9).drop 4).take 3 := by kernel_rfl
end Mine
end

section
open PySem PyProof.Rows
set_option autoImplicit false
set_option maxRecDepth 100000
set_option maxHeartbeats 4000000
namespace Mine

theorem genStep {X : Cx} (Fa : Facts X) {c P : Addr} (G : GenOk X (scOf 9) genScope genI "row" c P) : GenStep X 1 (scOf 9) nmMm c P G.n1 G.n2 G.n3 stGen (sAsg 7 (dGen dMit 6)) := by
  intro A env K g H ρ ρ' s Q E fl H' hA hE hco hB hF hR e k
  have hst : stGen = stGen := rfl
  conv at hst => rhs; whnf
  rw [hst]
  have hi : ∀ {p1 p2 p3}, SndE X 1 (scOf 9) nmMm (.Call (.Name "range" p1) [.Name "height" p2] [] p3) dMit := by
    intro p1 p2 p3
    conv in (scOf 9) => whnf
    exact (@snd_call _ _ _ _ _ _ _ _ _ _ _ Fa.gRange trivial prim_range (@sndL_cons _ _ _ _ _ _ _ _ (@snd_loc _ _ _ _ _ _ _ rfl (by decide) (by decide)) (@sndL_nil _ _ _ _ ) (fun _ => rfl)) (List.cons_ne_nil _ _) rfl (by decide))
  exact @gen_asg X 1 (scOf 9) nmMm dMit 6 7 genI "row" "matrix" _ _ _ _ default default _ genScope _ _ _ _ _ c P G hi rfl rfl (fun _ _ => rfl) Fa.gTuple rfl (by decide) (by decide) A env K g H ρ ρ' s Q E fl H' hA hE hco hB hF hR e k
end Mine
end

section
open PySem PyProof.Rows
set_option autoImplicit false
set_option maxRecDepth 100000
set_option maxHeartbeats 4000000
namespace Mine

section
variable {X : Cx} {sc : Scope} {nm : List Str}
noncomputable def TabCall (X : Cx) (d : Nat) (P : Addr) (n1 : P ≠ mainGlobals) (n2 : P ≠ builtinsNs) (n3 : P ≠ cStatics) (a : Addr) (p : PDen) : Prop :=
  ∀ (A : Around) (K : Addr → Option Obj) (g : Gh) (H : List AO) (s : Shared) (Q : Value → Shared → Prop) (E : Value → Shared → Prop) (as : List AV) (vs : List Value) (v : AV) (H' : List AO),
    AOk A d → Bs X K g → Rel K g H s.heap → p as H = some (v, H') → VRs g as vs →
    (∀ more g' s' val, g.Le g' → Bs (X.tab P (tabO more) n1 n2 n3) (K1 K P (tabO more)) g' → Rel (K1 K P (tabO more)) g' H' s'.heap → VR g' v val → Rest s s' → Q val s') →
    wpC (model X.prog X.w) A (call (.ref a) vs) Q E s

theorem tab_asg {d : Nat} {P : Addr} {n1 : P ≠ mainGlobals} {n2 : P ≠ builtinsNs} {n3 : P ≠ cStatics} {a : Addr} {o : Obj} {fd : FuncData} {p : PDen} {x z : Str} {nz : Nat} {xs : List Expr} {r : DenL} {p₁ pos pz spos : Pos} (hp : TabCall X d P n1 n2 n3 a p) (hv : GV X x (.ref a)) (ho : X.h₁.get? a = some o) (hdd : o.data = .func fd) (hargs : SndL X d sc nm xs r) (hne : xs ≠ []) (hx : sc.names.lookup x = some .globalImplicit) (hxd : (x == ("__debug__" : Str)) = false)
    (hz : nm[nz]? = some z) (hsw : ∀ env, swapsWith (.Call (.Name x p₁) xs [] pos) (some (.Name z pz)) spos.line env = pure false) (hP : X.h₁.get? P = some (tabO #[]))
    {A : Around} {env : Env} {K : Addr → Option Obj} {g : Gh} {H H₁ H' : List AO} {ρ : List AV} {s : Shared} {Q : Flow → Shared → Prop} {E : Value → Shared → Prop} {as : List AV} {v : AV}
    (hA : AOk A d) (hE : EnvI sc env) (hB : Bs X K g) (hF : Fm K env nm ρ g s.heap) (hR : Rel K g H s.heap) (e₁ : r ρ H = some (as, H₁)) (e₂ : p as H₁ = some (v, H'))
    (k : ∀ more g' s', g.Le g' → Bs (X.tab P (tabO more) n1 n2 n3) (K1 K P (tabO more)) g' → Fm (K1 K P (tabO more)) env nm (ρ.set nz v) g' s'.heap → Rel (K1 K P (tabO more)) g' H' s'.heap → Rest s s' → Q .next s') :
    wpC (model X.prog X.w) A (exec (.Assign [.Name z pz] (.Call (.Name x p₁) xs [] pos) spos) env) Q E s := by
  rw [exec_Assign_Name env z pz _ spos (hsw env)]
  refine wpC_seq (wpAny_standAt (wpC_bind ?_))
  have hRo := hF.relOv hR
  have hBo := hB.ov hF
  rw [arm_eval_Call_Name']
  refine wpC_seq (gv_loads hE hBo hRo hx hv hxd ?_)
  obtain ⟨t, rest, hbk⟩ := hargs.ne hne env pos
  have run := fun Q' E' => hargs.run pos A env (ov K env s.heap) g H ρ s Q' E' _ _ hA hE hBo hF.fr hRo e₁
  rw [hbk] at run
  show wpC _ _ (callWith pos (.ref a) [] (backTo pos (starEach xs env)) []) _ _ _
  rw [hbk]
  refine callWithC (o := o) (fd := fd) (Calls.evalArgs_plain (run _ _ fun g₁ s₁ vs hg₁ R₁ V₁ r₁ => ⟨⟨R₁.kept _ _ (hBo.k _ _ ho), hdd⟩, ?_⟩))
  refine hp A (ov K env s.heap) g₁ H₁ s₁ _ _ as vs v H' hA (hBo.mono hg₁) R₁ e₂ V₁ fun more g₂ s₂ val hg₂ B₂ R₂ V₂ r₂ => ?_
  have hKP : K P = some (tabO #[]) := hB.k _ _ hP
  have hsP : s.heap.get? P = some (tabO #[]) := hR.kept _ _ hKP
  have hfP : ¬ (P = env.locals ∨ P ∈ env.cells.map (·.2)) := by
    rintro (q | q)
    · rw [q, hF.kL] at hKP; cases hKP
    · rw [hF.kc P q] at hKP; cases hKP
  have hoth : ∀ b o, b ≠ P → s.heap.get? b = some o → (s.heap.update P fun _ => tabO more).get? b = some o := fun b o hb e => (Heap.get?_update_other _ _ (Ne.symm hb)).trans e
  have hPP : (s.heap.update P fun _ => tabO more).get? P = some (tabO more) := Heap.get?_update_self _ hsP rfl
  have F'' : Fm (K1 K P (tabO more)) env nm ρ g (s.heap.update P fun _ => tabO more) := hF.tab hKP hoth
  have R'' := hR.tab hKP (tabO_notFD _) hoth hPP
  have hov : ov (K1 K P (tabO more)) env (s.heap.update P fun _ => tabO more) = K1 (ov K env s.heap) P (tabO more) := by
    funext b
    unfold ov K1
    by_cases hb : b = P
    · subst hb; rw [if_neg hfP, if_pos rfl, if_pos rfl]
    · rw [if_neg hb]
      dsimp only
      rw [if_neg hb]
      by_cases hf : b = env.locals ∨ b ∈ env.cells.map (·.2)
      · rw [if_pos hf, if_pos hf]; exact Heap.get?_update_other _ _ (Ne.symm hb)
      · rw [if_neg hf, if_neg hf]
  have B' : Bs (X.tab P (tabO more) n1 n2 n3) (K1 K P (tabO more)) g₂ := (hB.tab hP (tabO_notFD _) rfl).mono (hg₁.trans hg₂)
  obtain ⟨F₃, R₃⟩ := F''.close R'' (hg₁.trans hg₂) (by rw [hov]; exact R₂)
  refine wpC_seq (wpAny_standAt (wpC_seq (wpAny_bindName (F₃.store R₃ hE hz V₂ fun h' tk F' R' => ?_))))
  exact wpC_pure (k more g₂ _ (hg₁.trans hg₂) B' F' R' ((r₁.trans r₂).trans Rest.ht))
end

noncomputable def pMm : PDen := fun as H => if as.length = 2 then mmRun as H else none
theorem tabMm {X : Cx} (Fa : Facts X) {c P : Addr} (G : GenOk X (scOf 9) genScope genI "row" c P) (hc : Fa.fdMm.code = .ref c) (Fa' : ∀ more, Facts (X.tab P (tabO more) G.n1 G.n2 G.n3)) : TabCall X 2 P G.n1 G.n2 G.n3 Fa.aMm pMm := by
  intro A K g H s Q E as vs v H' hA hB hR e hv k
  unfold pMm at e
  split at e
  · rename_i ha
    obtain ⟨ρ₁, H₁, ρ₂, H₂, ρ₃, e1, e2, e3⟩ := mmRun_split e
    have O := Fa.oMm
    rw [mm_body] at O
    refine gen_call (nm := nmMm) O Fa.bMm namesMm (fun g => VRs.cons VR.bool (VRs.cons VR.bool VRs.nil)) rfl hc (sndM1 (d := 1) Fa) (genStep Fa G) (fun more => sndM2 (d := 0) (Fa' more)) hA hB hR ha hv ?_ e2 e3 k
    rw [← e1, ha]; rfl
  · cases e
end Mine
end

section
open PySem PyProof.Rows
set_option autoImplicit false
set_option maxRecDepth 100000
set_option maxHeartbeats 4000000
set_option linter.unusedSimpArgs false
namespace Mine

section
variable {v room : Int} {n : Nat}
theorem l3_run (V : Ver v n room) {sc y1 y6 y9 y10 : AV} {short : Int} (hsh : short ≠ 9) {bits : List Int} (hl : bits.length ≤ 100000) (hb : ∀ x ∈ bits, 0 ≤ x ∧ x < 256) {P P' : Pic} {H : List AO} (k1 : AtK 1 true n P' H) (k2 : AtK (n + 1) false n P H) (hP : P' = ((placesC n).foldl (layP bits.length bits) (0, P)).2) :
    ∃ ρ' H', dL3 ([sc, y1, .int v, .int n, .tup (refsFrom 1 n), .lst (refsFrom (n + 1) n), y6, .int short, .int (bits.length : Nat), y9, y10, .lst (bits.map .int)] ++ unds 6) H = some (.ret (.bool true), ρ', H') := by
  obtain ⟨x14, x15, x16, x17, H', e, hK⟩ := pLoop (k := n + 1) (b := false) (H₀ := H) (y0 := sc) (y1 := y1) (y2 := .int v) (y4 := .tup (refsFrom 1 n)) (y6 := y6) (y7 := .int short) (y9 := y9) (y10 := y10) (x14 := .und) (x15 := .und) (x16 := .und) (x17 := .und) V.side V.sideL hl hb (s := (0, P)) (H := H) ⟨k2, Int.le_refl 0, rfl, fun _ _ => rfl⟩
  have hf : (foldL n bits (colsN n) (0, P)).2 = P' := by rw [foldL_eq, ← V.pl, hP]
  have k1' : AtK 1 true n P' H' := k1.keep hK (by omega)
  have k2' : AtK (n + 1) false n P' H' := by rw [← hf]; exact hK.at_
  have hend := dEnd_true V.side.n1 k1' k2' (ρ := rhoL (n + 1) n bits (colsN n) sc y1 (.int v) (.tup (refsFrom 1 n)) y6 (.int short) y9 y10 (foldL n bits (colsN n) (0, P)).1 x14 x15 x16 x17) rfl rfl
  refine ⟨rhoL (n + 1) n bits (colsN n) sc y1 (.int v) (.tup (refsFrom 1 n)) y6 (.int short) y9 y10 (foldL n bits (colsN n) (0, P)).1 x14 x15 x16 x17, H', ?_⟩
  have s0 : sIf (bCmp .eq (dLoc 7) (dInt 9)) (sCons (sRet (dBool false)) sNil) sNil ([sc, y1, .int v, .int n, .tup (refsFrom 1 n), .lst (refsFrom (n + 1) n), y6, .int short, .int (bits.length : Nat), y9, y10, .lst (bits.map .int)] ++ unds 6) H = some (.next, [sc, y1, .int v, .int n, .tup (refsFrom 1 n), .lst (refsFrom (n + 1) n), y6, .int short, .int (bits.length : Nat), y9, y10, .lst (bits.map .int)] ++ unds 6, H) := by
    have hq : (short == 9) = false := by simpa using hsh
    simp [sIf, bCmp, cop, dLoc, AV.isUnd, dInt, hq, sNil]
  have s1 := cols_ok (H := H) V (ρ := [sc, y1, .int v, .int n, .tup (refsFrom 1 n), .lst (refsFrom (n + 1) n), y6, .int short, .int (bits.length : Nat), y9, y10, .lst (bits.map .int)] ++ unds 6) rfl
  rw [dL3_eq, sCons_next s0, sCons_asg s1]
  refine Eq.trans (sCons_asg (a := .int 0) (H₁ := H) rfl) ?_
  refine Eq.trans (sCons_next e) ?_
  unfold sCons sRet
  rw [hend]

theorem law_steps {script : List Int} (h : script.length ≤ 63) : ∃ (ρ₁ : List AV) (H₁ : List AO) (m : AV) (Ha : List AO) (ρ₂ : List AV) (H₂ : List AO) (as : List AV) (ρc : List AV) (H₃ : List AO) (bt : Bool) (i1 i2 i3 : Int),
    dL1 (.lst (script.map .int) :: unds 17) [] = some (.next, ρ₁, H₁) ∧ dCall dMmArgs pMm ρ₁ H₁ = some (m, Ha) ∧ dL2 (ρ₁.set 4 m) Ha = some (.next, ρ₂, H₂) ∧ dTryArgs ρ₂ H₂ = some (as, H₂) ∧ as.length = 3 ∧ dC1 (as ++ unds 13) H₂ = some (.next, ρc, H₃) ∧ dCt ρc H₃ = some (bt, H₃) ∧
    dCv1 ρc H₃ = some (.int i1, H₃) ∧ dCv2 ρc H₃ = some (.int i2, H₃) ∧ i1.natAbs ≤ 1919 ∧ i2.natAbs ≤ 1919 ∧ ρ₂[7]? = some (.int i3) ∧ (bt = true → i3 = 9) ∧ (bt = false → ∃ ρ₃ H₄, dL3 ρ₂ H₃ = some (.ret (.bool true), ρ₃, H₄)) := by
  obtain ⟨n, room, V⟩ := ver_all (verN script) verN_ok.1 verN_ok.2
  obtain ⟨m, r, Ha, em, rfl, rfl, short, H, P, y9, y10, bits, c1, c2, k1, k2, hc, hbl, hb01, e2⟩ := l2_run V (sc := .lst (script.map .int)) (nums_len script) (nums_len' h)
  have hr1 := V.r1
  have hr2 := V.r2
  have hb : ∀ x ∈ bits, 0 ≤ x ∧ x < 256 := fun x hx => by rcases hb01 x hx with rfl | rfl <;> decide
  have hb2 : ∀ x ∈ bits, x ≠ 2 := fun x hx => by rcases hb01 x hx with rfl | rfl <;> decide
  have hl : bits.length ≤ 1586 := by unfold lenOf at hbl; split at hbl <;> omega
  obtain ⟨ρc, H', ec, hI⟩ := c1_run (k := 1) (b := true) (H := H) V.side V.v2 (by omega) hb k1
  obtain ⟨hK, x9, x10, x11, x12, x13, x14, x15, rfl⟩ := hI
  have hidx : (foldC n bits (0, P)).1 = min ((bits.length : Nat) : Int) room := by
    rw [foldC_eq, lay_cnt (by omega) hb2 (placesC n) 0 0 P P (.inl ⟨rfl, by omega, rfl⟩), hc]
  have ht : dCt (rhoC 1 n bits (.int (verN script)) (foldC n bits (0, P)).1 x9 x10 x11 x12 x13 x14 x15) H' = some ((foldC n bits (0, P)).1 != ((bits.length : Nat) : Int), H') := by
    have hl2 : bits.length ≤ 1000000 := by omega
    simp [dCt, bCmp, cop, rhoC, dLoc, AV.isUnd, dCall, lCons, lNil, pLen, hl2]
  have ht2 : dCv2 (rhoC 1 n bits (.int (verN script)) (foldC n bits (0, P)).1 x9 x10 x11 x12 x13 x14 x15) H' = some (.int ((bits.length : Nat) : Int), H') := by
    have hl2 : bits.length ≤ 1000000 := by omega
    simp [dCv2, rhoC, dLoc, AV.isUnd, dCall, lCons, lNil, pLen, hl2]
  refine ⟨_, [], .tup (refsFrom 1 n), Ha, _, H, [.tup (refsFrom 1 n), .lst (bits.map .int), .int (verN script)], _, H', _, (foldC n bits (0, P)).1, ((bits.length : Nat) : Int), short, l1_run h, em, e2, rfl, rfl, ec, ht, rfl, ht2, by rw [hidx]; omega, by omega, rfl, fun hne => ?_, fun hne => ?_⟩
  · rw [hidx, bne_iff_ne] at hne
    apply Classical.byContradiction
    intro hs
    apply hne
    have hlen : ((bits.length : Nat) : Int) = room - short := by rw [hbl]; unfold lenOf; rw [if_pos (by omega)]
    omega
  · rw [hidx, bne_eq_false_iff_eq] at hne
    have hs : short ≠ 9 := by
      rintro rfl
      have hlen : ((bits.length : Nat) : Int) = room + 1 := by rw [hbl]; rfl
      omega
    exact l3_run V (sc := .lst (script.map .int)) (y1 := .lst ((numsOf script).map .int)) (y6 := .int room) (y9 := y9) (y10 := y10) hs (by omega) hb (P := P) (P' := (foldC n bits (0, P)).2) (H := H') hK.at_ (k2.keep hK (by omega)) (by rw [foldC_eq])
end
end Mine
end

section
open PySem PyProof.Rows
set_option autoImplicit false
set_option maxRecDepth 100000
set_option maxHeartbeats 4000000
namespace Mine

section
variable {X : Cx} {sc : Scope} {nm : List Str}
noncomputable def TabStep (X : Cx) (d : Nat) (sc : Scope) (nm : List Str) (P : Addr) (n1 : P ≠ mainGlobals) (n2 : P ≠ builtinsNs) (n3 : P ≠ cStatics) (st : Stmt) (nz : Nat) (f : Den) : Prop :=
  ∀ (A : Around) (env : Env) (K : Addr → Option Obj) (g : Gh) (H : List AO) (ρ : List AV) (s : Shared) (Q : Flow → Shared → Prop) (E : Value → Shared → Prop) (v : AV) (H' : List AO), AOk A d → EnvI sc env → Bs X K g → Fm K env nm ρ g s.heap → Rel K g H s.heap → f ρ H = some (v, H') →
    (∀ more g' s', g.Le g' → Bs (X.tab P (tabO more) n1 n2 n3) (K1 K P (tabO more)) g' → Fm (K1 K P (tabO more)) env nm (ρ.set nz v) g' s'.heap → Rel (K1 K P (tabO more)) g' H' s'.heap → Rest s s' → Q .next s') →
    wpC (model X.prog X.w) A (exec st env) Q E s
noncomputable def TryStep (X : Cx) (d : Nat) (sc : Scope) (nm : List Str) (st : Stmt) (ρ : List AV) (H H₃ : List AO) (bt : Bool) : Prop :=
  ∀ (A : Around) (env : Env) (K : Addr → Option Obj) (g : Gh) (s : Shared) (Q : Flow → Shared → Prop) (E : Value → Shared → Prop), AOk A d → A.frames = some [env] → EnvI sc env → env.frame = some env.locals → Bs X K g → Fm K env nm ρ g s.heap → Rel K g H s.heap →
    (bt = false → ∀ g' s', g.Le g' → Fm K env nm ρ g' s'.heap → Rel K g' H₃ s'.heap → Rest s s' → Q .next s') →
    (bt = true → ∀ s', (∀ b o, X.h₁.get? b = some o → s'.heap.get? b = some o) → Rest s s' → Q (.ret (.bool true)) s') → wpC (model X.prog X.w) A (exec st env) Q E s

theorem law_gen {a : Addr} {o : Obj} {fd : FuncData} {l1 l2 l3 : List Stmt} {sM sT : Stmt} {P : Addr} {n1 : P ≠ mainGlobals} {n2 : P ≠ builtinsNs} {n3 : P ≠ cStatics} {ps : List Str} {f1 f2 f3 : DenS} {fM : Den} {nz : Nat}
    {ρ₁ ρ₂ : List AV} {H₁ Ha H₂ H₃ : List AO} {bt : Bool} {m : AV} {as : List AV}
    (O : OwnFn X a o fd (l1 ++ sM :: (l2 ++ sT :: l3)) sc) (hb : Binds X fd ps as.length []) (hN : NamesOk sc nm ps) (hl : ps.length = as.length)
    (h1 : SndS X 2 sc nm l1 f1) (h2 : TabStep X 2 sc nm P n1 n2 n3 sM nz fM) (h3 : ∀ more, SndS (X.tab P (tabO more) n1 n2 n3) 2 sc nm l2 f2) (h4 : ∀ more, TryStep (X.tab P (tabO more) n1 n2 n3) 2 sc nm sT ρ₂ H₂ H₃ bt) (h5 : ∀ more, SndS (X.tab P (tabO more) n1 n2 n3) 2 sc nm l3 f3)
    {A : Around} {K : Addr → Option Obj} {g : Gh} {s : Shared} {Q : Value → Shared → Prop} {E : Value → Shared → Prop} {vs : List Value}
    (hA : AOk A 3) (hfr : A.frames = some []) (hB : Bs X K g) (hR : Rel K g [] s.heap) (hv : VRs g as vs)
    (e1 : f1 (as ++ List.replicate (nm.length - as.length) .und) [] = some (.next, ρ₁, H₁)) (e2 : fM ρ₁ H₁ = some (m, Ha)) (e3 : f2 (ρ₁.set nz m) Ha = some (.next, ρ₂, H₂)) (e5 : bt = false → ∃ ρ₃ H₄, f3 ρ₂ H₃ = some (.ret (.bool true), ρ₃, H₄))
    (k : ∀ more s', (∀ b o, (X.tab P (tabO more) n1 n2 n3).h₁.get? b = some o → s'.heap.get? b = some o) → Rest s s' → Q (.bool true) s') :
    wpC (model X.prog X.w) A (call (.ref a) vs) Q E s := by
  refine wpC_call (own_enter (d := 2) (das := []) (dv := []) O hb hN (fun g => VRs.nil) (by simpa using hl) hA hB hR rfl hv fun env s₁ hE hef _ F R r => ?_)
  have hfr' : (A.deeper env).frames = some [env] := by rw [Around.frames_deeper hfr]
  refine wpC_execs_append ?_
  refine h1 _ env K g [] _ s₁ _ _ .next ρ₁ H₁ hA.deeper hE hB F R (by simpa using e1) fun g₁ s₂ fw hg₁ F₁ R₁ hfl r₁ => ?_
  have hfl' : fw = .next := hfl
  subst hfl'
  dsimp only
  rw [execs_cons]
  refine wpC_bind (h2 _ env K g₁ H₁ ρ₁ s₂ _ _ m Ha hA.deeper hE (hB.mono hg₁) F₁ R₁ e2 fun more g₂ s₃ hg₂ B₂ F₂ R₂ r₂ => ?_)
  dsimp only
  refine wpC_execs_append ?_
  refine h3 more _ env (K1 K P (tabO more)) g₂ Ha _ s₃ _ _ .next ρ₂ H₂ hA.deeper hE B₂ F₂ R₂ e3 fun g₃ s₄ fw hg₃ F₃ R₃ hfl r₃ => ?_
  have hfl' : fw = .next := hfl
  subst hfl'
  dsimp only
  rw [execs_cons]
  refine wpC_bind (h4 more _ env (K1 K P (tabO more)) g₃ s₄ _ _ hA.deeper hfr' hE hef (B₂.mono hg₃) F₃ R₃ (fun hbt g₄ s₅ hg₄ F₄ R₄ r₄ => ?_) fun hbt s₅ hk r₄ => ?_)
  · obtain ⟨ρ₃, H₄, e5⟩ := e5 hbt
    dsimp only
    refine h5 more _ env (K1 K P (tabO more)) g₄ H₃ ρ₂ s₅ _ _ (.ret (.bool true)) ρ₃ H₄ hA.deeper hE ((B₂.mono hg₃).mono hg₄) F₄ R₄ e5 fun g₅ s₆ fw hg₅ F₅ R₅ hfl₅ r₅ => ?_
    obtain ⟨val, rfl, hval⟩ := hfl₅
    simp only [VR] at hval
    subst hval
    exact k more s₆ (fun b o e => R₅.kept _ _ (B₂.k _ _ e)) (((((r.trans r₁).trans r₂).trans r₃).trans r₄).trans r₅)
  · dsimp only
    exact wpC_pure (k more s₅ hk ((((r.trans r₁).trans r₂).trans r₃).trans r₄))
end
end Mine
end

section
open PySem PyProof.Rows
set_option autoImplicit false
set_option maxRecDepth 100000
set_option maxHeartbeats 4000000
namespace Mine

theorem namesCw : NamesOk (scOf 8) nmCw ["matrix", "codewords", "version"] where
  pre := ⟨_, rfl⟩
  loc := by decide +kernel
  kd := by decide +kernel
  nd := by decide +kernel
  one := fun L y c h => by
    have e : cellsFrom L (scOf 8).names [] = [] := rfl
    rw [e] at h ⊢
    simp at h
theorem namesLw : NamesOk (scOf 12) nmLw ["script"] where
  pre := ⟨_, rfl⟩
  loc := by decide +kernel
  kd := by decide +kernel
  nd := by decide +kernel
  one := fun L y c h => by
    have e : cellsFrom L (scOf 12).names [] = [(("seeds" : Str), L)] := rfl
    rw [e] at h ⊢
    simp at h
    obtain ⟨rfl, rfl⟩ := h; simp

noncomputable def stAt (k j : Nat) : Stmt := match ((bodyOf k)[j]? : Option Stmt) with
  | some s => s
  | none => .Pass default
theorem law_body : bodyOf 12 = ((bodyOf 12).drop 0).take 3 ++ stAt 12 3 :: (((bodyOf 12).drop 4).take 9 ++ stAt 12 13 :: ((bodyOf 12).drop 14).take 5) := by kernel_rfl
theorem cw_body : bodyOf 8 = ((bodyOf 8).drop 0).take 7 ++ [stAt 8 7] := by kernel_rfl

theorem mmStep {X : Cx} (Fa : Facts X) {P : Addr} {n1 : P ≠ mainGlobals} {n2 : P ≠ builtinsNs} {n3 : P ≠ cStatics} (ht : TabCall X 2 P n1 n2 n3 Fa.aMm pMm) (hP : X.h₁.get? P = some (tabO #[])) : TabStep X 2 (scOf 12) nmLw P n1 n2 n3 (stAt 12 3) 4 (dCall dMmArgs pMm) := by
  intro A env K g H ρ s Q E v H' hA hE hB hF hR e k
  have hst : stAt 12 3 = stAt 12 3 := rfl
  conv at hst => rhs; whnf
  rw [hst]
  have hargs : ∀ {p1 p2}, SndL X 2 (scOf 12) nmLw [.Name "size" p1, .Name "size" p2] dMmArgs := by
    intro p1 p2
    conv in (scOf 12) => whnf
    exact (@sndL_cons _ _ _ _ _ _ _ _ (@snd_loc _ _ _ _ _ _ _ rfl (by decide) (by decide)) (@sndL_cons _ _ _ _ _ _ _ _ (@snd_loc _ _ _ _ _ _ _ rfl (by decide) (by decide)) (@sndL_nil _ _ _ _ ) (fun _ => rfl)) (fun _ => rfl))
  unfold dCall at e
  split at e
  · rename_i as H₁ e₁
    exact @tab_asg X (scOf 12) nmLw 2 P n1 n2 n3 Fa.aMm Fa.obMm Fa.fdMm pMm "make_matrix" "matrix" 4 _ dMmArgs _ _ _ _ ht Fa.gMm Fa.oMm.ho Fa.oMm.hd hargs (List.cons_ne_nil _ _) rfl (by decide) rfl (fun _ => rfl) hP A env K g H H₁ H' ρ s Q E as v hA hE hB hF hR e₁ e k
  · cases e
end Mine
end

section
open PySem PyProof.Rows
set_option autoImplicit false
set_option maxRecDepth 100000
set_option maxHeartbeats 4000000
namespace Mine

theorem tryStep {X : Cx} (Fa : Facts X) {ρ₂ ρc as : List AV} {H₂ H₃ : List AO} {bt : Bool} {i1 i2 i3 : Int} (ha : as.length = 3) (e₁ : dTryArgs ρ₂ H₂ = some (as, H₂)) (e₂ : dC1 (as ++ unds 13) H₂ = some (.next, ρc, H₃)) (e₃ : dCt ρc H₃ = some (bt, H₃))
    (q1 : dCv1 ρc H₃ = some (.int i1, H₃)) (q2 : dCv2 ρc H₃ = some (.int i2, H₃)) (b1 : i1.natAbs ≤ 1919) (b2 : i2.natAbs ≤ 1919) (q3 : ρ₂[7]? = some (.int i3)) (h9 : bt = true → i3 = 9) : TryStep X 2 (scOf 12) nmLw (stAt 12 13) ρ₂ H₂ H₃ bt := by
  intro A env K g s Q E hA hfr hE hef hB hF hR kN kT
  have hst : stAt 12 13 = stAt 12 13 := rfl
  conv at hst => rhs; whnf
  rw [hst]
  have hst2 : stAt 8 7 = stAt 8 7 := rfl
  conv at hst2 => rhs; whnf
  have O := Fa.oCw
  rw [cw_body, hst2] at O
  have hargs : ∀ {p1 p2 p3}, SndL X 1 (scOf 12) nmLw [.Name "matrix" p1, .Name "bits" p2, .Name "version" p3] dTryArgs := by
    intro p1 p2 p3
    conv in (scOf 12) => whnf
    exact (@sndL_cons _ _ _ _ _ _ _ _ (@snd_loc _ _ _ _ _ _ _ rfl (by decide) (by decide)) (@sndL_cons _ _ _ _ _ _ _ _ (@snd_loc _ _ _ _ _ _ _ rfl (by decide) (by decide)) (@sndL_cons _ _ _ _ _ _ _ _ (@snd_loc _ _ _ _ _ _ _ rfl (by decide) (by decide)) (@sndL_nil _ _ _ _ ) (fun _ => rfl)) (fun _ => rfl)) (fun _ => rfl))
  have htest : ∀ {p1 p2 p3 p4 p5}, SndB X 1 (scOf 8) nmCw (.Compare (.Name "idx" p1) [.NotEq] [.Call (.Name "len" p2) [.Name "codewords" p3] [] p4] p5) dCt := by
    intro p1 p2 p3 p4 p5
    conv in (scOf 8) => whnf
    exact (@sndB_cmp _ _ _ _ (.ne) _ _ _ _ _ (@snd_loc _ _ _ _ _ _ _ rfl (by decide) (by decide)) (@snd_call _ _ _ _ _ _ _ _ _ _ _ Fa.gLen trivial prim_len (@sndL_cons _ _ _ _ _ _ _ _ (@snd_loc _ _ _ _ _ _ _ rfl (by decide) (by decide)) (@sndL_nil _ _ _ _ ) (fun _ => rfl)) (List.cons_ne_nil _ _) rfl (by decide)) rfl)
  have hv1 : ∀ {p1}, SndE X 1 (scOf 8) nmCw (.Name "idx" p1) dCv1 := by
    intro p1
    conv in (scOf 8) => whnf
    exact (@snd_loc _ _ _ _ _ _ _ rfl (by decide) (by decide))
  have hv2 : ∀ {p1 p2 p3}, SndE X 1 (scOf 8) nmCw (.Call (.Name "len" p1) [.Name "codewords" p2] [] p3) dCv2 := by
    intro p1 p2 p3
    conv in (scOf 8) => whnf
    exact (@snd_call _ _ _ _ _ _ _ _ _ _ _ Fa.gLen trivial prim_len (@sndL_cons _ _ _ _ _ _ _ _ (@snd_loc _ _ _ _ _ _ _ rfl (by decide) (by decide)) (@sndL_nil _ _ _ _ ) (fun _ => rfl)) (List.cons_ne_nil _ _) rfl (by decide))
  have hb : Binds X Fa.fdCw ["matrix", "codewords", "version"] as.length [] := by rw [ha]; exact Fa.bCw
  have hlog : ∀ {i : Int}, i.natAbs ≤ 1919 → i.natAbs.log2 < 1920 := fun {i} h => by have := Nat.log2_le_self i.natAbs; omega
  have e₂' : dC1 (as ++ List.replicate (nmCw.length - as.length) .und) H₂ = some (.next, ρc, H₃) := by rw [← e₂, ha]; rfl
  exact @try_ok X 1 (scOf 12) (scOf 8) nmLw nmCw Fa.aCw Fa.obCw Fa.fdCw (((bodyOf 8).drop 0).take 7) _ _ ["matrix", "codewords", "version"] as dC1 dCt "add_codewords" _ dTryArgs dCv1 dCv2 _ _ 7 "short" _ _ _ _ _ _ _ _ _ _ _ _ _ _ _ _ _ _ _ _ _ _ _ _ _ _ O hb namesCw (by rw [ha]; rfl) (sndC1 (d := 1) Fa) htest hv1 hv2 Fa.gVE rfl rfl (by decide +kernel) Fa.gCw hargs (List.cons_ne_nil _ _) rfl (by decide) rfl rfl (by decide) (fun _ => rfl)
    A env K g H₂ H₂ H₃ H₃ ρ₂ ρc s Q E bt hA (hA.less (by decide)) hfr hE hef hB hF hR e₁ e₂' e₃ kN (fun hbt => ⟨i1, i2, i3, H₃, H₃, q1, q2, hlog b1, hlog b2, q3, fun s' hk r => by rw [h9 hbt]; exact kT hbt s' hk r⟩)
end Mine
end

section
open PySem PyProof.Rows
set_option autoImplicit false
set_option maxRecDepth 100000
set_option maxHeartbeats 4000000
namespace Mine

theorem law_walk {X : Cx} (Fa : Facts X) {c P : Addr} (G : GenOk X (scOf 9) genScope genI "row" c P) (hc : Fa.fdMm.code = .ref c) (Fa' : ∀ more, Facts (X.tab P (tabO more) G.n1 G.n2 G.n3)) {a : Addr} {o : Obj} {fd : FuncData} (O : OwnFn X a o fd (bodyOf 12) (scOf 12)) (hb : Binds X fd ["script"] 1 [])
    {script : List Int} (h : script.length ≤ 63) {A : Around} {K : Addr → Option Obj} {g : Gh} {s : Shared} {Q : Value → Shared → Prop} {E : Value → Shared → Prop} {vs : List Value} (hA : AOk A 3) (hfr : A.frames = some []) (hB : Bs X K g) (hR : Rel K g [] s.heap) (hv : VRs g [.lst (script.map .int)] vs)
    (k : ∀ more s', (∀ b o, (X.tab P (tabO more) G.n1 G.n2 G.n3).h₁.get? b = some o → s'.heap.get? b = some o) → Rest s s' → Q (.bool true) s') : wpC (model X.prog X.w) A (call (.ref a) vs) Q E s := by
  obtain ⟨ρ₁, H₁, m, Ha, ρ₂, H₂, as, ρc, H₃, bt, i1, i2, i3, e1, e2, e3, e4, ha, e5, e6, q1, q2, b1, b2, q3, h9, e7⟩ := law_steps h
  rw [law_body] at O
  have h2 := mmStep Fa (tabMm Fa G hc Fa') G.tab.2
  have h3 := fun more => sndL2 (d := 0) (Fa' more)
  have h4 := fun more => tryStep (Fa' more) ha e4 e5 e6 q1 q2 b1 b2 q3 h9
  have h5 := fun more => sndL3 (d := 2) (Fa' more)
  exact law_gen (as := [.lst (script.map .int)]) O hb namesLw rfl (sndL1 (d := 2) Fa) h2 h3 h4 h5 hA hfr hB hR hv e1 e2 e3 e7 k
end Mine
end

section
open PySem PySem.W PySem.Calls PyProof.Rows
set_option autoImplicit false
set_option maxRecDepth 100000
set_option maxHeartbeats 8000000
namespace Mine

/-- the text without its `__name__` rows and without make_matrix -/
noncomputable def view : Program := { PySem.Challenge.rw_md0047_01.row.toRowW.1 with main := { PySem.Challenge.rw_md0047_01.row.toRowW.1.main with body := [0, 1, 2, 4, 5, 6, 7, 8, 11, 12].filterMap (PySem.Challenge.rw_md0047_01.row.toRowW.1.main.body[·]?) } }

/-! the base's objects that the walk reads -/
noncomputable def argsOf (k : Nat) : Arguments := match fnAt k with
  | some (a, _, _) => a
  | none => default
noncomputable def fnO (k : Nat) (nm : Str) (pm dV : Value) (c : Addr) : Obj := { cls := .type "function", data := .func { docDef nm (argsOf k) (bodyOf k) (scOf k) pm (.ref c) .none with defaults := dV } }
noncomputable def codeO (nm : Str) (i line argc : Nat) (a : Addr) (x y : Value) (b : Addr) (j : Nat) : Obj :=
  { cls := .type "code", data := .fields #[.str nm i, .str nm (i + 1), .str "/claim/cut.py" (i + 2), .int line 0, .int argc 0, .int 0 0, .int 0 0, .int 3 0, .ref a, .bool true, .int 181 0, .ref (a + 1), .none, x, y, .ref b, .int j 0, .int line 0, .str "/claim/cut.py" (j + 1)] }
noncomputable def tupO (vs : List Value) : Obj := { cls := .type "tuple", data := .seq vs.toArray }
noncomputable def numV : List AV → Nat → List Value
  | .int n :: r, i => .int n i :: numV r (i + 1)
  | _, _ => []
noncomputable def rowsO : List AV → Addr → Nat → Frag
  | .tup xs :: r, a, i => (a, tupO (numV xs i)) :: rowsO r (a + 1) (i + xs.length)
  | _, _, _ => []
noncomputable def refsV : Nat → Addr → List Value
  | 0, _ => []
  | n + 1, a => .ref a :: refsV n (a + 1)
noncomputable def tabsO : AV → Addr → Nat → Frag
  | .tup xs, a, i => rowsO xs a i ++ [(a + xs.length, tupO (refsV xs.length a))]
  | _, _, _ => []
noncomputable def ent (P : Params) (x : Str) (i : Nat) (v : Value) : DictEntry := { hash := PyData.keyHash P x, key := .str x i, val := v }
noncomputable def globO (P : Params) : Obj := { cls := .type "dict", data := .dict #[ent P "__name__" 165 (.str "law_md0047_01" 530), ent P "__doc__" 166 .none, ent P "__package__" 167 .none, ent P "__loader__" 168 (.builtin "__main__.__loader__#opaque"), ent P "__spec__" 169 .none, ent P "__annotations__" 170 (.ref 6), ent P "__builtins__" 171 (.ref 4), ent P "__file__" 173 (.str "/claim/cut.py" 172), ent P "__cached__" 174 .none, ent P "VERSION_M3" 189 (.int (-1) 188), ent P "VERSION_M1" 192 (.int (-3) 191), ent P "ALIGNMENT_POS" 371 (.ref 54), ent P "_FINDER_PATTERN" 455 (.ref 64), ent P "add_finder_patterns" 472 (.ref 71), ent P "add_timing_pattern" 485 (.ref 78), ent P "add_alignment_patterns" 491 (.ref 83), ent P "add_codewords" 513 (.ref 90), ent P "make_matrix" 529 (.ref 98), ent P "_law_picture" 537 (.ref 103), ent P "law" 543 (.ref 108)] 20 }
noncomputable def frag (P : Params) : Frag :=
  [(3, globO P),
   (70, codeO "add_finder_patterns" 456 6 3 65 (.ref 67) (.ref 68) 69 470), (71, fnO 5 "add_finder_patterns" (.str "segno.encoder" 372) .none 70),
   (77, codeO "add_timing_pattern" 473 17 2 72 (.ref 74) (.ref 75) 76 483), (78, fnO 6 "add_timing_pattern" (.str "segno.encoder" 372) .none 77),
   (82, codeO "add_alignment_patterns" 486 25 3 79 .none .none 81 489), (83, fnO 7 "add_alignment_patterns" (.str "segno.encoder" 372) .none 82),
   (89, codeO "add_codewords" 492 42 3 84 (.ref 86) (.ref 87) 88 511), (90, fnO 8 "add_codewords" (.str "segno.encoder" 372) .none 89),
   (91, tupO [.bool true, .bool true]), (93, tabO #[]),
   (97, codeO "make_matrix" 514 65 4 92 (.ref 94) (.ref 95) 96 527), (98, fnO 9 "make_matrix" (.str "segno.encoder" 372) (.ref 91) 97),
   (102, codeO "_law_picture" 532 91 1 99 .none .none 101 535), (103, fnO 11 "_law_picture" (.str "law_md0047_01" 530) .none 102),
   (107, codeO "law" 538 116 1 104 .none .none 106 541), (108, fnO 12 "law" (.str "law_md0047_01" 530) .none 107)]
  ++ (tabsO avAlign 15 193 ++ tabsO avFinder 55 374)
end Mine
end

section
open PySem PySem.W PyProof.Rows
set_option autoImplicit false
set_option maxRecDepth 100000
set_option maxHeartbeats 8000000
namespace Mine

noncomputable def myHook : Hook := kHook frag [3, 70, 71, 77, 78, 82, 83, 89, 90, 91, 93, 97, 98, 102, 103, 107, 108, 15, 16, 17, 18, 19, 20, 21, 22, 23, 24, 25, 26, 27, 28, 29, 30, 31, 32, 33, 34, 35, 36, 37, 38, 39, 40, 41, 42, 43, 44, 45, 46, 47, 48, 49, 50, 51, 52, 53, 54, 55, 56, 57, 58, 59, 60, 61, 62, 63, 64] (fun _ => by kernel_rfl)
theorem head_ok (hc : ∀ d kwd, defOf view "law" = some (d, kwd) → WalkC view ["make_matrix"] (XL view []) (Hook.says myHook) PySem.Challenge.rw_md0047_01.row.toRowW d kwd) : PySem.Challenge.rw_md0047_01.Holds := by
  w_on
  o_law
  refine holds_C (q := view) (loose := ["make_matrix"]) (Xt := fun s => xlAt view [] s && recOk (RowW.records PySem.Challenge.rw_md0047_01.row.toRowW) s) (XP := XL view []) (Yf := Hook.obs myHook) (Ya := Hook.val myHook) (YP := Hook.says myHook) (N := 1438) ?hl (Hook.of myHook) (Hook.keeps myHook) (fun s e => xl_of s (Bool.and_eq_true_iff.mp e).1) XL.keeps (by rfl) (by rfl) (by rfl) (fun s e => recFacts_of (Bool.and_eq_true_iff.mp e).2) (by rfl) (by first | assumption | decide +kernel) (by decide +kernel) ⟨rfl, rfl, rfl, rfl, rfl, by decide +kernel⟩ ?hw (hc _ _ (by rfl))
  case hl => intro w; kernel_rfl
  case hw => w_witness2
end Mine
end

section
open PySem PySem.W PyProof.Rows
set_option autoImplicit false
set_option maxRecDepth 100000
set_option maxHeartbeats 8000000
namespace Mine

noncomputable def obAt (P : Params) (a : Addr) : Obj := match (frag P).lookup a with
  | some o => o
  | none => tabO #[]
/-- a def among the base's objects -/
structure FnAt (P : Params) (a k : Nat) (fd : FuncData) : Prop where
  lk : (frag P).lookup a = some (obAt P a)
  hd : (obAt P a).data = .func fd
  bd : fd.body = .stmts (bodyOf k)
  hsc : fd.scope = scOf k
  clo : fd.closure = []
  gl : fd.globals = mainGlobals
  bl : fd.builtins = builtinsNs
end Mine
end

section
open PySem PySem.W PyProof.Rows
set_option autoImplicit false
set_option maxRecDepth 100000
set_option maxHeartbeats 8000000
namespace Mine

structure BaseAt (X : Cx) (P : Params) : Prop where
  inn : ∀ a o, a ≠ 93 → (frag P).lookup a = some o → X.h₁.get? a = some o
  bi : ∀ x : Str, x ≠ "__name__" → X.mb x = bootBuiltins x
theorem BaseAt.tab {X : Cx} {P : Params} (B : BaseAt X P) {op : Obj} (h1 : (93 : Addr) ≠ mainGlobals) (h2 : (93 : Addr) ≠ builtinsNs) (h3 : (93 : Addr) ≠ cStatics) : BaseAt (X.tab 93 op h1 h2 h3) P :=
  ⟨fun a o h e => (Heap.get?_update_other _ _ (Ne.symm h)).trans (B.inn a o h e), B.bi⟩
noncomputable def esAt (P : Params) : Array DictEntry := match (obAt P 3).data with
  | .dict es _ => es
  | _ => #[]
theorem mg_of {X : Cx} {P : Params} (B : BaseAt X P) (x : Str) : X.mg x = nsFind (esAt P) x := by
  obtain ⟨o, es, ep, ho, hd, _, hf⟩ := X.hg
  have h3 := B.inn 3 (obAt P 3) (by decide) (by kernel_rfl)
  have ho' : X.h₁.get? 3 = some o := ho
  rw [h3] at ho'
  cases ho'
  have : esAt P = es := by unfold esAt; rw [hd]
  rw [this]
  exact (hf x).symm

theorem gvG {X : Cx} {P : Params} (B : BaseAt X P) {x : Str} {v : Value} (h : nsFind (esAt P) x = some v) : GV X x v := .inl ((mg_of B x).trans h)
theorem gvB {X : Cx} {P : Params} (B : BaseAt X P) {x : Str} {v : Value} (h : nsFind (esAt P) x = none) (hx : x ≠ "__name__") (hb : bootBuiltins x = some v) : GV X x v := .inr ⟨(mg_of B x).trans h, (B.bi x hx).trans hb⟩
end Mine
end

section
open PySem PySem.W PyProof.Rows
set_option autoImplicit false
set_option maxRecDepth 100000
set_option maxHeartbeats 8000000
namespace Mine

/-! frozen tables, looked up -/
mutual
noncomputable def chkV (F : Frag) : AV → Value → Bool
  | .int i, .int j _ => i == j
  | .tup xs, .ref a => a != 93 && match F.lookup a with
    | some ⟨.type "tuple", _, .seq items _, _⟩ => chkVs F xs items.toList
    | _ => false
  | _, _ => false
noncomputable def chkVs (F : Frag) : List AV → List Value → Bool
  | [], [] => true
  | x :: xs, v :: vs => chkV F x v && chkVs F xs vs
  | _, _ => false
end
mutual
theorem chkV_ok {F : Frag} {g : Gh} (h : ∀ a o, a ≠ 93 → F.lookup a = some o → FD o → g.C a = some o) : ∀ (x : AV) (v : Value), chkV F x v = true → VR g x v
  | .int i, v, e => by
    cases v <;> simp [chkV] at e
    subst e; exact VR.int
  | .tup xs, v, e => by
    cases v with
    | ref a =>
      simp only [chkV, Bool.and_eq_true, bne_iff_ne] at e
      obtain ⟨hne, e⟩ := e
      split at e
      · rename_i d items m l hl
        simp only [VR]
        exact ⟨a, _, items, m, rfl, h a _ hne hl (.inl ⟨_, _, rfl⟩), rfl, rfl, chkVs_ok h xs items.toList e⟩
      · cases e
    | _ => simp [chkV] at e
  | .none, v, e | .bool _, v, e | .lst _, v, e | .rng _ _ _, v, e | .ref _, v, e | .und, v, e => by simp [chkV] at e
theorem chkVs_ok {F : Frag} {g : Gh} (h : ∀ a o, a ≠ 93 → F.lookup a = some o → FD o → g.C a = some o) : ∀ (xs : List AV) (vs : List Value), chkVs F xs vs = true → VRs g xs vs
  | [], [], _ => VRs.nil
  | x :: xs, v :: vs, e => by
    simp only [chkVs, Bool.and_eq_true] at e
    exact VRs.cons (chkV_ok h x v e.1) (chkVs_ok h xs vs e.2)
  | [], _ :: _, e => by simp [chkVs] at e
  | _ :: _, [], e => by simp [chkVs] at e
end
theorem frz_of {X : Cx} {P : Params} (B : BaseAt X P) {a : AV} {v : Value} (h : chkV (frag P) a v = true) : Frz X a v := fun g hg => chkV_ok (fun b o hb e hf => hg b o (B.inn b o hb e) hf) a v h
theorem vAlign_ {X : Cx} {P : Params} (B : BaseAt X P) : Frz X avAlign (.ref 54) := frz_of B (by kernel_rfl)
theorem vFinder_ {X : Cx} {P : Params} (B : BaseAt X P) : Frz X avFinder (.ref 64) := frz_of B (by kernel_rfl)
end Mine
end

section
open PySem PySem.W PyProof.Rows
set_option autoImplicit false
set_option maxRecDepth 100000
set_option maxHeartbeats 8000000
namespace Mine

structure FnOk (P : Params) (a k c : Nat) (fd : FuncData) : Prop extends FnAt P a k fd where
  code : fd.code = .ref c
  clk : (frag P).lookup c = some (obAt P c)
  cfl : ∃ vs t, (obAt P c).data = .fields vs ∧ vs[1]? = some (.str fd.qualname t)
theorem own_at {X : Cx} {P : Params} {a k c : Nat} {fd : FuncData} (B : BaseAt X P) (F : FnOk P a k c fd) (ha : a ≠ 93) (hc : c ≠ 93) (h1 : (scOf k).kind = .function) (h2 : (scOf k).isCoroutine = false) (h3 : (scOf k).isGenerator = false) : OwnFn X a (obAt P a) fd (bodyOf k) (scOf k) :=
  ⟨B.inn _ _ ha F.lk, F.hd, by obtain ⟨vs, t, e1, e2⟩ := F.cfl; exact ⟨c, obAt P c, vs, t, F.code, B.inn _ _ hc F.clk, e1, e2⟩, F.bd, F.hsc, F.clo, F.gl, F.bl, h1, h2, h3⟩
theorem okFp (P : Params) : ∃ fd, FnOk P 71 5 70 fd ∧ ∀ v0 v1 v2 : Value, bindArgs fd ⟨[v0, v1, v2], []⟩ = pure [(("matrix" : Str), v0), (("width" : Str), v1), (("height" : Str), v2)] := ⟨_, ⟨⟨by kernel_rfl, by rfl, by kernel_rfl, by kernel_rfl, by rfl, by rfl, by rfl⟩, by rfl, by kernel_rfl, ⟨_, _, by rfl, by rfl⟩⟩, fun v0 v1 v2 => by rfl⟩
theorem okTp (P : Params) : ∃ fd, FnOk P 78 6 77 fd ∧ ∀ v0 v1 : Value, bindArgs fd ⟨[v0, v1], []⟩ = pure [(("matrix" : Str), v0), (("is_micro" : Str), v1)] := ⟨_, ⟨⟨by kernel_rfl, by rfl, by kernel_rfl, by kernel_rfl, by rfl, by rfl, by rfl⟩, by rfl, by kernel_rfl, ⟨_, _, by rfl, by rfl⟩⟩, fun v0 v1 => by rfl⟩
theorem okAp (P : Params) : ∃ fd, FnOk P 83 7 82 fd ∧ ∀ v0 v1 v2 : Value, bindArgs fd ⟨[v0, v1, v2], []⟩ = pure [(("matrix" : Str), v0), (("width" : Str), v1), (("height" : Str), v2)] := ⟨_, ⟨⟨by kernel_rfl, by rfl, by kernel_rfl, by kernel_rfl, by rfl, by rfl, by rfl⟩, by rfl, by kernel_rfl, ⟨_, _, by rfl, by rfl⟩⟩, fun v0 v1 v2 => by rfl⟩
theorem okCw (P : Params) : ∃ fd, FnOk P 90 8 89 fd ∧ ∀ v0 v1 v2 : Value, bindArgs fd ⟨[v0, v1, v2], []⟩ = pure [(("matrix" : Str), v0), (("codewords" : Str), v1), (("version" : Str), v2)] := ⟨_, ⟨⟨by kernel_rfl, by rfl, by kernel_rfl, by kernel_rfl, by rfl, by rfl, by rfl⟩, by rfl, by kernel_rfl, ⟨_, _, by rfl, by rfl⟩⟩, fun v0 v1 v2 => by rfl⟩
theorem okLp (P : Params) : ∃ fd, FnOk P 103 11 102 fd ∧ ∀ v0 : Value, bindArgs fd ⟨[v0], []⟩ = pure [(("version" : Str), v0)] := ⟨_, ⟨⟨by kernel_rfl, by rfl, by kernel_rfl, by kernel_rfl, by rfl, by rfl, by rfl⟩, by rfl, by kernel_rfl, ⟨_, _, by rfl, by rfl⟩⟩, fun v0 => by rfl⟩
theorem okLw (P : Params) : ∃ fd, FnOk P 108 12 107 fd ∧ ∀ v0 : Value, bindArgs fd ⟨[v0], []⟩ = pure [(("script" : Str), v0)] := ⟨_, ⟨⟨by kernel_rfl, by rfl, by kernel_rfl, by kernel_rfl, by rfl, by rfl, by rfl⟩, by rfl, by kernel_rfl, ⟨_, _, by rfl, by rfl⟩⟩, fun v0 => by rfl⟩
end Mine
end

section
open PySem PySem.W PyProof.Rows
set_option autoImplicit false
set_option maxRecDepth 100000
set_option maxHeartbeats 8000000
namespace Mine

theorem binds1 {X : Cx} {fd : FuncData} {p0 : Str} (h : ∀ v0 : Value, bindArgs fd ⟨[v0], []⟩ = pure [(p0, v0)]) : Binds X fd [p0] 1 [] := by
  intro vs A s Q E hl _ hq
  match vs, hl with
  | [v0], _ => rw [h]; exact wpAny_pure hq
theorem binds2 {X : Cx} {fd : FuncData} {p0 p1 : Str} (h : ∀ v0 v1 : Value, bindArgs fd ⟨[v0, v1], []⟩ = pure [(p0, v0), (p1, v1)]) : Binds X fd [p0, p1] 2 [] := by
  intro vs A s Q E hl _ hq
  match vs, hl with
  | [v0, v1], _ => rw [h]; exact wpAny_pure hq
theorem binds3 {X : Cx} {fd : FuncData} {p0 p1 p2 : Str} (h : ∀ v0 v1 v2 : Value, bindArgs fd ⟨[v0, v1, v2], []⟩ = pure [(p0, v0), (p1, v1), (p2, v2)]) : Binds X fd [p0, p1, p2] 3 [] := by
  intro vs A s Q E hl _ hq
  match vs, hl with
  | [v0, v1, v2], _ => rw [h]; exact wpAny_pure hq
theorem okMm' (P : Params) : ∃ fd, FnOk P 98 9 97 fd ∧ fd.defaults = .ref 91 ∧ ∀ v0 v1 : Value, ∃ k : Option (Array Value) → Sem (List (Str × Value)), bindArgs fd ⟨[v0, v1], []⟩ = seqItems? fd.defaults >>= k ∧ k (some #[.bool true, .bool true]) = pure [(("width" : Str), v0), (("height" : Str), v1), (("reserve_regions" : Str), .bool true), (("add_timing" : Str), .bool true)] :=
  ⟨_, ⟨⟨by kernel_rfl, by rfl, by kernel_rfl, by kernel_rfl, by rfl, by rfl, by rfl⟩, by rfl, by kernel_rfl, ⟨_, _, by rfl, by rfl⟩⟩, by rfl, fun v0 v1 => ⟨_, by rfl, by rfl⟩⟩
theorem bindsMm {X : Cx} {P : Params} {fd : FuncData} (B : BaseAt X P) (hd : fd.defaults = .ref 91) (h : ∀ v0 v1 : Value, ∃ k : Option (Array Value) → Sem (List (Str × Value)), bindArgs fd ⟨[v0, v1], []⟩ = seqItems? fd.defaults >>= k ∧ k (some #[.bool true, .bool true]) = pure [(("width" : Str), v0), (("height" : Str), v1), (("reserve_regions" : Str), .bool true), (("add_timing" : Str), .bool true)]) :
    Binds X fd ["width", "height", "reserve_regions", "add_timing"] 2 [.bool true, .bool true] := by
  intro vs A s Q E hl hs hq
  match vs, hl with
  | [v0, v1], _ =>
    obtain ⟨k, h1, h2⟩ := h v0 v1
    have h91 : (frag P).lookup 91 = some { cls := .type "tuple", data := .seq #[.bool true, .bool true] } := by kernel_rfl
    exact BindsTo.of_defaults hd (hs _ _ (B.inn 91 _ (by decide) h91)) rfl h1 h2 _ _ _ _ hq
end Mine
end

section
open PySem PySem.W PyProof.Rows
set_option autoImplicit false
set_option maxRecDepth 100000
set_option maxHeartbeats 8000000
namespace Mine

noncomputable def mkFacts {X : Cx} {P : Params} (B : BaseAt X P) : Facts X where
  gLen := gvB B (by kernel_rfl) (by decide) (by kernel_rfl)
  gAbs := gvB B (by kernel_rfl) (by decide) (by kernel_rfl)
  gMax := gvB B (by kernel_rfl) (by decide) (by kernel_rfl)
  gSum := gvB B (by kernel_rfl) (by decide) (by kernel_rfl)
  gRange := gvB B (by kernel_rfl) (by decide) (by kernel_rfl)
  gList := gvB B (by kernel_rfl) (by decide) (by kernel_rfl)
  gTuple := gvB B (by kernel_rfl) (by decide) (by kernel_rfl)
  gVE := gvB B (by kernel_rfl) (by decide) (by kernel_rfl)
  xM1 := .int (-3) 191
  xM3 := .int (-1) 188
  xAlign := .ref 54
  xFinder := .ref 64
  gM1 := gvG B (by kernel_rfl)
  gM3 := gvG B (by kernel_rfl)
  gAlign := gvG B (by kernel_rfl)
  gFinder := gvG B (by kernel_rfl)
  vM1 := fun _ _ => VR.int
  vM3 := fun _ _ => VR.int
  vAlign := vAlign_ B
  vFinder := vFinder_ B
  aFp := 71
  obFp := obAt P 71
  fdFp := Classical.choose (okFp P)
  gFp := gvG B (by kernel_rfl)
  oFp := own_at B (Classical.choose_spec (okFp P)).1 (by decide) (by decide) (by kernel_rfl) (by kernel_rfl) (by kernel_rfl)
  bFp := binds3 (Classical.choose_spec (okFp P)).2
  aTp := 78
  obTp := obAt P 78
  fdTp := Classical.choose (okTp P)
  gTp := gvG B (by kernel_rfl)
  oTp := own_at B (Classical.choose_spec (okTp P)).1 (by decide) (by decide) (by kernel_rfl) (by kernel_rfl) (by kernel_rfl)
  bTp := binds2 (Classical.choose_spec (okTp P)).2
  aAp := 83
  obAp := obAt P 83
  fdAp := Classical.choose (okAp P)
  gAp := gvG B (by kernel_rfl)
  oAp := own_at B (Classical.choose_spec (okAp P)).1 (by decide) (by decide) (by kernel_rfl) (by kernel_rfl) (by kernel_rfl)
  bAp := binds3 (Classical.choose_spec (okAp P)).2
  aCw := 90
  obCw := obAt P 90
  fdCw := Classical.choose (okCw P)
  gCw := gvG B (by kernel_rfl)
  oCw := own_at B (Classical.choose_spec (okCw P)).1 (by decide) (by decide) (by kernel_rfl) (by kernel_rfl) (by kernel_rfl)
  bCw := binds3 (Classical.choose_spec (okCw P)).2
  aLp := 103
  obLp := obAt P 103
  fdLp := Classical.choose (okLp P)
  gLp := gvG B (by kernel_rfl)
  oLp := own_at B (Classical.choose_spec (okLp P)).1 (by decide) (by decide) (by kernel_rfl) (by kernel_rfl) (by kernel_rfl)
  bLp := binds1 (Classical.choose_spec (okLp P)).2
  aMm := 98
  obMm := obAt P 98
  fdMm := Classical.choose (okMm' P)
  gMm := gvG B (by kernel_rfl)
  oMm := own_at B (Classical.choose_spec (okMm' P)).1 (by decide) (by decide) (by kernel_rfl) (by kernel_rfl) (by kernel_rfl)
  bMm := bindsMm B (Classical.choose_spec (okMm' P)).2.1 (Classical.choose_spec (okMm' P)).2.2
theorem mkFacts_code {X : Cx} {P : Params} (B : BaseAt X P) : (mkFacts B).fdMm.code = .ref 97 := (Classical.choose_spec (okMm' P)).1.code
end Mine
end

section
open PySem PySem.W PyProof.Rows
set_option autoImplicit false
set_option maxRecDepth 100000
set_option maxHeartbeats 8000000
namespace Mine

theorem genOk {X : Cx} {P : Params} (B : BaseAt X P) (h93 : X.h₁.get? 93 = some (tabO #[])) (hbm : ∃ bm o, X.mg "__builtins__" = some (.ref bm) ∧ bm ≠ builtinsNs ∧ X.h₁.get? bm = some o ∧ o.cls = .type "module" ∧ o.dict = some builtinsNs ∧ o.data = .plain) : GenOk X (scOf 9) genScope genI "row" 97 93 where
  co := by kernel_rfl
  cell := by decide +kernel
  zero := by kernel_rfl
  loc := by kernel_rfl
  kind := by kernel_rfl
  free := by kernel_rfl
  glb := by kernel_rfl
  clo := fun env c h => closure_one (by decide +kernel) (by kernel_rfl) env c h
  ocell := by kernel_rfl
  code := ⟨obAt P 97, _, _, _, _, _, _, _, _, _, B.inn 97 _ (by decide) (by kernel_rfl), by rfl, by rfl, by rfl, by rfl, by rfl, by rfl, h93, by rfl, by first | trivial | constructor | simp [TriplesOk], by decide⟩
  tab := ⟨⟨obAt P 97, _, B.inn 97 _ (by decide) (by kernel_rfl), by rfl, by rfl, by rfl⟩, h93⟩
  gba := ⟨(mg_of B _).trans (by kernel_rfl), (B.bi _ (by decide)).trans (by kernel_rfl)⟩
  bm := hbm
  n1 := by decide
  n2 := by decide
  n3 := by decide
end Mine
end

section
open PySem PySem.W PyProof.Rows
set_option autoImplicit false
set_option maxRecDepth 100000
set_option maxHeartbeats 8000000
namespace Mine

open Classical in
noncomputable def ghOf (h : Heap) : Gh := { C := fun a => match h.get? a with | some o => if FD o then some o else none | none => none, φ := [], N := [] }
open Classical in
theorem ghOf_C {h : Heap} {a : Addr} {o : Obj} : (ghOf h).C a = some o ↔ h.get? a = some o ∧ FD o := by
  show (match h.get? a with | some o => if FD o then some o else none | none => none) = some o ↔ _
  cases e : h.get? a with
  | none => simp
  | some o' =>
    dsimp only
    by_cases hf : FD o'
    · rw [if_pos hf]
      constructor
      · intro q; cases q; exact ⟨rfl, hf⟩
      · rintro ⟨q, _⟩; exact q
    · rw [if_neg hf]
      constructor
      · intro q; cases q
      · rintro ⟨q, q2⟩; cases q; exact absurd q2 hf
theorem rel_ghOf (h : Heap) : Rel h.get? (ghOf h) [] h where
  kept := fun _ _ e => e
  frz := fun a o e => ghOf_C.mp e
  trk := fun k ao e => by simp at e
  len := rfl
  nod := List.nodup_nil
  ap := fun a ha => by cases ha
  rs := fun a ha => by cases ha
theorem vrs_ints {g : Gh} : ∀ {vs : List Value} {ns : List Int}, IntsAre vs ns → VRs g (ns.map .int) vs
  | _, _, .nil => VRs.nil
  | _, _, .cons n t r => VRs.cons VR.int (vrs_ints r)

theorem walk_ok (d : DefRec) (kwd : List (Str × Expr)) (hdef : defOf view "law" = some (d, kwd)) : WalkC view ["make_matrix"] (XL view []) (Hook.says myHook) PySem.Challenge.rw_md0047_01.row.toRowW d kwd := by
  intro w s₀ s₁ mg mb G Y a o pm cd doc dV kV ho hdd hcd hD hmg hg args vals as hpre hlay hrd hwl hlo
  wrow_args hpre hlay hrd hwl hlo
  rename_i ns hs hlay0 hL1 hr1 hl2 as1 as2 L vs as3 hL ra w1 r0 hI hr hc1 hc2
  let X : Cx := ⟨PySem.Challenge.rw_md0047_01.row.prog, w, mg, mb, s₁.heap, G.T.g, G.T.b, G.T.nolimit⟩
  have KX : (frag w.params).In s₁.heap := kIn_of Y
  have B : BaseAt X w.params := ⟨fun a o _ e => KX a o e, G.T.builtins⟩
  have h93 : X.h₁.get? 93 = some (tabO #[]) := KX 93 _ (by kernel_rfl)
  have GO := genOk B h93 G.T.bmain
  have ha : a = 108 := by
    have e1 : X.mg "law" = some (.ref 108) := (mg_of B "law").trans (by kernel_rfl)
    rw [defOf_name hdef] at hmg
    have e2 : X.mg "law" = some (.ref a) := hmg
    rw [e1] at e2
    cases e2; rfl
  subst ha
  obtain ⟨fd, hF, hbd⟩ := okLw w.params
  have O := own_at B hF (by decide) (by decide) (by kernel_rfl) (by kernel_rfl) (by kernel_rfl)
  have hB : Bs X s₁.heap.get? (ghOf s₁.heap) := ⟨fun _ _ e => e, fun a o e hf => ghOf_C.mpr ⟨e, hf⟩⟩
  have hv : VRs (ghOf s₁.heap) [.lst (ns.map .int)] [.ref L] := by
    obtain ⟨oL, hoL, hcL, nL, hdL⟩ := hL
    refine VRs.cons ?_ VRs.nil
    simp only [VR]
    exact ⟨L, oL, vs.toArray, nL, rfl, ghOf_C.mpr ⟨hoL, .inl ⟨_, _, hdL⟩⟩, hcL, hdL, by simpa using vrs_ints hI⟩
  refine law_walk (X := X) (mkFacts B) GO (mkFacts_code B) (fun more => mkFacts (B.tab _ _ _)) O (binds1 hbd) (script := ns) (by omega) ⟨rfl, by decide +kernel, by decide +kernel⟩ rfl hB (rel_ghOf s₁.heap) hv fun more s' hk hr' => ?_
  have hoth : ∀ b o, b ≠ 93 → s₁.heap.get? b = some o → s'.heap.get? b = some o := fun b o hb e => hk b o ((Heap.get?_update_other _ _ (Ne.symm hb)).trans e)
  have h93' : s'.heap.get? 93 = some (tabO more) := hk 93 _ (Heap.get?_update_self _ h93 rfl)
  refine ⟨.inl ⟨.bool true, .bool true, [], rfl, ?_, ?_, ?_, ?_⟩, ⟨fun b o e => ?_, fun b o e => ?_⟩, hr'.1, hr'.2 ?_⟩
  · intro cls; rfl
  · first | exact .bool _ | constructor
  · first | rfl | kernel_rfl
  · intro hu; exact ⟨List.nodup_nil, fun a ha => by cases ha⟩
  · by_cases hb : b = 93
    · subst hb
      have e' : X.h₁.get? 93 = some o := e
      rw [h93] at e'
      cases e'
      refine .inr (.inl ⟨GO.tab.isCodeTable, rfl, #[], more, rfl, ?_⟩)
      rw [h93']
      simp [tabO]
    · exact .inl (hoth b o hb e)
  · by_cases hb : b = 93
    · subst hb; exact ⟨_, h93'⟩
    · exact ⟨o, hoth b o hb e⟩
  · rw [hg]; intro y hy; simp at hy
end Mine
end

theorem PySem.Challenge.cw_md0047_01_holds : PySem.Challenge.rw_md0047_01.Holds := by
  exact Mine.head_ok fun d kwd h => Mine.walk_ok d kwd h
