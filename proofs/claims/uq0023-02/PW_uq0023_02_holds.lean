import PyProof.Rows.All
import Wide.All
import OpenK.AllK
import Wide.FinOn
import KE.BitLaws
import PySem.Challenge.RW_uq0023_02
set_option Elab.async false
set_option autoImplicit false
set_option maxRecDepth 100000
set_option linter.unusedVariables false
set_option linter.unusedSimpArgs false
namespace Mine
open PySem PySem.Spec PySem.Calls PyProof.Rows PySem.W

/-- a value as the program sees it; a list or tuple here is one that nobody changes any more; `ref i` is the frame's own list number i -/
inductive Val where
  | none
  | bool (b : Bool)
  | int (i : Int)
  | str (s : Str)
  | list (xs : List Val)
  | tup (xs : List Val)
  | ref (i : Nat)
  | hdr (C : Addr) (v : Val)
  | glob (v : Value)
  | obj (a : Addr) (o : Obj)

noncomputable abbrev Addrs := List Addr
noncomputable abbrev Store := List (List Val)

noncomputable def IsHdr (h : Heap) (x C dx : Addr) (v : Value) : Prop :=
  h.get? x = some (instObj C dx) ∧ ∃ hs t n, h.get? dx = some (dictOf [⟨hs, .str "_headers" t, v⟩] n)

/-- a list's place -/
noncomputable def LS (h : Heap) (a : Addr) (its : Array Value) : Prop := ∃ o, h.get? a = some o ∧ ∃ n, o = { cls := .type "list", dict := none, data := .seq its n, slots := #[] }
theorem LS.isl {h : Heap} {a : Addr} {its : Array Value} (x : LS h a its) : ∃ n, IsL h a its n := by obtain ⟨_, e, n, rfl⟩ := x; exact ⟨n, e⟩
theorem LS.is {h : Heap} {a : Addr} {its : Array Value} (x : LS h a its) : h.IsList a its := let ⟨_, e⟩ := x.isl; e.isList
theorem LS.plain {h : Heap} {a : Addr} {its : Array Value} (x : LS h a its) : h.PlainList a its := x.isl
theorem LS.of {h : Heap} {a : Addr} {its : Array Value} (x : h.PlainList a its) : LS h a its := let ⟨n, e⟩ := x; ⟨_, e, n, rfl⟩

/-- a code object's record, in a place that no frame owns -/
noncomputable def CodeV (μ ρ : Addrs) (h : Heap) (cv : Value) (qual : Str) : Prop := ∃ c oc vs t, cv = .ref c ∧ c ∉ μ ∧ c ∉ ρ ∧ h.get? c = some oc ∧ oc.data = .fields vs ∧ vs[1]? = some (.str qual t)
/-- a table of code objects, which grows -/
noncomputable def IsTab (h : Heap) (P : Addr) : Prop := ∃ ps, h.get? P = some (tabObj ps) ∧ TriplesOk ps.toList
noncomputable def CodeOf (μ ρ : Addrs) (h : Heap) (o : Obj) : Prop := ∀ fd, o.data = .func fd → CodeV μ ρ h fd.code fd.qualname

mutual
noncomputable def RelV (μ ρ : Addrs) (h : Heap) : Val → Value → Prop
  | .none, v => v = .none
  | .bool b, v => v = .bool b
  | .int i, v => ∃ t, v = .int i t
  | .str s, v => ∃ t, v = .str s t
  | .list xs, v => ∃ a vs, v = .ref a ∧ a ∉ μ ∧ a ∉ ρ ∧ LS h a (List.toArray vs) ∧ RelVs μ ρ h xs vs
  | .tup xs, v => ∃ a vs, v = .ref a ∧ a ∉ μ ∧ a ∉ ρ ∧ h.IsTuple a (List.toArray vs) ∧ RelVs μ ρ h xs vs
  | .ref i, v => ∃ a, ρ[i]? = some a ∧ v = .ref a
  | .hdr C x, v => ∃ a dx v', v = .ref a ∧ a ∉ μ ∧ a ∉ ρ ∧ dx ∉ μ ∧ dx ∉ ρ ∧ IsHdr h a C dx v' ∧ RelV μ ρ h x v'
  | .glob g, v => v = g
  | .obj a o, v => v = .ref a ∧ a ∉ μ ∧ a ∉ ρ ∧ h.get? a = some o ∧ o.cls ≠ .none ∧ CodeOf μ ρ h o
noncomputable def RelVs (μ ρ : Addrs) (h : Heap) : List Val → List Value → Prop
  | [], vs => vs = []
  | x :: xs, vs => ∃ v r, vs = v :: r ∧ RelV μ ρ h x v ∧ RelVs μ ρ h xs r
end

/-- what a step may do to the heap: the lists in ρ may change, new ones come behind; N: what besides may change -/
structure ExtN (N : Addr → Prop) (ρ : Addrs) (h : Heap) (ρ' : Addrs) (h' : Heap) : Prop where
  pre : ∃ t, ρ' = ρ ++ t ∧ ∀ a ∈ t, h.get? a = none
  keep : ∀ b o, b ∉ ρ → ¬ N b → h.get? b = some o → h'.get? b = some o
noncomputable def No : Addr → Prop := fun _ => False
noncomputable abbrev Ext := ExtN No

theorem ExtN.refl (N : Addr → Prop) (ρ : Addrs) (h : Heap) : ExtN N ρ h ρ h := ⟨⟨[], by simp, fun _ h => nomatch h⟩, fun _ _ _ _ e => e⟩
theorem ExtN.of_keeps {N : Addr → Prop} {ρ : Addrs} {h h' : Heap} (k : ∀ b o, ¬ N b → h.get? b = some o → h'.get? b = some o) : ExtN N ρ h ρ h' := ⟨⟨[], by simp, fun _ h => nomatch h⟩, fun _ _ _ n e => k _ _ n e⟩
theorem Ext.of_keeps {ρ : Addrs} {h h' : Heap} (k : ∀ b o, h.get? b = some o → h'.get? b = some o) : Ext ρ h ρ h' := ExtN.of_keeps fun b o _ => k b o
theorem ExtN.weaken {N N' : Addr → Prop} {ρ ρ' : Addrs} {h h' : Heap} (X : ExtN N ρ h ρ' h') (w : ∀ b, N b → N' b) : ExtN N' ρ h ρ' h' := ⟨X.pre, fun b o m n e => X.keep b o m (fun q => n (w b q)) e⟩
theorem Ext.any {N : Addr → Prop} {ρ ρ' : Addrs} {h h' : Heap} (X : Ext ρ h ρ' h') : ExtN N ρ h ρ' h' := X.weaken fun _ q => q.elim

theorem ExtN.idx {N : Addr → Prop} {ρ ρ' : Addrs} {h h' : Heap} (X : ExtN N ρ h ρ' h') {i : Nat} {a : Addr} (e : ρ[i]? = some a) : ρ'[i]? = some a := by
  obtain ⟨t, rfl, _⟩ := X.pre
  obtain ⟨hl, _⟩ := List.getElem?_eq_some_iff.mp e
  rw [List.getElem?_append_left hl, e]
theorem ExtN.notin {N : Addr → Prop} {ρ ρ' : Addrs} {h h' : Heap} (X : ExtN N ρ h ρ' h') {a : Addr} {o : Obj} (n : a ∉ ρ) (e : h.get? a = some o) : a ∉ ρ' := by
  obtain ⟨t, rfl, ht⟩ := X.pre
  intro m
  rcases List.mem_append.mp m with m | m
  · exact n m
  · rw [ht a m] at e; cases e

theorem IsHdr.keep {h h' : Heap} {x C dx : Addr} {v : Value} (I : IsHdr h x C dx v) (k1 : ∀ o, h.get? x = some o → h'.get? x = some o) (k2 : ∀ o, h.get? dx = some o → h'.get? dx = some o) : IsHdr h' x C dx v :=
  let ⟨a, hs, t, n, b⟩ := I; ⟨k1 _ a, hs, t, n, k2 _ b⟩

theorem IsTab.cls {h : Heap} {P : Addr} (x : IsTab h P) {o : Obj} (e : h.get? P = some o) : o.cls = .none := by
  obtain ⟨ps, e', _⟩ := x
  rw [e] at e'; cases e'; rfl
theorem IsTab.str {h : Heap} {P : Addr} (x : IsTab h P) {o : Obj} (e : h.get? P = some o) {vs : Array Value} (hd : o.data = .fields vs) {q : Str} {t : Tok} (hv : vs[1]? = some (.str q t)) : False := by
  obtain ⟨ps, e', ht⟩ := x
  rw [e] at e'; cases e'
  cases hd
  rw [← Array.getElem?_toList] at hv
  unfold TriplesOk at ht
  split at ht
  · rename_i h0; rw [h0] at hv; simp at hv
  · rename_i h0; rw [h0] at hv; simp at hv
  · exact ht
noncomputable def Within (N : Addr → Prop) (μ : Addrs) (h : Heap) : Prop := ∀ b, N b → b ∈ μ ∨ IsTab h b
theorem Within.out {N : Addr → Prop} {μ : Addrs} {h : Heap} (w : Within N μ h) {a : Addr} {o : Obj} (n : a ∉ μ) (e : h.get? a = some o) (c : o.cls ≠ .none) : ¬ N a := fun q => by
  rcases w a q with m | t
  · exact n m
  · exact c (t.cls e)
theorem CodeV.extN {N : Addr → Prop} {μ ρ ρ' : Addrs} {h h' : Heap} (X : ExtN N ρ h ρ' h') (w : Within N μ h) {cv : Value} {q : Str} (r : CodeV μ ρ h cv q) : CodeV μ ρ' h' cv q := by
  obtain ⟨c, oc, vs, t, rfl, h1, h2, e, hd, hv⟩ := r
  refine ⟨c, oc, vs, t, rfl, h1, X.notin h2 e, X.keep _ _ h2 (fun q => ?_) e, hd, hv⟩
  rcases w c q with m | tb
  · exact h1 m
  · exact tb.str e hd hv
mutual
theorem RelV.extN {N : Addr → Prop} {μ ρ ρ' : Addrs} {h h' : Heap} (X : ExtN N ρ h ρ' h') (w : Within N μ h) : ∀ {x : Val} {v : Value}, RelV μ ρ h x v → RelV μ ρ' h' x v
  | .none, _, r => by simpa only [RelV] using r
  | .bool _, _, r => by simpa only [RelV] using r
  | .int _, _, r => by simpa only [RelV] using r
  | .str _, _, r => by simpa only [RelV] using r
  | .list xs, v, r => by
    unfold RelV at r ⊢
    obtain ⟨a, vs, rfl, h1, h2, ⟨o, e, n, r1⟩, r2⟩ := r
    exact ⟨a, vs, rfl, h1, X.notin h2 e, ⟨o, X.keep _ _ h2 (w.out h1 e (by rw [r1]; intro q; cases q)) e, n, r1⟩, RelVs.extN X w r2⟩
  | .tup xs, v, r => by
    unfold RelV at r ⊢
    obtain ⟨a, vs, rfl, h1, h2, ⟨o, e, hc, r1⟩, r2⟩ := r
    exact ⟨a, vs, rfl, h1, X.notin h2 e, ⟨o, X.keep _ _ h2 (w.out h1 e (by rw [hc]; intro q; cases q)) e, hc, r1⟩, RelVs.extN X w r2⟩
  | .ref i, v, r => by
    unfold RelV at r ⊢
    obtain ⟨a, e, rfl⟩ := r
    exact ⟨a, X.idx e, rfl⟩
  | .hdr C x, v, r => by
    unfold RelV at r ⊢
    obtain ⟨a, dx, v', rfl, h1, h2, h3, h4, I, r⟩ := r
    have I' := I
    obtain ⟨e1, hs, t, n, e2⟩ := I'
    exact ⟨a, dx, v', rfl, h1, X.notin h2 e1, h3, X.notin h4 e2, I.keep (fun o e => X.keep _ _ h2 (w.out h1 e1 (by intro q; cases q)) e) (fun o e => X.keep _ _ h4 (w.out h3 e2 (by intro q; cases q)) e), RelV.extN X w r⟩
  | .glob _, _, r => by simpa only [RelV] using r
  | .obj a o, v, r => by
    unfold RelV at r ⊢
    obtain ⟨rfl, h1, h2, e, hc, cd⟩ := r
    exact ⟨rfl, h1, X.notin h2 e, X.keep _ _ h2 (w.out h1 e hc) e, hc, fun fd hf => (cd fd hf).extN X w⟩
theorem RelVs.extN {N : Addr → Prop} {μ ρ ρ' : Addrs} {h h' : Heap} (X : ExtN N ρ h ρ' h') (w : Within N μ h) : ∀ {xs : List Val} {vs : List Value}, RelVs μ ρ h xs vs → RelVs μ ρ' h' xs vs
  | [], _, r => by simpa only [RelVs] using r
  | x :: xs, vs, r => by
    unfold RelVs at r ⊢
    obtain ⟨v, rr, rfl, r1, r2⟩ := r
    exact ⟨v, rr, rfl, RelV.extN X w r1, RelVs.extN X w r2⟩
end
theorem RelV.ext {μ ρ ρ' : Addrs} {h h' : Heap} (X : Ext ρ h ρ' h') {x : Val} {v : Value} (r : RelV μ ρ h x v) : RelV μ ρ' h' x v := RelV.extN X (fun _ q => q.elim) r
theorem RelVs.ext {μ ρ ρ' : Addrs} {h h' : Heap} (X : Ext ρ h ρ' h') {x : List Val} {v : List Value} (r : RelVs μ ρ h x v) : RelVs μ ρ' h' x v := RelVs.extN X (fun _ q => q.elim) r

theorem CodeV.mu {μ ν ρ ρ' : Addrs} {h : Heap} (q : ∀ a o, h.get? a = some o → a ∉ μ → a ∉ ρ → a ∉ ν ∧ a ∉ ρ') {cv : Value} {s : Str} (r : CodeV μ ρ h cv s) : CodeV ν ρ' h cv s :=
  let ⟨c, oc, vs, t, r0, h1, h2, e, r⟩ := r; ⟨c, oc, vs, t, r0, (q _ _ e h1 h2).1, (q _ _ e h1 h2).2, e, r⟩
mutual
/-- other places that frozen values are to avoid -/
theorem RelV.mu {μ ν ρ ρ' : Addrs} {h : Heap} (q : ∀ a o, h.get? a = some o → a ∉ μ → a ∉ ρ → a ∉ ν ∧ a ∉ ρ') (hi : ∀ (i : Nat) (a : Addr), ρ[i]? = some a → ρ'[i]? = some a) : ∀ {x : Val} {v : Value}, RelV μ ρ h x v → RelV ν ρ' h x v
  | .none, _, r => by simpa only [RelV] using r
  | .bool _, _, r => by simpa only [RelV] using r
  | .int _, _, r => by simpa only [RelV] using r
  | .str _, _, r => by simpa only [RelV] using r
  | .list xs, v, r => by
    unfold RelV at r ⊢
    obtain ⟨a, vs, rfl, h1, h2, ⟨o, e, r1⟩, r2⟩ := r
    exact ⟨a, vs, rfl, (q a o e h1 h2).1, (q a o e h1 h2).2, ⟨o, e, r1⟩, RelVs.mu q hi r2⟩
  | .tup xs, v, r => by
    unfold RelV at r ⊢
    obtain ⟨a, vs, rfl, h1, h2, ⟨o, e, r1⟩, r2⟩ := r
    exact ⟨a, vs, rfl, (q a o e h1 h2).1, (q a o e h1 h2).2, ⟨o, e, r1⟩, RelVs.mu q hi r2⟩
  | .ref i, v, r => by
    unfold RelV at r ⊢
    obtain ⟨a, e, rfl⟩ := r
    exact ⟨a, hi _ _ e, rfl⟩
  | .hdr C x, v, r => by
    unfold RelV at r ⊢
    obtain ⟨a, dx, v', rfl, h1, h2, h3, h4, I, r⟩ := r
    have I' := I
    obtain ⟨e1, hs, t, n, e2⟩ := I'
    exact ⟨a, dx, v', rfl, (q _ _ e1 h1 h2).1, (q _ _ e1 h1 h2).2, (q _ _ e2 h3 h4).1, (q _ _ e2 h3 h4).2, I, RelV.mu q hi r⟩
  | .glob _, _, r => by simpa only [RelV] using r
  | .obj a o, v, r => by
    unfold RelV at r ⊢
    obtain ⟨rfl, h1, h2, e, hc, cd⟩ := r
    exact ⟨rfl, (q _ _ e h1 h2).1, (q _ _ e h1 h2).2, e, hc, fun fd hf => (cd fd hf).mu q⟩
theorem RelVs.mu {μ ν ρ ρ' : Addrs} {h : Heap} (q : ∀ a o, h.get? a = some o → a ∉ μ → a ∉ ρ → a ∉ ν ∧ a ∉ ρ') (hi : ∀ (i : Nat) (a : Addr), ρ[i]? = some a → ρ'[i]? = some a) : ∀ {x : List Val} {v : List Value}, RelVs μ ρ h x v → RelVs ν ρ' h x v
  | [], _, r => by simpa only [RelVs] using r
  | x :: xs, vs, r => by
    unfold RelVs at r ⊢
    obtain ⟨v, rr, rfl, r1, r2⟩ := r
    exact ⟨v, rr, rfl, RelV.mu q hi r1, RelVs.mu q hi r2⟩
end

/-- the ground: the program, the world, the heap at the law's call with what is known of it -/
structure Wd where
  prog : Program
  w : World
  h₀ : Heap
  K : Frag
  X : K.In h₀
  p : Program
  loose : List Str
  mg : Str → Option Value
  mb : Str → Option Value
  T : TopRead p loose mg mb h₀
  tabs : List (Addr × Str)
  grows : Bool

/-- the tables, as they stand -/
noncomputable def TabOK (tabs : List (Addr × Str)) (μ ρ : Addrs) (h : Heap) : Prop :=
  ∀ q ∈ tabs, q.1 ∉ μ ∧ q.1 ∉ ρ ∧ ∃ ps, h.get? q.1 = some (tabObj ps) ∧ TriplesOk ps.toList ∧ ∀ pos cv, codeAmong pos ps.toList = some cv → CodeV μ ρ h cv q.2
theorem TabOK.tab {tabs : List (Addr × Str)} {μ ρ : Addrs} {h : Heap} (T : TabOK tabs μ ρ h) {P : Addr} (m : P ∈ tabs.map (·.1)) : IsTab h P := by
  obtain ⟨q, hq, rfl⟩ := List.mem_map.mp m
  obtain ⟨_, _, ps, e, t, _⟩ := T q hq
  exact ⟨ps, e, t⟩
/-- where nothing changes but what the frames own -/
theorem TabOK.turn {tabs : List (Addr × Str)} {μ ρ ν ρ' : Addrs} {h h' : Heap} (T : TabOK tabs μ ρ h) (k : ∀ b o, b ∉ μ → b ∉ ρ → h.get? b = some o → h'.get? b = some o) (q : ∀ a o, h.get? a = some o → a ∉ μ → a ∉ ρ → a ∉ ν ∧ a ∉ ρ') : TabOK tabs ν ρ' h' := fun x hx => by
  obtain ⟨h1, h2, ps, e, t, c⟩ := T x hx
  refine ⟨(q _ _ e h1 h2).1, (q _ _ e h1 h2).2, ps, k _ _ h1 h2 e, t, fun pos cv hc => ?_⟩
  obtain ⟨c, oc, vs, t, r0, g1, g2, e', r⟩ := c pos cv hc
  exact ⟨c, oc, vs, t, r0, (q _ _ e' g1 g2).1, (q _ _ e' g1 g2).2, k _ _ g1 g2 e', r⟩
structure Rep (B : Wd) (μ ρ : Addrs) (σ : Store) (h : Heap) : Prop where
  tab : TabOK B.tabs μ ρ h
  base : ∀ b o, B.h₀.get? b = some o → h.get? b = some o
  above : ∀ a ∈ ρ, B.h₀.get? a = none
  len : ρ.length = σ.length
  nodup : ρ.Nodup
  apart : ∀ a ∈ ρ, a ∉ μ
  held : ∀ a ∈ μ, ∃ o, h.get? a = some o
  muAbove : ∀ a ∈ μ, B.h₀.get? a = none
  obj : ∀ (i : Nat) (a : Addr) (xs : List Val), ρ[i]? = some a → σ[i]? = some xs → ∃ vs, LS h a (List.toArray vs) ∧ RelVs μ ρ h xs vs

theorem Rep.isSome {B : Wd} {μ ρ : Addrs} {σ : Store} {h : Heap} (R : Rep B μ ρ σ h) {a : Addr} (m : a ∈ ρ) : ∃ vs, LS h a (List.toArray vs) := by
  obtain ⟨i, hi, rfl⟩ := List.getElem_of_mem m
  have hs : i < σ.length := R.len ▸ hi
  obtain ⟨vs, h1, _⟩ := R.obj i ρ[i] σ[i] (List.getElem?_eq_getElem hi) (List.getElem?_eq_getElem hs)
  exact ⟨vs, h1⟩

theorem ExtN.trans {B : Wd} {N : Addr → Prop} {μ : Addrs} {σ : Store} {ρ ρ' ρ'' : Addrs} {h h' h'' : Heap} (X : ExtN N ρ h ρ' h') (R : Rep B μ ρ' σ h') (w : ∀ b, N b → b ∈ μ ∨ b ∈ B.tabs.map (·.1)) (Y : ExtN N ρ' h' ρ'' h'') : ExtN N ρ h ρ'' h'' := by
  obtain ⟨t, rfl, ht⟩ := X.pre
  obtain ⟨t', rfl, ht'⟩ := Y.pre
  refine ⟨⟨t ++ t', by simp, fun a ha => ?_⟩, fun b o n nn e => ?_⟩
  · rcases List.mem_append.mp ha with ha | ha
    · exact ht a ha
    · cases q : h.get? a with
      | none => rfl
      | some o =>
        exfalso
        by_cases m : a ∈ ρ
        · obtain ⟨_, o', e', _⟩ := R.isSome (List.mem_append_left t m)
          rw [ht' a ha] at e'; cases e'
        · by_cases m' : N a
          · rcases w a m' with z | z
            · obtain ⟨o', e'⟩ := R.held a z
              rw [ht' a ha] at e'; cases e'
            · obtain ⟨ps, e', _⟩ := R.tab.tab z
              rw [ht' a ha] at e'; cases e'
          · have := X.keep a o m m' q
            rw [ht' a ha] at this; cases this
  · exact Y.keep b o (X.notin n e) nn (X.keep b o n nn e)
/-- where nothing of the frame's own lists is touched -/
theorem Rep.keeps {B : Wd} {μ ρ : Addrs} {σ : Store} {h h' : Heap} (R : Rep B μ ρ σ h) (k : ∀ b o, h.get? b = some o → h'.get? b = some o) : Rep B μ ρ σ h' := by
  refine ⟨R.tab.turn (fun b o _ _ e => k b o e) fun _ _ _ n1 n2 => ⟨n1, n2⟩, fun b o e => k _ _ (R.base b o e), R.above, R.len, R.nodup, R.apart, fun a m => let ⟨o, e⟩ := R.held a m; ⟨o, k _ _ e⟩, R.muAbove, fun i a xs e1 e2 => ?_⟩
  obtain ⟨vs, ⟨o, e, r⟩, r2⟩ := R.obj i a xs e1 e2
  exact ⟨vs, ⟨o, k _ _ e, r⟩, RelVs.ext (Ext.of_keeps k) r2⟩

noncomputable def NoE : Value → Shared → Prop := fun _ _ => False

structure Good (n : Nat) (A : Around) : Prop where
  handled : A.handled = none
  depth : A.depth + 4 * n + 4 < recursionLimit
  units : A.units + 40 * n + 40 < cLine
theorem Good.deeper {n : Nat} {A : Around} (g : Good (n + 1) A) (env : Env) : Good n (A.deeper env) := by
  refine ⟨g.handled, ?_, ?_⟩
  · have := g.depth; show A.depth + 1 + 4 * n + 4 < recursionLimit; omega
  · have := g.units; show A.units + 3 + 40 * n + 40 < cLine; omega
theorem Good.le {n m : Nat} {A : Around} (g : Good n A) (h : m ≤ n) : Good m A := ⟨g.handled, by have := g.depth; omega, by have := g.units; omega⟩

/-- the frame: its names stand in the scope's order, their values in vs -/
structure EnvOK (μ ρ : Addrs) (h : Heap) (env : Env) (vs : List (Option Val)) : Prop where
  kind : env.scope.kind = .function
  glob : env.globals = mainGlobals
  blt : env.builtins = builtinsNs
  nodup : (env.scope.names.map (·.1)).Nodup
  ns : ∃ m, h.Ns env.locals m ∧ ∀ (i : Nat) (x : Str) (v : Val), env.scope.names[i]? = some (x, NameKind.local) → vs[i]? = some (some v) → ∃ v', m x = some v' ∧ RelV μ ρ h v v'
  cell : ∀ (i : Nat) (x : Str) (k : NameKind), env.scope.names[i]? = some (x, k) → k = .cell ∨ k = .free → ∃ c v₀, env.cells.lookup x = some c ∧ h.IsCell c v₀ ∧ ∀ v, vs[i]? = some (some v) → ∃ v', v₀ = some v' ∧ RelV μ ρ h v v'
  apart : ∀ x y c, env.cells.lookup x = some c → env.cells.lookup y = some c → x = y
  locIn : env.locals ∈ μ
  cellIn : ∀ x c, env.cells.lookup x = some c → env.kindOf x = some .cell → c ∈ μ

/-- what a statement of the frame may change besides: the frame's own names -/
noncomputable def Own (B : Wd) (env : Env) (b : Addr) : Prop := b = env.locals ∨ (∃ x, env.cells.lookup x = some b ∧ env.kindOf x = some .cell) ∨ (B.grows = true ∧ b ∈ B.tabs.map (·.1))
theorem EnvOK.own {B : Wd} {μ ρ : Addrs} {h : Heap} {env : Env} {vs : List (Option Val)} (F : EnvOK μ ρ h env vs) : ∀ b, Own B env b → b ∈ μ ∨ b ∈ B.tabs.map (·.1) := fun b q => by
  rcases q with rfl | ⟨x, a, c⟩ | ⟨_, q⟩
  · exact .inl F.locIn
  · exact .inl (F.cellIn x b a c)
  · exact .inr q
theorem Rep.within {B : Wd} {N : Addr → Prop} {μ ρ : Addrs} {σ : Store} {h : Heap} (R : Rep B μ ρ σ h) (w : ∀ b, N b → b ∈ μ ∨ b ∈ B.tabs.map (·.1)) : Within N μ h := fun b q => (w b q).imp (fun z => z) R.tab.tab

theorem Rep.off_ns {B : Wd} {μ ρ : Addrs} {σ : Store} {h : Heap} (R : Rep B μ ρ σ h) {L : Addr} {m : Str → Option Value} (n : h.Ns L m) : L ∉ ρ := fun q => by
  obtain ⟨vs, o, e, _, d⟩ := R.isSome q
  obtain ⟨o', es, ep, e', d', _⟩ := n
  rw [e] at e'; cases e'; subst d; cases d'
theorem Rep.off_cell {B : Wd} {μ ρ : Addrs} {σ : Store} {h : Heap} (R : Rep B μ ρ σ h) {c : Addr} {v : Option Value} (n : h.IsCell c v) : c ∉ ρ := fun q => by
  obtain ⟨vs, o, e, _, d⟩ := R.isSome q
  obtain ⟨o', e', d'⟩ := n
  rw [e] at e'; cases e'; subst d; cases d'

theorem EnvOK.ext {B : Wd} {μ ρ ρ' : Addrs} {σ : Store} {h h' : Heap} {env : Env} {vs : List (Option Val)} (F : EnvOK μ ρ h env vs) (R : Rep B μ ρ σ h) (X : Ext ρ h ρ' h') : EnvOK μ ρ' h' env vs := by
  refine ⟨F.kind, F.glob, F.blt, F.nodup, ?_, fun i x k e hk => ?_, F.apart, F.locIn, F.cellIn⟩
  · obtain ⟨m, n, r⟩ := F.ns
    have off := R.off_ns n
    refine ⟨m, ?_, fun i x v e1 e2 => let ⟨v', a, b⟩ := r i x v e1 e2; ⟨v', a, RelV.ext X b⟩⟩
    obtain ⟨o, es, ep, ho, r⟩ := n
    exact ⟨o, es, ep, X.keep _ _ off (fun q => q) ho, r⟩
  · obtain ⟨c, v₀, e1, e2, e3⟩ := F.cell i x k e hk
    have off := R.off_cell e2
    obtain ⟨o, ho, hd⟩ := e2
    exact ⟨c, v₀, e1, ⟨o, X.keep _ _ off (fun q => q) ho, hd⟩, fun v e4 => let ⟨v', a, b⟩ := e3 v e4; ⟨v', a, RelV.ext X b⟩⟩

theorem lookup_of_nodup {α : Type} : ∀ {l : List (Str × α)} {i : Nat} {x : Str} {k : α}, (l.map (·.1)).Nodup → l[i]? = some (x, k) → l.lookup x = some k
  | [], _, _, _, _, h => by simp at h
  | (y, k') :: r, 0, x, k, _, h => by
    simp only [List.getElem?_cons_zero, Option.some.injEq, Prod.mk.injEq] at h
    obtain ⟨rfl, rfl⟩ := h
    simp
  | (y, k') :: r, i + 1, x, k, hn, h => by
    simp only [List.getElem?_cons_succ] at h
    rw [List.map_cons, List.nodup_cons] at hn
    have hne : x ≠ y := by
      rintro rfl
      exact hn.1 (List.mem_map.mpr ⟨(x, k), List.mem_of_getElem? h, rfl⟩)
    have hb : (x == y) = false := beq_eq_false_iff_ne.mpr hne
    rw [List.lookup_cons, hb]
    exact lookup_of_nodup hn.2 h
theorem EnvOK.kindOf {μ ρ : Addrs} {h : Heap} {env : Env} {vs : List (Option Val)} (F : EnvOK μ ρ h env vs) {i : Nat} {x : Str} {k : NameKind} (e : env.scope.names[i]? = some (x, k)) : env.kindOf x = some k := lookup_of_nodup F.nodup e

noncomputable def Keeps (h h' : Heap) : Prop := ∀ b o, h.get? b = some o → h'.get? b = some o
theorem Keeps.refl (h : Heap) : Keeps h h := fun _ _ e => e
theorem Keeps.trans {h h' h'' : Heap} (x : Keeps h h') (y : Keeps h' h'') : Keeps h h'' := fun b o e => y b o (x b o e)
theorem Keeps.push {h : Heap} (o : Obj) : Keeps h (h.push o) := fun _ _ e => Heap.get?_push_of_some _ e
theorem RelV.keeps {μ ρ : Addrs} {h h' : Heap} (k : Keeps h h') {x : Val} {v : Value} (r : RelV μ ρ h x v) : RelV μ ρ h' x v := RelV.ext (Ext.of_keeps k) r
theorem RelVs.keeps {μ ρ : Addrs} {h h' : Heap} (k : Keeps h h') {x : List Val} {v : List Value} (r : RelVs μ ρ h x v) : RelVs μ ρ h' x v := RelVs.ext (Ext.of_keeps k) r
theorem EnvOK.keeps {B : Wd} {μ ρ : Addrs} {σ : Store} {h h' : Heap} {env : Env} {vs : List (Option Val)} (F : EnvOK μ ρ h env vs) (R : Rep B μ ρ σ h) (k : Keeps h h') : EnvOK μ ρ h' env vs := F.ext R (Ext.of_keeps k)

/-- an expression ends in the value v; what stood stands -/
noncomputable def Post (μ ρ : Addrs) (s : Shared) (v : Val) (Q : Value → Shared → Prop) : Prop :=
  ∀ v' h' tk, Keeps s.heap h' → RelV μ ρ h' v v' → Q v' { s with heap := h', toks := tk }
noncomputable def PostB (s : Shared) (v : Bool) (Q : Bool → Shared → Prop) : Prop := ∀ h' tk, Keeps s.heap h' → Q v { s with heap := h', toks := tk }
noncomputable def PostS (μ ρ : Addrs) (s : Shared) (v : List Val) (Q : List Value → Shared → Prop) : Prop :=
  ∀ v' h' tk, Keeps s.heap h' → RelVs μ ρ h' v v' → Q v' { s with heap := h', toks := tk }
/-- a new list -/
noncomputable def PostN (μ ρ : Addrs) (s : Shared) (xs : List Val) (Q : Value → Shared → Prop) : Prop :=
  ∀ a ws h' tk, s.heap.get? a = none → Keeps s.heap h' → LS h' a (List.toArray ws) → RelVs (a :: μ) ρ h' xs ws → Q (.ref a) { s with heap := h', toks := tk }

noncomputable def Ev (B : Wd) (n : Nat) (sc : Scope) (vs : List (Option Val)) (σ : Store) (e : Expr) (v : Val) : Prop :=
  ∀ (A : Around) (μ ρ : Addrs) (env : Env) (s : Shared) (Q : Value → Shared → Prop), Good n A → env.scope = sc → Rep B μ ρ σ s.heap → EnvOK μ ρ s.heap env vs →
    Post μ ρ s v Q → wpAny (model B.prog B.w) A (eval e env) Q NoE s
noncomputable def EvN (B : Wd) (n : Nat) (sc : Scope) (vs : List (Option Val)) (σ : Store) (e : Expr) (xs : List Val) : Prop :=
  ∀ (A : Around) (μ ρ : Addrs) (env : Env) (s : Shared) (Q : Value → Shared → Prop), Good n A → env.scope = sc → Rep B μ ρ σ s.heap → EnvOK μ ρ s.heap env vs →
    PostN μ ρ s xs Q → wpAny (model B.prog B.w) A (eval e env) Q NoE s
/-- arguments, in order -/
inductive Evs (B : Wd) (n : Nat) (sc : Scope) (vs : List (Option Val)) (σ : Store) : List Expr → List Val → Prop
  | nil : Evs B n sc vs σ [] []
  | cons {e es v ws} : Ev B n sc vs σ e v → Evs B n sc vs σ es ws → Evs B n sc vs σ (e :: es) (v :: ws)
/-- a test -/
noncomputable def Tr (B : Wd) (n : Nat) (sc : Scope) (vs : List (Option Val)) (σ : Store) (e : Expr) (v : Bool) : Prop :=
  ∀ (A : Around) (μ ρ : Addrs) (env : Env) (s : Shared) (Q : Bool → Shared → Prop), Good n A → env.scope = sc → Rep B μ ρ σ s.heap → EnvOK μ ρ s.heap env vs →
    PostB s v Q → wpAny (model B.prog B.w) A (isTrue e env (eval e env)) Q NoE s
/-- operations upon values -/
noncomputable def Op1 (B : Wd) (n : Nat) (σ : Store) (a : Val) (t : Value → Sem Value) (v : Val) : Prop :=
  ∀ (A : Around) (μ ρ : Addrs) (s : Shared) (x : Value) (Q : Value → Shared → Prop), Good n A → Rep B μ ρ σ s.heap → RelV μ ρ s.heap a x → Post μ ρ s v Q → wpAny (model B.prog B.w) A (t x) Q NoE s
noncomputable def Op2 (B : Wd) (n : Nat) (σ : Store) (a b : Val) (t : Value → Value → Sem Value) (v : Val) : Prop :=
  ∀ (A : Around) (μ ρ : Addrs) (s : Shared) (x y : Value) (Q : Value → Shared → Prop), Good n A → Rep B μ ρ σ s.heap → RelV μ ρ s.heap a x → RelV μ ρ s.heap b y → Post μ ρ s v Q →
    wpAny (model B.prog B.w) A (t x y) Q NoE s
noncomputable def OpS (B : Wd) (n : Nat) (σ : Store) (as : List Val) (t : List Value → Sem Value) (v : Val) : Prop :=
  ∀ (A : Around) (μ ρ : Addrs) (s : Shared) (xs : List Value) (Q : Value → Shared → Prop), Good n A → Rep B μ ρ σ s.heap → RelVs μ ρ s.heap as xs → Post μ ρ s v Q → wpAny (model B.prog B.w) A (t xs) Q NoE s
/-- the truth of a value -/
noncomputable def Tv (B : Wd) (n : Nat) (σ : Store) (a : Val) (v : Bool) : Prop :=
  ∀ (A : Around) (μ ρ : Addrs) (s : Shared) (x : Value) (Q : Bool → Shared → Prop), Good n A → Rep B μ ρ σ s.heap → RelV μ ρ s.heap a x → PostB s v Q → wpAny (model B.prog B.w) A (truthy x) Q NoE s

inductive Fl where
  | next | brk | cont
  | ret (v : Val)
noncomputable def RelF (μ ρ : Addrs) (h : Heap) : Fl → Flow → Prop
  | .next, f => f = .next
  | .brk, f => f = .brk
  | .cont, f => f = .cont
  | .ret v, f => ∃ v', f = .ret v' ∧ RelV μ ρ h v v'
noncomputable def PostF (B : Wd) (μ ρ : Addrs) (env : Env) (s : Shared) (f : Fl) (vs' : List (Option Val)) (σ' : Store) (Q : Flow → Shared → Prop) : Prop :=
  ∀ ρ' f' h' tk, ExtN (Own B env) ρ s.heap ρ' h' → Rep B μ ρ' σ' h' → EnvOK μ ρ' h' env vs' → RelF μ ρ' h' f f' → Q f' { s with heap := h', toks := tk }
noncomputable def Ex (B : Wd) (n : Nat) (sc : Scope) (vs : List (Option Val)) (σ : Store) (st : Stmt) (f : Fl) (vs' : List (Option Val)) (σ' : Store) : Prop :=
  ∀ (A : Around) (μ ρ : Addrs) (env : Env) (s : Shared) (Q : Flow → Shared → Prop), Good n A → env.scope = sc → Rep B μ ρ σ s.heap → EnvOK μ ρ s.heap env vs →
    PostF B μ ρ env s f vs' σ' Q → wpAny (model B.prog B.w) A (exec st env) Q NoE s
noncomputable def Exs (B : Wd) (n : Nat) (sc : Scope) (vs : List (Option Val)) (σ : Store) (st : List Stmt) (f : Fl) (vs' : List (Option Val)) (σ' : Store) : Prop :=
  ∀ (A : Around) (μ ρ : Addrs) (env : Env) (s : Shared) (Q : Flow → Shared → Prop), Good n A → env.scope = sc → Rep B μ ρ σ s.heap → EnvOK μ ρ s.heap env vs →
    PostF B μ ρ env s f vs' σ' Q → wpAny (model B.prog B.w) A (execs st env) Q NoE s
end Mine
namespace Mine
open PySem PySem.Spec PySem.Calls PyProof.Rows PySem.W
section
variable {B : Wd} {n : Nat} {sc : Scope} {vs : List (Option Val)} {σ : Store} {v a b c : Val} {k : Nat} {pos : Pos} {e l r : Expr}

theorem Post.step {μ ρ : Addrs} {s : Shared} {Q : Value → Shared → Prop} (P : Post μ ρ s v Q) {h₁ : Heap} {tk : Nat} (X : Keeps s.heap h₁) :
    Post μ ρ { s with heap := h₁, toks := tk } v Q := fun v' h' tk' X' r => P v' h' tk' (X.trans X') r
theorem Post.here {μ ρ : Addrs} {s : Shared} {Q : Value → Shared → Prop} {v' : Value} (P : Post μ ρ s v Q) (r : RelV μ ρ s.heap v v') : Q v' s := P v' s.heap s.toks (Keeps.refl _) r
theorem Post.tok {μ ρ : Addrs} {s : Shared} {Q : Value → Shared → Prop} {v' : Value} {tk : Nat} (P : Post μ ρ s v Q) (r : RelV μ ρ s.heap v v') : Q v' { s with toks := tk } := P v' s.heap tk (Keeps.refl _) r
theorem Post.int {μ ρ : Addrs} {s : Shared} {Q : Value → Shared → Prop} {i : Int} {t tk : Nat} (P : Post μ ρ s (.int i) Q) : Q (.int i t) { s with toks := tk } := P.tok (by unfold RelV; exact ⟨_, rfl⟩)
theorem Post.str {μ ρ : Addrs} {s : Shared} {Q : Value → Shared → Prop} {i : Str} {t tk : Nat} (P : Post μ ρ s (.str i) Q) : Q (.str i t) { s with toks := tk } := P.tok (by unfold RelV; exact ⟨_, rfl⟩)
theorem Post.bool {μ ρ : Addrs} {s : Shared} {Q : Value → Shared → Prop} {i : Bool} (P : Post μ ρ s (.bool i) Q) : Q (.bool i) s := P.here (by unfold RelV; rfl)
theorem PostB.step {v : Bool} {s : Shared} {Q : Bool → Shared → Prop} (P : PostB s v Q) {h₁ : Heap} {tk : Nat} (X : Keeps s.heap h₁) :
    PostB { s with heap := h₁, toks := tk } v Q := fun h' tk' X' => P h' tk' (X.trans X')
theorem PostB.here {v : Bool} {s : Shared} {Q : Bool → Shared → Prop} (P : PostB s v Q) : Q v s := P s.heap s.toks (Keeps.refl _)
theorem PostB.tok {v : Bool} {s : Shared} {Q : Bool → Shared → Prop} {tk : Nat} (P : PostB s v Q) : Q v { s with toks := tk } := P s.heap tk (Keeps.refl _)

theorem Ev.cint {i : Int} : Ev B n sc vs σ (.Constant (.int i) k pos) (.int i) := fun _ _ _ _ _ _ _ _ _ _ P => wpAny_Constant_int P.int
theorem Ev.cnone : Ev B n sc vs σ (.Constant .none k pos) .none := fun _ _ _ _ _ _ _ _ _ _ P => Constant_none (P.here (by unfold RelV; rfl))
theorem Ev.cstr {x : Str} : Ev B n sc vs σ (.Constant (.str x) k pos) (.str x) := fun A _ _ env s Q _ _ _ _ P => by
  show wpAny _ A (mkText x) Q NoE s
  exact fun Γ p hΓ => P.str (t := s.toks)

theorem Ev.local {x : Str} (i : Nat) (hi : sc.names[i]? = some (x, .local)) (hv : vs[i]? = some (some v)) (hd : (x == ("__debug__" : Str)) = false := by decide) : Ev B n sc vs σ (.Name x pos) v :=
  fun A μ ρ env s Q _ hs R F P => by
    subst hs
    obtain ⟨m, hn, hm⟩ := F.ns
    obtain ⟨v', e, r⟩ := hm i x v hi hv
    exact wpAny_Name (wpAny_loadName_local F.kind (F.kindOf hi) hn e (P.here r)) hd
theorem Ev.cell {x : Str} (i : Nat) (hi : sc.names[i]? = some (x, .cell)) (hv : vs[i]? = some (some v)) (hd : (x == ("__debug__" : Str)) = false := by decide) : Ev B n sc vs σ (.Name x pos) v :=
  fun A μ ρ env s Q _ hs R F P => by
    subst hs
    obtain ⟨c, v₀, e1, e2, e3⟩ := F.cell i x _ hi (.inl rfl)
    obtain ⟨v', rfl, r⟩ := e3 v hv
    exact wpAny_Name (wpAny_loadName_cell F.kind (F.kindOf hi) e1 e2 (P.here r)) hd
theorem Ev.free {x : Str} (i : Nat) (hi : sc.names[i]? = some (x, .free)) (hv : vs[i]? = some (some v)) (hd : (x == ("__debug__" : Str)) = false := by decide) (hc : (x == ("__classdict__" : Str)) = false := by decide) : Ev B n sc vs σ (.Name x pos) v :=
  fun A μ ρ env s Q _ hs R F P => by
    subst hs
    obtain ⟨c, v₀, e1, e2, e3⟩ := F.cell i x _ hi (.inr rfl)
    obtain ⟨v', rfl, r⟩ := e3 v hv
    exact wpAny_Name (wpAny_loadName_free F.kind (F.kindOf hi) e1 e2 (P.here r) hc) hd

theorem Rep.nsG {μ ρ : Addrs} {h : Heap} (R : Rep B μ ρ σ h) : h.Ns mainGlobals B.mg := B.T.g.keeps R.base
theorem Rep.nsB {μ ρ : Addrs} {h : Heap} (R : Rep B μ ρ σ h) : h.Ns builtinsNs B.mb := B.T.b.keeps R.base
theorem Rep.inK {μ ρ : Addrs} {h : Heap} (R : Rep B μ ρ σ h) : B.K.In h := B.X.keeps R.base

/-- a name of the text's own top -/
theorem Ev.global {x : Str} {g : Value} (i : Nat) (hi : sc.names[i]? = some (x, .globalImplicit)) (hg : nsIn B.K mainGlobals x = some (some g)) (hr : ∀ μ ρ h, RelV μ ρ h v g)
    (hd : (x == ("__debug__" : Str)) = false := by decide) : Ev B n sc vs σ (.Name x pos) v :=
  fun A μ ρ env s Q _ hs R F P => by
    subst hs
    exact Name_function_global F.kind (F.kindOf hi) (loadGlobal_global (by rw [F.glob]; exact R.nsG) (mg_of B.X B.T.g hg) (P.here (hr _ _ _))) hd
/-- a built-in name -/
theorem Ev.builtin {x : Str} {g : Value} (i : Nat) (hi : sc.names[i]? = some (x, .globalImplicit)) (hg : nsIn B.K mainGlobals x = some none) (hb : bootBuiltins x = some g) (hn : x ≠ "__name__")
    (hd : (x == ("__debug__" : Str)) = false := by decide) : Ev B n sc vs σ (.Name x pos) (.glob g) :=
  fun A μ ρ env s Q _ hs R F P => by
    subst hs
    exact Name_function_global F.kind (F.kindOf hi) (loadGlobal_builtin (by rw [F.glob]; exact R.nsG) (mg_none_of B.X B.T.g hg) (by rw [F.blt]; exact R.nsB) ((B.T.builtins x hn).trans hb) (P.here (by unfold RelV; rfl))) hd

theorem Ev.bin {op : Operator} (hl : Ev B n sc vs σ l a) (hr : Ev B n sc vs σ r b) (ho : Op2 B n σ a b (binaryOp op) v) : Ev B n sc vs σ (.BinOp l op r pos) v :=
  fun A μ ρ env s Q g hs R F P => by
    refine wpAny_BinOp (hl A μ ρ env s _ g hs R F fun x h₁ t₁ X₁ r₁ => ?_)
    refine hr A μ ρ env _ _ g hs (R.keeps X₁) (F.keeps R X₁) fun y h₂ t₂ X₂ r₂ => ?_
    exact ho A μ ρ _ _ _ Q g ((R.keeps X₁).keeps X₂) (RelV.keeps X₂ r₁) r₂ ((P.step X₁).step X₂)
theorem Ev.un {op : UnaryOp} (hl : Ev B n sc vs σ l a) (ho : Op1 B n σ a (unaryOp op) v) : Ev B n sc vs σ (.UnaryOp op l pos) v :=
  fun A μ ρ env s Q g hs R F P => by
    refine UnaryOp_ (hl A μ ρ env s _ g hs R F fun x h₁ t₁ X₁ r₁ => ?_)
    exact ho A μ ρ _ _ Q g (R.keeps X₁) r₁ (P.step X₁)
theorem Ev.ite {t x y : Expr} {d : Bool} (ht : Tr B n sc vs σ t d) (h1 : d = true → Ev B n sc vs σ x v) (h2 : d = false → Ev B n sc vs σ y v) : Ev B n sc vs σ (.IfExp t x y pos) v :=
  fun A μ ρ env s Q g hs R F P => by
    refine IfExp_ (ht A μ ρ env s _ g hs R F fun h₁ t₁ X₁ => ?_)
    cases hd : d with
    | true => simp only [if_true]; exact h1 hd A μ ρ env _ Q g hs (R.keeps X₁) (F.keeps R X₁) (P.step X₁)
    | false => simp only [Bool.false_eq_true, if_false]; exact h2 hd A μ ρ env _ Q g hs (R.keeps X₁) (F.keeps R X₁) (P.step X₁)

theorem Ev.or1 (h : Ev B n sc vs σ e v) : Ev B n sc vs σ (.BoolOp .Or [e] pos) v := fun A μ ρ env s Q g hs R F P => BoolOp_one (h A μ ρ env s Q g hs R F P)
theorem Ev.or {x y : Expr} {zs : List Expr} {d : Bool} (h : Ev B n sc vs σ x a) (ht : Tv B n σ a d) (h1 : d = false → Ev B n sc vs σ (.BoolOp .Or (y :: zs) pos) v) (h2 : d = true → v = a) :
    Ev B n sc vs σ (.BoolOp .Or (x :: y :: zs) pos) v := fun A μ ρ env s Q g hs R F P => by
  refine BoolOp_or (h A μ ρ env s _ g hs R F fun x h₁ t₁ X₁ r₁ => ?_)
  refine ht A μ ρ _ _ _ g (R.keeps X₁) r₁ fun h₂ t₂ X₂ => ?_
  cases hd : d with
  | false => simp only [Bool.false_eq_true, if_false]; exact h1 hd A μ ρ env _ Q g hs ((R.keeps X₁).keeps X₂) ((F.keeps R X₁).keeps (R.keeps X₁) X₂) ((P.step X₁).step X₂)
  | true =>
    obtain rfl := h2 hd
    simp only [if_true]
    exact ((P.step X₁).step X₂).here (RelV.keeps X₂ r₁)

-- tests
noncomputable def plainTest : Expr → Bool
  | .UnaryOp .Not _ _ => false
  | .BoolOp .. => false
  | .IfExp .. => false
  | .Compare .. => false
  | _ => true
theorem isTrue_of_plain {M : Model} {A : Around} {E : Value → Shared → Prop} {s : Shared} {env : Env} {Q : Bool → Shared → Prop} {whole : Sem Value} (hp : plainTest e = true)
    (h : wpAny M A whole (fun v s₁ => wpAny M A (truthy v) Q E s₁) E s) : wpAny M A (isTrue e env whole) Q E s := by
  have : isTrue e env whole = (do let v ← whole; standAt e.pos; holding [v] (truthy v)) := by
    cases e with
    | UnaryOp op _ _ => cases op <;> first | rfl | cases hp
    | BoolOp => cases hp
    | IfExp => cases hp
    | Compare => cases hp
    | _ => rfl
  rw [this]
  exact wpAny_bind (wpAny_mono h (fun v s₁ h₁ => wpAny_bind (wpAny_standAt (wpAny_holding h₁))) fun _ _ x => x)
theorem Tr.of {d : Bool} (h : Ev B n sc vs σ e a) (ht : Tv B n σ a d) (hp : plainTest e = true := by rfl) : Tr B n sc vs σ e d := fun A μ ρ env s Q g hs R F P => by
  refine isTrue_of_plain hp (h A μ ρ env s _ g hs R F fun x h₁ t₁ X₁ r₁ => ?_)
  exact ht A μ ρ _ _ _ g (R.keeps X₁) r₁ (P.step X₁)
theorem Tr.cmp {op : CmpOp} {d : Bool} (hl : Ev B n sc vs σ l a) (hr : Ev B n sc vs σ r b) (ho : Op2 B n σ a b (compareOp op) (.bool d)) (hm : behindInMarks op r = false := by with_unfolding_all rfl) :
    Tr B n sc vs σ (.Compare l [op] [r] pos) d := fun A μ ρ env s Q g hs R F P => by
  refine wpAny_isTrue_Compare1 (hl A μ ρ env s _ g hs R F fun x h₁ t₁ X₁ r₁ => ?_) hm
  refine hr A μ ρ env _ _ g hs (R.keeps X₁) (F.keeps R X₁) fun y h₂ t₂ X₂ r₂ => ?_
  refine ho A μ ρ _ _ _ _ g ((R.keeps X₁).keeps X₂) (RelV.keeps X₂ r₁) r₂ fun z h₃ t₃ X₃ r₃ => ?_
  unfold RelV at r₃; subst r₃
  exact wpAny_truthy_bool (((P.step X₁).step X₂).step X₃).here
theorem Tr.not {d : Bool} (h : Tr B n sc vs σ e d) : Tr B n sc vs σ (.UnaryOp .Not e pos) (!d) := fun A μ ρ env s Q g hs R F P => isTrue_not (h A μ ρ env s _ g hs R F P)
theorem Tr.andNil : Tr B n sc vs σ (.BoolOp .And [] pos) true := fun A μ ρ env s Q g hs R F P => isTrue_and_nil P.here
theorem Tr.and {zs : List Expr} {d d' : Bool} (h : Tr B n sc vs σ e d) (h1 : d = true → Tr B n sc vs σ (.BoolOp .And zs pos) d') (h2 : d = false → d' = false) :
    Tr B n sc vs σ (.BoolOp .And (e :: zs) pos) d' := fun A μ ρ env s Q g hs R F P => by
  refine isTrue_and (h A μ ρ env s _ g hs R F fun h₁ t₁ X₁ => ?_)
  cases hd : d with
  | true => simp only [if_true]; exact h1 hd A μ ρ env _ Q g hs (R.keeps X₁) (F.keeps R X₁) (P.step X₁)
  | false =>
    obtain rfl := h2 hd
    simp only [Bool.false_eq_true, if_false]
    exact (P.step X₁).here
theorem Tr.orNil : Tr B n sc vs σ (.BoolOp .Or [] pos) false := fun A μ ρ env s Q g hs R F P => isTrue_or_nil P.here
theorem Tr.or {zs : List Expr} {d d' : Bool} (h : Tr B n sc vs σ e d) (h1 : d = false → Tr B n sc vs σ (.BoolOp .Or zs pos) d') (h2 : d = true → d' = true) :
    Tr B n sc vs σ (.BoolOp .Or (e :: zs) pos) d' := fun A μ ρ env s Q g hs R F P => by
  refine isTrue_or (h A μ ρ env s _ g hs R F fun h₁ t₁ X₁ => ?_)
  cases hd : d with
  | false => simp only [Bool.false_eq_true, if_false]; exact h1 hd A μ ρ env _ Q g hs (R.keeps X₁) (F.keeps R X₁) (P.step X₁)
  | true =>
    obtain rfl := h2 hd
    simp only [if_true]
    exact (P.step X₁).here

-- truth of values
theorem Tv.bool {d : Bool} : Tv B n σ (.bool d) d := fun A μ ρ s x Q g R r P => by
  unfold RelV at r; subst r
  exact wpAny_truthy_bool P.here

/-- arguments -/
noncomputable def noStar : List Expr → Bool
  | [] => true
  | .Starred .. :: _ => false
  | _ :: r => noStar r
theorem Evs.run {es : List Expr} {ws : List Val} (h : Evs B n sc vs σ es ws) : ∀ {A : Around} {μ ρ : Addrs} {env : Env} {s : Shared} {Q : List Value → Shared → Prop}, Good n A → env.scope = sc → Rep B μ ρ σ s.heap → EnvOK μ ρ s.heap env vs →
    PostS μ ρ s ws Q → noStar es = true → wpAny (model B.prog B.w) A (spliced (backTo pos (starEach es env))) Q NoE s := by
  induction h with
  | nil =>
    intro A μ ρ env s Q g hs R F P _
    exact args_nil (P [] s.heap s.toks (Keeps.refl _) (by unfold RelVs; rfl))
  | @cons e es v ws h hh ih =>
    intro A μ ρ env s Q g hs R F P hst
    have he : starEach (e :: es) env = (false, eval e env) :: starEach es env := by
      cases e <;> first | rfl | cases hst
    have hst' : noStar es = true := by cases e <;> first | exact hst | cases hst
    refine args_cons (h A μ ρ env s _ g hs R F fun x h₁ t₁ X₁ r₁ => ?_) he
    refine ih g hs (R.keeps X₁) (F.keeps R X₁) (fun ys h₂ t₂ X₂ r₂ => ?_) hst'
    exact P _ h₂ t₂ (X₁.trans X₂) (by unfold RelVs; exact ⟨_, _, rfl, RelV.keeps X₂ r₁, r₂⟩)

theorem EvN.ev {xs : List Val} (h : EvN B n sc vs σ e xs) : Ev B n sc vs σ e (.list xs) := fun A μ ρ env s Q g hs R F P => by
  refine h A μ ρ env s Q g hs R F fun a ws h' tk hn k hl r => P _ h' tk k ?_
  have hm : a ∉ μ := fun m => by obtain ⟨o, e⟩ := R.held a m; rw [hn] at e; cases e
  have hr : a ∉ ρ := fun m => by obtain ⟨_, o, e, _⟩ := R.isSome m; rw [hn] at e; cases e
  unfold RelV
  exact ⟨a, ws, rfl, hm, hr, hl, RelVs.mu (fun b o _ n1 n2 => ⟨fun m => n1 (List.mem_cons_of_mem _ m), n2⟩) (fun _ _ e => e) r⟩

/-- a list display -/
theorem EvN.display {es : List Expr} {ws : List Val} (h : Evs B n sc vs σ es ws) (hst : noStar es = true := by rfl) (hz : es.length ≤ 1000 := by decide) : EvN B n sc vs σ (.List es pos) ws := fun A μ ρ env s Q g hs R F P => by
  refine List_ (h.run g hs R F (fun ys h₁ t₁ X₁ r₁ => ?_) hst)
  have hlen : ∀ {xs : List Val} {zs : List Value} {h : Heap}, RelVs μ ρ h xs zs → zs.length = xs.length := by
    intro xs
    induction xs with
    | nil => intro zs h q; unfold RelVs at q; subst q; rfl
    | cons x xs ih => intro zs h q; unfold RelVs at q; obtain ⟨v, r, rfl, _, q⟩ := q; simp [ih q]
  have hel : ∀ {es : List Expr} {ws : List Val}, Evs B n sc vs σ es ws → ws.length = es.length := by
    intro es ws h; induction h with
    | nil => rfl
    | cons _ _ ih => simp [ih]
  have hsz : ys.length ≤ sizeLine := by
    have h1 := hlen r₁
    have h2 := hel h
    rw [sizeLine_eq]; omega
  refine wpAny_newObj_type ?_ (by show ys.toArray.size ≤ sizeLine; rw [List.size_toArray]; exact hsz)
  have hn : h₁.get? h₁.objs.size = none := by
    cases q : h₁.get? h₁.objs.size with
    | none => rfl
    | some o => exact absurd (Heap.lt_size q) (Nat.lt_irrefl _)
  have q : ∀ a o, h₁.get? a = some o → a ∉ μ → a ∉ ρ → a ∉ h₁.objs.size :: μ ∧ a ∉ ρ := fun a o e n1 n2 => ⟨fun m => by
    rcases List.mem_cons.mp m with rfl | m
    · rw [hn] at e; cases e
    · exact n1 m, n2⟩
  refine P _ ys _ _ ?_ (X₁.trans (Keeps.push _)) ⟨_, Heap.get?_push_size _ rfl, _, rfl⟩ (RelVs.keeps (Keeps.push _) (RelVs.mu q (fun _ _ e => e) r₁))
  cases z : s.heap.get? h₁.objs.size with
  | none => rfl
  | some o => have := X₁ _ _ z; rw [hn] at this; cases this
end
end Mine
namespace Mine
open PySem PySem.Spec PySem.Calls PyProof.Rows PySem.W
section
variable {B : Wd} {n : Nat} {sc : Scope} {vs vs₁ vs₂ : List (Option Val)} {σ σ₁ σ₂ : Store} {v a b c : Val} {k : Nat} {pos : Pos} {e l r : Expr} {st : Stmt} {rest : List Stmt} {f : Fl}

theorem PostF.step {μ ρ ρ₁ : Addrs} {env : Env} {s : Shared} {Q : Flow → Shared → Prop} {h₁ : Heap} {tk : Nat} (P : PostF B μ ρ env s f vs σ Q) (X : ExtN (Own B env) ρ s.heap ρ₁ h₁) (R : Rep B μ ρ₁ σ₁ h₁) (w : ∀ b, Own B env b → b ∈ μ ∨ b ∈ B.tabs.map (·.1)) :
    PostF B μ ρ₁ env { s with heap := h₁, toks := tk } f vs σ Q := fun ρ' f' h' tk' X' R' F' r => P ρ' f' h' tk' (X.trans R w X') R' F' r

theorem Exs.nil : Exs B n sc vs σ [] .next vs σ := fun A μ ρ env s Q g hs R F P => wpAny_execs_nil (P ρ _ s.heap s.toks (ExtN.refl _ _ _) R F (by unfold RelF; rfl))
theorem Exs.cons (h : Ex B n sc vs σ st .next vs₁ σ₁) (h2 : Exs B n sc vs₁ σ₁ rest f vs₂ σ₂) : Exs B n sc vs σ (st :: rest) f vs₂ σ₂ := fun A μ ρ env s Q g hs R F P => by
  refine wpAny_execs_cons (h A μ ρ env s _ g hs R F fun ρ₁ f₁ h₁ t₁ X₁ R₁ F₁ r₁ => ?_)
  unfold RelF at r₁; subst r₁
  exact h2 A μ ρ₁ env _ Q g hs R₁ F₁ (P.step X₁ R₁ F₁.own)
theorem Exs.stop (h : Ex B n sc vs σ st f vs₁ σ₁) (hf : f ≠ .next) : Exs B n sc vs σ (st :: rest) f vs₁ σ₁ := fun A μ ρ env s Q g hs R F P => by
  refine wpAny_execs_cons (h A μ ρ env s _ g hs R F fun ρ₁ f₁ h₁ t₁ X₁ R₁ F₁ r₁ => ?_)
  have q := P ρ₁ f₁ h₁ t₁ X₁ R₁ F₁ r₁
  cases f with
  | next => exact absurd rfl hf
  | brk => unfold RelF at r₁; subst r₁; exact q
  | cont => unfold RelF at r₁; subst r₁; exact q
  | ret v => unfold RelF at r₁; obtain ⟨v', rfl, _⟩ := r₁; exact q
theorem Exs.one (h : Ex B n sc vs σ st f vs₁ σ₁) : Exs B n sc vs σ [st] f vs₁ σ₁ := by
  cases f with
  | next => exact Exs.cons h Exs.nil
  | brk => exact Exs.stop h (by intro q; cases q)
  | cont => exact Exs.stop h (by intro q; cases q)
  | ret v => exact Exs.stop h (by intro q; cases q)

-- names
theorem set_some {i j : Nat} {x : Option Val} : (vs.set i x)[j]? = if i = j ∧ j < vs.length then some x else vs[j]? := by
  rw [List.getElem?_set]
  by_cases h : i = j
  · subst h
    by_cases q : i < vs.length
    · simp [q]
    · simp [q]
  · simp [h]
theorem nodup_idx {names : List (Str × NameKind)} (hn : (names.map (·.1)).Nodup) {i j : Nat} {x : Str} {k k' : NameKind} (h1 : names[i]? = some (x, k)) (h2 : names[j]? = some (x, k')) : i = j := by
  have e1 : (names.map (·.1))[i]? = some x := by rw [List.getElem?_map, h1]; rfl
  have e2 : (names.map (·.1))[j]? = some x := by rw [List.getElem?_map, h2]; rfl
  obtain ⟨hi, e1⟩ := List.getElem?_eq_some_iff.mp e1
  obtain ⟨hj, e2⟩ := List.getElem?_eq_some_iff.mp e2
  have pw := List.pairwise_iff_getElem.mp hn
  rcases Nat.lt_trichotomy i j with q | q | q
  · exact absurd (e1.trans e2.symm) (pw i j hi hj q)
  · exact q
  · exact absurd (e2.trans e1.symm) (pw j i hj hi q)

theorem Rep.sameBut {μ ρ : Addrs} {h h' : Heap} (R : Rep B μ ρ σ h) {b : Addr} (hb : b ∈ μ) (hs : Heap.SameBut b h h') (hb' : ∃ o, h'.get? b = some o) : Rep B μ ρ σ h' := by
  have off : b ∉ ρ := fun q => R.apart b q hb
  have h0 := R.muAbove b hb
  have X : ExtN (fun x => x = b) ρ h ρ h' := ExtN.of_keeps fun c o hc e => (hs.2 c hc).trans e
  have w : Within (fun c => c = b) μ h := fun c e => .inl (e ▸ hb)
  refine ⟨R.tab.turn (fun c o n _ e => (hs.2 c (fun q => n (q ▸ hb))).trans e) fun _ _ _ n1 n2 => ⟨n1, n2⟩, fun c o e => ?_, R.above, R.len, R.nodup, R.apart, fun c m => ?_, R.muAbove, fun i c xs e1 e2 => ?_⟩
  · have : c ≠ b := by rintro rfl; rw [h0] at e; cases e
    exact (hs.2 c this).trans (R.base c o e)
  · by_cases q : c = b
    · subst q; exact hb'
    · obtain ⟨o, e⟩ := R.held c m; exact ⟨o, (hs.2 c q).trans e⟩
  · obtain ⟨ws, ⟨o, e, r⟩, r2⟩ := R.obj i c xs e1 e2
    have : c ≠ b := by rintro rfl; exact off (List.mem_of_getElem? e1)
    exact ⟨ws, ⟨o, (hs.2 c this).trans e, r⟩, RelVs.extN X w r2⟩

theorem EnvOK.store_local {μ ρ : Addrs} {h h' : Heap} {env : Env} {v' : Value} {m : Str → Option Value} (F : EnvOK μ ρ h env vs) (R : Rep B μ ρ σ h) {i : Nat} {x : Str} (hi : env.scope.names[i]? = some (x, .local))
    (hm : ∀ (i : Nat) (x : Str) (v : Val), env.scope.names[i]? = some (x, NameKind.local) → vs[i]? = some (some v) → ∃ v', m x = some v' ∧ RelV μ ρ h v v')
    (hn : h.Ns env.locals m) (hn' : h'.Ns env.locals (fun y => if y = x then some v' else m y)) (hs : Heap.SameBut env.locals h h') (r : RelV μ ρ h v v') : EnvOK μ ρ h' env (vs.set i (some v)) := by
  have X : ExtN (Own B env) ρ h ρ h' := ExtN.of_keeps fun b o n e => (hs.2 b fun q => n (.inl q)).trans e
  have X' : ExtN (fun x => x = env.locals) ρ h ρ h' := ExtN.of_keeps fun c o hc e => (hs.2 c hc).trans e
  have up : ∀ {y : Val} {w : Value}, RelV μ ρ h y w → RelV μ ρ h' y w := fun q => RelV.extN X' (fun b e => .inl (e ▸ F.locIn)) q
  refine ⟨F.kind, F.glob, F.blt, F.nodup, ⟨_, hn', fun j y w e1 e2 => ?_⟩, fun j y k e hk => ?_, F.apart, F.locIn, F.cellIn⟩
  · rw [set_some] at e2
    by_cases q : i = j ∧ j < vs.length
    · rw [if_pos q] at e2
      obtain ⟨rfl, _⟩ := q
      cases e2
      rw [hi] at e1; cases e1
      exact ⟨v', by simp, up r⟩
    · rw [if_neg q] at e2
      have hne : y ≠ x := by
        rintro rfl
        have : i = j := nodup_idx F.nodup hi e1
        subst this
        exact q ⟨rfl, (List.getElem?_eq_some_iff.mp e2).1⟩
      obtain ⟨w', a, b⟩ := hm j y w e1 e2
      exact ⟨w', by simp [hne, a], up b⟩
  · obtain ⟨c, v₀, e1, e2, e3⟩ := F.cell j y k e hk
    have hc : c ≠ env.locals := by
      rintro rfl
      obtain ⟨o, ho, hd⟩ := e2
      obtain ⟨o', es, ep, ho', hd', _⟩ := hn
      rw [ho] at ho'; cases ho'; rw [hd] at hd'; cases hd'
    refine ⟨c, v₀, e1, e2.sameBut hs hc, fun w e4 => ?_⟩
    rw [set_some] at e4
    have hij : ¬ (i = j ∧ j < vs.length) := by
      rintro ⟨rfl, _⟩
      rw [hi] at e; cases e
      rcases hk with hk | hk <;> cases hk
    rw [if_neg hij] at e4
    obtain ⟨w', a, b⟩ := e3 w e4
    exact ⟨w', a, up b⟩

theorem EnvOK.store_cell {μ ρ : Addrs} {h h' : Heap} {env : Env} {v' : Value} {c : Addr} (F : EnvOK μ ρ h env vs) {i : Nat} {x : Str} (hi : env.scope.names[i]? = some (x, .cell)) (hc : env.cells.lookup x = some c)
    {v₀ : Option Value} (hold : h.IsCell c v₀) (hcell : h'.IsCell c (some v')) (hs : Heap.SameBut c h h') (r : RelV μ ρ h v v') : EnvOK μ ρ h' env (vs.set i (some v)) := by
  have X' : ExtN (fun x => x = c) ρ h ρ h' := ExtN.of_keeps fun c o hc e => (hs.2 c hc).trans e
  have up : ∀ {y : Val} {w : Value}, RelV μ ρ h y w → RelV μ ρ h' y w := fun q => RelV.extN X' (fun b e => .inl (e ▸ F.cellIn x c hc (F.kindOf hi))) q
  refine ⟨F.kind, F.glob, F.blt, F.nodup, ?_, fun j y k e hk => ?_, F.apart, F.locIn, F.cellIn⟩
  · obtain ⟨m, hn, hm⟩ := F.ns
    have hl : env.locals ≠ c := by
      rintro rfl
      obtain ⟨o, ho, hd⟩ := hold
      obtain ⟨o', es, ep, ho', hd', _⟩ := hn
      rw [ho] at ho'; cases ho'; rw [hd] at hd'; cases hd'
    refine ⟨m, hn.sameBut hs hl, fun j y w e1 e2 => ?_⟩
    rw [set_some] at e2
    have hij : ¬ (i = j ∧ j < vs.length) := by
      rintro ⟨rfl, _⟩
      rw [hi] at e1; cases e1
    rw [if_neg hij] at e2
    obtain ⟨w', a, b⟩ := hm j y w e1 e2
    exact ⟨w', a, up b⟩
  · obtain ⟨c', v₁, e1, e2, e3⟩ := F.cell j y k e hk
    by_cases q : i = j
    · subst q
      rw [hi] at e; cases e
      rw [hc] at e1; cases e1
      refine ⟨c, some v', hc, hcell, fun w e4 => ?_⟩
      rw [set_some] at e4
      by_cases z : i < vs.length
      · rw [if_pos ⟨rfl, z⟩] at e4; cases e4; exact ⟨v', rfl, up r⟩
      · rw [if_neg (fun y => z y.2)] at e4
        exact absurd (List.getElem?_eq_some_iff.mp e4).1 z
    · have hne : c' ≠ c := by
        rintro rfl
        obtain rfl := F.apart x y c' hc e1
        exact q (nodup_idx F.nodup hi e)
      refine ⟨c', v₁, e1, e2.sameBut hs hne, fun w e4 => ?_⟩
      rw [set_some, if_neg (fun y => q y.1)] at e4
      obtain ⟨w', a, b⟩ := e3 w e4
      exact ⟨w', a, up b⟩

/-- a store into a name of the frame -/
theorem store_name {A : Around} {μ ρ : Addrs} {env : Env} {s : Shared} {Q : Unit → Shared → Prop} {x : Str} {i : Nat} {v' : Value} {kd : NameKind} (hi : env.scope.names[i]? = some (x, kd)) (hk : kd = .local ∨ kd = .cell) (R : Rep B μ ρ σ s.heap) (F : EnvOK μ ρ s.heap env vs)
    (r : RelV μ ρ s.heap v v')
    (P : ∀ h' tk, ExtN (Own B env) ρ s.heap ρ h' → Rep B μ ρ σ h' → EnvOK μ ρ h' env (vs.set i (some v)) → Q () { s with heap := h', toks := tk }) :
    wpAny (model B.prog B.w) A (storeName env x v') Q NoE s := by
  rcases hk with rfl | rfl
  · obtain ⟨m, hn, hm⟩ := F.ns
    refine wpAny_storeName_local (F.kindOf hi) hn (fun h' hn' hs => ?_) (by rw [F.kind]; rfl)
    refine P h' _ (ExtN.of_keeps fun b o n e => (hs.2 b fun q => n (.inl q)).trans e) (R.sameBut F.locIn hs ?_) (F.store_local R hi hm hn hn' hs r)
    obtain ⟨o, _, _, ho, _⟩ := hn'
    exact ⟨o, ho⟩
  · obtain ⟨c, v₀, e1, e2, _⟩ := F.cell i x _ hi (.inl rfl)
    refine wpAny_storeName_cell F.kind (F.kindOf hi) e1 e2 fun h' hc hs => ?_
    refine P h' s.toks (ExtN.of_keeps fun b o n e => (hs.2 b fun q => n (.inr (.inl ⟨x, q ▸ e1, F.kindOf hi⟩))).trans e) (R.sameBut (F.cellIn x c e1 (F.kindOf hi)) hs ?_) (F.store_cell hi e1 e2 hc hs r)
    obtain ⟨o, ho, _⟩ := hc
    exact ⟨o, ho⟩

theorem load_name {A : Around} {μ ρ : Addrs} {env : Env} {s : Shared} {Q : Value → Shared → Prop} {x : Str} {i : Nat} {kd : NameKind} (hi : env.scope.names[i]? = some (x, kd)) (hk : kd = .local ∨ kd = .cell) (hv : vs[i]? = some (some v)) (F : EnvOK μ ρ s.heap env vs)
    (P : ∀ v', RelV μ ρ s.heap v v' → Q v' s) : wpAny (model B.prog B.w) A (loadName env x) Q NoE s := by
  rcases hk with rfl | rfl
  · obtain ⟨m, hn, hm⟩ := F.ns
    obtain ⟨v', e, r⟩ := hm i x v hi hv
    exact wpAny_loadName_local F.kind (F.kindOf hi) hn e (P v' r)
  · obtain ⟨c, v₀, e1, e2, e3⟩ := F.cell i x _ hi (.inl rfl)
    obtain ⟨v', rfl, r⟩ := e3 v hv
    exact wpAny_loadName_cell F.kind (F.kindOf hi) e1 e2 (P v' r)

theorem Keeps.own {μ ρ : Addrs} {env : Env} {h h' : Heap} (k : Keeps h h') : ExtN (Own B env) ρ h ρ h' := ExtN.of_keeps fun b o _ e => k b o e
theorem PostF.here {μ ρ : Addrs} {env : Env} {s : Shared} {Q : Flow → Shared → Prop} {f' : Flow} (P : PostF B μ ρ env s f vs σ Q) (R : Rep B μ ρ σ s.heap) (F : EnvOK μ ρ s.heap env vs) (r : RelF μ ρ s.heap f f') : Q f' s :=
  P ρ f' s.heap s.toks (ExtN.refl _ _ _) R F r
theorem PostF.keeps {μ ρ : Addrs} {env : Env} {s : Shared} {Q : Flow → Shared → Prop} {h₁ : Heap} {tk : Nat} (P : PostF B μ ρ env s f vs σ Q) (k : Keeps s.heap h₁) (R : Rep B μ ρ σ₁ h₁) (w : ∀ b, Own B env b → b ∈ μ ∨ b ∈ B.tabs.map (·.1)) :
    PostF B μ ρ env { s with heap := h₁, toks := tk } f vs σ Q := P.step (Keeps.own (μ := μ) k) R w

/-- x = e -/
theorem Ex.assign {x : Str} {p : Pos} {kd : NameKind} (i : Nat) (hi : sc.names[i]? = some (x, kd)) (hk : kd = .local ∨ kd = .cell) (h : Ev B n sc vs σ e v) (hsw : ∀ env, swapsWith e (some (.Name x p)) pos.line env = pure false := by intro _; rfl) :
    Ex B n sc vs σ (.Assign [.Name x p] e pos) .next (vs.set i (some v)) σ := fun A μ ρ env s Q g hs R F P => by
  refine wpAny_Assign_Name (h A μ ρ env s _ g hs R F fun v' h₁ t₁ X₁ r₁ => ?_) (hsw env)
  subst hs
  refine store_name hi hk (R.keeps X₁) (F.keeps R X₁) r₁ fun h₂ t₂ X₂ R₂ F₂ => ?_
  exact ((P.keeps X₁ (R.keeps X₁) F.own).step X₂ R₂ F.own).here R₂ F₂ (by unfold RelF; rfl)
theorem Rep.grow {μ ρ : Addrs} {h h' : Heap} {a : Addr} {xs : List Val} {ws : List Value} (R : Rep B μ ρ σ h) (hn₀ : h.get? a = none) (k₁ : Keeps h h') (hl : LS h' a (List.toArray ws)) (r : RelVs (a :: μ) ρ h' xs ws) :
    Ext ρ h (ρ ++ [a]) h' ∧ Rep B μ (ρ ++ [a]) (σ ++ [xs]) h' := by
  have R' := R.keeps k₁
  have hm : a ∉ μ := fun m => by obtain ⟨o, e⟩ := R.held a m; rw [hn₀] at e; cases e
  have hr : a ∉ ρ := fun m => by obtain ⟨_, o, e, _⟩ := R.isSome m; rw [hn₀] at e; cases e
  have X : Ext ρ h (ρ ++ [a]) h' := ⟨⟨[a], rfl, fun b m => by rw [List.mem_singleton.mp m]; exact hn₀⟩, fun b o _ _ e => k₁ _ _ e⟩
  have avoid : ∀ b o, h.get? b = some o → b ∉ μ → b ∉ ρ → b ∉ μ ∧ b ∉ ρ ++ [a] := fun b o e n1 n2 => ⟨n1, fun m => by
    rcases List.mem_append.mp m with m | m
    · exact n2 m
    · rw [List.mem_singleton.mp m, hn₀] at e; cases e⟩
  refine ⟨X, R.tab.turn (fun b o _ _ e => k₁ b o e) avoid, R'.base, fun b m => ?_, by simp [R.len], ?_, fun b m => ?_, R'.held, R'.muAbove, fun i b ys e1 e2 => ?_⟩
  · rcases List.mem_append.mp m with m | m
    · exact R.above b m
    · rw [List.mem_singleton.mp m]
      cases q : B.h₀.get? a with
      | none => rfl
      | some o => have := R.base _ _ q; rw [hn₀] at this; cases this
  · rw [List.nodup_append]
    exact ⟨R.nodup, by simp, fun x hx y hy => by rw [List.mem_singleton.mp hy]; rintro rfl; exact hr hx⟩
  · rcases List.mem_append.mp m with m | m
    · exact R.apart b m
    · rw [List.mem_singleton.mp m]; exact hm
  · by_cases hi : i < ρ.length
    · rw [List.getElem?_append_left hi] at e1
      rw [List.getElem?_append_left (R.len ▸ hi)] at e2
      obtain ⟨us, ⟨o, e, q⟩, q2⟩ := R.obj i b ys e1 e2
      exact ⟨us, ⟨o, k₁ _ _ e, q⟩, RelVs.ext X q2⟩
    · have hi' := Nat.not_lt.mp hi
      rw [List.getElem?_append_right hi'] at e1
      rw [List.getElem?_append_right (R.len ▸ hi')] at e2
      have : i - ρ.length = 0 := by
        have := (List.getElem?_eq_some_iff.mp e1).1
        simp only [List.length_singleton] at this
        omega
      rw [this] at e1
      rw [R.len] at this
      rw [this] at e2
      cases e1; cases e2
      refine ⟨ws, hl, RelVs.mu (fun b o _ n1 n2 => ⟨fun m => n1 (List.mem_cons_of_mem _ m), fun m => ?_⟩) (fun i b e => ?_) r⟩
      · rcases List.mem_append.mp m with m | m
        · exact n2 m
        · exact n1 (by rw [List.mem_singleton.mp m]; exact List.mem_cons_self)
      · rw [List.getElem?_append_left (List.getElem?_eq_some_iff.mp e).1]; exact e
/-- x = [..]: a list of the frame's own -/
theorem Ex.assignN {x : Str} {p : Pos} {kd : NameKind} {xs : List Val} (i : Nat) (hi : sc.names[i]? = some (x, kd)) (hk : kd = .local ∨ kd = .cell) (h : EvN B n sc vs σ e xs) (hsw : ∀ env, swapsWith e (some (.Name x p)) pos.line env = pure false := by intro _; rfl) :
    Ex B n sc vs σ (.Assign [.Name x p] e pos) .next (vs.set i (some (.ref σ.length))) (σ ++ [xs]) := fun A μ ρ env s Q g hs R F P => by
  refine wpAny_Assign_Name (h A μ ρ env s _ g hs R F fun a ws h₂ t₂ hn k hl r => ?_) (hsw env)
  subst hs
  obtain ⟨X, R₂⟩ := R.grow hn k hl r
  refine store_name hi hk R₂ (F.ext R X) (v := .ref σ.length) ?_ fun h₃ t₃ X₃ R₃ F₃ => ?_
  · unfold RelV
    refine ⟨a, ?_, rfl⟩
    rw [← R.len, List.getElem?_append_right (Nat.le_refl _)]
    simp
  · exact ((P.step X.any R₂ F.own).step X₃ R₃ F.own).here R₃ F₃ (by unfold RelF; rfl)
/-- x op= e -/
theorem Ex.aug {x : Str} {p : Pos} {op : Operator} {kd : NameKind} (i : Nat) (hi : sc.names[i]? = some (x, kd)) (hk : kd = .local ∨ kd = .cell) (hv : vs[i]? = some (some a)) (h : Ev B n sc vs σ e b) (ho : Op2 B n σ a b (inplaceOp op) v) :
    Ex B n sc vs σ (.AugAssign (.Name x p) op e pos) .next (vs.set i (some v)) σ := fun A μ ρ env s Q g hs R F P => by
  have hi' : env.scope.names[i]? = some (x, kd) := by rw [hs]; exact hi
  refine wpAny_AugAssign_Name (load_name hi' hk hv F fun v₀ r₀ => ?_)
  refine h A μ ρ env s _ g hs R F fun v₁ h₁ t₁ X₁ r₁ => ?_
  refine ho A μ ρ _ _ _ _ g (R.keeps X₁) (RelV.keeps X₁ r₀) r₁ fun v₂ h₂ t₂ X₂ r₂ => ?_
  refine store_name hi' hk ((R.keeps X₁).keeps X₂) ((F.keeps R X₁).keeps (R.keeps X₁) X₂) r₂ fun h₃ t₃ X₃ R₃ F₃ => ?_
  exact (((P.keeps X₁ (R.keeps X₁) F.own).keeps X₂ ((R.keeps X₁).keeps X₂) F.own).step X₃ R₃ F.own).here R₃ F₃ (by unfold RelF; rfl)
theorem Ex.ret (h : Ev B n sc vs σ e v) : Ex B n sc vs σ (.Return (some e) pos) (.ret v) vs σ := fun A μ ρ env s Q g hs R F P => by
  refine wpAny_Return_some (h A μ ρ env s _ g hs R F fun v' h₁ t₁ X₁ r₁ => ?_)
  exact (P.keeps X₁ (R.keeps X₁) F.own).here (R.keeps X₁) (F.keeps R X₁) (by unfold RelF; exact ⟨v', rfl, r₁⟩)
theorem Ex.retNone : Ex B n sc vs σ (.Return none pos) (.ret .none) vs σ := fun A μ ρ env s Q g hs R F P => wpAny_Return_none (P.here R F (by unfold RelF; exact ⟨_, rfl, by unfold RelV; rfl⟩))
theorem Ex.brk : Ex B n sc vs σ (.Break pos) .brk vs σ := fun A μ ρ env s Q g hs R F P => by
  show wpAny _ A (do standAt pos; pure .brk) Q NoE s
  exact wpAny_bind (wpAny_standAt (wpAny_pure (P.here R F (by unfold RelF; rfl))))
theorem Ex.ite {t : Expr} {xs ys : List Stmt} {d : Bool} (ht : Tr B n sc vs σ t d) (h1 : d = true → Exs B n sc vs σ xs f vs₁ σ₁) (h2 : d = false → Exs B n sc vs σ ys f vs₁ σ₁) : Ex B n sc vs σ (.If t xs ys pos) f vs₁ σ₁ := fun A μ ρ env s Q g hs R F P => by
  refine wpAny_If (ht A μ ρ env s _ g hs R F fun h₁ t₁ X₁ => ?_)
  have P' := P.keeps (tk := t₁) X₁ (R.keeps X₁) F.own
  cases hd : d with
  | true => simp only [if_true]; exact h1 hd A μ ρ env _ Q g hs (R.keeps X₁) (F.keeps R X₁) P'
  | false => simp only [Bool.false_eq_true, if_false]; exact h2 hd A μ ρ env _ Q g hs (R.keeps X₁) (F.keeps R X₁) P'
noncomputable def Val.plain : Val → Bool
  | .none => true
  | .bool _ => true
  | .int _ => true
  | .str _ => true
  | _ => false
end
end Mine
namespace Mine
open PySem PySem.Spec PySem.Calls PyProof.Rows PySem.W
section
variable {B : Wd} {n : Nat} {sc : Scope} {vs vs₁ vs₂ : List (Option Val)} {σ σ₁ σ₂ : Store} {v a b c : Val} {k : Nat} {pos : Pos} {e l r : Expr} {st : Stmt} {rest : List Stmt} {f : Fl}

mutual
noncomputable def noRef : Val → Bool
  | .ref _ => false
  | .list xs => noRefs xs
  | .tup xs => noRefs xs
  | .hdr _ v => noRef v
  | _ => true
noncomputable def noRefs : List Val → Bool
  | [] => true
  | x :: xs => noRef x && noRefs xs
end
mutual
theorem RelV.noref {μ ν ρ ρ' : Addrs} {h : Heap} (q : ∀ a o, h.get? a = some o → a ∉ μ → a ∉ ρ → a ∉ ν ∧ a ∉ ρ') : ∀ {x : Val} {v : Value}, noRef x = true → RelV μ ρ h x v → RelV ν ρ' h x v
  | .none, _, _, r => by simpa only [RelV] using r
  | .bool _, _, _, r => by simpa only [RelV] using r
  | .int _, _, _, r => by simpa only [RelV] using r
  | .str _, _, _, r => by simpa only [RelV] using r
  | .list xs, v, n, r => by
    unfold RelV at r ⊢
    obtain ⟨a, vs, rfl, h1, h2, ⟨o, e, r1⟩, r2⟩ := r
    exact ⟨a, vs, rfl, (q a o e h1 h2).1, (q a o e h1 h2).2, ⟨o, e, r1⟩, RelVs.noref q (by simpa only [noRef] using n) r2⟩
  | .tup xs, v, n, r => by
    unfold RelV at r ⊢
    obtain ⟨a, vs, rfl, h1, h2, ⟨o, e, r1⟩, r2⟩ := r
    exact ⟨a, vs, rfl, (q a o e h1 h2).1, (q a o e h1 h2).2, ⟨o, e, r1⟩, RelVs.noref q (by simpa only [noRef] using n) r2⟩
  | .ref i, v, n, r => by simp only [noRef] at n; cases n
  | .hdr C x, v, n, r => by
    unfold RelV at r ⊢
    obtain ⟨a, dx, v', rfl, h1, h2, h3, h4, I, r⟩ := r
    have I' := I
    obtain ⟨e1, hs, t, n', e2⟩ := I'
    exact ⟨a, dx, v', rfl, (q _ _ e1 h1 h2).1, (q _ _ e1 h1 h2).2, (q _ _ e2 h3 h4).1, (q _ _ e2 h3 h4).2, I, RelV.noref q (by simpa only [noRef] using n) r⟩
  | .glob _, _, _, r => by simpa only [RelV] using r
  | .obj a o, v, n, r => by
    unfold RelV at r ⊢
    obtain ⟨rfl, h1, h2, e, hc, cd⟩ := r
    exact ⟨rfl, (q _ _ e h1 h2).1, (q _ _ e h1 h2).2, e, hc, fun fd hf => (cd fd hf).mu q⟩
theorem RelVs.noref {μ ν ρ ρ' : Addrs} {h : Heap} (q : ∀ a o, h.get? a = some o → a ∉ μ → a ∉ ρ → a ∉ ν ∧ a ∉ ρ') : ∀ {x : List Val} {v : List Value}, noRefs x = true → RelVs μ ρ h x v → RelVs ν ρ' h x v
  | [], _, _, r => by simpa only [RelVs] using r
  | x :: xs, vs, n, r => by
    unfold RelVs at r ⊢
    obtain ⟨v, rr, rfl, r1, r2⟩ := r
    simp only [noRefs, Bool.and_eq_true] at n
    exact ⟨v, rr, rfl, RelV.noref q n.1 r1, RelVs.noref q n.2 r2⟩
end

/-- what a frame hands back of a value: its own lists are its own no more -/
inductive Out (σ : Store) : Val → Val → Prop
  | same {v : Val} : noRef v = true → Out σ v v
  | list {i : Nat} {xs : List Val} : σ[i]? = some xs → noRefs xs = true → Out σ (.ref i) (.list xs)
theorem Out.rel {μ μ' ρ ρ' : Addrs} {h : Heap} {v w : Val} {x : Value} (O : Out σ v w) (R : Rep B μ' ρ' σ h) (w' : ∀ a, a ∈ μ ∨ a ∈ ρ → a ∈ μ') (r : RelV μ' ρ' h v x) : RelV μ ρ h w x := by
  have q : ∀ a o, h.get? a = some o → a ∉ μ' → a ∉ ρ' → a ∉ μ ∧ a ∉ ρ := fun a o _ n _ => ⟨fun m => n (w' a (.inl m)), fun m => n (w' a (.inr m))⟩
  cases O with
  | same hn => exact RelV.noref q hn r
  | @list i xs hi hn =>
    unfold RelV at r
    obtain ⟨a, ha, rfl⟩ := r
    obtain ⟨ws, hl, r⟩ := R.obj i a xs ha hi
    have m : a ∈ ρ' := List.mem_of_getElem? ha
    unfold RelV
    exact ⟨a, ws, rfl, fun z => R.apart a m (w' a (.inl z)), fun z => R.apart a m (w' a (.inr z)), hl, RelVs.noref q hn r⟩

theorem RelVs.length {μ ρ : Addrs} {h : Heap} : ∀ {xs : List Val} {zs : List Value}, RelVs μ ρ h xs zs → zs.length = xs.length
  | [], zs, q => by unfold RelVs at q; subst q; rfl
  | x :: xs, zs, q => by unfold RelVs at q; obtain ⟨v, r, rfl, _, q⟩ := q; simp [RelVs.length q]
theorem RelVs.at {μ ρ : Addrs} {h : Heap} : ∀ {xs : List Val} {zs : List Value} {i : Nat} {x : Val}, RelVs μ ρ h xs zs → xs[i]? = some x → ∃ z, zs[i]? = some z ∧ RelV μ ρ h x z
  | y :: xs, zs, 0, x, q, e => by unfold RelVs at q; obtain ⟨v, r, rfl, q1, q⟩ := q; simp only [List.getElem?_cons_zero, Option.some.injEq] at e; subst e; exact ⟨v, rfl, q1⟩
  | y :: xs, zs, i + 1, x, q, e => by unfold RelVs at q; obtain ⟨v, r, rfl, q1, q⟩ := q; simp only [List.getElem?_cons_succ] at e ⊢; exact RelVs.at q e
theorem RelVs.append {μ ρ : Addrs} {h : Heap} : ∀ {xs ys : List Val} {zs ws : List Value}, RelVs μ ρ h xs zs → RelVs μ ρ h ys ws → RelVs μ ρ h (xs ++ ys) (zs ++ ws)
  | [], ys, zs, ws, q, q' => by unfold RelVs at q; subst q; exact q'
  | x :: xs, ys, zs, ws, q, q' => by
    unfold RelVs at q
    obtain ⟨v, r, rfl, q1, q⟩ := q
    show RelVs μ ρ h (x :: (xs ++ ys)) (v :: (r ++ ws))
    unfold RelVs
    exact ⟨v, _, rfl, q1, RelVs.append q q'⟩

theorem bindL_at {kindOf : Str → Option NameKind} : ∀ {binds : List (Str × Value)} {m : Str → Option Value} {x : Str}, x ∉ binds.map (·.1) → bindL kindOf binds m x = m x
  | [], _, _, _ => rfl
  | (y, v) :: r, m, x, h => by
    simp only [List.map_cons, List.mem_cons, not_or] at h
    unfold bindL
    rw [bindL_at h.2]
    split
    · simp [h.1]
    · rfl
theorem bindL_mem {kindOf : Str → Option NameKind} : ∀ {binds : List (Str × Value)} {m : Str → Option Value} {i : Nat} {x : Str} {v : Value}, (binds.map (·.1)).Nodup → binds[i]? = some (x, v) → kindOf x = some .local → bindL kindOf binds m x = some v
  | (y, w) :: r, m, 0, x, v, hn, e, hk => by
    simp only [List.getElem?_cons_zero, Option.some.injEq, Prod.mk.injEq] at e
    obtain ⟨rfl, rfl⟩ := e
    rw [List.map_cons, List.nodup_cons] at hn
    unfold bindL
    rw [bindL_at hn.1, if_pos hk]
    simp
  | (y, w) :: r, m, i + 1, x, v, hn, e, hk => by
    simp only [List.getElem?_cons_succ] at e
    rw [List.map_cons, List.nodup_cons] at hn
    unfold bindL
    exact bindL_mem hn.2 e hk
theorem bindC_at {kindOf : Str → Option NameKind} : ∀ {binds : List (Str × Value)} {m : Str → Option Value} {x : Str}, x ∉ binds.map (·.1) → bindC kindOf binds m x = m x
  | [], _, _, _ => rfl
  | (y, v) :: r, m, x, h => by
    simp only [List.map_cons, List.mem_cons, not_or] at h
    unfold bindC
    rw [bindC_at h.2]
    split
    · rfl
    · simp [h.1]
theorem bindC_mem {kindOf : Str → Option NameKind} : ∀ {binds : List (Str × Value)} {m : Str → Option Value} {i : Nat} {x : Str} {v : Value}, (binds.map (·.1)).Nodup → binds[i]? = some (x, v) → kindOf x ≠ some .local → bindC kindOf binds m x = some v
  | (y, w) :: r, m, 0, x, v, hn, e, hk => by
    simp only [List.getElem?_cons_zero, Option.some.injEq, Prod.mk.injEq] at e
    obtain ⟨rfl, rfl⟩ := e
    rw [List.map_cons, List.nodup_cons] at hn
    unfold bindC
    rw [bindC_at hn.1, if_neg hk]
    simp
  | (y, w) :: r, m, i + 1, x, v, hn, e, hk => by
    simp only [List.getElem?_cons_succ] at e
    rw [List.map_cons, List.nodup_cons] at hn
    unfold bindC
    exact bindC_mem hn.2 e hk

theorem cellsFrom_iff : ∀ (names : List (Str × NameKind)) (n : Nat) (acc : List (Str × Addr)) (x : Str), ((cellsFrom n names acc).map (·.1)).contains x = ((names.any fun y => y.1 == x && y.2 == .cell) || (acc.map (·.1)).contains x)
  | [], n, acc, x => by simp [cellsFrom]
  | (y, k) :: r, n, acc, x => by
    unfold cellsFrom
    split
    · rename_i h
      rw [cellsFrom_iff r (n + 1) _ x]
      simp only [List.map_cons, List.contains_cons, List.any_cons, h, Bool.and_true]
      cases (r.any fun y => y.1 == x && y.2 == NameKind.cell) <;> cases h1 : y == x <;> cases h2 : x == y <;> simp_all
    · rename_i h
      have h' : (k == NameKind.cell) = false := by simpa using h
      rw [cellsFrom_iff r n acc x]
      simp [List.any_cons, h']
theorem lookup_of_contains : ∀ {l : List (Str × Addr)} {x : Str}, (l.map (·.1)).contains x = true → ∃ c, l.lookup x = some c
  | [], x, h => by simp at h
  | (y, c) :: r, x, h => by
    rw [List.lookup_cons]
    cases q : x == y with
    | true => exact ⟨c, rfl⟩
    | false =>
      simp only [List.map_cons, List.contains_cons, q, Bool.false_or] at h
      exact lookup_of_contains h

theorem cellsFrom_nodup : ∀ (names : List (Str × NameKind)) (n : Nat) (acc : List (Str × Addr)), (names.map (·.1)).Nodup → (acc.map (·.1)).Nodup → (∀ x ∈ acc.map (·.1), x ∉ names.map (·.1)) → ((cellsFrom n names acc).map (·.1)).Nodup
  | [], n, acc, _, h, _ => h
  | (y, k) :: r, n, acc, h1, h2, h3 => by
    rw [List.map_cons, List.nodup_cons] at h1
    unfold cellsFrom
    split
    · refine cellsFrom_nodup r _ _ h1.2 ?_ ?_
      · rw [List.map_cons, List.nodup_cons]
        exact ⟨fun m => h3 y m (by simp), h2⟩
      · intro x hx m
        rw [List.map_cons] at hx
        rcases List.mem_cons.mp hx with rfl | hx
        · exact h1.1 m
        · exact h3 x hx (by rw [List.map_cons]; exact List.mem_cons_of_mem _ m)
    · exact cellsFrom_nodup r _ _ h1.2 h2 fun x hx m => h3 x hx (by rw [List.map_cons]; exact List.mem_cons_of_mem _ m)

noncomputable def parNames (p : Arguments) : List Str := p.args.map (·.arg)
/-- the names' values at a call -/
noncomputable def atCall (names : List (Str × NameKind)) (args : List Val) : List (Option Val) := args.map some ++ List.replicate (names.length - args.length) none
structure FnOK (K : Frag) (f : Addr) (params : Arguments) (body : List Stmt) (scope : Scope) (dV kV : Value) : Prop where
  ex : ∃ name qual doc pm an cdv ct oc od osl, K.lookup f = some ⟨oc, od, .func (fnOf name qual params body scope dV kV doc pm an cdv ct), osl⟩ ∧ codeIn K cdv qual = true
  co : scope.isCoroutine = false
  gen : scope.isGenerator = false
  kind : scope.kind = .function
  nodup : (scope.names.map (·.1)).Nodup
  nofree : ∀ x ∈ scope.names, x.2 ≠ .free

/-- a call of a def of the text's own, by position or with keywords; binds: its parameters in the order of the names -/
theorem call_def {fa : Addr} {params : Arguments} {body : List Stmt} {scope : Scope} {dV kV : Value} {ps : List Str} {args : List Val} {v₁ v₂ : Val} {f : Fl} {vs' : List (Option Val)} {σ' : Store}
    {A : Around} {μ ρ : Addrs} {s : Shared} {pa : Args} {xs : List Value} {Q : Value → Shared → Prop}
    (hB : B.grows = false) (W : FnOK B.K fa params body scope dV kV)
    (hp : ∀ fd : FuncData, fd.params = params → fd.defaults = dV → fd.kwdefaults = kV → BindsTo s fd pa (ps.zip xs)) (hps : ps = (scope.names.take ps.length).map (·.1)) (hlen : args.length = ps.length)
    (hkind : ∀ y ∈ scope.names.take ps.length, y.2 = .local ∨ y.2 = .cell)
    (hb : Exs B n scope (atCall scope.names args) [] body f vs' σ') (hf : (f = .ret v₁) ∨ (f = .next ∧ v₁ = .none)) (ho : Out σ' v₁ v₂)
    (g : Good (n + 1) A) (R : Rep B μ ρ σ s.heap) (na : noRefs args = true) (r : RelVs μ ρ s.heap args xs) (P : Post μ ρ s v₂ Q) :
    wpAny (model B.prog B.w) A (runValue (.call (.ref fa) pa)) Q NoE s := by
  obtain ⟨name, qual, doc, pm, an, cdv, ct, oc, od, osl, hK, hcode⟩ := W.ex
  have hxl : xs.length = ps.length := (RelVs.length r).trans hlen
  refine wpAny_runValue ?_
  refine codeAny_call_function (fd := fnOf name qual params body scope dV kV doc pm an cdv ct) (body := body) (by have := g.depth; omega) (R.inK _ _ hK) rfl W.co W.gen rfl (codeRec_of R.inK hcode) ?_
  refine hp _ rfl rfl rfl _ _ _ _ ?_
  have hkn : ∀ x ∈ ps.zip xs, scope.names.lookup x.1 = some .local ∨ (scope.names.lookup x.1 = some .cell ∧ ((cellsFrom (s.heap.objs.size + 1) scope.names []).lookup x.1).isSome = true) := by
    intro x hx
    have hx1 : x.1 ∈ ps := (List.of_mem_zip hx).1
    rw [hps] at hx1
    obtain ⟨y, hy, hxy⟩ := List.mem_map.mp hx1
    obtain ⟨j, hj⟩ := List.getElem?_of_mem (List.mem_of_mem_take hy)
    have hl : scope.names.lookup x.1 = some y.2 := by rw [← hxy]; exact lookup_of_nodup W.nodup hj
    rcases hkind y hy with hk | hk
    · exact .inl (hl.trans (by rw [hk]))
    · refine .inr ⟨hl.trans (by rw [hk]), ?_⟩
      have : ((cellsFrom (s.heap.objs.size + 1) scope.names []).map (·.1)).contains x.1 = true := by
        rw [cellsFrom_iff]
        simp only [Bool.or_eq_true, List.any_eq_true, Bool.and_eq_true, beq_iff_eq]
        exact .inl ⟨y, List.mem_of_mem_take hy, hxy, hk⟩
      obtain ⟨c, hc⟩ := lookup_of_contains this
      rw [hc]; rfl
  refine wpAny_newFunctionEnv_cells W.kind hkn fun env' he s' x => ?_
  subst he
  have lim : s.heap.NoLimit := B.T.nolimit.keeps R.base
  refine ⟨lim.keeps x.toInCall.keep, codeAny_func ?_⟩
  obtain ⟨h₁, tk, rfl, _⟩ := x.done
  have hk₁ : Keeps s.heap h₁ := x.toInCall.keep
  -- the frame's places
  let cs := cellsFrom (s.heap.objs.size + 1) scope.names []
  have hd : (cs.map (·.1)).Nodup := cellsFrom_nodup _ _ _ W.nodup (by simp) (by simp)
  let μ' : Addrs := s.heap.objs.size :: (cs.map (·.2) ++ (μ ++ ρ))
  have hL : s.heap.get? s.heap.objs.size = none := by
    cases q : s.heap.get? s.heap.objs.size with
    | none => rfl
    | some o => exact absurd (Heap.lt_size q) (Nat.lt_irrefl _)
  have hC : ∀ c ∈ cs.map (·.2), s.heap.get? c = none := fun c hc => by
    obtain ⟨⟨y, c'⟩, hm, rfl⟩ := List.mem_map.mp hc
    have := x.above y c' hm
    cases q : s.heap.get? c' with
    | none => rfl
    | some o =>
      have h1 := Heap.lt_size q
      have h2 : s.heap.objs.size < c' := this
      exact absurd (Nat.lt_trans h1 h2) (Nat.lt_irrefl _)
  have avoid : ∀ a o, s.heap.get? a = some o → a ∉ μ → a ∉ ρ → a ∉ μ' ∧ a ∉ ([] : Addrs) := fun a o e n1 n2 => ⟨fun m => by
    rcases List.mem_cons.mp m with rfl | m
    · rw [hL] at e; cases e
    · rcases List.mem_append.mp m with m | m
      · rw [hC a m] at e; cases e
      · rcases List.mem_append.mp m with m | m
        · exact n1 m
        · exact n2 m, by simp⟩
  have rargs : RelVs μ' [] h₁ args xs := RelVs.keeps hk₁ (RelVs.noref avoid na r)
  have base : ∀ b o, B.h₀.get? b = some o → h₁.get? b = some o := fun b o e => hk₁ b o (R.base b o e)
  have none0 : ∀ c, s.heap.get? c = none → B.h₀.get? c = none := fun c e => by
    cases q : B.h₀.get? c with
    | none => rfl
    | some o => rw [R.base c o q] at e; cases e
  have R' : Rep B μ' [] [] h₁ := by
    refine ⟨R.tab.turn (fun b o _ _ e => hk₁ b o e) avoid, base, fun _ m => (nomatch m), rfl, .nil, fun _ m => (nomatch m), fun a m => ?_, fun a m => ?_, fun i a xs e => by simp at e⟩
    · rcases List.mem_cons.mp m with rfl | m
      · obtain ⟨o, _, _, ho, _⟩ := x.toInCall.ns; exact ⟨o, ho⟩
      · rcases List.mem_append.mp m with m | m
        · obtain ⟨⟨y, c'⟩, hm, rfl⟩ := List.mem_map.mp m
          have hy : (cs.map (·.1)).contains y = true := by
            rw [List.contains_iff_mem]; exact List.mem_map.mpr ⟨(y, c'), hm, rfl⟩
          obtain ⟨c2, hc2⟩ := lookup_of_contains hy
          obtain ⟨o, ho, _⟩ := x.cell y c2 hc2
          obtain ⟨j, hj⟩ := List.getElem?_of_mem hm
          have : cs.lookup y = some c' := lookup_of_nodup hd hj
          rw [this] at hc2; cases hc2
          exact ⟨o, ho⟩
        · rcases List.mem_append.mp m with m | m
          · obtain ⟨o, e⟩ := R.held a m; exact ⟨o, hk₁ _ _ e⟩
          · obtain ⟨_, o, e, _⟩ := R.isSome m; exact ⟨o, hk₁ _ _ e⟩
    · rcases List.mem_cons.mp m with rfl | m
      · exact none0 _ hL
      · rcases List.mem_append.mp m with m | m
        · exact none0 _ (hC a m)
        · rcases List.mem_append.mp m with m | m
          · exact R.muAbove a m
          · exact R.above a m
  have hpn : (ps.zip xs).map (·.1) = ps := List.map_fst_zip (Nat.le_of_eq hxl.symm)
  have psn : ps.Nodup := by rw [hps, List.map_take]; exact List.Nodup.sublist (List.take_sublist _ _) W.nodup
  have hbn : ((ps.zip xs).map (·.1)).Nodup := by rw [hpn]; exact psn
  have hat : ∀ (i : Nat) (y : Str) (kd : NameKind) (w : Val), scope.names[i]? = some (y, kd) → (atCall scope.names args)[i]? = some (some w) → ∃ w', (ps.zip xs)[i]? = some (y, w') ∧ RelV μ' [] h₁ w w' := by
    intro i y kd w e1 e2
    unfold atCall at e2
    by_cases hi : i < args.length
    · rw [List.getElem?_append_left (by simpa using hi), List.getElem?_map] at e2
      cases e3 : args[i]? with
      | none => rw [e3] at e2; cases e2
      | some w0 =>
        rw [e3] at e2
        simp only [Option.map_some, Option.some.injEq] at e2
        subst e2
        obtain ⟨w', e4, r4⟩ := RelVs.at rargs e3
        refine ⟨w', ?_, r4⟩
        have e5 : ps[i]? = some y := by
          rw [hps, List.getElem?_map, List.getElem?_take, if_pos (hlen ▸ hi), e1]; rfl
        rw [List.getElem?_zip_eq_some]
        exact ⟨e5, e4⟩
    · rw [List.getElem?_append_right (by simpa using hi), List.getElem?_replicate] at e2
      split at e2
      · cases e2
      · cases e2
  have F' : EnvOK μ' [] h₁ (newEnv scope s.heap.objs.size mainGlobals cs (qual ++ ".<locals>.") (some fa) cdv none builtinsNs) (atCall scope.names args) := by
    refine ⟨W.kind, rfl, rfl, W.nodup, ⟨_, x.toInCall.ns, fun i y w e1 e2 => ?_⟩, fun i y kd e1 hkd => ?_, fun y z c e1 e2 => ?_, List.mem_cons_self, fun y c e1 e2 => ?_⟩
    · obtain ⟨w', e3, r3⟩ := hat i y _ w e1 e2
      exact ⟨w', bindL_mem hbn e3 (lookup_of_nodup W.nodup e1), r3⟩
    · have hkc : kd = .cell := by
        rcases hkd with h | h
        · exact h
        · exact absurd h (W.nofree _ (List.mem_of_getElem? e1))
      subst hkc
      have : (cs.map (·.1)).contains y = true := by
        rw [cellsFrom_iff]
        simp only [Bool.or_eq_true, List.any_eq_true, Bool.and_eq_true, beq_iff_eq]
        exact .inl ⟨_, List.mem_of_getElem? e1, rfl, rfl⟩
      obtain ⟨c, hc⟩ := lookup_of_contains this
      refine ⟨c, _, hc, x.cell y c hc, fun w e2 => ?_⟩
      obtain ⟨w', e3, r3⟩ := hat i y _ w e1 e2
      refine ⟨w', bindC_mem hbn e3 ?_, r3⟩
      intro q
      have q' : scope.names.lookup y = some .local := q
      rw [lookup_of_nodup W.nodup e1] at q'; cases q'
    · exact name_of_addr x.apart (mem_of_lookup e1) (mem_of_lookup e2)
    · exact List.mem_cons_of_mem _ (List.mem_append_left _ (List.mem_map.mpr ⟨(y, c), mem_of_lookup e1, rfl⟩))
  refine wpAny_mono (hb (A.deeper _) μ' [] _ _ _ (g.deeper _) rfl R' F' (fun ρ₂ f₂ h₂ t₂ X₂ R₂ F₂ r₂ => ?_)) (Q := fun f s' => Q (match f with | .ret v => v | _ => .none) s') (fun _ _ z => z) (fun _ _ z => z.elim)
  have k₂ : Keeps s.heap h₂ := fun b o e => X₂.keep b o (by simp) (fun q => by
    rcases q with q | ⟨y, e1, _⟩ | ⟨q, _⟩
    · have q' : b = s.heap.objs.size := q
      subst q'
      rw [hL] at e; cases e
    · rw [hC b (List.mem_map.mpr ⟨(y, b), mem_of_lookup e1, rfl⟩)] at e; cases e
    · rw [hB] at q; cases q) (hk₁ b o e)
  have win : ∀ a, a ∈ μ ∨ a ∈ ρ → a ∈ μ' := fun a m => List.mem_cons_of_mem _ (List.mem_append_right _ (List.mem_append.mpr m))
  rcases hf with rfl | ⟨rfl, rfl⟩
  · unfold RelF at r₂
    obtain ⟨w', rfl, r₂⟩ := r₂
    exact P w' h₂ t₂ k₂ (Out.rel ho R₂ win r₂)
  · unfold RelF at r₂
    subst r₂
    exact P .none h₂ t₂ k₂ (Out.rel ho R₂ win (by unfold RelV; rfl))
end
end Mine
namespace Mine
open PySem PySem.Spec PySem.Calls PyProof.Rows PySem.W

noncomputable def quietIter (T : String) : Bool := !["enumerate", "zip", "dict_itemiterator", "dict_reverseitemiterator", "odict_iterator", "itertools.zip_longest", "itertools.pairwise"].contains T

/-- what a loop runs over -/
noncomputable def Itr (fr : Bool) (B : Wd) (n : Nat) (sc : Scope) (vs : List (Option Val)) (σ : Store) (e : Expr) (xs : List Val) : Prop :=
  ∀ (A : Around) (μ ρ : Addrs) (env : Env) (s : Shared) (Q : Value → Shared → Prop), Good n A → env.scope = sc → Rep B μ ρ σ s.heap → EnvOK μ ρ s.heap env vs →
    (∀ (I : Addr) (fp : List Addr) (P : Nat → Value → Prop) (St : Nat → Heap → Prop) (h₁ h₂ : Heap) (tk : Nat), Keeps s.heap h₁ → h₁.get? I = none → Keeps h₁ h₂ → Walks B.prog B.w A I fp [I] xs.length P St → St 0 h₂ →
      (∀ b ∈ fp, b ≠ I → (∃ o, h₁.get? b = some o ∧ o.cls ≠ .none) ∧ (fr = true → b ∉ μ ∧ b ∉ ρ)) → (∀ j h, St j h → ∃ o T, h.get? I = some o ∧ o.cls = .type T ∧ quietIter T = true) →
      (∀ (j : Nat) (y : Value) (x : Val), P j y → xs[j]? = some x → RelV μ ρ h₁ x y) → xs.length ≤ sizeLine → Q (.ref I) { s with heap := h₂, toks := tk }) →
    wpAny (model B.prog B.w) A (eval e env) (fun x s₁ => wpAny (model B.prog B.w) A (pyIter x) Q NoE s₁) NoE s

/-- a loop's target takes a value -/
noncomputable def As (B : Wd) (n : Nat) (sc : Scope) (σ : Store) (tg : Expr) (x : Val) (vs vs' : List (Option Val)) : Prop :=
  ∀ (A : Around) (μ ρ : Addrs) (env : Env) (s : Shared) (v : Value) (Q : Unit → Shared → Prop), Good n A → env.scope = sc → Rep B μ ρ σ s.heap → EnvOK μ ρ s.heap env vs → RelV μ ρ s.heap x v →
    (∀ h' tk, ExtN (Own B env) ρ s.heap ρ h' → Rep B μ ρ σ h' → EnvOK μ ρ h' env vs' → Q () { s with heap := h', toks := tk }) → wpAny (model B.prog B.w) A (assign tg env v) Q NoE s

inductive Lp (B : Wd) (n : Nat) (sc : Scope) (tg : Expr) (body : List Stmt) : List Val → List (Option Val) → Store → Fl → List (Option Val) → Store → Prop
  | nil {vs : List (Option Val)} {σ : Store} : Lp B n sc tg body [] vs σ .next vs σ
  | next {x : Val} {xs : List Val} {vs vs₁ vs₂ vs₃ : List (Option Val)} {σ σ₂ σ₃ : Store} {f : Fl} : As B n sc σ tg x vs vs₁ → Exs B n sc vs₁ σ body .next vs₂ σ₂ → Lp B n sc tg body xs vs₂ σ₂ f vs₃ σ₃ → Lp B n sc tg body (x :: xs) vs σ f vs₃ σ₃
  | stop {x : Val} {xs : List Val} {vs vs₁ vs₂ : List (Option Val)} {σ σ₂ : Store} {f : Fl} : As B n sc σ tg x vs vs₁ → Exs B n sc vs₁ σ body f vs₂ σ₂ → (f = .brk ∨ ∃ v, f = .ret v) → Lp B n sc tg body (x :: xs) vs σ f vs₂ σ₂

section
variable {B : Wd} {n : Nat} {sc : Scope} {vs vs₁ vs₂ : List (Option Val)} {σ σ₁ σ₂ : Store} {v a b c : Val} {k : Nat} {pos : Pos} {e l r : Expr} {st : Stmt} {rest : List Stmt} {f : Fl}

theorem As.name {x : Str} {p : Pos} {kd : NameKind} (i : Nat) (hi : sc.names[i]? = some (x, kd)) (hk : kd = .local ∨ kd = .cell) : As B n sc σ (.Name x p) v vs (vs.set i (some v)) := fun A μ ρ env s v' Q g hs R F r P => by
  subst hs
  exact wpAny_assign_Name (store_name hi hk R F r P)

theorem anyE {α : Type} {M : Model} {A : Around} {t : Sem α} {Q : α → Shared → Prop} {E : Value → Shared → Prop} {s : Shared} (h : wpAny M A t Q NoE s) : wpAny M A t Q E s := wpAny_mono h (fun _ _ y => y) fun _ _ y => y.elim
theorem letGo_any {A : Around} {I : Addr} {tg : Expr} {v : Value} {s : Shared} {Q : Unit → Shared → Prop} {E : Value → Shared → Prop} (hq : ∃ o T, s.heap.get? I = some o ∧ o.cls = .type T ∧ quietIter T = true) (h : Q () s) : wpAny (model B.prog B.w) A (letOwnedTupleGo tg (.ref I) v) Q E s := by
  have h0 : wpAny (model B.prog B.w) A (pure ()) Q E s := wpAny_pure h
  unfold letOwnedTupleGo
  obtain ⟨o, T, ho, hc, hq⟩ := hq
  have no : ["enumerate", "zip", "dict_itemiterator", "dict_reverseitemiterator", "odict_iterator", "itertools.zip_longest", "itertools.pairwise"].contains T = false := by
    unfold quietIter at hq; simpa using hq
  split
  · cases v with
    | ref a =>
      refine wpAny_bind (wpAny_load ho ?_)
      rw [hc]
      split
      · rename_i hT hd
        cases hT
        rw [if_neg (by rw [no]; simp)]
        exact h0
      · exact h0
    | _ => exact h0
  · cases v with
    | ref a =>
      refine wpAny_bind (wpAny_load ho ?_)
      rw [hc]
      split
      · rename_i hT hd
        cases hT
        rw [if_neg (by rw [no]; simp)]
        exact h0
      · exact h0
    | _ => exact h0
  · exact h0

theorem Rep.addMu {μ ρ : Addrs} {h₁ h₂ : Heap} {I : Addr} (R : Rep B μ ρ σ h₁) (hn : h₁.get? I = none) (k : Keeps h₁ h₂) (hI : ∃ o, h₂.get? I = some o) : Rep B (I :: μ) ρ σ h₂ := by
  have q : ∀ a o, h₁.get? a = some o → a ∉ μ → a ∉ ρ → a ∉ I :: μ ∧ a ∉ ρ := fun a o e n1 n2 => ⟨fun m => by
    rcases List.mem_cons.mp m with rfl | m
    · rw [hn] at e; cases e
    · exact n1 m, n2⟩
  have hIρ : I ∉ ρ := fun m => by obtain ⟨_, o, e, _⟩ := R.isSome m; rw [hn] at e; cases e
  have R' := R.keeps k
  refine ⟨R.tab.turn (fun b o _ _ e => k b o e) q, R'.base, R.above, R.len, R.nodup, fun a m m' => ?_, fun a m => ?_, fun a m => ?_, fun i a xs e1 e2 => ?_⟩
  · rcases List.mem_cons.mp m' with rfl | m'
    · exact hIρ m
    · exact R.apart a m m'
  · rcases List.mem_cons.mp m with rfl | m
    · exact hI
    · exact R'.held a m
  · rcases List.mem_cons.mp m with rfl | m
    · cases z : B.h₀.get? a with
      | none => rfl
      | some o => have := R.base _ _ z; rw [hn] at this; cases this
    · exact R.muAbove a m
  · obtain ⟨ws, ⟨o, e, r⟩, r2⟩ := R.obj i a xs e1 e2
    exact ⟨ws, ⟨o, k _ _ e, r⟩, RelVs.keeps k (RelVs.mu q (fun _ _ e => e) r2)⟩
theorem EnvOK.addMu {μ ρ : Addrs} {h₁ h₂ : Heap} {I : Addr} {env : Env} (F : EnvOK μ ρ h₁ env vs) (R : Rep B μ ρ σ h₁) (hn : h₁.get? I = none) (k : Keeps h₁ h₂) : EnvOK (I :: μ) ρ h₂ env vs := by
  have q : ∀ a o, h₁.get? a = some o → a ∉ μ → a ∉ ρ → a ∉ I :: μ ∧ a ∉ ρ := fun a o e n1 n2 => ⟨fun m => by
    rcases List.mem_cons.mp m with rfl | m
    · rw [hn] at e; cases e
    · exact n1 m, n2⟩
  have up : ∀ {x : Val} {v : Value}, RelV μ ρ h₁ x v → RelV (I :: μ) ρ h₂ x v := fun r => RelV.keeps k (RelV.mu q (fun _ _ e => e) r)
  refine ⟨F.kind, F.glob, F.blt, F.nodup, ?_, fun i x kd e hk => ?_, F.apart, List.mem_cons_of_mem _ F.locIn, fun x c e1 e2 => List.mem_cons_of_mem _ (F.cellIn x c e1 e2)⟩
  · obtain ⟨m, n, r⟩ := F.ns
    exact ⟨m, n.keeps k, fun i x v e1 e2 => let ⟨v', a, b⟩ := r i x v e1 e2; ⟨v', a, up b⟩⟩
  · obtain ⟨c, v₀, e1, e2, e3⟩ := F.cell i x kd e hk
    exact ⟨c, v₀, e1, e2.keeps k, fun v e4 => let ⟨v', a, b⟩ := e3 v e4; ⟨v', a, up b⟩⟩
theorem Rep.lessMu {μ ν ρ : Addrs} {h : Heap} (R : Rep B ν ρ σ h) (w : ∀ a, a ∈ μ → a ∈ ν) : Rep B μ ρ σ h :=
  ⟨R.tab.turn (fun _ _ _ _ e => e) fun a _ _ n1 n2 => ⟨fun m => n1 (w a m), n2⟩, R.base, R.above, R.len, R.nodup, fun a m m' => R.apart a m (w a m'), fun a m => R.held a (w a m), fun a m => R.muAbove a (w a m), fun i a xs e1 e2 => by
    obtain ⟨ws, hl, r⟩ := R.obj i a xs e1 e2
    exact ⟨ws, hl, RelVs.mu (fun b o _ n1 n2 => ⟨fun m => n1 (w b m), n2⟩) (fun _ _ e => e) r⟩⟩
theorem RelV.lessMu {μ ν ρ : Addrs} {h : Heap} {x : Val} {v : Value} (r : RelV ν ρ h x v) (w : ∀ a, a ∈ μ → a ∈ ν) : RelV μ ρ h x v := RelV.mu (fun b o _ n1 n2 => ⟨fun m => n1 (w b m), n2⟩) (fun _ _ e => e) r
theorem EnvOK.lessMu {μ ν ρ : Addrs} {h : Heap} {env : Env} (F : EnvOK ν ρ h env vs) (w : ∀ a, a ∈ μ → a ∈ ν) (hl : env.locals ∈ μ) (hc : ∀ x c, env.cells.lookup x = some c → env.kindOf x = some .cell → c ∈ μ) : EnvOK μ ρ h env vs := by
  refine ⟨F.kind, F.glob, F.blt, F.nodup, ?_, fun i x kd e hk => ?_, F.apart, hl, hc⟩
  · obtain ⟨m, n, r⟩ := F.ns
    exact ⟨m, n, fun i x v e1 e2 => let ⟨v', a, b⟩ := r i x v e1 e2; ⟨v', a, RelV.lessMu b w⟩⟩
  · obtain ⟨c, v₀, e1, e2, e3⟩ := F.cell i x kd e hk
    exact ⟨c, v₀, e1, e2, fun v e4 => let ⟨v', a, b⟩ := e3 v e4; ⟨v', a, RelV.lessMu b w⟩⟩
/-- where only the place I is turned -/
noncomputable def ButI (I : Addr) (h h' : Heap) : Prop := ∀ b o, b ≠ I → h.get? b = some o → h'.get? b = some o
theorem Rep.butI {μ ρ : Addrs} {h h' : Heap} {I : Addr} (R : Rep B μ ρ σ h) (hI : I ∈ μ) (k : ButI I h h') (hI' : ∃ o, h'.get? I = some o) : Rep B μ ρ σ h' := by
  have off : I ∉ ρ := fun q => R.apart I q hI
  have X : ExtN (fun x => x = I) ρ h ρ h' := ExtN.of_keeps fun c o hc e => k c o hc e
  have w : Within (fun c => c = I) μ h := fun c e => .inl (e ▸ hI)
  refine ⟨R.tab.turn (fun c o n _ e => k c o (fun q => n (q ▸ hI)) e) fun _ _ _ n1 n2 => ⟨n1, n2⟩, fun c o e => ?_, R.above, R.len, R.nodup, R.apart, fun c m => ?_, R.muAbove, fun i c xs e1 e2 => ?_⟩
  · have : c ≠ I := by rintro rfl; rw [R.muAbove c hI] at e; cases e
    exact k c o this (R.base c o e)
  · by_cases q : c = I
    · subst q; exact hI'
    · obtain ⟨o, e⟩ := R.held c m; exact ⟨o, k c o q e⟩
  · obtain ⟨ws, ⟨o, e, r⟩, r2⟩ := R.obj i c xs e1 e2
    have : c ≠ I := by rintro rfl; exact off (List.mem_of_getElem? e1)
    exact ⟨ws, ⟨o, k c o this e, r⟩, RelVs.extN X w r2⟩
theorem Rep.dropI {μ ρ : Addrs} {h h' : Heap} {I : Addr} (R : Rep B (I :: μ) ρ σ h) (hI : I ∉ μ) (k : ButI I h h') : Rep B μ ρ σ h' := by
  have X : ExtN (fun x => x = I) ρ h ρ h' := ExtN.of_keeps fun c o hc e => k c o hc e
  have w : Within (fun c => c = I) (I :: μ) h := fun c e => .inl (e ▸ List.mem_cons_self)
  refine ⟨R.tab.turn (fun c o n _ e => k c o (fun q => n (q ▸ List.mem_cons_self)) e) fun _ _ _ n1 n2 => ⟨fun m => n1 (List.mem_cons_of_mem _ m), n2⟩, fun c o e => ?_, R.above, R.len, R.nodup, fun a m m' => R.apart a m (List.mem_cons_of_mem _ m'), fun c m => ?_, fun a m => R.muAbove a (List.mem_cons_of_mem _ m), fun i c xs e1 e2 => ?_⟩
  · have : c ≠ I := by rintro rfl; rw [R.muAbove c List.mem_cons_self] at e; cases e
    exact k c o this (R.base c o e)
  · obtain ⟨o, e⟩ := R.held c (List.mem_cons_of_mem _ m)
    exact ⟨o, k c o (by rintro rfl; exact hI m) e⟩
  · obtain ⟨ws, ⟨o, e, r⟩, r2⟩ := R.obj i c xs e1 e2
    have : c ≠ I := by rintro rfl; exact R.apart c (List.mem_of_getElem? e1) List.mem_cons_self
    exact ⟨ws, ⟨o, k c o this e, r⟩, RelVs.mu (fun b o _ n1 n2 => ⟨fun m => n1 (List.mem_cons_of_mem _ m), n2⟩) (fun _ _ e => e) (RelVs.extN X w r2)⟩
theorem EnvOK.butI {μ ρ : Addrs} {h h' : Heap} {I : Addr} {env : Env} (F : EnvOK μ ρ h env vs) (hI : I ∈ μ) (k : ButI I h h') (hL : env.locals ≠ I) (hC : ∀ (i : Nat) (x : Str) (kd : NameKind) (c : Addr), env.scope.names[i]? = some (x, kd) → kd = .cell ∨ kd = .free → env.cells.lookup x = some c → c ≠ I) : EnvOK μ ρ h' env vs := by
  have X : ExtN (fun x => x = I) ρ h ρ h' := ExtN.of_keeps fun c o hc e => k c o hc e
  have w : Within (fun c => c = I) μ h := fun c e => .inl (e ▸ hI)
  refine ⟨F.kind, F.glob, F.blt, F.nodup, ?_, fun i x kd e hk => ?_, F.apart, F.locIn, F.cellIn⟩
  · obtain ⟨m, ⟨o, es, ep, ho, rr⟩, r⟩ := F.ns
    exact ⟨m, ⟨o, es, ep, k _ _ hL ho, rr⟩, fun i x v e1 e2 => let ⟨v', a, b⟩ := r i x v e1 e2; ⟨v', a, RelV.extN X w b⟩⟩
  · obtain ⟨c, v₀, e1, e2, e3⟩ := F.cell i x kd e hk
    have hc : c ≠ I := hC i x kd c e hk e1
    obtain ⟨o, ho, hd⟩ := e2
    exact ⟨c, v₀, e1, ⟨o, k _ _ hc ho, hd⟩, fun v e4 => let ⟨v', a, b⟩ := e3 v e4; ⟨v', a, RelV.extN X w b⟩⟩
theorem ExtN.skipI {N : Addr → Prop} {ρ ρ' : Addrs} {h₀ h h' : Heap} {I : Addr} (X : ExtN N ρ h₀ ρ' h) (hn : h₀.get? I = none ∨ N I) (k : ButI I h h') : ExtN N ρ h₀ ρ' h' := by
  refine ⟨X.pre, fun b o n1 n2 e => k b o ?_ (X.keep b o n1 n2 e)⟩
  rintro rfl
  rcases hn with hn | hn
  · rw [hn] at e; cases e
  · exact n2 hn

theorem Ex.forL {tg iter : Expr} {body orelse : List Stmt} {xs : List Val} {f f' : Fl} {vs' : List (Option Val)} {σ' : Store} (hI : Itr true B n sc vs σ iter xs) (hL : Lp B n sc tg body xs vs σ f vs₁ σ₁)
    (h0 : f = .next → Exs B n sc vs₁ σ₁ orelse f' vs' σ') (h1 : f = .brk → f' = .next ∧ vs' = vs₁ ∧ σ' = σ₁) (h2 : ∀ v, f = .ret v → f' = .ret v ∧ vs' = vs₁ ∧ σ' = σ₁)
    (hf : ∀ env x, foldedSetIterable iter env x = pure x := by intro _ _; rfl) : Ex B n sc vs σ (.For tg iter body orelse pos) f' vs' σ' := fun A μ ρ env s Q g hs R F P => by
  refine wpAny_For (hI A μ ρ env s _ g hs R F fun I fp Pi St h₁ h₂ tk k₁ hn k₂ W st hfp hq hit hsz => ?_) (hf env)
  have hnI : s.heap.get? I = none := by
    cases q : s.heap.get? I with
    | none => rfl
    | some o => have := k₁ _ _ q; rw [hn] at this; cases this
  have hIμ : I ∉ μ := fun m => by obtain ⟨o, e⟩ := R.held I m; rw [hnI] at e; cases e
  have hI₂ : ∃ o, h₂.get? I = some o := by obtain ⟨o, _, e, _⟩ := hq _ _ st; exact ⟨o, e⟩
  have R₂ : Rep B (I :: μ) ρ σ h₂ := (R.keeps k₁).addMu hn k₂ hI₂
  have F₂ : EnvOK (I :: μ) ρ h₂ env vs := (F.keeps R k₁).addMu (R.keeps k₁) hn k₂
  have hLI : env.locals ≠ I := fun q => hIμ (q ▸ F.locIn)
  have hCI : ∀ (i : Nat) (x : Str) (kd : NameKind) (c : Addr), env.scope.names[i]? = some (x, kd) → kd = .cell ∨ kd = .free → env.cells.lookup x = some c → c ≠ I := fun i x kd c e hk e1 q => by
    obtain ⟨c', v₀, e2, ⟨o, ho, _⟩, _⟩ := F.cell i x kd e hk
    rw [e1] at e2; cases e2
    rw [q, hnI] at ho; cases ho
  have ownI : ∀ b, Own B env b → b ≠ I := fun b q z => by
    subst z
    rcases F.own b q with m | m
    · exact hIμ m
    · obtain ⟨ps, e, _⟩ := R.tab.tab m; rw [hnI] at e; cases e
  have backT : ∀ b, Own B env b → b ∈ I :: μ ∨ b ∈ B.tabs.map (·.1) := fun b q => (F.own b q).imp (fun m => List.mem_cons_of_mem _ m) (fun m => m)
  have back : ∀ a, a ∈ μ → a ∈ I :: μ := fun a m => List.mem_cons_of_mem _ m
  -- what follows the loop
  have fin : ∀ (ρ' : Addrs) (f₀ : Flow) (h' : Heap) (tk' : Nat), ExtN (Own B env) ρ s.heap ρ' h' → Rep B (I :: μ) ρ' σ₁ h' → EnvOK (I :: μ) ρ' h' env vs₁ → RelF (I :: μ) ρ' h' f f₀ →
      match f₀ with
      | .next => wpAny (model B.prog B.w) A (execs orelse env) Q NoE { s with heap := h', toks := tk' }
      | .cont => f = .cont
      | .brk => Q .next { s with heap := h', toks := tk' }
      | .ret v => Q (.ret v) { s with heap := h', toks := tk' } := by
    intro ρ' f₀ h' tk' X' R' F' r'
    have Rm := R'.lessMu back
    have Fm := F'.lessMu back F.locIn F.cellIn
    cases f with
    | next =>
      unfold RelF at r'; subst r'
      exact h0 rfl A μ ρ' env _ Q g hs Rm Fm (P.step X' Rm F.own)
    | brk =>
      unfold RelF at r'; subst r'
      obtain ⟨rfl, rfl, rfl⟩ := h1 rfl
      exact (P.step X' Rm F.own).here Rm Fm (by unfold RelF; rfl)
    | cont => unfold RelF at r'; subst r'; rfl
    | ret v =>
      unfold RelF at r'
      obtain ⟨v', rfl, r'⟩ := r'
      obtain ⟨rfl, rfl, rfl⟩ := h2 v rfl
      exact (P.step X' Rm F.own).here Rm Fm (by unfold RelF; exact ⟨v', rfl, RelV.lessMu r' back⟩)
  refine codeAny_forLoop_any (fun m s' => ∃ (j : Nat) (ρ' : Addrs) (vs' : List (Option Val)) (σ' : Store) (h' : Heap) (tk' : Nat), s' = { s with heap := h', toks := tk' } ∧ m = xs.length - j ∧ j ≤ xs.length ∧ St j h' ∧
    ExtN (fun b => Own B env b ∨ b = I) ρ h₁ ρ' h' ∧ ExtN (Own B env) ρ s.heap ρ' h' ∧ Rep B (I :: μ) ρ' σ' h' ∧ EnvOK (I :: μ) ρ' h' env vs' ∧ Lp B n sc tg body (xs.drop j) vs' σ' f vs₁ σ₁) ?_ xs.length
    ⟨0, ρ, vs, σ, h₂, tk, rfl, by simp, Nat.zero_le _, st, ExtN.of_keeps fun b o _ e => k₂ _ _ e, ExtN.of_keeps fun b o _ e => k₂ _ _ (k₁ _ _ e), R₂, F₂, by simpa using hL⟩
  rintro m s' ⟨j, ρ', vsj, σj, h', tk', rfl, rfl, hj, stj, X₁, Xs, Rj, Fj, Lj⟩
  have hIρ' : I ∉ ρ' := fun q => Rj.apart I q List.mem_cons_self
  have wI : ∀ b, (Own B env b ∨ b = I) → b ∈ I :: μ ∨ b ∈ B.tabs.map (·.1) := fun b q => by
    rcases q with q | rfl
    · exact backT b q
    · exact .inl List.mem_cons_self
  by_cases hlt : j < xs.length
  · obtain ⟨x, hx⟩ : ∃ x, xs[j]? = some x := ⟨xs[j], List.getElem?_eq_getElem hlt⟩
    have hdrop : xs.drop j = x :: xs.drop (j + 1) := by
      rw [List.drop_eq_getElem_cons hlt]
      have := List.getElem?_eq_getElem hlt
      rw [hx] at this; cases this; rfl
    rw [hdrop] at Lj
    refine W.item j _ _ _ hlt stj fun v h₃ t₃ hp st₃ hk₃ => ?_
    have kI : ButI I h' h₃ := fun b o nb e => hk₃ b o (by simpa using nb) e
    have hI₃ : ∃ o, h₃.get? I = some o := by obtain ⟨o, _, e, _⟩ := hq _ _ st₃; exact ⟨o, e⟩
    have R₃ := Rj.butI List.mem_cons_self kI hI₃
    have F₃ : EnvOK (I :: μ) ρ' h₃ env vsj := by
      exact Fj.butI List.mem_cons_self kI hLI hCI
    have X₁₃ : ExtN (fun b => Own B env b ∨ b = I) ρ h₁ ρ' h₃ := X₁.skipI (.inr (.inr rfl)) kI
    have Xs₃ : ExtN (Own B env) ρ s.heap ρ' h₃ := Xs.skipI (.inl hnI) kI
    have q₁ : ∀ a o, h₁.get? a = some o → a ∉ μ → a ∉ ρ → a ∉ I :: μ ∧ a ∉ ρ := fun a o e n1 n2 => ⟨fun m => by
      rcases List.mem_cons.mp m with rfl | m
      · rw [hn] at e; cases e
      · exact n1 m, n2⟩
    have rx : RelV (I :: μ) ρ' h₃ x v := RelV.extN X₁₃ (fun b q => (wI b q).imp (fun m => m) (R.keeps k₁).tab.tab) (RelV.mu q₁ (fun _ _ e => e) (hit j v x hp hx))
    refine letGo_any (s := { s with heap := h₃, toks := t₃ }) (hq _ _ st₃) ?_
    -- St survives what the frame does
    have stKeep : ∀ (h₄ : Heap) (ρ₄ : Addrs), ExtN (Own B env) ρ' h₃ ρ₄ h₄ → St (j + 1) h₄ := fun h₄ ρ₄ Y => W.frame _ _ _ st₃ fun b hb o e => by
      by_cases hbI : b = I
      · subst hbI; exact Y.keep b o hIρ' (fun q => ownI b q rfl) e
      · obtain ⟨⟨o', e', hc⟩, hz⟩ := hfp b hb hbI
        refine Y.keep b o (X₁.notin (hz rfl).2 e') (fun q => ?_) e
        rcases F.own b q with m | m
        · exact (hz rfl).1 m
        · exact hc (((R.keeps k₁).tab.tab m).cls e')
    cases Lj with
    | @next _ _ _ vs₁' vs₂' _ _ σ₂' _ _ ha hbody hrest =>
      refine anyE (ha A (I :: μ) ρ' env _ v _ g hs R₃ F₃ rx fun h₄ t₄ Y₄ R₄ F₄ => ?_)
      refine anyE (hbody A (I :: μ) ρ' env _ _ g hs R₄ F₄ fun ρ₅ f₅ h₅ t₅ Y₅ R₅ F₅ r₅ => ?_)
      unfold RelF at r₅; subst r₅
      have Y := ExtN.trans Y₄ R₄ backT Y₅
      exact ⟨xs.length - (j + 1), by omega, j + 1, ρ₅, _, _, h₅, t₅, rfl, rfl, hlt, stKeep _ _ Y, ExtN.trans X₁₃ R₃ wI (Y.weaken fun b q => .inl q), ExtN.trans Xs₃ R₃ backT Y, R₅, F₅, hrest⟩
    | @stop _ _ _ vs₁' _ _ _ _ ha hbody hst =>
      refine anyE (ha A (I :: μ) ρ' env _ v _ g hs R₃ F₃ rx fun h₄ t₄ Y₄ R₄ F₄ => ?_)
      refine anyE (hbody A (I :: μ) ρ' env _ _ g hs R₄ F₄ fun ρ₅ f₅ h₅ t₅ Y₅ R₅ F₅ r₅ => ?_)
      have Y := ExtN.trans Y₄ R₄ backT Y₅
      have z := fin ρ₅ f₅ h₅ t₅ (ExtN.trans Xs₃ R₃ backT Y) R₅ F₅ r₅
      rcases hst with rfl | ⟨w, rfl⟩
      · unfold RelF at r₅; subst r₅; exact z
      · unfold RelF at r₅; obtain ⟨w', rfl, _⟩ := r₅; exact z
  · obtain rfl : j = xs.length := Nat.le_antisymm hj (Nat.not_lt.mp hlt)
    refine W.done _ _ _ stj fun h₃ t₃ hk₃ => ?_
    have kI : ButI I h' h₃ := fun b o nb e => hk₃ b o (by simpa using nb) e
    rw [List.drop_length] at Lj
    cases Lj
    have Rm := Rj.dropI hIμ kI
    have Fm := (Fj.butI List.mem_cons_self kI hLI hCI).lessMu back F.locIn F.cellIn
    exact anyE (h0 rfl A μ ρ' env { s with heap := h₃, toks := t₃ } Q g hs Rm Fm (P.step (Xs.skipI (.inl hnI) kI) Rm F.own))
end
end Mine
namespace Mine
open PySem PySem.Spec PySem.Calls PyProof.Rows PySem.W

/-- the cells that a comprehension takes along -/
noncomputable def closL (cells : List (Str × Addr)) : List (Str × NameKind) → List (Str × Addr) → List (Str × Addr)
  | [], acc => acc
  | (n, k) :: r, acc => if k == .free then closL cells r ((n, (cells.lookup n).getD 0) :: acc) else closL cells r acc
theorem closure_is {env : Env} : ∀ (names : List (Str × NameKind)) (acc : List (Str × Addr)), (∀ x ∈ names, x.2 = .free → ∃ c, env.cells.lookup x.1 = some c) →
    forIn (m := Sem) names acc (fun (x : Str × NameKind) (cs : List (Str × Addr)) => if x.2 == .free then (do let c ← cellOf env x.1; pure (ForInStep.yield ((x.1, c) :: cs))) else pure (ForInStep.yield cs)) = pure (closL env.cells names acc)
  | [], acc, _ => rfl
  | (n, k) :: r, acc, h => by
    rw [List.forIn_cons]
    unfold closL
    by_cases hk : k = .free
    · subst hk
      obtain ⟨c, hc⟩ := h (n, .free) (.head _) rfl
      have e : cellOf env n = pure c := by unfold cellOf; rw [hc]
      simp only [beq_self_eq_true, if_true, e, hc, Option.getD_some]
      exact closure_is r ((n, c) :: acc) fun x hx => h x (.tail _ hx)
    · have hk' : (k == NameKind.free) = false := by simpa using hk
      simp only [hk', Bool.false_eq_true, if_false]
      exact closure_is r acc fun x hx => h x (.tail _ hx)
theorem closureFor_is {scope : Scope} {env : Env} (h : ∀ x ∈ scope.names, x.2 = .free → ∃ c, env.cells.lookup x.1 = some c) : closureFor scope env = pure (closL env.cells scope.names []) := by
  unfold closureFor
  have := closure_is (env := env) scope.names [] h
  exact congrArg (fun m => m >>= fun cs => pure cs) this
theorem closL_at {cells : List (Str × Addr)} {x : Str} : ∀ (names : List (Str × NameKind)) (acc : List (Str × Addr)), x ∉ names.map (·.1) → (closL cells names acc).lookup x = acc.lookup x
  | [], _, _ => rfl
  | (n, k) :: r, acc, h => by
    simp only [List.map_cons, List.mem_cons, not_or] at h
    unfold closL
    split
    · rw [closL_at r _ h.2, List.lookup_cons]
      have : (x == n) = false := beq_eq_false_iff_ne.mpr h.1
      rw [this]
    · exact closL_at r _ h.2
theorem closL_free {cells : List (Str × Addr)} {x : Str} : ∀ (names : List (Str × NameKind)) (acc : List (Str × Addr)), (names.map (·.1)).Nodup → (x, NameKind.free) ∈ names → (closL cells names acc).lookup x = some ((cells.lookup x).getD 0)
  | (n, k) :: r, acc, hn, h => by
    rw [List.map_cons, List.nodup_cons] at hn
    unfold closL
    rcases List.mem_cons.mp h with e | h
    · cases e
      simp only [beq_self_eq_true, if_true]
      rw [closL_at r _ hn.1]
      simp [List.lookup_cons]
    · split <;> exact closL_free r _ hn.2 h
theorem closL_mem {cells : List (Str × Addr)} {x : Str} {c : Addr} : ∀ (names : List (Str × NameKind)) (acc : List (Str × Addr)), (closL cells names acc).lookup x = some c → acc.lookup x = some c ∨ ((x, NameKind.free) ∈ names ∧ c = (cells.lookup x).getD 0)
  | [], _, h => .inl h
  | (n, k) :: r, acc, h => by
    unfold closL at h
    split at h
    · rename_i hk
      have hk : k = .free := by simpa using hk
      subst hk
      rcases closL_mem r _ h with h | ⟨h1, h2⟩
      · rw [List.lookup_cons] at h
        cases q : x == n with
        | true => rw [q] at h; cases h; rw [beq_iff_eq.mp q]; exact .inr ⟨.head _, rfl⟩
        | false => rw [q] at h; exact .inl h
      · exact .inr ⟨.tail _ h1, h2⟩
    · rcases closL_mem r _ h with h | ⟨h1, h2⟩
      · exact .inl h
      · exact .inr ⟨.tail _ h1, h2⟩

/-- the scope of a comprehension within a frame of scope sc -/
noncomputable def relN (sc : Scope) : Str × NameKind → Str × NameKind := fun x => if (x.2 == .free && sc.kind == .function && sc.names.lookup x.1 == some .cell) then (x.1, .cell) else x
noncomputable def relS (scope sc : Scope) : Scope := { scope with names := scope.names.map (relN sc) }
theorem relabel_eq (scope : Scope) (env : Env) : relabel scope env = relS scope env.scope := by
  unfold relabel relS
  congr 1
theorem relN_fst (sc : Scope) (x : Str × NameKind) : (relN sc x).1 = x.1 := by unfold relN; split <;> rfl
theorem relS_names (scope sc : Scope) : (relS scope sc).names.map (·.1) = scope.names.map (·.1) := by
  unfold relS
  rw [List.map_map]
  exact List.map_congr_left fun x _ => relN_fst sc x
theorem relS_free {scope sc : Scope} {i : Nat} {x : Str} (h : scope.names[i]? = some (x, .free)) : (relS scope sc).names[i]? = some (x, .free) ∨ (relS scope sc).names[i]? = some (x, .cell) := by
  unfold relS
  rw [List.getElem?_map, h]
  show some (relN sc (x, .free)) = _ ∨ some (relN sc (x, .free)) = _
  unfold relN
  split
  · exact .inr rfl
  · exact .inl rfl
theorem relS_back {scope sc : Scope} {i : Nat} {x : Str} {k : NameKind} (h : (relS scope sc).names[i]? = some (x, k)) : scope.names[i]? = some (x, k) ∨ (k = .cell ∧ scope.names[i]? = some (x, .free) ∧ sc.names.lookup x = some .cell) := by
  unfold relS at h
  rw [List.getElem?_map] at h
  cases q : scope.names[i]? with
  | none => rw [q] at h; cases h
  | some y =>
    rw [q] at h
    simp only [Option.map_some, Option.some.injEq] at h
    unfold relN at h
    split at h
    · rename_i hc
      simp only [Bool.and_eq_true, beq_iff_eq] at hc
      cases h
      obtain ⟨y1, y2⟩ := y
      simp only at hc
      obtain ⟨⟨rfl, _⟩, hc⟩ := hc
      exact .inr ⟨rfl, rfl, hc⟩
    · subst h; exact .inl rfl

section
variable {B : Wd} {n : Nat} {sc : Scope} {vs vs₁ vs₂ : List (Option Val)} {σ σ₁ σ₂ : Store} {v a b c : Val} {k : Nat} {pos : Pos} {e l r : Expr} {st : Stmt} {rest : List Stmt} {f : Fl}

/-- a name that the frame's maker holds too, or a cell of it -/
theorem Ev.var {x : Str} (i : Nat) (hi : sc.names[i]? = some (x, .free) ∨ sc.names[i]? = some (x, .cell)) (hv : vs[i]? = some (some v)) (hd : (x == ("__debug__" : Str)) = false := by decide) (hc : (x == ("__classdict__" : Str)) = false := by decide) : Ev B n sc vs σ (.Name x pos) v := by
  rcases hi with hi | hi
  · exact Ev.free i hi hv hd hc
  · exact Ev.cell i hi hv hd

/-- a comprehension's target takes a value: only its own names change -/
noncomputable def AsL (B : Wd) (n : Nat) (sc : Scope) (σ : Store) (tg : Expr) (x : Val) (vs vs' : List (Option Val)) : Prop :=
  ∀ (A : Around) (μ ρ : Addrs) (env : Env) (s : Shared) (v : Value) (Q : Unit → Shared → Prop), Good n A → env.scope = sc → Rep B μ ρ σ s.heap → EnvOK μ ρ s.heap env vs → RelV μ ρ s.heap x v →
    (∀ h' tk, ButI env.locals s.heap h' → Rep B μ ρ σ h' → EnvOK μ ρ h' env vs' → Q () { s with heap := h', toks := tk }) → wpAny (model B.prog B.w) A (assign tg env v) Q NoE s
theorem AsL.name {x : Str} {p : Pos} (i : Nat) (hi : sc.names[i]? = some (x, .local)) : AsL B n sc σ (.Name x p) v vs (vs.set i (some v)) := fun A μ ρ env s v' Q g hs R F r P => by
  subst hs
  obtain ⟨m, hn, hm⟩ := F.ns
  refine wpAny_assign_Name (wpAny_storeName_local (F.kindOf hi) hn (fun h' hn' hb => ?_) (by rw [F.kind]; rfl))
  refine P h' _ (fun b o nb e => (hb.2 b nb).trans e) (R.sameBut F.locIn hb ?_) (F.store_local R hi hm hn hn' hb r)
  obtain ⟨o, _, _, ho, _⟩ := hn'
  exact ⟨o, ho⟩

inductive Ts (B : Wd) (n : Nat) (sc : Scope) (vs : List (Option Val)) (σ : Store) : List Expr → Bool → Prop
  | nil : Ts B n sc vs σ [] true
  | one {c : Expr} {d : Bool} : Tr B n sc vs σ c d → Ts B n sc vs σ [c] d

inductive Cp (B : Wd) (n : Nat) (sc : Scope) (σ : Store) (tg : Expr) (ifs : List Expr) (elt : Expr) : List (Option Val) → List Val → List Val → Prop
  | nil {vc : List (Option Val)} : Cp B n sc σ tg ifs elt vc [] []
  | keep {vc vc' : List (Option Val)} {x y : Val} {xs ys : List Val} : AsL B n sc σ tg x vc vc' → Ts B n sc vc' σ ifs true → Ev B n sc vc' σ elt y → Cp B n sc σ tg ifs elt vc' xs ys → Cp B n sc σ tg ifs elt vc (x :: xs) (y :: ys)
  | skip {vc vc' : List (Option Val)} {x : Val} {xs ys : List Val} : AsL B n sc σ tg x vc vc' → Ts B n sc vc' σ ifs false → Cp B n sc σ tg ifs elt vc' xs ys → Cp B n sc σ tg ifs elt vc (x :: xs) ys

theorem Ts.run {A : Around} {μ ρ : Addrs} {env : Env} {s : Shared} {Q : Bool → Shared → Prop} {ifs : List Expr} {d : Bool} (h : Ts B n sc vs σ ifs d) (g : Good n A) (hs : env.scope = sc) (R : Rep B μ ρ σ s.heap) (F : EnvOK μ ρ s.heap env vs) (P : PostB s d Q) :
    wpAny (model B.prog B.w) A (forIn ifs true fun c r => if r = true then do let ok ← isTrue c env (eval c env); pure (ForInStep.yield ok) else pure (ForInStep.yield r)) Q NoE s := by
  cases h with
  | nil => exact wpAny_tests_nil P.here
  | one h => exact wpAny_tests_one (h A μ ρ env s Q g hs R F P)

theorem compLoop_gen {A : Around} {R : Result → Shared → Prop} {s : Shared} {elt target iter : Expr} {ifs : List Expr} {scope : Scope} {pos : Pos} {it acc : Value} {env : Env} (I : Nat → Shared → Prop)
    (turn : ∀ n s, I n s → wpAny (model B.prog B.w) A (pyNext it) (fun r s₁ => match r with
      | none => R (.ok .next) s₁
      | some v => wpAny (model B.prog B.w) A (letOwnedTupleGo target it v) (fun _ s₁' => wpAny (model B.prog B.w) A (assign target env v) (fun _ s₂ =>
          wpAny (model B.prog B.w) A (forIn ifs true fun c r => if r = true then do let ok ← isTrue c env (eval c env); pure (ForInStep.yield ok) else pure (ForInStep.yield r)) (fun ok s₃ =>
            if ok = true then wpAny (model B.prog B.w) A (eval elt env) (fun x s₄ =>
              wpAny (model B.prog B.w) A (call (.builtin "list.append") [acc, x]) (fun _ s₅ => ∃ m, m < n ∧ I m s₅) NoE s₄) NoE s₃
            else ∃ m, m < n ∧ I m s₃) NoE s₂) NoE s₁') NoE s₁) NoE s)
    (n : Nat) (h : I n s) : codeAny (model B.prog B.w) A (.compLoop (.ListComp elt [⟨target, iter, ifs, 0⟩] scope pos) 0 it acc env) R s := by
  refine codeAny_loop rfl I (fun n s hI => ?_) n h
  show wpAny _ A ((compTurn (.ListComp elt [⟨target, iter, ifs, 0⟩] scope pos) 0 it acc env).onRaise (fun x => do noteFrame x env; theTreesLotGoes x)) _ _ s
  refine wpAny_noted ?_
  rw [compTurn_list]
  refine wpAny_bind (wpAny_standAt (wpAny_bind (wpAny_mono (turn n s hI) (fun r s₁ h₁ => ?_) fun _ _ h' => h'.elim)))
  cases r with
  | none => exact wpAny_pure h₁
  | some v =>
    refine wpAny_bind (wpAny_mono h₁ (fun _ s₁' h₁' => ?_) fun _ _ h' => h'.elim)
    refine wpAny_bind (wpAny_mono h₁' (fun _ s₂ h₂ => wpAny_bind (wpAny_mono h₂ (fun ok s₃ h₃ => ?_) fun _ _ h' => h'.elim)) fun _ _ h' => h'.elim)
    cases ok with
    | false => exact wpAny_pure ⟨rfl, h₃⟩
    | true =>
      exact wpAny_bind (wpAny_bind (wpAny_mono h₃ (fun x s₄ h₄ => wpAny_bind (wpAny_mono h₄ (fun _ s₅ h₅ => wpAny_pure (wpAny_pure ⟨rfl, h₅⟩)) fun _ _ h' => h'.elim)) fun _ _ h' => h'.elim))

/-- what a comprehension sees of its maker's names -/
noncomputable def Sees (scope sc : Scope) (vs vc : List (Option Val)) : Prop :=
  (∀ (i : Nat) (x : Str), scope.names[i]? = some (x, .free) → ∃ (j : Nat) (k : NameKind), sc.names[j]? = some (x, k) ∧ (k = .cell ∨ k = .free) ∧ ∀ v, vc[i]? = some (some v) → vs[j]? = some (some v)) ∧
  (∀ (i : Nat) (x : Str) (v : Val), scope.names[i]? = some (x, .local) → vc[i]? ≠ some (some v))

theorem Rep.addMus {μ ν ρ : Addrs} {h₁ h₂ : Heap} (R : Rep B μ ρ σ h₁) (k : Keeps h₁ h₂) : ∀ (hn : ∀ a ∈ ν, h₁.get? a = none) (hI : ∀ a ∈ ν, ∃ o, h₂.get? a = some o), Rep B (ν ++ μ) ρ σ h₂ := fun hn hI => by
  have q : ∀ a o, h₁.get? a = some o → a ∉ μ → a ∉ ρ → a ∉ ν ++ μ ∧ a ∉ ρ := fun a o e n1 n2 => ⟨fun m => by
    rcases List.mem_append.mp m with m | m
    · rw [hn a m] at e; cases e
    · exact n1 m, n2⟩
  have R' := R.keeps k
  refine ⟨R.tab.turn (fun b o _ _ e => k b o e) q, R'.base, R.above, R.len, R.nodup, fun a m m' => ?_, fun a m => ?_, fun a m => ?_, fun i a xs e1 e2 => ?_⟩
  · rcases List.mem_append.mp m' with m' | m'
    · obtain ⟨_, o, e, _⟩ := R.isSome m; rw [hn a m'] at e; cases e
    · exact R.apart a m m'
  · rcases List.mem_append.mp m with m | m
    · exact hI a m
    · exact R'.held a m
  · rcases List.mem_append.mp m with m | m
    · cases z : B.h₀.get? a with
      | none => rfl
      | some o => have := R.base _ _ z; rw [hn a m] at this; cases this
    · exact R.muAbove a m
  · obtain ⟨ws, ⟨o, e, r⟩, r2⟩ := R.obj i a xs e1 e2
    exact ⟨ws, ⟨o, k _ _ e, r⟩, RelVs.keeps k (RelVs.mu q (fun _ _ e => e) r2)⟩

theorem comp_block {A : Around} {μ ρ : Addrs} {env : Env} {s₂ : Shared} {h₁ : Heap} {elt tg iter : Expr} {ifs : List Expr} {scope : Scope} {vc : List (Option Val)} {xs ys : List Val} {I : Addr} {fp : List Addr} {Pi : Nat → Value → Prop} {St : Nat → Heap → Prop}
    {RR : Value → Addr → Result → Shared → Prop}
    (g : Good n A) (hs : env.scope = sc) (R : Rep B μ ρ σ h₁) (F : EnvOK μ ρ h₁ env vs) (hn : h₁.get? I = none) (k₂ : Keeps h₁ s₂.heap) (W : Walks B.prog B.w A I fp [I] xs.length Pi St) (st : St 0 s₂.heap)
    (hfp : ∀ b ∈ fp, b ≠ I → ∃ o, h₁.get? b = some o) (hq : ∀ j h, St j h → ∃ o T, h.get? I = some o ∧ o.cls = .type T ∧ quietIter T = true) (hit : ∀ (j : Nat) (y : Value) (x : Val), Pi j y → xs[j]? = some x → RelV μ ρ h₁ x y) (hsz : xs.length ≤ sizeLine)
    (hkind : scope.kind = .function) (hnd : (scope.names.map (·.1)).Nodup) (hcell : ∀ y ∈ scope.names, y.2 ≠ .cell) (hsee : Sees scope sc vs vc)
    (hc : Cp B n (relS scope sc) σ tg ifs elt vc xs ys)
    (hRR : ∀ D C h tk m' ws, h₁.get? D = none → h₁.get? C = none → D ≠ C → Keeps h₁ h → LS h D (List.toArray ws) → RelVs (D :: C :: μ) ρ h ys ws → h.Ns C m' → RR (.ref D) C (.ok .next) { s₂ with heap := h, toks := tk }) :
    wpAny (model B.prog B.w) A (newList []) (fun acc s₃ => wpAny (model B.prog B.w) A (newFunctionEnv scope env.globals (closL env.cells scope.names []) [] env.qual none .none (some env)) (fun cenv s₄ =>
      codeAny (model B.prog B.w) A (.compStart (.ListComp elt [⟨tg, iter, ifs, 0⟩] scope pos) 0 (.ref I) acc { cenv with scope := relabel scope env }) (RR acc cenv.locals) s₄) NoE s₃) NoE s₂ := by
  refine wpAny_newObj_type (wpAny_newFunctionEnv hcell (by intro y hy; simp at hy) (fun h₃ hns hsb => ?_) hkind)
  dsimp only at hns hsb ⊢
  generalize hH2 : s₂.heap.push { cls := .type "list", dict := none, data := .seq ([] : List Value).toArray } = H2 at hns hsb ⊢
  generalize hDe : s₂.heap.objs.size = D at *
  generalize hCe : H2.objs.size = C at *
  have hCD : C = D + 1 := by rw [← hCe, ← hH2, Heap.size_push, hDe]
  have hD₂ : s₂.heap.get? D = none := by
    cases q : s₂.heap.get? D with
    | none => rfl
    | some o => have := Heap.lt_size q; rw [hDe] at this; exact absurd this (Nat.lt_irrefl _)
  have hC₂ : s₂.heap.get? C = none := by
    cases q : s₂.heap.get? C with
    | none => rfl
    | some o => have := Heap.lt_size q; rw [hDe, hCD] at this; exact absurd this (Nat.not_lt.mpr (Nat.le_succ D))
  have none₁ : ∀ a, s₂.heap.get? a = none → h₁.get? a = none := fun a e => by
    cases q : h₁.get? a with
    | none => rfl
    | some o => rw [k₂ _ _ q] at e; cases e
  have hD₁ := none₁ D hD₂
  have hC₁ := none₁ C hC₂
  have hDC : D ≠ C := by rw [hCD]; exact Nat.ne_of_lt (Nat.lt_succ_self _)
  have hI₂ : ∃ o, s₂.heap.get? I = some o := by obtain ⟨o, _, e, _⟩ := hq _ _ st; exact ⟨o, e⟩
  have hID : I ≠ D := by rintro rfl; obtain ⟨o, e⟩ := hI₂; rw [hD₂] at e; cases e
  have hIC : I ≠ C := by rintro rfl; obtain ⟨o, e⟩ := hI₂; rw [hC₂] at e; cases e
  have k₃' : Keeps s₂.heap h₃ := fun b o e => hsb.extBut b o (by rintro rfl; rw [hC₂] at e; cases e) (Heap.get?_push_of_some _ (by rw [← hH2]; exact Heap.get?_push_of_some _ e))
  have hacc : LS h₃ D (List.toArray []) := by
    have e0 : H2.get? D = some { cls := .type "list", dict := none, data := .seq ([] : List Value).toArray } := by rw [← hH2, ← hDe]; exact Heap.get?_push_size _ rfl
    exact ⟨_, hsb.extBut _ _ hDC (Heap.get?_push_of_some _ e0), 0, rfl⟩
  have k₃ : Keeps h₁ h₃ := k₂.trans k₃'
  have hC₃ : ∃ o, h₃.get? C = some o := by obtain ⟨o, _, _, ho, _⟩ := hns; exact ⟨o, ho⟩
  have hI₃ : ∃ o, h₃.get? I = some o := by obtain ⟨o, e⟩ := hI₂; exact ⟨o, k₃' _ _ e⟩
  have hD₃ : ∃ o, h₃.get? D = some o := by obtain ⟨o, e, _⟩ := hacc; exact ⟨o, e⟩
  have R₃ : Rep B ([D, C, I] ++ μ) ρ σ h₃ := R.addMus k₃ (by
    intro a m
    simp only [List.mem_cons, List.not_mem_nil, or_false] at m
    rcases m with rfl | rfl | rfl <;> assumption) (by
    intro a m
    simp only [List.mem_cons, List.not_mem_nil, or_false] at m
    rcases m with rfl | rfl | rfl <;> assumption)
  have avoid : ∀ a o, h₁.get? a = some o → a ∉ μ → a ∉ ρ → a ∉ [D, C, I] ++ μ ∧ a ∉ ρ := fun a o e n1 n2 => ⟨fun m => by
    simp only [List.cons_append, List.nil_append, List.mem_cons] at m
    rcases m with rfl | rfl | rfl | m
    · rw [hD₁] at e; cases e
    · rw [hC₁] at e; cases e
    · rw [hn] at e; cases e
    · exact n1 m, n2⟩
  have up : ∀ {x : Val} {v : Value} {h : Heap}, Keeps h₁ h → RelV μ ρ h₁ x v → RelV ([D, C, I] ++ μ) ρ h x v := fun k r => RelV.keeps k (RelV.mu avoid (fun _ _ e => e) r)
  have hIρ : ∀ b ∈ [D, C, I], b ∉ ρ := fun b m q => R₃.apart b q (List.mem_append_left _ m)
  subst hs
  -- the comprehension's own frame
  let cl := closL env.cells scope.names []
  have hfreeC : ∀ x, (x, NameKind.free) ∈ scope.names → ∃ c, env.cells.lookup x = some c ∧ cl.lookup x = some c := fun x m => by
    obtain ⟨i, hi⟩ := List.getElem?_of_mem m
    obtain ⟨j, kd, hj, hkd, _⟩ := hsee.1 i x hi
    obtain ⟨c, _, hc, _⟩ := F.cell j x kd hj hkd
    exact ⟨c, hc, by show (closL env.cells scope.names []).lookup x = _; rw [closL_free _ _ hnd m, hc]; rfl⟩
  have hclB : ∀ x c, cl.lookup x = some c → env.cells.lookup x = some c ∧ (x, NameKind.free) ∈ scope.names := fun x c h => by
    rcases closL_mem _ _ h with h | ⟨h1, h2⟩
    · cases h
    · obtain ⟨c', hc', _⟩ := hfreeC x h1
      rw [hc'] at h2
      exact ⟨by rw [h2]; exact hc', h1⟩
  have F₃ : EnvOK ([D, C, I] ++ μ) ρ h₃ (compEnvC scope cl C env) vc := by
    refine ⟨hkind, F.glob, F.blt, ?_, ⟨_, hns, fun i x v e1 e2 => ?_⟩, fun i x kd e1 hkd => ?_, fun x y c e1 e2 => ?_, by simp [compEnvC], fun x c e1 e2 => ?_⟩
    · show ((relabel scope env).names.map (·.1)).Nodup
      rw [relabel_eq, relS_names]; exact hnd
    · have e1' : (relS scope env.scope).names[i]? = some (x, .local) := by rw [← relabel_eq]; exact e1
      rcases relS_back e1' with h | ⟨h, _⟩
      · exact absurd e2 (hsee.2 i x v h)
      · cases h
    · have e1' : (relS scope env.scope).names[i]? = some (x, kd) := by rw [← relabel_eq]; exact e1
      have hfr : scope.names[i]? = some (x, .free) := by
        rcases relS_back e1' with h | ⟨_, h, _⟩
        · rcases hkd with rfl | rfl
          · exact absurd rfl (hcell _ (List.mem_of_getElem? h))
          · exact h
        · exact h
      obtain ⟨j, kd', hj, hkd', hv⟩ := hsee.1 i x hfr
      obtain ⟨c, v₀, hc, hcl, hcv⟩ := F.cell j x kd' hj hkd'
      obtain ⟨c', hc', hcl'⟩ := hfreeC x (List.mem_of_getElem? hfr)
      rw [hc] at hc'; cases hc'
      exact ⟨c, v₀, hcl', hcl.keeps k₃, fun v e2 => let ⟨v', a, b⟩ := hcv v (hv v e2); ⟨v', a, up k₃ b⟩⟩
    · exact F.apart x y c (hclB x c e1).1 (hclB y c e2).1
    · have h1 := hclB x c e1
      obtain ⟨i, hi⟩ := List.getElem?_of_mem h1.2
      have hk' : env.kindOf x = some .cell := by
        have e2' : (relS scope env.scope).names.lookup x = some .cell := by rw [← relabel_eq]; exact e2
        have hnd' : ((relS scope env.scope).names.map (·.1)).Nodup := by rw [relS_names]; exact hnd
        rcases relS_free (sc := env.scope) hi with q | q
        · rw [lookup_of_nodup hnd' q] at e2'; cases e2'
        · rcases relS_back q with q | ⟨_, _, q⟩
          · rw [hi] at q; cases q
          · exact q
      exact List.mem_append_right _ (F.cellIn x c h1.1 hk')
  have st₃ : St 0 h₃ := W.frame _ _ _ st fun b _ o e => k₃' b o e
  have hCf : ∀ b ∈ fp, b ≠ C ∧ b ≠ D := fun b hb => by
    by_cases q : b = I
    · subst q; exact ⟨hIC, hID⟩
    · obtain ⟨o, e⟩ := hfp b hb q
      exact ⟨(by rintro rfl; rw [hC₁] at e; cases e), (by rintro rfl; rw [hD₁] at e; cases e)⟩
  have loop : ∀ s₃ : Shared, s₃ = { s₂ with heap := h₃, toks := s₂.toks + ([] : List (Str × Value)).length } →
      codeAny (model B.prog B.w) A (.compLoop (.ListComp elt [⟨tg, iter, ifs, 0⟩] scope pos) 0 (.ref I) (.ref D) (compEnvC scope cl C env)) (RR (.ref D) C) s₃ := by
    rintro s₃ rfl
    refine compLoop_gen (fun m s' => ∃ (j : Nat) (vj : List (Option Val)) (done todo : List Val) (ws : List Value) (h' : Heap) (tk' : Nat), s' = { s₂ with heap := h', toks := tk' } ∧ m = xs.length - j ∧ j ≤ xs.length ∧ St j h' ∧ Keeps h₁ h' ∧
      Rep B ([D, C, I] ++ μ) ρ σ h' ∧ EnvOK ([D, C, I] ++ μ) ρ h' (compEnvC scope cl C env) vj ∧ LS h' D (List.toArray ws) ∧ RelVs ([D, C, I] ++ μ) ρ h' done ws ∧ done.length ≤ j ∧ ys = done ++ todo ∧ Cp B n (relS scope env.scope) σ tg ifs elt vj (xs.drop j) todo) ?_ xs.length
      ⟨0, vc, [], ys, [], h₃, _, rfl, by simp, Nat.zero_le _, st₃, k₃, R₃, F₃, hacc, by unfold RelVs; rfl, by simp, by simp, by simpa using hc⟩
    rintro m s' ⟨j, vj, done, todo, ws, h', tk', rfl, rfl, hj, stj, kj, Rj, Fj, hl, hr, hdl, hys, Cj⟩
    have inI : I ∈ [D, C, I] ++ μ := by simp
    have inD : D ∈ [D, C, I] ++ μ := by simp
    have notI : ∀ b o, h₁.get? b = some o → b ≠ I := fun b o e q => by rw [q, hn] at e; cases e
    by_cases hlt : j < xs.length
    · obtain ⟨x, hx⟩ : ∃ x, xs[j]? = some x := ⟨xs[j], List.getElem?_eq_getElem hlt⟩
      have hdrop : xs.drop j = x :: xs.drop (j + 1) := by
        rw [List.drop_eq_getElem_cons hlt]
        have := List.getElem?_eq_getElem hlt
        rw [hx] at this; cases this; rfl
      rw [hdrop] at Cj
      refine W.item j _ _ _ hlt stj fun v h₄ t₄ hp st₄ hk₄ => ?_
      have kI : ButI I h' h₄ := fun b o nb e => hk₄ b o (by simpa using nb) e
      have hI₄ : ∃ o, h₄.get? I = some o := by obtain ⟨o, _, e, _⟩ := hq _ _ st₄; exact ⟨o, e⟩
      have X4 : ExtN (fun b => b = I) ρ h' ρ h₄ := ExtN.of_keeps fun b o nb e => kI b o nb e
      have w4 : ∀ b, b = I → b ∈ [D, C, I] ++ μ := fun b q => q ▸ inI
      have k₄ : Keeps h₁ h₄ := fun b o e => kI b o (notI b o e) (kj b o e)
      have R₄ := Rj.butI inI kI hI₄
      have F₄ : EnvOK ([D, C, I] ++ μ) ρ h₄ (compEnvC scope cl C env) vj := Fj.butI inI kI (Ne.symm hIC) fun i y kd c e1 hkd e2 => by
        obtain ⟨e3, e4⟩ := hclB y c e2
        obtain ⟨i', hi'⟩ := List.getElem?_of_mem e4
        obtain ⟨jj, kd', hjj, hkd', _⟩ := hsee.1 i' y hi'
        obtain ⟨c', v₀, hc', ⟨o, ho, _⟩, _⟩ := F.cell jj y kd' hjj hkd'
        rw [e3] at hc'; cases hc'
        exact notI c o ho
      have hl₄ : LS h₄ D (List.toArray ws) := by obtain ⟨o, e, r⟩ := hl; exact ⟨o, kI _ _ (Ne.symm hID) e, r⟩
      have hr₄ : RelVs ([D, C, I] ++ μ) ρ h₄ done ws := RelVs.extN X4 (fun b q => .inl (w4 b q)) hr
      have rx : RelV ([D, C, I] ++ μ) ρ h₄ x v := up k₄ (hit j v x hp hx)
      refine letGo_any (s := { s₂ with heap := h₄, toks := t₄ }) (hq _ _ st₄) ?_
      -- what the target's store and the element's value leave
      have after : ∀ (vj' : List (Option Val)) (h₅ : Heap), ButI C h₄ h₅ → St (j + 1) h₅ ∧ Keeps h₁ h₅ ∧ LS h₅ D (List.toArray ws) ∧ (Rep B ([D, C, I] ++ μ) ρ σ h₅ → RelVs ([D, C, I] ++ μ) ρ h₅ done ws) := fun vj' h₅ b5 => by
        refine ⟨W.frame _ _ _ st₄ fun b hb o e => b5 b o (hCf b hb).1 e, fun b o e => b5 b o (by rintro rfl; rw [hC₁] at e; cases e) (k₄ b o e), ?_, fun _ => RelVs.extN (N := fun b => b = C) (ExtN.of_keeps fun b o nb e => b5 b o nb e) (fun b q => by rw [q]; simp) hr₄⟩
        obtain ⟨o, e, r⟩ := hl₄
        exact ⟨o, b5 _ _ hDC e, r⟩
      cases Cj with
      | @keep _ vc' _ y _ ys' ha ht he hrest =>
        refine ha A _ ρ (compEnvC scope cl C env) _ v _ g (relabel_eq scope env) R₄ F₄ rx fun h₅ t₅ b5 R₅ F₅ => ?_
        obtain ⟨st₅, k₅, hl₅, hr₅⟩ := after vc' h₅ b5
        refine ht.run (s := { s₂ with heap := h₅, toks := t₅ }) g (relabel_eq scope env) R₅ F₅ fun h₆ t₆ k₆ => ?_
        simp only [if_true]
        refine he A _ ρ (compEnvC scope cl C env) { s₂ with heap := h₆, toks := t₆ } _ g (relabel_eq scope env) (R₅.keeps k₆) (F₅.keeps R₅ k₆) fun y' h₇ t₇ k₇ ry => ?_
        have k57 := k₆.trans k₇
        have hl₇ : LS h₇ D (List.toArray ws) := by obtain ⟨o, e, r⟩ := hl₅; exact ⟨o, k57 _ _ e, r⟩
        have hwl : ws.length = done.length := RelVs.length hr
        refine wpAny_list_append_plain (s := { s₂ with heap := h₇, toks := t₇ }) hl₇.plain (fun h₈ hl₈' hs₈ => ?_) (by show ws.toArray.size ≤ sizeLine; rw [List.size_toArray, hwl]; omega)
        have hl₈ := LS.of hl₈'
        have b8 : ButI D h₇ h₈ := fun b o nb e => (hs₈.2 b nb).trans e
        have R₇ := (R₅.keeps k₆).keeps k₇
        have F₇ := (F₅.keeps R₅ k₆).keeps (R₅.keeps k₆) k₇
        have R₈ := R₇.butI inD b8 (by obtain ⟨o, e, _⟩ := hl₈; exact ⟨o, e⟩)
        have X8 : ExtN (fun b => b = D) ρ h₇ ρ h₈ := ExtN.of_keeps fun b o nb e => b8 b o nb e
        have w8 : ∀ b, b = D → b ∈ [D, C, I] ++ μ := fun b q => q ▸ inD
        refine ⟨xs.length - (j + 1), by omega, j + 1, vc', done ++ [y], ys', ws ++ [y'], h₈, t₇, rfl, rfl, hlt, W.frame _ _ _ st₅ (fun b hb o e => b8 b o (hCf b hb).2 (k57 b o e)), fun b o e => b8 b o (by rintro rfl; rw [hD₁] at e; cases e) (k57 b o (k₅ b o e)), R₈, ?_, ?_, ?_, by simp; omega, by simp [hys], hrest⟩
        · refine F₇.butI inD b8 (Ne.symm hDC) fun i z kd c e1 hkd e2 => ?_
          obtain ⟨e3, e4⟩ := hclB z c e2
          obtain ⟨i', hi'⟩ := List.getElem?_of_mem e4
          obtain ⟨jj, kd', hjj, hkd', _⟩ := hsee.1 i' z hi'
          obtain ⟨c', v₀, hc', ⟨o, ho, _⟩, _⟩ := F.cell jj z kd' hjj hkd'
          rw [e3] at hc'; cases hc'
          rintro rfl; rw [hD₁] at ho; cases ho
        · have : (List.toArray ws).push y' = List.toArray (ws ++ [y']) := by simp
          rw [← this]; exact hl₈
        · exact RelVs.append (RelVs.extN X8 (fun b q => .inl (w8 b q)) (RelVs.keeps k57 (hr₅ R₅))) (by unfold RelVs; exact ⟨y', [], rfl, RelV.extN X8 (fun b q => .inl (w8 b q)) ry, by unfold RelVs; rfl⟩)
      | @skip _ vc' _ _ _ ha ht hrest =>
        refine ha A _ ρ (compEnvC scope cl C env) _ v _ g (relabel_eq scope env) R₄ F₄ rx fun h₅ t₅ b5 R₅ F₅ => ?_
        obtain ⟨st₅, k₅, hl₅, hr₅⟩ := after vc' h₅ b5
        refine ht.run (s := { s₂ with heap := h₅, toks := t₅ }) g (relabel_eq scope env) R₅ F₅ fun h₆ t₆ k₆ => ?_
        simp only [Bool.false_eq_true, if_false]
        refine ⟨xs.length - (j + 1), by omega, j + 1, vc', done, todo, ws, h₆, t₆, rfl, rfl, hlt, W.frame _ _ _ st₅ (fun b _ o e => k₆ b o e), k₅.trans k₆, R₅.keeps k₆, F₅.keeps R₅ k₆, ?_, RelVs.keeps k₆ (hr₅ R₅), by omega, hys, hrest⟩
        obtain ⟨o, e, r⟩ := hl₅
        exact ⟨o, k₆ _ _ e, r⟩
    · obtain rfl : j = xs.length := Nat.le_antisymm hj (Nat.not_lt.mp hlt)
      refine W.done _ _ _ stj fun h₄ t₄ hk₄ => ?_
      have kI : ButI I h' h₄ := fun b o nb e => hk₄ b o (by simpa using nb) e
      rw [List.drop_length] at Cj
      cases Cj
      rw [List.append_nil] at hys
      subst hys
      obtain ⟨m', hm', _⟩ := Fj.ns
      have X4 : ExtN (fun b => b = I) ρ h' ρ h₄ := ExtN.of_keeps fun b o nb e => kI b o nb e
      have w4 : ∀ b, b = I → b ∈ [D, C, I] ++ μ := fun b q => q ▸ inI
      refine hRR D C h₄ t₄ m' ws hD₁ hC₁ hDC (fun b o e => kI b o (notI b o e) (kj b o e)) (by obtain ⟨o, e, r⟩ := hl; exact ⟨o, kI _ _ (Ne.symm hID) e, r⟩) (RelVs.mu (fun b o _ n1 n2 => ⟨fun m => n1 (by
        rcases List.mem_cons.mp m with rfl | m
        · simp
        · rcases List.mem_cons.mp m with rfl | m
          · simp
          · simp [m]), n2⟩) (fun _ _ e => e) (RelVs.extN X4 (fun b q => .inl (w4 b q)) hr)) ?_
      obtain ⟨o, es, ep, ho, rr⟩ := hm'
      exact ⟨o, es, ep, kI _ _ (Ne.symm hIC) ho, rr⟩
  exact codeAny_compStart_list (loop _ rfl) (anyE (W.self 0 _ _ _ st₃ (loop _ rfl)))
end
end Mine
namespace Mine
open PySem PySem.Spec PySem.Calls PyProof.Rows PySem.W
section
variable {B : Wd} {n : Nat} {sc : Scope} {vs vs₁ vs₂ : List (Option Val)} {σ σ₁ σ₂ : Store} {v a b c : Val} {k : Nat} {pos : Pos} {e l r : Expr} {st : Stmt} {rest : List Stmt} {f : Fl}

structure CompOK (scope : Scope) : Prop where
  kind : scope.kind = .function
  nodup : (scope.names.map (·.1)).Nodup
  nocell : ∀ y ∈ scope.names, y.2 ≠ .cell

theorem CompOK.names {scope : Scope} (C : CompOK scope) : ∀ x ∈ scope.names, x.2 = .local → scope.names.lookup x.1 = some .local := fun x m e => by
  obtain ⟨i, hi⟩ := List.getElem?_of_mem m
  obtain ⟨x1, x2⟩ := x
  simp only at e
  subst e
  exact lookup_of_nodup C.nodup hi
theorem Sees.closure {μ ρ : Addrs} {h : Heap} {env : Env} {scope : Scope} {vc : List (Option Val)} (S : Sees scope env.scope vs vc) (F : EnvOK μ ρ h env vs) : closureFor scope env = pure (closL env.cells scope.names []) :=
  closureFor_is fun x m e => by
    obtain ⟨i, hi⟩ := List.getElem?_of_mem m
    obtain ⟨x1, x2⟩ := x
    simp only at e
    subst e
    obtain ⟨j, kd, hj, hkd, _⟩ := S.1 i x1 hi
    obtain ⟨c, _, hc, _⟩ := F.cell j x1 kd hj hkd
    exact ⟨c, hc⟩

theorem EvN.comp {fr : Bool} {elt tg iter : Expr} {ifs : List Expr} {scope : Scope} {vc : List (Option Val)} {xs ys : List Val} (hI : Itr fr B n sc vs σ iter xs) (C : CompOK scope) (hsee : Sees scope sc vs vc)
    (hc : Cp B n (relS scope sc) σ tg ifs elt vc xs ys) (hf : ∀ env x, foldedSetIterable iter env x = pure x := by intro _ _; rfl) : EvN B n sc vs σ (.ListComp elt [⟨tg, iter, ifs, 0⟩] scope pos) ys := fun A μ ρ env s Q g hs R F P => by
  rw [eval_ListComp]
  refine wpAny_comprehension_free (use := none) rfl (hf env) (Sees.closure (hs ▸ hsee) F) C.kind C.names (hI A μ ρ env s _ g hs R F fun I fp Pi St h₁ h₂ tk k₁ hn k₂ W st hfp hq hit hsz => ?_)
  refine comp_block (s₂ := { s with heap := h₂, toks := tk }) (RR := fun acc C => compPost _ A NoE none Q acc C) g hs (R.keeps k₁) (F.keeps R k₁) hn k₂ W st (fun b hb nb => let ⟨o, e, _⟩ := (hfp b hb nb).1; ⟨o, e⟩) hq hit hsz C.kind C.nodup C.nocell hsee hc ?_
  intro D C' h tk' m' ws hD hC hDC k hl r hns
  refine ⟨m', hns, fun h'' hs'' => ?_⟩
  have b : ButI C' h h'' := fun b o nb e => (hs''.2 b nb).trans e
  have none0 : ∀ a, h₁.get? a = none → s.heap.get? a = none := fun a e => by
    cases q : s.heap.get? a with
    | none => rfl
    | some o => rw [k₁ _ _ q] at e; cases e
  refine P D ws h'' tk' (none0 D hD) (fun x o e => b x o (by rintro rfl; rw [none0 _ hC] at e; cases e) (k _ _ (k₁ _ _ e))) ?_ ?_
  · obtain ⟨o, e, rr⟩ := hl
    exact ⟨o, b _ _ hDC e, rr⟩
  · refine RelVs.mu (fun x o _ n1 n2 => ⟨fun m => n1 ?_, n2⟩) (fun _ _ e => e) (RelVs.extN (N := fun x => x = C') (ExtN.of_keeps fun x o nb e => b x o nb e) (fun x q => by rw [q]; simp) r)
    rcases List.mem_cons.mp m with rfl | m
    · simp
    · simp [m]

theorem swaps_dec (elt : Expr) (gens : List Comprehension) (scope : Scope) (p : Pos) (x : Str) (xp : Pos) (line : Nat) (env : Env) : ∃ b, swapsWith (.ListComp elt gens scope p) (some (.Name x xp)) line env = pure b ∧ (b = true → env.kindOf x = some .local) :=
  ⟨_, rfl, fun h => by
    simp only [Bool.and_eq_true, beq_iff_eq] at h
    exact h.1.1.2⟩

/-- x = [.. for .. in ..] -/
theorem Ex.assignC {fr : Bool} {x : Str} {xp cp : Pos} {kd : NameKind} {elt tg iter : Expr} {ifs : List Expr} {scope : Scope} {vc : List (Option Val)} {xs ys : List Val} (i : Nat) (hi : sc.names[i]? = some (x, kd)) (hk : kd = .local ∨ kd = .cell)
    (hI : Itr fr B n sc vs σ iter xs) (C : CompOK scope) (hsee : Sees scope sc vs vc) (hc : Cp B n (relS scope sc) σ tg ifs elt vc xs ys) (hf : ∀ env x, foldedSetIterable iter env x = pure x := by intro _ _; rfl) :
    Ex B n sc vs σ (.Assign [.Name x xp] (.ListComp elt [⟨tg, iter, ifs, 0⟩] scope cp) pos) .next (vs.set i (some (.list ys))) σ := fun A μ ρ env s Q g hs R F P => by
  obtain ⟨d, hd, hloc⟩ := swaps_dec elt [⟨tg, iter, ifs, 0⟩] scope cp x xp pos.line env
  cases d with
  | false =>
    have hN : EvN B n sc vs σ (.ListComp elt [⟨tg, iter, ifs, 0⟩] scope cp) ys := EvN.comp hI C hsee hc hf
    refine wpAny_Assign_Name (hN.ev A μ ρ env s _ g hs R F fun v' h₁ t₁ X₁ r₁ => ?_) hd
    subst hs
    refine store_name hi hk (R.keeps X₁) (F.keeps R X₁) r₁ fun h₂ t₂ X₂ R₂ F₂ => ?_
    exact ((P.keeps X₁ (R.keeps X₁) F.own).step X₂ R₂ F.own).here R₂ F₂ (by unfold RelF; rfl)
  | true =>
    rw [exec_Assign_Name_used _ _ _ _ hd]
    refine wpAny_bind (wpAny_standAt (wpAny_bind ?_))
    skip
    refine wpAny_bind (wpAny_mono (wpAny_comprehension_free (use := some (PySem.assign (PySem.Expr.Name x xp) env)) (Q := fun _ s' => Q .next s') rfl (hf env) (Sees.closure (hs ▸ hsee) F) C.kind C.names
      (hI A μ ρ env s _ g hs R F fun I fp Pi St h₁ h₂ tk k₁ hn k₂ W st hfp hq hit hsz => ?_)) (fun _ s' hq => wpAny_pure (wpAny_pure hq)) fun _ _ e => e)
    refine comp_block (s₂ := { s with heap := h₂, toks := tk }) (RR := fun acc C => compPost _ A NoE (some (PySem.assign (PySem.Expr.Name x xp) env)) (fun _ s' => Q .next s') acc C) g hs (R.keeps k₁) (F.keeps R k₁) hn k₂ W st (fun b hb nb => let ⟨o, e, _⟩ := (hfp b hb nb).1; ⟨o, e⟩) hq hit hsz C.kind C.nodup C.nocell hsee hc ?_
    intro D C' h tk' m' ws hD hC hDC k hl r hns
    have none0 : ∀ a, h₁.get? a = none → s.heap.get? a = none := fun a e => by
      cases q : s.heap.get? a with
      | none => rfl
      | some o => rw [k₁ _ _ q] at e; cases e
    have kk : Keeps s.heap h := fun b o e => k _ _ (k₁ _ _ e)
    have hCh : ∃ o, h.get? C' = some o := by obtain ⟨o, _, _, ho, _⟩ := hns; exact ⟨o, ho⟩
    have R' : Rep B (C' :: μ) ρ σ h := R.addMu (none0 _ hC) kk hCh
    have F' : EnvOK (C' :: μ) ρ h env vs := F.addMu R (none0 _ hC) kk
    have hDμ : D ∉ C' :: μ := fun m => by
      rcases List.mem_cons.mp m with rfl | m
      · exact hDC rfl
      · obtain ⟨o, e⟩ := R.held D m; rw [none0 _ hD] at e; cases e
    have hDρ : D ∉ ρ := fun m => by obtain ⟨_, o, e, _⟩ := R.isSome m; rw [none0 _ hD] at e; cases e
    have hCμ : C' ∉ μ := fun m => by obtain ⟨o, e⟩ := R.held C' m; rw [none0 _ hC] at e; cases e
    have rl : RelV (C' :: μ) ρ h (.list ys) (.ref D) := by
      unfold RelV
      exact ⟨D, ws, rfl, hDμ, hDρ, hl, RelVs.mu (fun x o _ n1 n2 => ⟨fun m => n1 (List.mem_cons_of_mem _ m), n2⟩) (fun _ _ e => e) r⟩
    skip
    subst hs
    refine wpAny_assign_Name (store_name (s := { s with heap := h, toks := tk' }) hi hk R' F' rl fun h₅ t₅ X₅ R₅ F₅ => ?_)
    have ownC : ¬ Own B env C' := fun q => by
      rcases F.own _ q with m | m
      · exact hCμ m
      · obtain ⟨ps, e, _⟩ := (R.keeps k₁).tab.tab m; rw [hC] at e; cases e
    have hCρ : C' ∉ ρ := fun q => R'.apart _ q List.mem_cons_self
    refine ⟨m', ?_, fun h₆ hs₆ => ?_⟩
    · obtain ⟨o, es, ep, ho, rr⟩ := hns
      exact ⟨o, es, ep, X₅.keep _ _ hCρ ownC ho, rr⟩
    have b6 : ButI C' h₅ h₆ := fun b o nb e => (hs₆.2 b nb).trans e
    have hLC : env.locals ≠ C' := fun q => hCμ (q ▸ F.locIn)
    have R₆ : Rep B μ ρ σ h₆ := R₅.dropI hCμ b6
    have F₆ : EnvOK μ ρ h₆ env (vs.set i (some (.list ys))) := (F₅.butI List.mem_cons_self b6 hLC fun j y kd' c e1 hkd e2 q => by
      obtain ⟨c', v₀, e3, ⟨o, ho, _⟩, _⟩ := F.cell j y kd' e1 hkd
      rw [e2] at e3; cases e3
      rw [q, none0 _ hC] at ho; cases ho).lessMu (fun a m => List.mem_cons_of_mem _ m) F.locIn F.cellIn
    have X₆ : ExtN (Own B env) ρ s.heap ρ h₆ := by
      refine ExtN.skipI ?_ (.inl (none0 _ hC)) b6
      exact ExtN.trans (B := B) (μ := C' :: μ) (σ := σ) (Keeps.own (μ := μ) kk) R' (fun b q => (F.own b q).imp (List.mem_cons_of_mem _) (fun m => m)) X₅
    exact P ρ .next h₆ t₅ X₆ R₆ F₆ (by unfold RelF; rfl)

-- what loops run over
theorem Itr.list {xs : List Val} (h : Ev B n sc vs σ e (.list xs)) (hz : xs.length ≤ sizeLine) : Itr true B n sc vs σ e xs := fun A μ ρ env s Q g hs R F P => by
  refine h A μ ρ env s _ g hs R F fun x h₁ t₁ k₁ r => ?_
  unfold RelV at r
  obtain ⟨l, ws, rfl, hlμ, hlρ, hl, r⟩ := r
  have hI : h₁.get? h₁.objs.size = none := by
    cases q : h₁.get? h₁.objs.size with
    | none => rfl
    | some o => exact absurd (Heap.lt_size q) (Nat.lt_irrefl _)
  have hlt : l ≠ h₁.objs.size := by rintro q; obtain ⟨o, e, _⟩ := hl; rw [q, hI] at e; cases e
  have hsz : (List.toArray ws).size = xs.length := by rw [List.size_toArray, RelVs.length r]
  have hl := LS.is hl
  refine wpAny_pyIter_list (s := { s with heap := h₁, toks := t₁ }) hl ?_
  refine P h₁.objs.size [h₁.objs.size, l] _ _ h₁ _ t₁ k₁ hI (Keeps.push _) (hsz ▸ Walks.list g.handled h₁.objs.size l hlt (List.toArray ws)) ⟨⟨_, Heap.get?_push_size _ rfl, rfl, rfl⟩, hl.push _⟩ (fun b hb nb => ?_) (fun j h st => ?_) (fun j y x hp hx => ?_) hz
  · simp only [List.mem_cons, List.not_mem_nil, or_false] at hb
    rcases hb with rfl | rfl
    · exact absurd rfl nb
    · obtain ⟨o, e, hc', _⟩ := hl
      exact ⟨⟨o, e, by rw [hc']; intro q; cases q⟩, fun _ => ⟨hlμ, hlρ⟩⟩
  · obtain ⟨⟨o, e, hc, _⟩, _⟩ := st
    exact ⟨o, "list_iterator", e, hc, by decide⟩
  · obtain ⟨z, e, rz⟩ := RelVs.at r hx
    have hp' : (List.toArray ws)[j]? = some y := hp
    rw [List.getElem?_toArray, e] at hp'
    cases hp'
    exact rz
theorem Itr.own {xs : List Val} {i : Nat} (h : Ev B n sc vs σ e (.ref i)) (hx : σ[i]? = some xs) (hz : xs.length ≤ sizeLine) : Itr false B n sc vs σ e xs := fun A μ ρ env s Q g hs R F P => by
  refine h A μ ρ env s _ g hs R F fun x h₁ t₁ k₁ r => ?_
  unfold RelV at r
  obtain ⟨l, hl, rfl⟩ := r
  obtain ⟨ws, hl, r⟩ := (R.keeps k₁).obj i l xs hl hx
  have hI : h₁.get? h₁.objs.size = none := by
    cases q : h₁.get? h₁.objs.size with
    | none => rfl
    | some o => exact absurd (Heap.lt_size q) (Nat.lt_irrefl _)
  have hlt : l ≠ h₁.objs.size := by rintro q; obtain ⟨o, e, _⟩ := hl; rw [q, hI] at e; cases e
  have hsz : (List.toArray ws).size = xs.length := by rw [List.size_toArray, RelVs.length r]
  have hl := LS.is hl
  refine wpAny_pyIter_list (s := { s with heap := h₁, toks := t₁ }) hl ?_
  refine P h₁.objs.size [h₁.objs.size, l] _ _ h₁ _ t₁ k₁ hI (Keeps.push _) (hsz ▸ Walks.list g.handled h₁.objs.size l hlt (List.toArray ws)) ⟨⟨_, Heap.get?_push_size _ rfl, rfl, rfl⟩, hl.push _⟩ (fun b hb nb => ?_) (fun j h st => ?_) (fun j y x hp hx => ?_) hz
  · simp only [List.mem_cons, List.not_mem_nil, or_false] at hb
    rcases hb with rfl | rfl
    · exact absurd rfl nb
    · obtain ⟨o, e, hc', _⟩ := hl
      exact ⟨⟨o, e, by rw [hc']; intro q; cases q⟩, fun q => by cases q⟩
  · obtain ⟨⟨o, e, hc, _⟩, _⟩ := st
    exact ⟨o, "list_iterator", e, hc, by decide⟩
  · obtain ⟨z, e, rz⟩ := RelVs.at r hx
    have hp' : (List.toArray ws)[j]? = some y := hp
    rw [List.getElem?_toArray, e] at hp'
    cases hp'
    exact rz
noncomputable def chars (x : Str) : List Val := x.cps.toList.map fun c => .str ⟨#[c]⟩
theorem Itr.str {x : Str} (h : Ev B n sc vs σ e (.str x)) (hz : x.length ≤ sizeLine) : Itr true B n sc vs σ e (chars x) := fun A μ ρ env s Q g hs R F P => by
  refine h A μ ρ env s _ g hs R F fun y h₁ t₁ k₁ r => ?_
  unfold RelV at r
  obtain ⟨t, rfl⟩ := r
  have hI : h₁.get? h₁.objs.size = none := by
    cases q : h₁.get? h₁.objs.size with
    | none => rfl
    | some o => exact absurd (Heap.lt_size q) (Nat.lt_irrefl _)
  have hsz : x.cps.size = (chars x).length := by unfold chars; simp
  have item : ∀ (j : Nat) (y : Value) (z : Val), SignAt x j y → (chars x)[j]? = some z → RelV μ ρ h₁ z y := fun j y z hp hx => by
    obtain ⟨c, u, e, rfl⟩ := hp
    unfold chars at hx
    rw [List.getElem?_map, Array.getElem?_toList, e] at hx
    cases hx
    unfold RelV
    exact ⟨u, rfl⟩
  have len : (chars x).length ≤ sizeLine := by rw [← hsz]; exact hz
  cases ha : x.cps.all (· < 128)
  · refine wpAny_pyIter_wide ha ?_
    refine P h₁.objs.size [h₁.objs.size] _ _ h₁ _ t₁ k₁ hI (Keeps.push _) (hsz ▸ Walks.strWide g.handled h₁.objs.size x t) ⟨_, Heap.get?_push_size _ rfl, rfl, rfl⟩ (fun b hb nb => absurd (List.mem_singleton.mp hb) nb) (fun j h st => ?_) item len
    obtain ⟨o, e, hc, _⟩ := st
    exact ⟨o, "str_iterator", e, hc, by decide⟩
  · refine wpAny_pyIter_ascii ha ?_
    refine P h₁.objs.size [h₁.objs.size] _ _ h₁ _ t₁ k₁ hI (Keeps.push _) (hsz ▸ Walks.strAscii g.handled h₁.objs.size x t) ⟨_, Heap.get?_push_size _ rfl, rfl, rfl⟩ (fun b hb nb => absurd (List.mem_singleton.mp hb) nb) (fun j h st => ?_) item len
    obtain ⟨o, e, hc, _⟩ := st
    exact ⟨o, "str_ascii_iterator", e, hc, by decide⟩

/-- a while -/
inductive Wh (B : Wd) (n : Nat) (sc : Scope) (t : Expr) (body : List Stmt) : Nat → List (Option Val) → Store → Fl → List (Option Val) → Store → Prop
  | done {m : Nat} {vs : List (Option Val)} {σ : Store} : Tr B n sc vs σ t false → Wh B n sc t body m vs σ .next vs σ
  | next {m : Nat} {vs vs₁ vs₂ : List (Option Val)} {σ σ₁ σ₂ : Store} {f : Fl} : Tr B n sc vs σ t true → Exs B n sc vs σ body .next vs₁ σ₁ → Wh B n sc t body m vs₁ σ₁ f vs₂ σ₂ → Wh B n sc t body (m + 1) vs σ f vs₂ σ₂
theorem Ex.whileL {t : Expr} {body : List Stmt} {m : Nat} (h : Wh B n sc t body m vs σ .next vs₁ σ₁) : Ex B n sc vs σ (.While t body [] pos) .next vs₁ σ₁ := fun A μ ρ env s Q g hs R F P => by
  refine wpAny_While (codeAny_whileLoop (fun m s' => ∃ (ρ' : Addrs) (vs' : List (Option Val)) (σ' : Store) (h' : Heap) (tk' : Nat), s' = { s with heap := h', toks := tk' } ∧ ExtN (Own B env) ρ s.heap ρ' h' ∧ Rep B μ ρ' σ' h' ∧ EnvOK μ ρ' h' env vs' ∧ Wh B n sc t body m vs' σ' .next vs₁ σ₁) ?_ m
    ⟨ρ, vs, σ, s.heap, s.toks, rfl, ExtN.refl _ _ _, R, F, h⟩)
  rintro m s' ⟨ρ', vs', σ', h', tk', rfl, X, R', F', W⟩
  cases W with
  | done ht =>
    refine anyE (ht A μ ρ' env _ _ g hs R' F' fun h₁ t₁ k₁ => ?_)
    simp only [Bool.false_eq_true, if_false]
    refine wpAny_execs_nil ?_
    have k : ExtN (Own B env) ρ' h' ρ' h₁ := Keeps.own (μ := μ) k₁
    exact P ρ' .next h₁ t₁ (ExtN.trans X R' F.own k) (R'.keeps k₁) (F'.keeps R' k₁) (by unfold RelF; rfl)
  | @next m' _ vs₂ _ _ σ₂ _ _ ht hb hw =>
    refine anyE (ht A μ ρ' env _ _ g hs R' F' fun h₁ t₁ k₁ => ?_)
    simp only [if_true]
    have k : ExtN (Own B env) ρ' h' ρ' h₁ := Keeps.own (μ := μ) k₁
    refine anyE (hb A μ ρ' env { s with heap := h₁, toks := t₁ } _ g hs (R'.keeps k₁) (F'.keeps R' k₁) fun ρ₂ f₂ h₂ t₂ X₂ R₂ F₂ r₂ => ?_)
    unfold RelF at r₂; subst r₂
    exact ⟨m', Nat.lt_succ_self _, ρ₂, _, _, h₂, t₂, rfl, ExtN.trans (ExtN.trans X R' F.own k) (R'.keeps k₁) F.own X₂, R₂, F₂, hw⟩
end
end Mine
namespace Mine
open PySem PySem.Spec PySem.Calls PyProof.Rows PySem.W
section
variable {B : Wd} {n : Nat} {sc : Scope} {vs vs₁ vs₂ : List (Option Val)} {σ σ₁ σ₂ : Store} {v a b c : Val} {k : Nat} {pos : Pos} {e l r : Expr} {st : Stmt} {rest : List Stmt} {f : Fl}

theorem Op2.add {x y : Int} : Op2 B n σ (.int x) (.int y) (binaryOp .Add) (.int (x + y)) := fun A μ ρ s v w Q g R r1 r2 P => by
  unfold RelV at r1 r2; obtain ⟨t, rfl⟩ := r1; obtain ⟨u, rfl⟩ := r2
  exact PySem.P.add_int P.int
theorem Op2.sub {x y : Int} : Op2 B n σ (.int x) (.int y) (binaryOp .Sub) (.int (x - y)) := fun A μ ρ s v w Q g R r1 r2 P => by
  unfold RelV at r1 r2; obtain ⟨t, rfl⟩ := r1; obtain ⟨u, rfl⟩ := r2
  exact PySem.P.sub_int P.int
theorem Op2.mul {x y : Int} (hm : IntMulOk x y) : Op2 B n σ (.int x) (.int y) (binaryOp .Mult) (.int (x * y)) := fun A μ ρ s v w Q g R r1 r2 P => by
  unfold RelV at r1 r2; obtain ⟨t, rfl⟩ := r1; obtain ⟨u, rfl⟩ := r2
  exact PySem.P.mul_int P.int hm
theorem Op2.pow {x y : Int} (hn : 0 ≤ y) (hsz : (Builtin.Int.intBits x : Int) * y ≤ 2 ^ 27) : Op2 B n σ (.int x) (.int y) (binaryOp .Pow) (.int (x ^ y.toNat)) := fun A μ ρ s v w Q g R r1 r2 P => by
  unfold RelV at r1 r2; obtain ⟨t, rfl⟩ := r1; obtain ⟨u, rfl⟩ := r2
  exact PyProof.Rows.pow_int hn hsz P.int
theorem Op2.shl {x y : Int} (hn : 0 ≤ y) (hsz : (Builtin.Int.intBits x : Int) + y ≤ 2 ^ 27) : Op2 B n σ (.int x) (.int y) (binaryOp .LShift) (.int (x * 2 ^ y.toNat)) := fun A μ ρ s v w Q g R r1 r2 P => by
  unfold RelV at r1 r2; obtain ⟨t, rfl⟩ := r1; obtain ⟨u, rfl⟩ := r2
  exact PyProof.Rows.lshift_int hn hsz P.int
theorem Op2.shr {x y : Int} (hn : 0 ≤ y) : Op2 B n σ (.int x) (.int y) (binaryOp .RShift) (.int (x.fdiv (2 ^ y.toNat))) := fun A μ ρ s v w Q g R r1 r2 P => by
  unfold RelV at r1 r2; obtain ⟨t, rfl⟩ := r1; obtain ⟨u, rfl⟩ := r2
  exact PyProof.Rows.rshift_int hn P.int
theorem Op2.band {x y : Int} : Op2 B n σ (.int x) (.int y) (binaryOp .BitAnd) (.int (Builtin.bitAnd x y)) := fun A μ ρ s v w Q g R r1 r2 P => by
  unfold RelV at r1 r2; obtain ⟨t, rfl⟩ := r1; obtain ⟨u, rfl⟩ := r2
  exact PyProof.Rows.and_int P.int
theorem Op2.bxor {x y : Int} : Op2 B n σ (.int x) (.int y) (binaryOp .BitXor) (.int (Builtin.bitXor x y)) := fun A μ ρ s v w Q g R r1 r2 P => by
  unfold RelV at r1 r2; obtain ⟨t, rfl⟩ := r1; obtain ⟨u, rfl⟩ := r2
  exact PyProof.Rows.xor_int P.int
theorem Op2.fdiv {x y : Int} (hb : y ≠ 0) (hp : Builtin.divisionGoesByPylong x y = false) : Op2 B n σ (.int x) (.int y) (binaryOp .FloorDiv) (.int (x.fdiv y)) := fun A μ ρ s v w Q g R r1 r2 P => by
  unfold RelV at r1 r2; obtain ⟨t, rfl⟩ := r1; obtain ⟨u, rfl⟩ := r2
  exact PyProof.Rows.floordiv_int hb P.int (.inl hp)
theorem Op2.mod {x y : Int} (hb : y ≠ 0) : Op2 B n σ (.int x) (.int y) (binaryOp .Mod) (.int (x.fmod y)) := fun A μ ρ s v w Q g R r1 r2 P => by
  unfold RelV at r1 r2; obtain ⟨t, rfl⟩ := r1; obtain ⟨u, rfl⟩ := r2
  exact PyProof.Rows.mod_int' hb P.int
theorem Op2.iadd {x y : Int} : Op2 B n σ (.int x) (.int y) (inplaceOp .Add) (.int (x + y)) := fun A μ ρ s v w Q g R r1 r2 P => by
  unfold RelV at r1 r2; obtain ⟨t, rfl⟩ := r1; obtain ⟨u, rfl⟩ := r2
  exact PySem.P.iadd_int P.int
theorem Op2.isub {x y : Int} : Op2 B n σ (.int x) (.int y) (inplaceOp .Sub) (.int (x - y)) := fun A μ ρ s v w Q g R r1 r2 P => by
  unfold RelV at r1 r2; obtain ⟨t, rfl⟩ := r1; obtain ⟨u, rfl⟩ := r2
  exact PySem.P.isub_int P.int
theorem Op2.imul {x y : Int} (hm : IntMulOk x y) : Op2 B n σ (.int x) (.int y) (inplaceOp .Mult) (.int (x * y)) := fun A μ ρ s v w Q g R r1 r2 P => by
  unfold RelV at r1 r2; obtain ⟨t, rfl⟩ := r1; obtain ⟨u, rfl⟩ := r2
  exact PySem.P.imul_int P.int hm
theorem Op2.ibxor {x y : Int} : Op2 B n σ (.int x) (.int y) (inplaceOp .BitXor) (.int (Builtin.bitXor x y)) := fun A μ ρ s v w Q g R r1 r2 P => by
  unfold RelV at r1 r2; obtain ⟨t, rfl⟩ := r1; obtain ⟨u, rfl⟩ := r2
  exact PyProof.Rows.ixor_int P.int
theorem Op2.eq {x y : Int} : Op2 B n σ (.int x) (.int y) (compareOp .Eq) (.bool (x == y)) := fun A μ ρ s v w Q g R r1 r2 P => by
  unfold RelV at r1 r2; obtain ⟨t, rfl⟩ := r1; obtain ⟨u, rfl⟩ := r2
  exact PySem.P.eq_int P.bool
theorem Op2.lt {x y : Int} : Op2 B n σ (.int x) (.int y) (compareOp .Lt) (.bool (decide (x < y))) := fun A μ ρ s v w Q g R r1 r2 P => by
  unfold RelV at r1 r2; obtain ⟨t, rfl⟩ := r1; obtain ⟨u, rfl⟩ := r2
  exact PySem.P.lt_int P.bool
theorem Op2.le {x y : Int} : Op2 B n σ (.int x) (.int y) (compareOp .LtE) (.bool (decide (x ≤ y))) := fun A μ ρ s v w Q g R r1 r2 P => by
  unfold RelV at r1 r2; obtain ⟨t, rfl⟩ := r1; obtain ⟨u, rfl⟩ := r2
  exact PySem.P.le_int P.bool
theorem Op2.gt {x y : Int} : Op2 B n σ (.int x) (.int y) (compareOp .Gt) (.bool (decide (x > y))) := fun A μ ρ s v w Q g R r1 r2 P => by
  unfold RelV at r1 r2; obtain ⟨t, rfl⟩ := r1; obtain ⟨u, rfl⟩ := r2
  exact PySem.P.gt_int P.bool
theorem Op2.seq {x y : Str} : Op2 B n σ (.str x) (.str y) (compareOp .Eq) (.bool (x == y)) := fun A μ ρ s v w Q g R r1 r2 P => by
  unfold RelV at r1 r2; obtain ⟨t, rfl⟩ := r1; obtain ⟨u, rfl⟩ := r2
  exact PySem.P.eq_str (by rw [SeqAt.str_beq]; exact P.bool)
theorem Op2.sne {x y : Str} : Op2 B n σ (.str x) (.str y) (compareOp .NotEq) (.bool (x != y)) := fun A μ ρ s v w Q g R r1 r2 P => by
  unfold RelV at r1 r2; obtain ⟨t, rfl⟩ := r1; obtain ⟨u, rfl⟩ := r2
  exact PySem.P.ne_str (by show Q (.bool (!(x.cps.toList == y.cps.toList))) _; rw [SeqAt.str_beq]; exact P.bool)
theorem Op1.neg {x : Int} : Op1 B n σ (.int x) (unaryOp .USub) (.int (-x)) := fun A μ ρ s v Q g R r1 P => by
  unfold RelV at r1; obtain ⟨t, rfl⟩ := r1
  exact PySem.P.neg_int P.int
theorem Op1.inv {x : Int} : Op1 B n σ (.int x) (unaryOp .Invert) (.int (-x - 1)) := fun A μ ρ s v Q g R r1 P => by
  unfold RelV at r1; obtain ⟨t, rfl⟩ := r1
  refine PyProof.Rows.invert_int ?_
  have e : Builtin.bitNot x = -x - 1 := rfl
  rw [e]; exact P.int
theorem Tv.int {x : Int} : Tv B n σ (.int x) (x != 0) := fun A μ ρ s v Q g R r1 P => by
  unfold RelV at r1; obtain ⟨t, rfl⟩ := r1
  exact PySem.P.truthy_int P.here
theorem Tv.none : Tv B n σ .none false := fun A μ ρ s v Q g R r1 P => by
  unfold RelV at r1; subst r1
  exact PyProof.Rows.truthy_none P.here
theorem Tv.str {x : Str} (hz : x.length ≤ sizeLine) : Tv B n σ (.str x) ((x.length : Int) != 0) := fun A μ ρ s v Q g R r1 P => by
  unfold RelV at r1; obtain ⟨t, rfl⟩ := r1
  have := sizeLine_eq
  exact PySem.P.truthy_str (by omega) P.tok
noncomputable def Val.isN : Val → Bool
  | .none => true
  | _ => false
noncomputable def Val.isG : Val → Bool
  | .glob _ => true
  | _ => false
theorem RelV.isN {μ ρ : Addrs} {h : Heap} {x : Value} (r : RelV μ ρ h a x) (hg : a.isG = false) : (x == Value.none) = a.isN := by
  cases a with
  | none => unfold RelV at r; subst r; rfl
  | bool => unfold RelV at r; subst r; rfl
  | int => unfold RelV at r; obtain ⟨t, rfl⟩ := r; rfl
  | str => unfold RelV at r; obtain ⟨t, rfl⟩ := r; rfl
  | list => unfold RelV at r; obtain ⟨t, _, rfl, _⟩ := r; rfl
  | tup => unfold RelV at r; obtain ⟨t, _, rfl, _⟩ := r; rfl
  | ref => unfold RelV at r; obtain ⟨t, _, rfl⟩ := r; rfl
  | hdr => unfold RelV at r; obtain ⟨t, _, _, rfl, _⟩ := r; rfl
  | glob => cases hg
  | obj => unfold RelV at r; obtain ⟨rfl, _⟩ := r; rfl
theorem Op2.isNone (hg : a.isG = false := by rfl) : Op2 B n σ a .none (compareOp .Is) (.bool a.isN) := fun A μ ρ s x y Q g R r1 r2 P => by
  unfold RelV at r2; subst r2
  refine PyProof.Rows.is_none_gen ?_
  rw [r1.isN hg]; exact P.bool
theorem Op2.isNotNone (hg : a.isG = false := by rfl) : Op2 B n σ a .none (compareOp .IsNot) (.bool (!a.isN)) := fun A μ ρ s x y Q g R r1 r2 P => by
  unfold RelV at r2; subst r2
  refine PyProof.Rows.isnot_none_gen ?_
  rw [r1.isN hg]; exact P.bool
theorem Op2.isType {X : String} : Op2 B n σ (.glob (.type X)) (.glob (.type X)) (compareOp .Is) (.bool true) := fun A μ ρ s x y Q g R r1 r2 P => by
  unfold RelV at r1 r2; subst r1; subst r2
  exact wpAny_is_self rfl P.bool
theorem Op2.isNotType {X : String} : Op2 B n σ (.glob (.type X)) (.glob (.type X)) (compareOp .IsNot) (.bool false) := fun A μ ρ s x y Q g R r1 r2 P => by
  unfold RelV at r1 r2; subst r1; subst r2
  exact wpAny_isNot_self rfl P.bool
end
end Mine
namespace Mine
open PySem PySem.Spec PySem.Calls PyProof.Rows PySem.W
section
variable {B : Wd} {n : Nat} {sc : Scope} {vs vs₁ vs₂ : List (Option Val)} {σ σ₁ σ₂ : Store} {v a b c : Val} {k : Nat} {pos : Pos} {e l r : Expr} {st : Stmt} {rest : List Stmt} {f : Fl}

theorem RelVs.nil_iff {μ ρ : Addrs} {h : Heap} {zs : List Value} : RelVs μ ρ h [] zs ↔ zs = [] := by unfold RelVs; exact Iff.rfl
theorem RelVs.cons_iff {μ ρ : Addrs} {h : Heap} {x : Val} {xs : List Val} {zs : List Value} : RelVs μ ρ h (x :: xs) zs ↔ ∃ v r, zs = v :: r ∧ RelV μ ρ h x v ∧ RelVs μ ρ h xs r := by
  conv => lhs; unfold RelVs
theorem RelVs.drop {μ ρ : Addrs} {h : Heap} : ∀ (k : Nat) {xs : List Val} {zs : List Value}, RelVs μ ρ h xs zs → RelVs μ ρ h (xs.drop k) (zs.drop k)
  | 0, xs, zs, q => by simpa using q
  | k + 1, [], zs, q => by rw [RelVs.nil_iff] at q; subst q; simp [RelVs.nil_iff]
  | k + 1, x :: xs, zs, q => by
    obtain ⟨v, r, rfl, _, q⟩ := RelVs.cons_iff.mp q
    simpa using RelVs.drop k q
theorem RelVs.take {μ ρ : Addrs} {h : Heap} : ∀ (k : Nat) {xs : List Val} {zs : List Value}, RelVs μ ρ h xs zs → RelVs μ ρ h (xs.take k) (zs.take k)
  | 0, xs, zs, q => by simp [RelVs.nil_iff]
  | k + 1, [], zs, q => by rw [RelVs.nil_iff] at q; subst q; simp [RelVs.nil_iff]
  | k + 1, x :: xs, zs, q => by
    obtain ⟨v, r, rfl, q1, q⟩ := RelVs.cons_iff.mp q
    simp only [List.take_succ_cons]
    exact RelVs.cons_iff.mpr ⟨_, _, rfl, q1, RelVs.take k q⟩
theorem RelVs.reverse {μ ρ : Addrs} {h : Heap} : ∀ {xs : List Val} {zs : List Value}, RelVs μ ρ h xs zs → RelVs μ ρ h xs.reverse zs.reverse
  | [], zs, q => by rw [RelVs.nil_iff] at q; subst q; simp [RelVs.nil_iff]
  | x :: xs, zs, q => by
    obtain ⟨v, r, rfl, q1, q⟩ := RelVs.cons_iff.mp q
    simp only [List.reverse_cons]
    exact RelVs.append (RelVs.reverse q) (RelVs.cons_iff.mpr ⟨_, _, rfl, q1, RelVs.nil_iff.mpr rfl⟩)
theorem RelVs.set {μ ρ : Addrs} {h : Heap} {y : Val} {z : Value} (ry : RelV μ ρ h y z) : ∀ (k : Nat) {xs : List Val} {zs : List Value}, RelVs μ ρ h xs zs → RelVs μ ρ h (xs.set k y) (zs.set k z)
  | _, [], zs, q => by rw [RelVs.nil_iff] at q; subst q; simp [RelVs.nil_iff]
  | 0, x :: xs, zs, q => by
    obtain ⟨v, r, rfl, q1, q⟩ := RelVs.cons_iff.mp q
    exact RelVs.cons_iff.mpr ⟨_, _, rfl, ry, q⟩
  | k + 1, x :: xs, zs, q => by
    obtain ⟨v, r, rfl, q1, q⟩ := RelVs.cons_iff.mp q
    exact RelVs.cons_iff.mpr ⟨_, _, rfl, q1, RelVs.set ry k q⟩
theorem RelVs.rep {μ ρ : Addrs} {h : Heap} {y : Val} {z : Value} (ry : RelV μ ρ h y z) : ∀ (k : Nat), RelVs μ ρ h (List.replicate k y) (List.replicate k z)
  | 0 => by simp [RelVs.nil_iff]
  | k + 1 => by rw [List.replicate_succ, List.replicate_succ]; exact RelVs.cons_iff.mpr ⟨_, _, rfl, ry, RelVs.rep ry k⟩

/-- a is a list of these things -/
inductive Lst (σ : Store) : Val → List Val → Prop
  | fr {xs : List Val} : Lst σ (.list xs) xs
  | own {i : Nat} {xs : List Val} : σ[i]? = some xs → Lst σ (.ref i) xs
theorem Lst.is {μ ρ : Addrs} {h : Heap} {xs : List Val} {x : Value} (L : Lst σ a xs) (R : Rep B μ ρ σ h) (q : RelV μ ρ h a x) : ∃ l ws, x = .ref l ∧ LS h l (List.toArray ws) ∧ RelVs μ ρ h xs ws := by
  cases L with
  | fr => unfold RelV at q; obtain ⟨l, ws, rfl, _, _, hl, q⟩ := q; exact ⟨l, ws, rfl, hl, q⟩
  | own hi => unfold RelV at q; obtain ⟨l, hl, rfl⟩ := q; obtain ⟨ws, h1, h2⟩ := R.obj _ l xs hl hi; exact ⟨l, ws, rfl, h1, h2⟩

theorem lt63 {k : Nat} (hz : k ≤ sizeLine) : (k : Int) < 2 ^ 63 := by have := sizeLine_eq; omega

theorem Tv.list {xs : List Val} (L : Lst σ a xs) (hz : xs.length ≤ sizeLine) : Tv B n σ a (!xs.isEmpty) := fun A μ ρ s x Q g R q P => by
  obtain ⟨l, ws, rfl, hl, r⟩ := L.is R q
  have hl := LS.is hl
  refine wpAny_truthy_list hl (by rw [List.size_toArray, RelVs.length r]; exact lt63 hz) ?_
  have e : (!(List.toArray ws).isEmpty) = !xs.isEmpty := by
    have := RelVs.length r
    cases ws <;> cases xs <;> simp_all
  rw [e]
  exact P.tok

noncomputable def Itm (B : Wd) (n : Nat) (σ : Store) (a b v : Val) : Prop :=
  ∀ (A : Around) (μ ρ : Addrs) (s : Shared) (x y : Value) (Q : Value → Shared → Prop), Good n A → Rep B μ ρ σ s.heap → RelV μ ρ s.heap a x → RelV μ ρ s.heap b y → Post μ ρ s v Q →
    ∃ T id, s.TypeIs x T ∧ typeLookup (.type T) "__getitem__" = pure (some (.builtin id)) ∧ wpAny (model B.prog B.w) A (getItem x y) Q NoE s
noncomputable def notSlice : Expr → Bool
  | .Slice .. => false
  | _ => true
theorem subTail {A : Around} {s : Shared} {value slice : Expr} {o i : Value} {T id : String} {Q : Value → Shared → Prop} {ops : List Value} (hT : s.TypeIs o T)
    (hl : typeLookup (.type T) "__getitem__" = pure (some (.builtin id))) (h : wpAny (model B.prog B.w) A (getItem o i) Q NoE s)
    (hs : subscripted slice false o i = operate ops (getItem o i)) : wpAny (model B.prog B.w) A (subscriptTail value slice o i) Q NoE s := by
  unfold subscriptTail
  refine wpAny_bind ?_
  rw [getitemInPython_of_ne hT.not_modules]
  refine wpAny_bind (wpAny_specialOf hT hl ?_)
  have fin : wpAny (model B.prog B.w) A (subscripted slice false o i) (fun r s₃ => wpAny (model B.prog B.w) A (letTemporaryGo value o r >>= fun _ => pure r) Q NoE s₃) NoE s := by
    rw [hs]
    exact wpAny_operating (wpAny_mono h (fun r s₃ h₃ => wpAny_bind (wpAny_letTemporaryGo (wpAny_pure h₃))) fun _ _ x => x)
  first
    | exact wpAny_pure (wpAny_bind fin)
    | exact wpAny_bind (wpAny_pure (wpAny_bind fin))
    | exact wpAny_bind fin
/-- o[i] -/
theorem Ev.sub {value slice : Expr} (hv : Ev B n sc vs σ value a) (hi : Ev B n sc vs σ slice b) (I : Itm B n σ a b v) (hns : notSlice slice = true := by rfl) : Ev B n sc vs σ (.Subscript value slice pos) v := fun A μ ρ env s Q g hs R F P => by
  refine Subscript_ (hv A μ ρ env s _ g hs R F fun x h₁ t₁ X₁ r₁ => ?_)
  refine hi A μ ρ env _ _ g hs (R.keeps X₁) (F.keeps R X₁) fun y h₂ t₂ X₂ r₂ => ?_
  obtain ⟨T, id, hT, hl, hg⟩ := I A μ ρ { s with heap := h₂, toks := t₂ } x y Q g ((R.keeps X₁).keeps X₂) (RelV.keeps X₂ r₁) r₂ ((P.step X₁).step X₂)
  refine subTail (ops := [x, y]) hT hl hg ?_
  cases slice <;> first | rfl | cases hns
theorem Itm.list {xs : List Val} {i : Int} (j : Nat) (L : Lst σ a xs) (hx : xs[j]? = some v) (hi : i = j) (hj : j ≤ sizeLine) : Itm B n σ a (.int i) v := fun A μ ρ s x y Q g R r1 r2 P => by
  obtain ⟨l, ws, rfl, hl, r⟩ := L.is R r1
  have hl := LS.is hl
  unfold RelV at r2; obtain ⟨t, rfl⟩ := r2
  obtain ⟨z, hz, rz⟩ := RelVs.at r hx
  subst hi
  exact ⟨"list", _, hl.typeIs, list_getitem_lookup, wpAny_getItem_list hl (by omega) (lt63 hj) (by rw [List.getElem?_toArray, Int.toNat_natCast]; exact hz) (P.here rz)⟩
theorem Itm.tup {xs : List Val} {i : Int} (j : Nat) (hx : xs[j]? = some v) (hi : i = j) (hj : j ≤ sizeLine) : Itm B n σ (.tup xs) (.int i) v := fun A μ ρ s x y Q g R r1 r2 P => by
  unfold RelV at r1; obtain ⟨l, ws, rfl, _, _, hl, r⟩ := r1
  unfold RelV at r2; obtain ⟨t, rfl⟩ := r2
  obtain ⟨z, hz, rz⟩ := RelVs.at r hx
  subst hi
  have hw := (List.getElem?_eq_some_iff.mp hz).1
  have h63 := lt63 hj
  have hk : seqIndex? (j : Int) (List.toArray ws).size = some j := by
    unfold seqIndex?
    have h0 : ¬ ((j : Int) < 0) := by omega
    rw [if_neg h0, List.size_toArray]
    have h1 : (decide (0 ≤ (j : Int)) && decide ((j : Int) < (ws.length : Int))) = true := by simp; omega
    simp [h1]; omega
  have hT : s.TypeIs (.ref l) "tuple" := hl.typeIs
  exact ⟨"tuple", _, hT, PyProof.Rows.slot_tuple_getitem.lookup, PyProof.Rows.getItem_tuple hl (by omega) h63 hk (by rw [List.getElem?_toArray]; exact hz) (P.here rz)⟩
theorem Itm.str {x : Str} {i : Int} {c : Nat} (hc : (seqIndex? i x.length).bind (x.cps[·]?) = some c) (hr : -(2 ^ 63 : Int) ≤ i ∧ i < 2 ^ 63) : Itm B n σ (.str x) (.int i) (.str ⟨#[c]⟩) := fun A μ ρ s y z Q g R r1 r2 P => by
  unfold RelV at r1 r2; obtain ⟨t, rfl⟩ := r1; obtain ⟨u, rfl⟩ := r2
  refine ⟨"str", _, typeIs_str _ _ _, F.slot_str_getitem.lookup, PySem.P.getItem_str ?_ hc P.str⟩
  have h1 : ¬ (i < -(2 ^ 63 : Int)) := by omega
  have h2 : ¬ (i ≥ 2 ^ 63) := by omega
  rw [decide_eq_false h1, decide_eq_false h2]; rfl

/-- a part of a slice -/
inductive EvP (B : Wd) (n : Nat) (sc : Scope) (vs : List (Option Val)) (σ : Store) : Option Expr → Option Int → Prop
  | none : EvP B n sc vs σ none none
  | int {e : Expr} {i : Int} : Ev B n sc vs σ e (.int i) → EvP B n sc vs σ (some e) (some i)
  | no {e : Expr} : Ev B n sc vs σ e .none → EvP B n sc vs σ (some e) none
noncomputable def RelP : Option Int → Value → Prop
  | none, v => v = .none
  | some i, v => ∃ t, v = .int i t
theorem EvP.run {o : Option Expr} {i : Option Int} (h : EvP B n sc vs σ o i) {A : Around} {μ ρ : Addrs} {env : Env} {s : Shared} {Q : Value → Shared → Prop} (g : Good n A) (hs : env.scope = sc) (R : Rep B μ ρ σ s.heap) (F : EnvOK μ ρ s.heap env vs)
    (P : ∀ v h' tk, Keeps s.heap h' → RelP i v → Q v { s with heap := h', toks := tk }) : wpAny (model B.prog B.w) A (evalPart o env) Q NoE s := by
  cases h with
  | none => exact evalPart_none_step (P _ s.heap s.toks (Keeps.refl _) rfl)
  | int h => exact evalPart_some_step (h A μ ρ env s Q g hs R F fun v h₁ t₁ k r => P v h₁ t₁ k (by unfold RelV at r; exact r))
  | no h => exact evalPart_some_step (h A μ ρ env s Q g hs R F fun v h₁ t₁ k r => P v h₁ t₁ k (by unfold RelV at r; exact r))
theorem RelP.part {i : Option Int} {v : Value} (r : RelP i v) : IsPart v i := by
  cases i with
  | none => cases r; exact .none
  | some i => obtain ⟨t, rfl⟩ := r; exact .int i t
theorem RelP.part' {i : Option Int} {v : Value} (r : RelP i v) : ∃ l : Option (Int × Tok), v = partValue l ∧ l.map (·.1) = i := by
  cases i with
  | none => cases r; exact ⟨none, rfl, rfl⟩
  | some i => obtain ⟨t, rfl⟩ := r; exact ⟨some (i, t), rfl, rfl⟩

noncomputable def slc {α : Type} (lo hi : Option Int) (xs : List α) : List α := (xs.drop (kms_lo lo xs.length)).take (kms_hi hi xs.length - kms_lo lo xs.length)
theorem fresh_none (h : Heap) : h.get? h.objs.size = none := by
  cases q : h.get? h.objs.size with
  | none => rfl
  | some o => exact absurd (Heap.lt_size q) (Nat.lt_irrefl _)
theorem Keeps.none {h h' : Heap} (k : Keeps h h') {a : Addr} (e : h'.get? a = none) : h.get? a = none := by
  cases q : h.get? a with
  | none => rfl
  | some o => rw [k _ _ q] at e; cases e
theorem RelVs.addTo {μ ρ : Addrs} {h h' : Heap} {a : Addr} {xs : List Val} {ws : List Value} (r : RelVs μ ρ h xs ws) (hn : h.get? a = none) (k : Keeps h h') : RelVs (a :: μ) ρ h' xs ws :=
  RelVs.keeps k (RelVs.mu (fun b o e n1 n2 => ⟨fun m => by
    rcases List.mem_cons.mp m with rfl | m
    · rw [hn] at e; cases e
    · exact n1 m, n2⟩) (fun _ _ e => e) r)

/-- xs[lo:hi], a new list -/
theorem EvN.slice {value : Expr} {lo hi : Option Expr} {i j : Option Int} {xs : List Val} {p : Pos} (hv : Ev B n sc vs σ value a) (L : Lst σ a xs) (hl : EvP B n sc vs σ lo i) (hh : EvP B n sc vs σ hi j) (hz : xs.length ≤ sizeLine) :
    EvN B n sc vs σ (.Subscript value (.Slice lo hi none p) pos) (slc i j xs) := fun A μ ρ env s Q g hs R F P => by
  refine Subscript_ (hv A μ ρ env s _ g hs R F fun x h₁ t₁ X₁ r₁ => ?_)
  refine wpAny_Slice (hl.run g hs (R.keeps X₁) (F.keeps R X₁) fun y h₂ t₂ X₂ p₂ => ?_)
  refine hh.run g hs ((R.keeps X₁).keeps X₂) ((F.keeps R X₁).keeps (R.keeps X₁) X₂) fun z h₃ t₃ X₃ p₃ => ?_
  have X13 : Keeps s.heap h₃ := (X₁.trans X₂).trans X₃
  have X : Keeps h₁ h₃ := Keeps.trans X₂ X₃
  obtain ⟨l, ws, rfl, hl, r⟩ := L.is (R.keeps X13) (RelV.keeps X r₁)
  have hl := LS.is hl
  rw [evalPart_none]
  refine wpAny_pure ?_
  refine subTail (ops := [_, _]) (Heap.IsList.typeIs (hl.push _)) list_getitem_lookup (wpAny_getItem_list_slice (hl.push _) (Heap.IsSliceOf.new ..) p₂.part p₃.part .none (by simp) ?_ (by rw [List.size_toArray, RelVs.length r]; exact hz)) rfl
  dsimp only
  generalize hH : h₃.push { cls := .type "slice", data := .fields #[y, z, .none] } = H
  have k3 : Keeps h₃ H := hH ▸ Keeps.push _
  have hn := fresh_none H
  refine P _ (slc i j ws) _ _ (X13.none (k3.none hn)) ((X13.trans k3).trans (Keeps.push _)) ⟨_, Heap.get?_push_size _ rfl, 0, ?_⟩ ?_
  · rw [kms_pick_eq]
    rfl
  · refine RelVs.addTo (h := H) (RelVs.keeps k3 ?_) hn (Keeps.push _)
    unfold slc
    rw [RelVs.length r]
    exact RelVs.take _ (RelVs.drop _ r)
theorem EvN.slices {value : Expr} {lo hi : Option Expr} {i j : Option Int} {x : Str} {p : Pos} (hv : Ev B n sc vs σ value (.str x)) (hl : EvP B n sc vs σ lo i) (hh : EvP B n sc vs σ hi j) (hz : x.length ≤ sizeLine) :
    Ev B n sc vs σ (.Subscript value (.Slice lo hi none p) pos) (.str (Txt.slice x i j)) := fun A μ ρ env s Q g hs R F P => by
  refine Subscript_ (hv A μ ρ env s _ g hs R F fun x' h₁ t₁ X₁ r₁ => ?_)
  refine wpAny_Slice (hl.run g hs (R.keeps X₁) (F.keeps R X₁) fun y h₂ t₂ X₂ p₂ => ?_)
  refine hh.run g hs ((R.keeps X₁).keeps X₂) ((F.keeps R X₁).keeps (R.keeps X₁) X₂) fun z h₃ t₃ X₃ p₃ => ?_
  have X13 : Keeps s.heap h₃ := (X₁.trans X₂).trans X₃
  unfold RelV at r₁
  obtain ⟨t, rfl⟩ := r₁
  rw [evalPart_none]
  refine wpAny_pure ?_
  obtain ⟨l', rfl, e1⟩ := p₂.part'
  obtain ⟨u', rfl, e2⟩ := p₃.part'
  refine subTail (ops := [_, _]) (typeIs_str _ _ _) PySem.F.slot_str_getitem.lookup (wpAny_getItem_str_slice (l := l') (u := u') (st := none) ⟨_, Heap.get?_push_size _ rfl, rfl, rfl⟩ rfl ?_) rfl
  subst e1; subst e2
  have key : ∀ {y : Str}, y = Txt.slice x (l'.map (·.1)) (u'.map (·.1)) → ∀ t' k, Q (.str y t') { s with heap := h₃.push { cls := .type "slice", data := .fields #[partValue l', partValue u', .none] }, toks := k } := fun e t' k => by
    subst e
    exact P _ _ _ (X13.trans (Keeps.push _)) (by unfold RelV; exact ⟨_, rfl⟩)
  unfold sliceMade
  have eq0 : ((none : Option (Int × Tok)).map (·.1)).getD 1 = (1 : Int) := rfl
  by_cases hc : ((((none : Option (Int × Tok)).map (·.1)).getD 1 == 1) && (slicePicked x l' u' none).length == x.length) = true
  · rw [if_pos hc]
    refine key ?_ _ _
    unfold Txt.slice
    have hc' : ((1 : Int) == 1 && (Builtin.Str.strSliceIndices (l'.map (·.1)) (u'.map (·.1)) 1 x.length).length == x.length) = true := hc
    rw [if_pos hc']
  · rw [if_neg hc]
    have e : (⟨((slicePicked x l' u' none).filterMap (x.cps[·]?)).toArray⟩ : Str) = Txt.slice x (l'.map (·.1)) (u'.map (·.1)) := by
      unfold Txt.slice
      have hc' : ¬ ((1 : Int) == 1 && (Builtin.Str.strSliceIndices (l'.map (·.1)) (u'.map (·.1)) 1 x.length).length == x.length) = true := hc
      rw [if_neg hc']; rfl
    refine ⟨?_, ?_⟩
    · rw [e]; exact Nat.le_trans (Txt.slice_le x _ _) hz
    · exact key e _ _

/-- the sum of two lists -/
theorem EvN.add {xs ys : List Val} (ha : Ev B n sc vs σ l a) (hb : Ev B n sc vs σ r b) (La : Lst σ a xs) (Lb : Lst σ b ys) (hz : xs.length + ys.length ≤ sizeLine) : EvN B n sc vs σ (.BinOp l .Add r pos) (xs ++ ys) := fun A μ ρ env s Q g hs R F P => by
  refine wpAny_BinOp (ha A μ ρ env s _ g hs R F fun x h₁ t₁ X₁ r₁ => ?_)
  refine hb A μ ρ env _ _ g hs (R.keeps X₁) (F.keeps R X₁) fun y h₂ t₂ X₂ r₂ => ?_
  have R₂ := (R.keeps X₁).keeps X₂
  obtain ⟨l1, ws, rfl, hl, q⟩ := La.is R₂ (RelV.keeps X₂ r₁)
  have hl := LS.is hl
  obtain ⟨l2, us, rfl, hl2, q2⟩ := Lb.is R₂ r₂
  have hl2 := LS.is hl2
  have e1 := RelVs.length q
  have e2 := RelVs.length q2
  obtain ⟨⟨cls, dd, data, sl⟩, ho, hc, m, hd⟩ := id hl
  obtain ⟨⟨cls2, dd2, data2, sl2⟩, ho2, hc2, m2, hd2⟩ := id hl2
  simp only at hc hd hc2 hd2
  subst hc hd hc2 hd2
  have e : ws.toArray ++ us.toArray = (ws ++ us).toArray := by simp
  refine concat_meets ⟨_, ho, rfl⟩ ⟨_, ho2, rfl⟩ noFill_list_add seq_list_add PySem.F.slot_list_add PySem.F.entry_list_add (PySem.F.args_list_add_2 _ _) (list_addW l1 l2 ws.toArray us.toArray m m2 dd dd2 sl sl2 (by simp; omega)) ⟨ho, ho2, ?_⟩
  rw [e]
  have hn := fresh_none h₂
  exact P _ (ws ++ us) _ _ ((X₁.trans X₂).none hn) ((X₁.trans X₂).trans (Keeps.push _)) ⟨_, Heap.get?_push_size _ rfl, 0, rfl⟩ (RelVs.addTo (RelVs.append q q2) hn (Keeps.push _))
/-- [x] * k -/
theorem EvN.rep {x : Val} {i : Int} (ha : Ev B n sc vs σ l a) (La : Lst σ a [x]) (hb : Ev B n sc vs σ r (.int i)) (h0 : 0 ≤ i) (hz : i.toNat ≤ 1000000) : EvN B n sc vs σ (.BinOp l .Mult r pos) (List.replicate i.toNat x) := fun A μ ρ env s Q g hs R F P => by
  refine wpAny_BinOp (ha A μ ρ env s _ g hs R F fun y h₁ t₁ X₁ r₁ => ?_)
  refine hb A μ ρ env _ _ g hs (R.keeps X₁) (F.keeps R X₁) fun z h₂ t₂ X₂ r₂ => ?_
  have R₂ := (R.keeps X₁).keeps X₂
  obtain ⟨l1, ws, rfl, hl, q⟩ := La.is R₂ (RelV.keeps X₂ r₁)
  have hl := LS.is hl
  obtain ⟨y, ws', rfl, q1, q'⟩ := RelVs.cons_iff.mp q
  rw [RelVs.nil_iff] at q'
  subst q'
  unfold RelV at r₂; obtain ⟨u, rfl⟩ := r₂
  obtain ⟨⟨cls, dd, data, sl⟩, ho, hc, m, hd⟩ := id hl
  simp only at hc hd
  subst hc hd
  have hsl := sizeLine_eq
  refine wpAny_binaryOp_repeat_ref (T := "list") (U := "int") (by decide) ⟨_, ho, rfl⟩ (fun s' => typeIs_int s' i u) noFill_list_mul PySem.F.fills_int_mul PySem.F.slot_int_rmul repeat_list PySem.F.slot_int_index.lookup
    (call_meets PySem.F.slot_int_rmul (typeIs_int _ i u) PySem.F.entry_int_rmul (PySem.F.args_int_rmul_2 _ _) (lm_int_rmul_list_any i u l1 _ m dd sl)
      ⟨ho, rfl, ⟨_, ho, rfl⟩, call_meets PySem.F.slot_list_mul ⟨_, ho, rfl⟩ PySem.F.entry_list_mul (PySem.F.args_list_mul_2 _ _)
        (lm_list_mul_any l1 _ m dd sl i u (by simp [Builtin.List.listFitsIndex]; omega) (by simp; omega) (by simp [Builtin.List.listTooLong, sizeLine]; omega))
        ⟨ho, ?_⟩⟩)
  have hn := fresh_none h₂
  have e : (List.foldl (fun x1 x2 => x1 ++ x2) #[] (List.replicate (if (List.toArray [y]).isEmpty = true then 0 else i.toNat) (List.toArray [y]))) = (List.replicate i.toNat y).toArray := by
    rw [listMul_foldl_if]
    congr 1
    generalize i.toNat = k
    induction k with
    | zero => rfl
    | succ k ih => rw [List.replicate_succ, List.flatten_cons, ih, List.replicate_succ]; rfl
  exact P _ (List.replicate i.toNat y) _ _ ((X₁.trans X₂).none hn) ((X₁.trans X₂).trans (Keeps.push _)) ⟨_, Heap.get?_push_size _ rfl, 0, by rw [← e]⟩ (RelVs.addTo (RelVs.rep q1 _) hn (Keeps.push _))

/-- a tuple display -/
theorem Ev.tuple {es : List Expr} {ws : List Val} {kd : Nat} (h : Evs B n sc vs σ es ws) (hst : noStar es = true := by rfl) (hz : es.length ≤ 1000 := by decide) : Ev B n sc vs σ (.Tuple es kd pos) (.tup ws) := fun A μ ρ env s Q g hs R F P => by
  have hel : ∀ {es : List Expr} {ws : List Val}, Evs B n sc vs σ es ws → ws.length = es.length := by
    intro es ws h; induction h with
    | nil => rfl
    | cons _ _ ih => simp [ih]
  refine wpAny_Tuple (h.run g hs R F (fun ys h₁ t₁ X₁ r₁ => ?_) hst)
  have hsz := sizeLine_eq
  have e1 := RelVs.length r₁
  have e2 := hel h
  refine ⟨by omega, ?_⟩
  have hn := fresh_none h₁
  have hm : h₁.objs.size ∉ μ := fun m => by obtain ⟨o, e⟩ := (R.keeps X₁).held _ m; rw [hn] at e; cases e
  have hr : h₁.objs.size ∉ ρ := fun m => by obtain ⟨_, o, e, _⟩ := (R.keeps X₁).isSome m; rw [hn] at e; cases e
  refine P _ _ _ (X₁.trans (Keeps.push _)) ?_
  unfold RelV
  exact ⟨_, ys, rfl, hm, hr, ⟨_, Heap.get?_push_size _ rfl, rfl, 0, rfl⟩, RelVs.keeps (Keeps.push _) r₁⟩
end
end Mine
namespace Mine
open PySem PySem.Spec PySem.Calls PyProof.Rows PySem.W
section
variable {B : Wd} {n : Nat} {sc : Scope} {vs vs₁ vs₂ : List (Option Val)} {σ σ₁ σ₂ : Store} {v a b c : Val} {k : Nat} {pos : Pos} {e l r : Expr} {st : Stmt} {rest : List Stmt} {f : Fl}

/-- less known of the names -/
noncomputable def Weak (vs vs' : List (Option Val)) : Prop := ∀ (i : Nat) (v : Val), vs'[i]? = some (some v) → vs[i]? = some (some v)
theorem Weak.refl (vs : List (Option Val)) : Weak vs vs := fun _ _ e => e
theorem Weak.forget {vs vs' : List (Option Val)} (x : Option Val) (w : Weak vs vs') : Weak (x :: vs) (none :: vs') := fun i v e => by
  cases i with
  | zero => cases e
  | succ i => exact w i v e
theorem Weak.keep {vs vs' : List (Option Val)} (x : Option Val) (w : Weak vs vs') : Weak (x :: vs) (x :: vs') := fun i v e => by
  cases i with
  | zero => exact e
  | succ i => exact w i v e
theorem EnvOK.weak {μ ρ : Addrs} {h : Heap} {env : Env} (F : EnvOK μ ρ h env vs) (w : Weak vs vs₁) : EnvOK μ ρ h env vs₁ := by
  refine ⟨F.kind, F.glob, F.blt, F.nodup, ?_, fun i x kd e hk => ?_, F.apart, F.locIn, F.cellIn⟩
  · obtain ⟨m, n, r⟩ := F.ns
    exact ⟨m, n, fun i x v e1 e2 => r i x v e1 (w i v e2)⟩
  · obtain ⟨c, v₀, e1, e2, e3⟩ := F.cell i x kd e hk
    exact ⟨c, v₀, e1, e2, fun v e4 => e3 v (w i v e4)⟩
theorem Exs.weak {ss : List Stmt} (h : Exs B n sc vs σ ss f vs₁ σ₁) (w : Weak vs₁ vs₂) : Exs B n sc vs σ ss f vs₂ σ₁ := fun A μ ρ env s Q g hs R F P => h A μ ρ env s Q g hs R F fun ρ' f' h' tk X R' F' r => P ρ' f' h' tk X R' (F'.weak w) r
theorem Exs.pre {ss : List Stmt} (h : Exs B n sc vs₂ σ ss f vs₁ σ₁) (w : Weak vs vs₂) : Exs B n sc vs σ ss f vs₁ σ₁ := fun A μ ρ env s Q g hs R F P => h A μ ρ env s Q g hs R (F.weak w) P
/-- a for over things made alike: what is forgotten at each turn's end is not known at its start -/
theorem Lp.fold {α S : Type} {tg : Expr} {body : List Stmt} (inj : α → Val) (vo : S → List (Option Val)) (so : S → Store) (step : S → α → S)
    (w : α → S → List (Option Val)) (ha : ∀ a s, As B n sc (so s) tg (inj a) (vo s) (w a s))
    (L : List α) (I : Nat → S → Prop) (hI : ∀ (j : Nat) (a : α) (s : S), L[j]? = some a → I j s → I (j + 1) (step s a))
    (hb : ∀ (j : Nat) (a : α) (s : S), L[j]? = some a → I j s → Exs B n sc (w a s) (so s) body .next (vo (step s a)) (so (step s a))) :
    ∀ s, I 0 s → Lp B n sc tg body (L.map inj) (vo s) (so s) .next (vo (L.foldl step s)) (so (L.foldl step s)) := by
  have key : ∀ (M : List α) (p : Nat), (∀ j, M[j]? = L[p + j]?) → ∀ s, I p s → Lp B n sc tg body (M.map inj) (vo s) (so s) .next (vo (M.foldl step s)) (so (M.foldl step s)) := by
    intro M
    induction M with
    | nil => intro p _ s _; exact .nil
    | cons a M ih =>
      intro p hp s hs
      have h0 : L[p]? = some a := by have := hp 0; simpa using this.symm
      exact .next (ha a s) (hb p a s h0 hs) (ih (p + 1) (fun j => by have := hp (j + 1); rw [List.getElem?_cons_succ] at this; rw [this]; congr 1; omega) _ (hI p a s h0 hs))
  exact key L 0 (fun j => by simp)

theorem set_set_same (i : Nat) (x y : Option Val) : ∀ (vs : List (Option Val)), (vs.set i x).set i y = vs.set i y := fun vs => by rw [List.set_set]
/-- a comprehension over things made alike -/
theorem Cp.map {α : Type} {x : Str} {p : Pos} {elt : Expr} (inj g : α → Val) (i : Nat) (hi : sc.names[i]? = some (x, .local)) :
    ∀ (L : List α) (vc : List (Option Val)), (∀ a ∈ L, Ev B n sc (vc.set i (some (inj a))) σ elt (g a)) → Cp B n sc σ (.Name x p) [] elt vc (L.map inj) (L.map g)
  | [], vc, _ => .nil
  | a :: L, vc, h => .keep (AsL.name i hi) .nil (h a (.head _)) (Cp.map inj g i hi L _ fun b hb => by rw [set_set_same]; exact h b (.tail _ hb))
theorem Cp.filter {α : Type} {x : Str} {p : Pos} {elt c : Expr} (inj g : α → Val) (q : α → Bool) (i : Nat) (hi : sc.names[i]? = some (x, .local)) :
    ∀ (L : List α) (vc : List (Option Val)), (∀ a ∈ L, Tr B n sc (vc.set i (some (inj a))) σ c (q a)) → (∀ a ∈ L, q a = true → Ev B n sc (vc.set i (some (inj a))) σ elt (g a)) →
      Cp B n sc σ (.Name x p) [c] elt vc (L.map inj) ((L.filter q).map g)
  | [], vc, _, _ => .nil
  | a :: L, vc, ht, h => by
    have ih := Cp.filter (p := p) inj g q i hi L (vc.set i (some (inj a))) (fun b hb => by rw [set_set_same]; exact ht b (.tail _ hb)) (fun b hb => by rw [set_set_same]; exact h b (.tail _ hb))
    cases hq : q a with
    | true =>
      rw [List.filter_cons, if_pos hq]
      exact .keep (AsL.name i hi) (.one (hq ▸ ht a (.head _))) (h a (.head _) hq) ih
    | false =>
      rw [List.filter_cons, if_neg (by simp [hq])]
      exact .skip (AsL.name i hi) (.one (hq ▸ ht a (.head _))) ih

-- unpacking
theorem Heap.ExtBut.kept {h h' : Heap} (he : Heap.ExtBut h.objs.size h h') : Keeps h h' := fun b o e => he b o (Nat.ne_of_lt (Heap.lt_size e)) e
theorem As.two {x y : Str} {p q : Pos} {kd : Nat} {k1 k2 : NameKind} (i j : Nat) (hi : sc.names[i]? = some (x, k1)) (h1 : k1 = .local ∨ k1 = .cell) (hj : sc.names[j]? = some (y, k2)) (h2 : k2 = .local ∨ k2 = .cell) :
    As B n sc σ (.Tuple [.Name x p, .Name y q] kd pos) (.tup [a, b]) vs ((vs.set i (some a)).set j (some b)) := fun A μ ρ env s v' Q g hs R F r P => by
  unfold RelV at r
  obtain ⟨t, ws, rfl, _, _, ht, r⟩ := r
  obtain ⟨v1, w1, rfl, r1, r⟩ := RelVs.cons_iff.mp r
  obtain ⟨v2, w2, rfl, r2, r⟩ := RelVs.cons_iff.mp r
  rw [RelVs.nil_iff] at r; subst r
  refine wpAny_assign_Tuple g.handled ht rfl rfl fun h' he => ?_
  have kk := Heap.ExtBut.kept he
  show wpAny _ A (do holding [v2] (PySem.assign (PySem.Expr.Name x p) env v1); (do holding [] (PySem.assign (PySem.Expr.Name y q) env v2); pure ())) Q NoE _
  subst hs
  refine wpAny_bind (wpAny_holding (wpAny_assign_Name (store_name (s := { s with heap := h' }) hi h1 (R.keeps kk) (F.keeps R kk) (RelV.keeps kk r1) fun h₁ t₁ X₁ R₁ F₁ => ?_)))
  refine wpAny_bind (wpAny_holding (wpAny_assign_Name (store_name (s := { s with heap := h₁, toks := t₁ }) hj h2 R₁ F₁ (RelV.extN X₁ ((R.keeps kk).within F.own) (RelV.keeps kk r2)) fun h₂ t₂ X₂ R₂ F₂ => ?_)))
  exact wpAny_pure (P h₂ t₂ (ExtN.trans (ExtN.trans (Keeps.own (μ := μ) kk) (R.keeps kk) F.own X₁) R₁ F.own X₂) R₂ F₂)
theorem AsL.two {x y : Str} {p q : Pos} {kd : Nat} (i j : Nat) (hi : sc.names[i]? = some (x, .local)) (hj : sc.names[j]? = some (y, .local)) :
    AsL B n sc σ (.Tuple [.Name x p, .Name y q] kd pos) (.tup [a, b]) vs ((vs.set i (some a)).set j (some b)) := fun A μ ρ env s v' Q g hs R F r P => by
  unfold RelV at r
  obtain ⟨t, ws, rfl, _, _, ht, r⟩ := r
  obtain ⟨v1, w1, rfl, r1, r⟩ := RelVs.cons_iff.mp r
  obtain ⟨v2, w2, rfl, r2, r⟩ := RelVs.cons_iff.mp r
  rw [RelVs.nil_iff] at r; subst r
  refine wpAny_assign_Tuple g.handled ht rfl rfl fun h' he => ?_
  have kk := Heap.ExtBut.kept he
  show wpAny _ A (do holding [v2] (PySem.assign (PySem.Expr.Name x p) env v1); (do holding [] (PySem.assign (PySem.Expr.Name y q) env v2); pure ())) Q NoE _
  refine wpAny_bind (wpAny_holding (AsL.name (n := n) (p := p) i hi A μ ρ env { s with heap := h' } v1 _ g hs (R.keeps kk) (F.keeps R kk) (RelV.keeps kk r1) fun h₁ t₁ b₁ R₁ F₁ => ?_))
  refine wpAny_bind (wpAny_holding (AsL.name (n := n) (p := q) j hj A μ ρ env { s with heap := h₁, toks := t₁ } v2 _ g hs R₁ F₁ (RelV.extN (N := fun x => x = env.locals) (ExtN.of_keeps fun b o nb e => b₁ b o nb e) (fun b q => .inl (q ▸ F.locIn)) (RelV.keeps kk r2)) fun h₂ t₂ b₂ R₂ F₂ => ?_))
  exact wpAny_pure (P h₂ t₂ (fun b o nb e => b₂ b o nb (b₁ b o nb (kk b o e))) R₂ F₂)

/-- x, y = e -/
theorem Ex.assignT {elts : List Expr} {kd : Nat} {tp : Pos} (h : Ev B n sc vs σ e v) (ha : As B n sc σ (.Tuple elts kd tp) v vs vs₁) (hsw : ∀ env, swapsWithSole [.Tuple elts kd tp] e pos.line env = pure false := by intro _; rfl)
    (hw : ∀ env, env.scope = sc → swappedStores [.Tuple elts kd tp] e env = pure none := by intro _ _; rfl) : Ex B n sc vs σ (.Assign [.Tuple elts kd tp] e pos) .next vs₁ σ := fun A μ ρ env s Q g hs R F P => by
  refine PyProof.Rows.Assign_Tuple (h A μ ρ env s _ g hs R F fun v' h₁ t₁ X₁ r₁ => ?_) (hsw env) (hw env hs)
  refine ha A μ ρ env { s with heap := h₁, toks := t₁ } v' _ g hs (R.keeps X₁) (F.keeps R X₁) r₁ fun h₂ t₂ X₂ R₂ F₂ => ?_
  exact ((P.keeps X₁ (R.keeps X₁) F.own).step X₂ R₂ F.own).here R₂ F₂ (by unfold RelF; rfl)
/-- x = y = e -/
theorem Ex.assign2 {x y : Str} {p q : Pos} {k1 k2 : NameKind} (i j : Nat) (hi : sc.names[i]? = some (x, k1)) (h1 : k1 = .local ∨ k1 = .cell) (hj : sc.names[j]? = some (y, k2)) (h2 : k2 = .local ∨ k2 = .cell) (h : Ev B n sc vs σ e v) :
    Ex B n sc vs σ (.Assign [.Name x p, .Name y q] e pos) .next ((vs.set i (some v)).set j (some v)) σ := fun A μ ρ env s Q g hs R F P => by
  rw [PyProof.Rows.exec_Assign]
  refine wpAny_bind (wpAny_standAt (wpAny_bind (wpAny_pure ?_)))
  rw [if_neg (by decide)]
  refine wpAny_bind (h A μ ρ env s _ g hs R F fun v' h₁ t₁ X₁ r₁ => ?_)
  refine wpAny_bind (wpAny_pure ?_)
  show wpAny _ A (do (do holding [v'] (PySem.assign (PySem.Expr.Name x p) env v'); PySem.assign (PySem.Expr.Name y q) env v'); pure .next) Q NoE _
  subst hs
  refine wpAny_bind (wpAny_bind (wpAny_holding (wpAny_assign_Name (store_name (s := { s with heap := h₁, toks := t₁ }) hi h1 (R.keeps X₁) (F.keeps R X₁) r₁ fun h₂ t₂ X₂ R₂ F₂ => ?_))))
  refine wpAny_assign_Name (store_name (s := { s with heap := h₂, toks := t₂ }) hj h2 R₂ F₂ (RelV.extN X₂ ((R.keeps X₁).within F.own) r₁) fun h₃ t₃ X₃ R₃ F₃ => ?_)
  exact wpAny_pure ((((P.keeps X₁ (R.keeps X₁) F.own).step X₂ R₂ F.own).step X₃ R₃ F.own).here R₃ F₃ (by unfold RelF; rfl))

-- calls
noncomputable def OpN (B : Wd) (n : Nat) (σ : Store) (as : List Val) (t : List Value → Sem Value) (ys : List Val) : Prop :=
  ∀ (A : Around) (μ ρ : Addrs) (s : Shared) (xs : List Value) (Q : Value → Shared → Prop), Good n A → Rep B μ ρ σ s.heap → RelVs μ ρ s.heap as xs → PostN μ ρ s ys Q → wpAny (model B.prog B.w) A (t xs) Q NoE s
theorem PostN.step {μ ρ : Addrs} {s : Shared} {ys : List Val} {Q : Value → Shared → Prop} (P : PostN μ ρ s ys Q) {h₁ : Heap} {tk : Nat} (X : Keeps s.heap h₁) : PostN μ ρ { s with heap := h₁, toks := tk } ys Q :=
  fun a ws h' tk' hn k hl r => P a ws h' tk' (X.none hn) (X.trans k) hl r
noncomputable def fnNot : List Expr → Bool
  | .Starred .. :: _ => false
  | _ => true
theorem starEach_cons {x : Expr} {es : List Expr} {env : Env} (h : noStar (x :: es) = true) : starEach (x :: es) env = (false, eval x env) :: starEach es env ∧ noStar es = true := by
  cases x <;> first | exact ⟨rfl, h⟩ | cases h
theorem noStar_plain {pos : Pos} {env : Env} : ∀ {es : List Expr}, noStar es = true → (backTo pos (starEach es env)).any (·.1) = false
  | [], _ => rfl
  | x :: es, h => by
    obtain ⟨e1, e2⟩ := starEach_cons (env := env) h
    rw [e1]
    show (false || (backTo pos (starEach es env)).any (·.1)) = false
    rw [noStar_plain e2]; rfl
/-- a call of a built-in function by its name -/
theorem Ev.callB {x : Str} {p : Pos} {id : String} {es : List Expr} {ws : List Val} (hf : Ev B n sc vs σ (.Name x p) (.glob (.builtin id))) (ha : Evs B n sc vs σ (e :: es) ws) (ho : OpS B n σ ws (fun xs => call (.builtin id) xs) v) (hst : noStar (e :: es) = true := by rfl) :
    Ev B n sc vs σ (.Call (.Name x p) (e :: es) [] pos) v := fun A μ ρ env s Q g hs R F P => by
  refine PyProof.Rows.Call_ (hf A μ ρ env s _ g hs R F fun f' h₁ t₁ X₁ r₁ => ?_)
  unfold RelV at r₁; subst r₁
  obtain ⟨e1, e2⟩ := starEach_cons (env := env) hst
  refine PyProof.Rows.callWith_builtin1 (ha.run (pos := pos) g hs (R.keeps X₁) (F.keeps R X₁) (fun ys h₂ t₂ X₂ r₂ => ?_) hst) e1 (noStar_plain e2)
  exact ho A μ ρ { s with heap := h₂, toks := t₂ } ys Q g ((R.keeps X₁).keeps X₂) r₂ ((P.step X₁).step X₂)
/-- a call of a built-in type -/
theorem Ev.callT {x : Str} {p : Pos} {T : String} {es : List Expr} {ws : List Val} (hf : Ev B n sc vs σ (.Name x p) (.glob (.type T))) (ha : Evs B n sc vs σ (e :: es) ws) (ho : OpS B n σ ws (fun xs => call (.type T) xs) v) (hst : noStar (e :: es) = true := by rfl) :
    Ev B n sc vs σ (.Call (.Name x p) (e :: es) [] pos) v := fun A μ ρ env s Q g hs R F P => by
  refine PyProof.Rows.Call_ (hf A μ ρ env s _ g hs R F fun f' h₁ t₁ X₁ r₁ => ?_)
  unfold RelV at r₁; subst r₁
  obtain ⟨e1, e2⟩ := starEach_cons (env := env) hst
  refine PyProof.Rows.callWith_type1 (ha.run (pos := pos) g hs (R.keeps X₁) (F.keeps R X₁) (fun ys h₂ t₂ X₂ r₂ => ?_) hst) e1 (noStar_plain e2)
  exact ho A μ ρ { s with heap := h₂, toks := t₂ } ys Q g ((R.keeps X₁).keeps X₂) r₂ ((P.step X₁).step X₂)

theorem RelVs.one {μ ρ : Addrs} {h : Heap} {xs : List Value} (r : RelVs μ ρ h [a] xs) : ∃ x, xs = [x] ∧ RelV μ ρ h a x := by
  obtain ⟨x, r', rfl, r1, r⟩ := RelVs.cons_iff.mp r
  rw [RelVs.nil_iff] at r; subst r
  exact ⟨x, rfl, r1⟩
theorem RelVs.two {μ ρ : Addrs} {h : Heap} {xs : List Value} (r : RelVs μ ρ h [a, b] xs) : ∃ x y, xs = [x, y] ∧ RelV μ ρ h a x ∧ RelV μ ρ h b y := by
  obtain ⟨x, r', rfl, r1, r⟩ := RelVs.cons_iff.mp r
  obtain ⟨y, rfl, r2⟩ := RelVs.one r
  exact ⟨x, y, rfl, r1, r2⟩
theorem RelVs.three {μ ρ : Addrs} {h : Heap} {xs : List Value} (r : RelVs μ ρ h [a, b, c] xs) : ∃ x y z, xs = [x, y, z] ∧ RelV μ ρ h a x ∧ RelV μ ρ h b y ∧ RelV μ ρ h c z := by
  obtain ⟨x, r', rfl, r1, r⟩ := RelVs.cons_iff.mp r
  obtain ⟨y, z, rfl, r2, r3⟩ := RelVs.two r
  exact ⟨x, y, z, rfl, r1, r2, r3⟩
theorem OpS.lenL {xs : List Val} (L : Lst σ a xs) (hz : xs.length ≤ sizeLine) : OpS B n σ [a] (fun xs => call (.builtin "len") xs) (.int xs.length) := fun A μ ρ s zs Q g R r P => by
  obtain ⟨x, rfl, r1⟩ := RelVs.one r
  obtain ⟨l, ws, rfl, hl, q⟩ := L.is R r1
  have e : (List.toArray ws).size = xs.length := by rw [List.size_toArray]; exact RelVs.length q
  exact call_len_list hl.is (by rw [e]; exact lt63 hz) (by rw [e]; exact P.int)
theorem OpS.lenS {x : Str} (hz : x.length ≤ sizeLine) : OpS B n σ [.str x] (fun xs => call (.builtin "len") xs) (.int x.length) := fun A μ ρ s zs Q g R r P => by
  obtain ⟨y, rfl, r1⟩ := RelVs.one r
  unfold RelV at r1; obtain ⟨t, rfl⟩ := r1
  have := lt63 hz
  exact PySem.P.len_str (by omega) P.int
theorem OpS.min2 {x y : Int} : OpS B n σ [.int x, .int y] (fun xs => call (.builtin "min") xs) (.int (if y < x then y else x)) := fun A μ ρ s zs Q g R r P => by
  obtain ⟨u, w, rfl, r1, r2⟩ := RelVs.two r
  unfold RelV at r1 r2; obtain ⟨t, rfl⟩ := r1; obtain ⟨t', rfl⟩ := r2
  refine min_two_ints g.handled fun h' tk k => ?_
  by_cases q : y < x
  · rw [if_pos q]; exact P _ _ _ k (by unfold RelV; rw [if_pos q]; exact ⟨_, rfl⟩)
  · rw [if_neg q]; exact P _ _ _ k (by unfold RelV; rw [if_neg q]; exact ⟨_, rfl⟩)
theorem OpS.hex {x : Int} (hz : (baseText "0x" 16 x).length ≤ sizeLine) : OpS B n σ [.int x] (fun xs => call (.builtin "hex") xs) (.str (baseText "0x" 16 x)) := fun A μ ρ s zs Q g R r P => by
  obtain ⟨y, rfl, r1⟩ := RelVs.one r
  unfold RelV at r1; obtain ⟨t, rfl⟩ := r1
  exact PySem.P.hex_of_int P.str hz
theorem OpS.strInt {x : Int} (hz : x.natAbs.log2 < 1920) : OpS B n σ [.int x] (fun xs => call (.type "str") xs) (.str (toString x)) := fun A μ ρ s zs Q g R r P => by
  obtain ⟨y, rfl, r1⟩ := RelVs.one r
  unfold RelV at r1; obtain ⟨t, rfl⟩ := r1
  exact PySem.P.str_of_int hz P.str
theorem OpS.typeStr {x : Str} : OpS B n σ [.str x] (fun xs => call (.type "type") xs) (.glob (.type "str")) := fun A μ ρ s zs Q g R r P => by
  obtain ⟨y, rfl, r1⟩ := RelVs.one r
  unfold RelV at r1; obtain ⟨t, rfl⟩ := r1
  exact call_type_of (typeIs_str _ _ _) (by decide) (P.here (by unfold RelV; rfl))
theorem OpS.typeList {xs : List Val} (L : Lst σ a xs) : OpS B n σ [a] (fun xs => call (.type "type") xs) (.glob (.type "list")) := fun A μ ρ s zs Q g R r P => by
  obtain ⟨x, rfl, r1⟩ := RelVs.one r
  obtain ⟨l, ws, rfl, hl, q⟩ := L.is R r1
  exact call_type_of hl.is.typeIs (by decide) (P.here (by unfold RelV; rfl))
theorem OpS.divmod {x y : Int} (hb : y ≠ 0) (hp : Builtin.divisionGoesByPylong x y = false) : OpS B n σ [.int x, .int y] (fun xs => call (.builtin "divmod") xs) (.tup [.int (x.fdiv y), .int (x.fmod y)]) := fun A μ ρ s zs Q g R r P => by
  obtain ⟨u, w, rfl, r1, r2⟩ := RelVs.two r
  unfold RelV at r1 r2; obtain ⟨t, rfl⟩ := r1; obtain ⟨t', rfl⟩ := r2
  refine divmod_int hb ?_ (.inl hp)
  have hn := fresh_none s.heap
  have hm : s.heap.objs.size ∉ μ := fun m => by obtain ⟨o, e⟩ := R.held _ m; rw [hn] at e; cases e
  have hr : s.heap.objs.size ∉ ρ := fun m => by obtain ⟨_, o, e, _⟩ := R.isSome m; rw [hn] at e; cases e
  refine P _ _ _ (Keeps.push _) ?_
  unfold RelV
  refine ⟨_, [_, _], rfl, hm, hr, ⟨_, Heap.get?_push_size _ rfl, rfl, 0, rfl⟩, RelVs.cons_iff.mpr ⟨_, _, rfl, ?_, RelVs.cons_iff.mpr ⟨_, _, rfl, ?_, RelVs.nil_iff.mpr rfl⟩⟩⟩
  · unfold RelV; exact ⟨_, rfl⟩
  · unfold RelV; exact ⟨_, rfl⟩
noncomputable def intsV (ns : List Int) : List Val := ns.map .int
theorem intsV_rel {μ ρ : Addrs} {h : Heap} : ∀ {ns : List Int} {ws : List Value}, RelVs μ ρ h (intsV ns) ws → IntsAre ws ns
  | [], ws, r => by rw [show intsV [] = [] from rfl, RelVs.nil_iff] at r; subst r; exact .nil
  | n :: ns, ws, r => by
    obtain ⟨v, w, rfl, r1, r2⟩ := RelVs.cons_iff.mp r
    unfold RelV at r1; obtain ⟨t, rfl⟩ := r1
    exact .cons n t (intsV_rel r2)
theorem OpS.sum {ns : List Int} (L : Lst σ a (intsV ns)) : OpS B n σ [a] (fun xs => call (.builtin "sum") xs) (.int ns.sum) := fun A μ ρ s zs Q g R r P => by
  obtain ⟨x, rfl, r1⟩ := RelVs.one r
  obtain ⟨l, ws, rfl, hl, q⟩ := L.is R r1
  have hi := intsV_rel q
  obtain ⟨xs, hx⟩ := hi.allInts.items
  have hl := hl.is
  rw [hx] at hl
  refine sum_intListG g.handled hl fun h' tk t' k => ?_
  refine P _ _ _ k ?_
  unfold RelV
  refine ⟨t', ?_⟩
  have e1 : numsOf (List.toArray ws).toList = ns := by exact hi.numsOf
  rw [hx, nums_intItems] at e1
  rw [← e1, preSum_eq, show xs.size = (xs.toList.map (·.1)).length by simp, List.take_length]
end
end Mine
namespace Mine
open PySem PySem.Spec PySem.Calls PyProof.Rows PySem.W
section
variable {B : Wd} {n : Nat} {sc : Scope} {vs vs₁ vs₂ : List (Option Val)} {σ σ₁ σ₂ : Store} {v a b c : Val} {k : Nat} {pos : Pos} {e l r : Expr} {st : Stmt} {rest : List Stmt} {f : Fl}

/-- the built-in class of a thing -/
noncomputable def TyB (B : Wd) (σ : Store) (a : Val) (T : String) : Prop := ∀ {μ ρ : Addrs} {s : Shared} {x : Value}, Rep B μ ρ σ s.heap → RelV μ ρ s.heap a x → s.TypeIs x T ∧ ∀ ad, x = .ref ad → ∃ o, s.heap.get? ad = some o ∧ o.dict = none
theorem TyB.str {x : Str} : TyB B σ (.str x) "str" := fun R q => by
  unfold RelV at q; obtain ⟨t, rfl⟩ := q
  exact ⟨typeIs_str _ _ _, fun _ z => nomatch z⟩
theorem TyB.int {x : Int} : TyB B σ (.int x) "int" := fun R q => by
  unfold RelV at q; obtain ⟨t, rfl⟩ := q
  exact ⟨typeIs_int _ _ _, fun _ z => nomatch z⟩
theorem TyB.lst {xs : List Val} (L : Lst σ a xs) : TyB B σ a "list" := fun R q => by
  obtain ⟨l, ws, rfl, hl, _⟩ := L.is R q
  obtain ⟨m, hl⟩ := hl.isl
  exact ⟨hl.isList.typeIs, fun ad z => by cases z; exact ⟨_, hl, rfl⟩⟩

theorem callWithM {A : Around} {env : Env} {s : Shared} {id : String} {ov : Value} {es : List Expr} {Q : Value → Shared → Prop} (hst : noStar es = true)
    (h : wpAny (model B.prog B.w) A (spliced (backTo pos (starEach es env))) (fun ys s₁ => wpAny (model B.prog B.w) A (call (.builtin id) (ov :: ys)) Q NoE s₁) NoE s) :
    wpAny (model B.prog B.w) A (callWith pos (.builtin id) [ov] (backTo pos (starEach es env)) []) Q NoE s := by
  refine Calls.callWith_builtin (noStar_plain hst) ?_
  cases es with
  | nil =>
    unfold evalArgs
    show wpAny _ A (spliced [] >>= _) _ NoE s
    refine wpAny_bind (wpAny_mono h (fun ys s' h' => ?_) fun _ _ x => x)
    refine wpAny_holding ?_
    exact wpAny_bind (wpAny_pure (wpAny_bind (wpAny_pure (wpAny_pure h'))))
  | cons x xs =>
    obtain ⟨e1, _⟩ := starEach_cons (env := env) hst
    rw [e1] at h ⊢
    exact Calls.evalArgs_plain h
theorem noStar_few {env : Env} : ∀ {es : List Expr}, noStar es = true → (backTo pos (starEach es env)).all (fun x => !x.1) = true
  | [], _ => rfl
  | x :: es, h => by
    obtain ⟨e1, e2⟩ := starEach_cons (env := env) h
    rw [e1]
    show (!false && (backTo pos (starEach es env)).all (fun x => !x.1)) = true
    rw [noStar_few e2]; rfl
theorem meth_core {A : Around} {env : Env} {s : Shared} {o : Expr} {name : Str} {ap : Pos} {es : List Expr} {Q : Value → Shared → Prop} (hst : noStar es = true) (hl : es.length ≤ 20) (hline : (ap.endLine == pos.line) = true) (hbase : attributeBase o name env (eval o env) = eval o env)
    (h : wpAny (model B.prog B.w) A (eval o env) (fun ov s₁ => ∃ (T id : String), PlainAttrs T ∧ Slot T name id ∧ typeOf (.builtin id) = pure (.type "method_descriptor") ∧ s₁.TypeIs ov T ∧ (∀ a, ov = .ref a → ∃ ob, s₁.heap.get? a = some ob ∧ ob.dict = none) ∧
      wpAny (model B.prog B.w) A (spliced (backTo pos (starEach es env))) (fun ys s₂ => wpAny (model B.prog B.w) A (call (.builtin id) (ov :: ys)) Q NoE s₂) NoE s₁) NoE s) :
    wpAny (model B.prog B.w) A (eval (.Call (.Attribute o name ap) es [] pos) env) Q NoE s := by
  refine wpAny_Call_method_lateS hbase ?_ hline (wpAny_mono h (fun ov s₁ h₁ => ?_) fun _ _ x => x)
  · rw [noStar_few hst]
    have : (backToKw pos (keywordEach [] env)).all (fun x => x.1.isSome) = true := rfl
    rw [this]
    simp
    omega
  · obtain ⟨T, id, pa, slot, ty, hT, hd, hc⟩ := h₁
    exact ⟨T, id, pa, slot, ty, hT, hd, callWithM hst hc⟩
/-- a call of a method of a built-in class -/
theorem Ev.meth {o : Expr} {name : Str} {ap : Pos} {es : List Expr} {ws : List Val} {T id : String} (ho : Ev B n sc vs σ o a) (ha : Evs B n sc vs σ es ws) (hT : TyB B σ a T) (pa : PlainAttrs T) (slot : Slot T name id) (ty : typeOf (.builtin id) = pure (.type "method_descriptor"))
    (op : OpS B n σ (a :: ws) (fun xs => call (.builtin id) xs) v) (hst : noStar es = true := by rfl) (hl : es.length ≤ 20 := by decide) (hline : (ap.endLine == pos.line) = true := by rfl) (hbase : ∀ env, attributeBase o name env (eval o env) = eval o env := by intro _; rfl) :
    Ev B n sc vs σ (.Call (.Attribute o name ap) es [] pos) v := fun A μ ρ env s Q g hs R F P => by
  refine meth_core hst hl hline (hbase env) (ho A μ ρ env s _ g hs R F fun x h₁ t₁ X₁ r₁ => ?_)
  obtain ⟨hT, hd⟩ := hT (s := { s with heap := h₁, toks := t₁ }) (R.keeps X₁) r₁
  refine ⟨T, id, pa, slot, ty, hT, hd, ha.run g hs (R.keeps X₁) (F.keeps R X₁) (fun ys h₂ t₂ X₂ r₂ => ?_) hst⟩
  exact op A μ ρ { s with heap := h₂, toks := t₂ } _ Q g ((R.keeps X₁).keeps X₂) (RelVs.cons_iff.mpr ⟨_, _, rfl, RelV.keeps X₂ r₁, r₂⟩) ((P.step X₁).step X₂)
theorem EvN.meth {o : Expr} {name : Str} {ap : Pos} {es : List Expr} {ws ys : List Val} {T id : String} (ho : Ev B n sc vs σ o a) (ha : Evs B n sc vs σ es ws) (hT : TyB B σ a T) (pa : PlainAttrs T) (slot : Slot T name id) (ty : typeOf (.builtin id) = pure (.type "method_descriptor"))
    (op : OpN B n σ (a :: ws) (fun xs => call (.builtin id) xs) ys) (hst : noStar es = true := by rfl) (hl : es.length ≤ 20 := by decide) (hline : (ap.endLine == pos.line) = true := by rfl) (hbase : ∀ env, attributeBase o name env (eval o env) = eval o env := by intro _; rfl) :
    EvN B n sc vs σ (.Call (.Attribute o name ap) es [] pos) ys := fun A μ ρ env s Q g hs R F P => by
  refine meth_core hst hl hline (hbase env) (ho A μ ρ env s _ g hs R F fun x h₁ t₁ X₁ r₁ => ?_)
  obtain ⟨hT, hd⟩ := hT (s := { s with heap := h₁, toks := t₁ }) (R.keeps X₁) r₁
  refine ⟨T, id, pa, slot, ty, hT, hd, ha.run g hs (R.keeps X₁) (F.keeps R X₁) (fun ys h₂ t₂ X₂ r₂ => ?_) hst⟩
  exact op A μ ρ { s with heap := h₂, toks := t₂ } _ Q g ((R.keeps X₁).keeps X₂) (RelVs.cons_iff.mpr ⟨_, _, rfl, RelV.keeps X₂ r₁, r₂⟩) ((P.step X₁).step X₂)

-- what the methods of texts give
theorem OpS.lower {x : Str} (hz : x.length ≤ 1000000) : OpS B n σ [.str x] (fun xs => call (.builtin "str.lower") xs) (.str (Txt.lower x)) := fun A μ ρ s zs Q g R r P => by
  obtain ⟨y, rfl, r1⟩ := RelVs.one r
  unfold RelV at r1; obtain ⟨t, rfl⟩ := r1
  exact SCL.lower (by omega) fun _ => P.str
theorem OpS.upper {x : Str} (hz : x.length ≤ 1000000) : OpS B n σ [.str x] (fun xs => call (.builtin "str.upper") xs) (.str (Txt.upper x)) := fun A μ ρ s zs Q g R r P => by
  obtain ⟨y, rfl, r1⟩ := RelVs.one r
  unfold RelV at r1; obtain ⟨t, rfl⟩ := r1
  exact SCL.upper (by omega) fun _ => P.str
theorem OpS.bits {x : Int} : OpS B n σ [.int x] (fun xs => call (.builtin "int.bit_length") xs) (.int (Builtin.Int.intBits x)) := fun A μ ρ s zs Q g R r P => by
  obtain ⟨y, rfl, r1⟩ := RelVs.one r
  unfold RelV at r1; obtain ⟨t, rfl⟩ := r1
  exact call_int_bit_length P.int
noncomputable def strsV (xs : List Str) : List Val := xs.map .str
theorem strsV_rel {μ ρ : Addrs} {h : Heap} : ∀ {ns : List Str} {ws : List Value}, RelVs μ ρ h (strsV ns) ws → StrsAre ws ns
  | [], ws, r => by rw [show strsV [] = [] from rfl, RelVs.nil_iff] at r; subst r; exact .nil
  | n :: ns, ws, r => by
    obtain ⟨v, w, rfl, r1, r2⟩ := RelVs.cons_iff.mp r
    unfold RelV at r1; obtain ⟨t, rfl⟩ := r1
    exact .cons n t (strsV_rel r2)
theorem OpS.join {x : Str} {ys : List Str} (L : Lst σ a (strsV ys)) (hok : (ys.map (·.length)).sum + ys.length * x.length ≤ 16777216) : OpS B n σ [.str x, a] (fun xs => call (.builtin "str.join") xs) (.str (Txt.join x ys)) := fun A μ ρ s zs Q g R r P => by
  obtain ⟨u, w, rfl, r1, r2⟩ := RelVs.two r
  unfold RelV at r1; obtain ⟨t, rfl⟩ := r1
  obtain ⟨l, ws, rfl, hl, q⟩ := L.is R r2
  exact join_list hl.is (by rw [show (List.toArray ws).toList = ws from rfl]; exact strsV_rel q) hok fun _ _ => P.str
theorem OpS.countI {ns : List Int} {x : Int} (L : Lst σ a (intsV ns)) : OpS B n σ [a, .int x] (fun xs => call (.builtin "list.count") xs) (.int (ns.count x)) := fun A μ ρ s zs Q g R r P => by
  obtain ⟨u, w, rfl, r1, r2⟩ := RelVs.two r
  unfold RelV at r2; obtain ⟨t, rfl⟩ := r2
  obtain ⟨l, ws, rfl, hl, q⟩ := L.is R r1
  exact count_list_ints hl.is (intsV_rel q) P.int
theorem OpS.indexI {ns : List Int} {x : Int} (L : Lst σ a (intsV ns)) (hx : x ∈ ns) (hlay : PyData.layable0 (.list (ns.map .int)) = true) : OpS B n σ [a, .int x] (fun xs => call (.builtin "list.index") xs) (.int (ns.idxOf x)) := fun A μ ρ s zs Q g R r P => by
  obtain ⟨u, w, rfl, r1, r2⟩ := RelVs.two r
  unfold RelV at r2; obtain ⟨t, rfl⟩ := r2
  obtain ⟨l, ws, rfl, hl, q⟩ := L.is R r1
  exact index_list_ints hl.is (intsV_rel q) hlay hx P.int
end
end Mine
namespace Mine
open PySem PySem.Spec PySem.Calls PyProof.Rows PySem.W
section
variable {B : Wd} {n : Nat} {sc : Scope} {vs vs₁ vs₂ : List (Option Val)} {σ σ₁ σ₂ : Store} {v a b c : Val} {k : Nat} {pos : Pos} {e l r : Expr} {st : Stmt} {rest : List Stmt} {f : Fl}

/-- one of the frame's own lists turned -/
theorem Rep.setL {μ ρ : Addrs} {h h' : Heap} {i : Nat} {ad : Addr} {xs : List Val} {ws : List Value} (R : Rep B μ ρ σ h) (hi : ρ[i]? = some ad) (k : ButI ad h h') (hl : LS h' ad (List.toArray ws)) (q : RelVs μ ρ h xs ws) :
    Ext ρ h ρ h' ∧ Rep B μ ρ (σ.set i xs) h' := by
  have m : ad ∈ ρ := List.mem_of_getElem? hi
  have X : Ext ρ h ρ h' := ExtN.of_keeps (N := fun b => b = ad) (fun b o nb e => k b o nb e) |> fun (X : ExtN (fun b => b = ad) ρ h ρ h') => ⟨X.pre, fun b o nb _ e => k b o (fun q => nb (q ▸ m)) e⟩
  refine ⟨X, R.tab.turn (fun b o _ n e => k b o (fun q => n (q ▸ m)) e) fun _ _ _ n1 n2 => ⟨n1, n2⟩, fun b o e => ?_, R.above, by rw [List.length_set]; exact R.len, R.nodup, R.apart, fun b mb => ?_, R.muAbove, fun j b ys e1 e2 => ?_⟩
  · have : b ≠ ad := by rintro rfl; rw [R.above b m] at e; cases e
    exact k b o this (R.base b o e)
  · obtain ⟨o, e⟩ := R.held b mb
    exact ⟨o, k b o (by rintro rfl; exact R.apart b m mb) e⟩
  · by_cases q' : i = j
    · subst q'
      rw [hi] at e1; cases e1
      rw [List.getElem?_set] at e2
      have hlt : i < σ.length := R.len ▸ (List.getElem?_eq_some_iff.mp hi).1
      simp only [hlt, if_true, Option.some.injEq] at e2
      subst e2
      exact ⟨ws, hl, RelVs.ext X q⟩
    · rw [List.getElem?_set, if_neg q'] at e2
      obtain ⟨us, ⟨o, e, r0⟩, r2⟩ := R.obj j b ys e1 e2
      have hne : b ≠ ad := by
        rintro rfl
        have pw := List.pairwise_iff_getElem.mp R.nodup
        obtain ⟨h1, e1'⟩ := List.getElem?_eq_some_iff.mp e1
        obtain ⟨h2, e2'⟩ := List.getElem?_eq_some_iff.mp hi
        rcases Nat.lt_or_gt_of_ne q' with z | z
        · exact pw i j h2 h1 z (e2'.trans e1'.symm)
        · exact pw j i h1 h2 z (e1'.trans e2'.symm)
      exact ⟨us, ⟨o, k b o hne e, r0⟩, RelVs.ext X r2⟩

/-- a method that turns own list i -/
noncomputable def OpM (B : Wd) (n : Nat) (σ : Store) (i : Nat) (as : List Val) (t : Value → List Value → Sem Value) (σ' : Store) : Prop :=
  ∀ (A : Around) (μ ρ : Addrs) (s : Shared) (ad : Addr) (xs : List Value) (Q : Value → Shared → Prop), Good n A → Rep B μ ρ σ s.heap → ρ[i]? = some ad → RelVs μ ρ s.heap as xs →
    (∀ v' h' tk, Ext ρ s.heap ρ h' → Rep B μ ρ σ' h' → (∀ z, v' ≠ .ref z) → Q v' { s with heap := h', toks := tk }) → wpAny (model B.prog B.w) A (t (.ref ad) xs) Q NoE s
/-- x.m(..) for the list's sake -/
theorem Ex.meth {x : Str} {xp : Pos} {name : Str} {ap cp : Pos} {es : List Expr} {ws : List Val} {i : Nat} {id : String} (hx : Ev B n sc vs σ (.Name x xp) (.ref i)) (ha : Evs B n sc vs σ es ws) (slot : Slot "list" name id) (ty : typeOf (.builtin id) = pure (.type "method_descriptor"))
    (op : OpM B n σ i ws (fun o xs => call (.builtin id) (o :: xs)) σ₁) (hst : noStar es = true := by rfl) (hl : es.length ≤ 20 := by decide) (hline : (ap.endLine == cp.line) = true := by rfl) (hm : sc.kind = .function := by rfl)
    (hsw : ∀ env, swapsWith (.Call (.Attribute (.Name x xp) name ap) es [] cp) none pos.line env = pure false := by intro _; rfl) :
    Ex B n sc vs σ (.Expr (.Call (.Attribute (.Name x xp) name ap) es [] cp) pos) .next vs σ₁ := fun A μ ρ env s Q g hs R F P => by
  refine wpAny_Expr (meth_core hst hl hline rfl (hx A μ ρ env s _ g hs R F fun o h₁ t₁ X₁ r₁ => ?_)) (by unfold interactive; rw [hs, hm]; rfl) (hsw env)
  have R₁ := R.keeps X₁
  have F₁ := F.keeps R X₁
  unfold RelV at r₁
  obtain ⟨ad, hi, rfl⟩ := r₁
  have m : ad ∈ ρ := List.mem_of_getElem? hi
  obtain ⟨us, hl'⟩ := R₁.isSome m
  obtain ⟨c, hl'⟩ := hl'.isl
  refine ⟨"list", id, PySem.F.plainAttrs_list, slot, ty, hl'.isList.typeIs, fun z e => by cases e; exact ⟨_, hl', rfl⟩, ha.run g hs R₁ F₁ (fun ys h₂ t₂ X₂ r₂ => ?_) hst⟩
  refine op A μ ρ { s with heap := h₂, toks := t₂ } ad ys _ g (R₁.keeps X₂) hi r₂ fun v' h₃ t₃ X₃ R₃ hv => ?_
  have q : Q .next { s with heap := h₃, toks := t₃ } := (((P.keeps X₁ R₁ F.own).keeps X₂ (R₁.keeps X₂) F.own).step X₃.any R₃ F.own).here R₃ ((F₁.keeps R₁ X₂).ext (R₁.keeps X₂) X₃) (by unfold RelF; rfl)
  cases v' <;> first | exact absurd rfl (hv _) | exact q

theorem ButI.update {h : Heap} {ad : Addr} {g : Obj → Obj} : ButI ad h (h.update ad g) := fun b o nb e => (Heap.get?_update_other h g (Ne.symm nb)).trans e
theorem OpM.append {i : Nat} {xs : List Val} (hx : σ[i]? = some xs) (hz : xs.length ≤ 1000000) : OpM B n σ i [a] (fun o zs => call (.builtin "list.append") (o :: zs)) (σ.set i (xs ++ [a])) := fun A μ ρ s ad zs Q g R hi q' P => by
  obtain ⟨x, rfl, q⟩ := RelVs.one q'
  obtain ⟨ws, hl, q1⟩ := R.obj i ad xs hi hx
  have hlen := RelVs.length q1
  have hs := sizeLine_eq
  refine wpAny_list_append_plain hl.plain (fun h' hl' hs' => ?_) (by rw [List.size_toArray]; omega)
  obtain ⟨X, R'⟩ := R.setL (xs := xs ++ [a]) (ws := ws ++ [x]) hi (fun b o nb e => (hs'.2 b nb).trans e) (by rw [show (ws ++ [x]).toArray = ws.toArray.push x by simp]; exact LS.of hl') (RelVs.append q1 (RelVs.cons_iff.mpr ⟨_, _, rfl, q, RelVs.nil_iff.mpr rfl⟩))
  exact P .none h' s.toks X R' (by intro z e; cases e)
theorem OpM.reverse {i : Nat} {xs : List Val} (hx : σ[i]? = some xs) (hz : xs.length ≤ 1000000) : OpM B n σ i [] (fun o zs => call (.builtin "list.reverse") (o :: zs)) (σ.set i xs.reverse) := fun A μ ρ s ad zs Q g R hi q P => by
  rw [RelVs.nil_iff] at q; subst q
  obtain ⟨ws, hl, q1⟩ := R.obj i ad xs hi hx
  have hlen := RelVs.length q1
  have hs := sizeLine_eq
  obtain ⟨c, hl'⟩ := hl.isl
  refine call_meets PySem.F.slot_list_reverse ⟨_, hl', rfl⟩ PySem.F.entry_list_reverse (PySem.F.args_list_reverse_1 _) (AutoSeq1.list_reverse_list_0 ad _ c (by rw [List.size_toArray]; omega)) ⟨hl', ?_⟩
  obtain ⟨X, R'⟩ := R.setL (xs := xs.reverse) (ws := ws.reverse) (h' := s.heap.update ad (Obj.mapSeq fun x => x.reverse)) hi ButI.update (by rw [show ws.reverse.toArray = ws.toArray.reverse by simp]; exact ⟨_, hl'.update _, _, rfl⟩) (RelVs.reverse q1)
  exact P .none _ s.toks X R' (by intro z e; cases e)
theorem OpM.extend {i : Nat} {xs ys : List Val} (hx : σ[i]? = some xs) (L : Lst σ a ys) (hz : xs.length + ys.length ≤ 1000000) : OpM B n σ i [a] (fun o zs => call (.builtin "list.extend") (o :: zs)) (σ.set i (xs ++ ys)) := fun A μ ρ s ad zs Q g R hi q' P => by
  obtain ⟨x, rfl, q⟩ := RelVs.one q'
  obtain ⟨ws, hl, q1⟩ := R.obj i ad xs hi hx
  obtain ⟨ad2, us, rfl, hl2, q2⟩ := L.is R q
  have h1 := RelVs.length q1
  have h2 := RelVs.length q2
  have hs := sizeLine_eq
  obtain ⟨c, hl'⟩ := hl.isl
  obtain ⟨c2, hl2'⟩ := hl2.isl
  refine call_meets PySem.F.slot_list_extend ⟨_, hl', rfl⟩ PySem.F.entry_list_extend (PySem.F.args_list_extend_2 _ _) (AutoSeq1.list_extend_list_list_0 ad _ c ad2 _ c2 (by simp [Builtin.List.listTooLong, sizeLine]; omega) (by rw [List.size_toArray]; omega) (by rw [List.size_toArray, List.size_toArray]; omega)) ⟨hl', hl2', ?_⟩
  obtain ⟨X, R'⟩ := R.setL (xs := xs ++ ys) (ws := ws ++ us) (h' := s.heap.update ad (Obj.mapSeq fun x => x ++ (List.toArray us))) hi ButI.update (by rw [show (ws ++ us).toArray = ws.toArray ++ us.toArray by simp]; exact ⟨_, hl'.update _, _, rfl⟩) (RelVs.append q1 q2)
  exact P .none _ s.toks X R' (by intro z e; cases e)

/-- x[j] = e -/
theorem Ex.setI {x : Str} {xp sp : Pos} {ie : Expr} {i j : Nat} {xs : List Val} {z : Int} (hx : Ev B n sc vs σ (.Name x xp) (.ref i)) (he : Ev B n sc vs σ e v) (hie : Ev B n sc vs σ ie (.int z)) (hxs : σ[i]? = some xs) (hz : z = j) (hj : j < xs.length) (hl : xs.length ≤ 1000000)
    (hsw : ∀ env, swapsWithSole [.Subscript (.Name x xp) ie sp] e pos.line env = pure false := by intro _; rfl) (hns : notSlice ie = true := by rfl) :
    Ex B n sc vs σ (.Assign [.Subscript (.Name x xp) ie sp] e pos) .next vs (σ.set i (xs.set j v)) := fun A μ ρ env s Q g hs R F P => by
  rw [PyProof.Rows.exec_Assign]
  refine wpAny_bind (wpAny_standAt ?_)
  rw [hsw env]
  refine wpAny_bind (wpAny_pure ?_)
  rw [if_neg (by decide)]
  refine wpAny_bind (he A μ ρ env s _ g hs R F fun v' h₁ t₁ X₁ r₁ => ?_)
  refine wpAny_bind (wpAny_pure ?_)
  show wpAny _ A (do PySem.assign (PySem.Expr.Subscript (PySem.Expr.Name x xp) ie sp) env v'; pure .next) Q NoE _
  have R₁ := R.keeps X₁
  have F₁ := F.keeps R X₁
  refine wpAny_bind (kas_sub ?_)
  refine hx A μ ρ env { s with heap := h₁, toks := t₁ } _ g hs R₁ F₁ fun o h₂ t₂ X₂ r₂ => ?_
  refine hie A μ ρ env { s with heap := h₂, toks := t₂ } _ g hs (R₁.keeps X₂) (F₁.keeps R₁ X₂) fun w h₃ t₃ X₃ r₃ => ?_
  have R₃ := (R₁.keeps X₂).keeps X₃
  have F₃ := (F₁.keeps R₁ X₂).keeps (R₁.keeps X₂) X₃
  unfold RelV at r₂ r₃
  obtain ⟨ad, hi, rfl⟩ := r₂
  obtain ⟨t, rfl⟩ := r₃
  obtain ⟨ws, hl', q1⟩ := R₃.obj i ad xs hi hxs
  have hlen := RelVs.length q1
  obtain ⟨c, hl''⟩ := hl'.isl
  subst hz
  refine ki_setAt hl'' (by omega) (by omega) (by rw [List.size_toArray]; omega) ?_
  have rv : RelV μ ρ h₃ v v' := RelV.keeps X₃ (RelV.keeps X₂ r₁)
  obtain ⟨X, R'⟩ := R₃.setL (xs := xs.set j v) (ws := ws.set j v') (h' := h₃.update ad (Obj.mapSeq (·.setIfInBounds (j : Int).toNat v'))) hi ButI.update (by
    rw [show (ws.set j v').toArray = ws.toArray.setIfInBounds (j : Int).toNat v' by simp]; exact ⟨_, hl''.update _, _, rfl⟩) (RelVs.set rv j q1)
  refine wpAny_pure ?_
  exact ((((P.keeps X₁ R₁ F.own).keeps X₂ (R₁.keeps X₂) F.own).keeps X₃ R₃ F.own).step X.any R' F.own).here R' (F₃.ext R₃ X) (by unfold RelF; rfl)
end
end Mine
namespace Mine
open PySem PySem.Spec PySem.Calls PyProof.Rows PySem.W
section
variable {B : Wd} {n : Nat} {sc : Scope} {vs vs₁ vs₂ : List (Option Val)} {σ σ₁ σ₂ : Store} {v a b c : Val} {k : Nat} {pos : Pos} {e l r : Expr} {st : Stmt} {rest : List Stmt} {f : Fl}

/-- lo, lo + 1, .. below hi -/
noncomputable def rng (lo hi : Int) : List Int := (List.range (hi - lo).toNat).map fun (i : Nat) => lo + (i : Int)
theorem rng_size (lo hi : Int) : Builtin.Range.rangeSize lo hi 1 = ((rng lo hi).length : Int) := by
  unfold Builtin.Range.rangeSize rng
  rw [List.length_map, List.length_range]
  simp only [show (1 : Int) > 0 by decide, if_true, Int.ediv_one]
  split <;> omega
theorem rng_at {lo hi : Int} {j : Nat} {i : Int} (h : (rng lo hi)[j]? = some i) : i = lo + (j : Int) := by
  unfold rng at h
  rw [List.getElem?_map] at h
  obtain ⟨q, h1, h2⟩ := Option.map_eq_some_iff.mp h
  rw [List.getElem?_range] at h1
  · cases h1; exact h2.symm
  · cases q' : (List.range (hi - lo).toNat)[j]? with
    | none => rw [q'] at h1; cases h1
    | some z => have := (List.getElem?_eq_some_iff.mp q').1; rwa [List.length_range] at this
theorem rangeIter {A : Around} {μ ρ : Addrs} {h₀' : Heap} {s : Shared} {lo hi : Int} {Q : Value → Shared → Prop} {r : Addr} {t u w : Tok} (g : Good n A) (R : Rep B μ ρ σ s.heap) (k0 : Keeps h₀' s.heap) (hr : IsRange s.heap r lo hi 1 t u w)
    (h1 : -(2 ^ 62) ≤ lo ∧ lo < 2 ^ 62) (h2 : -(2 ^ 62) ≤ hi ∧ hi < 2 ^ 62) (hz : (rng lo hi).length ≤ sizeLine)
    (P : ∀ (I : Addr) (fp : List Addr) (P : Nat → Value → Prop) (St : Nat → Heap → Prop) (h₁ h₂ : Heap) (tk : Nat), Keeps h₀' h₁ → h₁.get? I = none → Keeps h₁ h₂ → Walks B.prog B.w A I fp [I] (intsV (rng lo hi)).length P St → St 0 h₂ →
      (∀ b ∈ fp, b ≠ I → (∃ o, h₁.get? b = some o ∧ o.cls ≠ .none) ∧ (true = true → b ∉ μ ∧ b ∉ ρ)) → (∀ j h, St j h → ∃ o T, h.get? I = some o ∧ o.cls = .type T ∧ quietIter T = true) →
      (∀ (j : Nat) (y : Value) (x : Val), P j y → (intsV (rng lo hi))[j]? = some x → RelV μ ρ h₁ x y) → (intsV (rng lo hi)).length ≤ sizeLine → Q (.ref I) { s with heap := h₂, toks := tk }) :
    wpAny (model B.prog B.w) A (pyIter (.ref r)) Q NoE s := by
  refine wpAny_pyIter_range hr (small_one h1.1 h1.2 h2.1 h2.2) ?_
  have hn := fresh_none s.heap
  have hl : (intsV (rng lo hi)).length = (rng lo hi).length := List.length_map ..
  refine P s.heap.objs.size [s.heap.objs.size] _ _ s.heap _ s.toks k0 hn (Keeps.push _) (hl ▸ Walks.range g.handled s.heap.objs.size lo 1 (rng lo hi).length) ?_ (fun b hb nb => absurd (List.mem_singleton.mp hb) nb) (fun j h st => ?_) (fun j y x hp hx => ?_) (hl ▸ hz)
  · rw [rng_size]
    have e : lo + ((0 : Nat) : Int) * 1 = lo := by omega
    have e2 : ((rng lo hi).length : Int) - ((0 : Nat) : Int) = ((rng lo hi).length : Int) := by omega
    rw [e, hl, e2]
    exact Heap.get?_push_size _ rfl
  · exact ⟨_, "range_iterator", st, rfl, by decide⟩
  · obtain ⟨t, rfl⟩ := hp
    unfold intsV at hx
    rw [List.getElem?_map] at hx
    obtain ⟨i, hi', rfl⟩ := Option.map_eq_some_iff.mp hx
    have := rng_at hi'
    subst this
    unfold RelV
    exact ⟨t, by rw [Int.mul_one]⟩
/-- range(e) -/
theorem Itr.range1 {x : Str} {p : Pos} {hi : Int} (hf : Ev B n sc vs σ (.Name x p) (.glob (.type "range"))) (he : Ev B n sc vs σ e (.int hi)) (h2 : -(2 ^ 62) ≤ hi ∧ hi < 2 ^ 62) (hz : (rng 0 hi).length ≤ sizeLine) (hst : noStar [e] = true := by rfl) :
    Itr true B n sc vs σ (.Call (.Name x p) [e] [] pos) (intsV (rng 0 hi)) := fun A μ ρ env s Q g hs R F P => by
  refine PyProof.Rows.Call_ (hf A μ ρ env s _ g hs R F fun f' h₁ t₁ X₁ r₁ => ?_)
  unfold RelV at r₁; subst r₁
  obtain ⟨e1, e2⟩ := starEach_cons (env := env) hst
  refine PyProof.Rows.callWith_type1 ((Evs.cons he .nil).run (pos := pos) g hs (R.keeps X₁) (F.keeps R X₁) (fun ys h₂ t₂ X₂ r₂ => ?_) hst) e1 (noStar_plain e2)
  obtain ⟨y, rfl, r₃⟩ := RelVs.one r₂
  unfold RelV at r₃; obtain ⟨t, rfl⟩ := r₃
  refine call_range_1 ?_
  have k0 : Keeps s.heap (h₂.push { cls := .type "range", data := .fields #[.int 0 t₂, .int hi t, .int 1 (t₂ + 1)] }) := Keeps.trans X₁ (Keeps.trans X₂ (Keeps.push _))
  exact rangeIter (σ := σ) (n := n) (s := { s with heap := h₂.push { cls := .type "range", data := .fields #[.int 0 t₂, .int hi t, .int 1 (t₂ + 1)] }, toks := t₂ + 1 + 1 }) g (R.keeps k0) k0 (IsRange.new ..) (by decide) h2 hz fun I fp P' St h₃ h₄ tk a1 a2 a3 a4 a5 a6 a7 a8 a9 => P I fp P' St h₃ h₄ tk a1 a2 a3 a4 a5 a6 a7 a8 a9
/-- range(e, e') -/
theorem Itr.range2 {e' : Expr} {x : Str} {p : Pos} {lo hi : Int} (hf : Ev B n sc vs σ (.Name x p) (.glob (.type "range"))) (he : Ev B n sc vs σ e (.int lo)) (he' : Ev B n sc vs σ e' (.int hi)) (h1 : -(2 ^ 62) ≤ lo ∧ lo < 2 ^ 62) (h2 : -(2 ^ 62) ≤ hi ∧ hi < 2 ^ 62) (hz : (rng lo hi).length ≤ sizeLine) (hst : noStar [e, e'] = true := by rfl) :
    Itr true B n sc vs σ (.Call (.Name x p) [e, e'] [] pos) (intsV (rng lo hi)) := fun A μ ρ env s Q g hs R F P => by
  refine PyProof.Rows.Call_ (hf A μ ρ env s _ g hs R F fun f' h₁ t₁ X₁ r₁ => ?_)
  unfold RelV at r₁; subst r₁
  obtain ⟨e1, e2⟩ := starEach_cons (env := env) hst
  refine PyProof.Rows.callWith_type1 ((Evs.cons he (.cons he' .nil)).run (pos := pos) g hs (R.keeps X₁) (F.keeps R X₁) (fun ys h₂ t₂ X₂ r₂ => ?_) hst) e1 (noStar_plain e2)
  obtain ⟨y, z, rfl, r₃, r₄⟩ := RelVs.two r₂
  unfold RelV at r₃ r₄; obtain ⟨t, rfl⟩ := r₃; obtain ⟨t', rfl⟩ := r₄
  refine call_range_2 ?_
  have k0 : Keeps s.heap (h₂.push { cls := .type "range", data := .fields #[.int lo t, .int hi t', .int 1 t₂] }) := Keeps.trans X₁ (Keeps.trans X₂ (Keeps.push _))
  exact rangeIter (σ := σ) (n := n) (s := { s with heap := h₂.push { cls := .type "range", data := .fields #[.int lo t, .int hi t', .int 1 t₂] }, toks := t₂ + 1 }) g (R.keeps k0) k0 (IsRange.new ..) h1 h2 hz fun I fp P' St h₃ h₄ tk a1 a2 a3 a4 a5 a6 a7 a8 a9 => P I fp P' St h₃ h₄ tk a1 a2 a3 a4 a5 a6 a7 a8 a9

/-- reversed(x): of a list that no one turns -/
theorem Itr.rev {x : Str} {p : Pos} {xs : List Val} (hf : Ev B n sc vs σ (.Name x p) (.glob (.type "reversed"))) (he : Ev B n sc vs σ e (.list xs)) (hz : xs.length ≤ sizeLine) (hst : noStar [e] = true := by rfl) :
    Itr true B n sc vs σ (.Call (.Name x p) [e] [] pos) xs.reverse := fun A μ ρ env s Q g hs R F P => by
  refine PyProof.Rows.Call_ (hf A μ ρ env s _ g hs R F fun f' h₁ t₁ X₁ r₁ => ?_)
  unfold RelV at r₁; subst r₁
  obtain ⟨e1, e2⟩ := starEach_cons (env := env) hst
  refine PyProof.Rows.callWith_type1 ((Evs.cons he .nil).run (pos := pos) g hs (R.keeps X₁) (F.keeps R X₁) (fun ys h₂ t₂ X₂ r₂ => ?_) hst) e1 (noStar_plain e2)
  obtain ⟨y, rfl, r₃⟩ := RelVs.one r₂
  unfold RelV at r₃
  obtain ⟨ad, ws, rfl, hμ, hρ, hl, q⟩ := r₃
  have hlen := RelVs.length q
  refine call_reversed_list (s := { s with heap := h₂, toks := t₂ }) hl.is ?_
  have k0 : Keeps s.heap h₂ := Keeps.trans X₁ X₂
  have hn := fresh_none h₂
  have hne : ad ≠ h₂.objs.size := by rintro q'; obtain ⟨o, e, _⟩ := hl; rw [q', hn] at e; cases e
  have hT : ({ s with heap := h₂.push (revObj ad (((List.toArray ws).size : Int) - 1)), toks := t₂ } : Shared).TypeIs (.ref h₂.objs.size) "list_reverseiterator" := ⟨_, Heap.get?_push_size _ rfl, rfl⟩
  refine (Walks.listRev (prog := B.prog) (w := B.w) (A := A) g.handled h₂.objs.size ad hne (List.toArray ws)).self 0 { s with heap := h₂.push (revObj ad (((List.toArray ws).size : Int) - 1)), toks := t₂ } _ _ ⟨Nat.zero_le _, ⟨_, Heap.get?_push_size _ rfl, rfl, by simp [revObj]⟩, hl.is.push _⟩ ?_
  have hsz : (List.toArray ws).size = xs.reverse.length := by rw [List.size_toArray, hlen, List.length_reverse]
  refine P h₂.objs.size [h₂.objs.size, ad] (fun i v => (List.toArray ws)[(List.toArray ws).size - 1 - i]? = some v) (fun i h => i ≤ (List.toArray ws).size ∧ h.IsRevIter h₂.objs.size ad (((List.toArray ws).size : Int) - 1 - (i : Int)) ∧ h.IsList ad (List.toArray ws)) h₂ _ t₂ k0 hn (Keeps.push _) (by rw [← hsz]; exact Walks.listRev (A := A) g.handled h₂.objs.size ad hne (List.toArray ws)) ⟨Nat.zero_le _, ⟨_, Heap.get?_push_size _ rfl, rfl, by simp [revObj]⟩, hl.is.push _⟩ (fun b hb nb => ?_) (fun j h st => ?_) (fun j y x hp hx => ?_) (by rw [List.length_reverse]; exact hz)
  · simp only [List.mem_cons, List.not_mem_nil, or_false] at hb
    rcases hb with rfl | rfl
    · exact absurd rfl nb
    · obtain ⟨o, e, m, rfl⟩ := hl
      exact ⟨⟨_, e, by intro q; cases q⟩, fun _ => ⟨hμ, hρ⟩⟩
  · obtain ⟨_, ⟨o, e, hc, _⟩, _⟩ := st
    exact ⟨o, "list_reverseiterator", e, hc, by decide⟩
  · have hj := (List.getElem?_eq_some_iff.mp hx).1
    rw [List.length_reverse] at hj
    rw [List.getElem?_reverse hj] at hx
    obtain ⟨z, e, rz⟩ := RelVs.at q hx
    have hp' : (List.toArray ws)[(List.toArray ws).size - 1 - j]? = some y := hp
    rw [List.getElem?_toArray, List.size_toArray, hlen, e] at hp'
    cases hp'
    exact rz
end
end Mine
namespace Mine
open PySem PySem.Spec PySem.Calls PyProof.Rows PySem.W
section
variable {B : Wd} {n : Nat} {sc : Scope} {vs vs₁ vs₂ : List (Option Val)} {σ σ₁ σ₂ : Store} {v a b c : Val} {k : Nat} {pos : Pos} {e l r : Expr} {st : Stmt} {rest : List Stmt} {f : Fl}

mutual
/-- a thing read as data -/
inductive Rd (σ : Store) : Val → PyData → Prop
  | int (i : Int) : Rd σ (.int i) (.int i)
  | str (x : Str) : Rd σ (.str x) (.str x)
  | list {xs : List Val} {ps : List PyData} : RdA σ xs ps → Rd σ (.list xs) (.list ps)
  | tup {xs : List Val} {ps : List PyData} : RdA σ xs ps → Rd σ (.tup xs) (.tuple ps)
  | own {i : Nat} {xs : List Val} {ps : List PyData} : σ[i]? = some xs → RdA σ xs ps → Rd σ (.ref i) (.list ps)
inductive RdA (σ : Store) : List Val → List PyData → Prop
  | nil : RdA σ [] []
  | cons {x : Val} {xs : List Val} {p : PyData} {ps : List PyData} : Rd σ x p → RdA σ xs ps → RdA σ (x :: xs) (p :: ps)
end
mutual
theorem Rd.reads {μ ρ : Addrs} {h : Heap} (R : Rep B μ ρ σ h) : ∀ {a : Val} {p : PyData}, Rd σ a p → ∀ {x : Value}, RelV μ ρ h a x → ∃ as, Reads h x p as
  | _, _, .int i, x, q => by unfold RelV at q; obtain ⟨t, rfl⟩ := q; exact ⟨_, .int i t⟩
  | _, _, .str y, x, q => by unfold RelV at q; obtain ⟨t, rfl⟩ := q; exact ⟨_, .str y t⟩
  | _, _, .list d, x, q => by
    unfold RelV at q
    obtain ⟨ad, ws, rfl, _, _, hl, q⟩ := q
    obtain ⟨as, z⟩ := RdA.reads R d q
    obtain ⟨c, hl⟩ := hl.isl
    exact ⟨_, reads_list_at hl rfl rfl z⟩
  | _, _, .tup d, x, q => by
    unfold RelV at q
    obtain ⟨ad, ws, rfl, _, _, ⟨o, ho, hc, m, hd⟩, q⟩ := q
    obtain ⟨as, z⟩ := RdA.reads R d q
    exact ⟨_, reads_tuple_at ho hc hd z⟩
  | _, _, .own hi d, x, q => by
    unfold RelV at q
    obtain ⟨ad, ha, rfl⟩ := q
    obtain ⟨ws, hl, q⟩ := R.obj _ ad _ ha hi
    obtain ⟨as, z⟩ := RdA.reads R d q
    obtain ⟨c, hl⟩ := hl.isl
    exact ⟨_, reads_list_at hl rfl rfl z⟩
theorem RdA.reads {μ ρ : Addrs} {h : Heap} (R : Rep B μ ρ σ h) : ∀ {xs : List Val} {ps : List PyData}, RdA σ xs ps → ∀ {ws : List Value}, RelVs μ ρ h xs ws → ∃ as, ReadsAll h ws ps as
  | _, _, .nil, ws, q => by rw [RelVs.nil_iff] at q; subst q; exact ⟨_, .nil⟩
  | _, _, .cons d ds, ws, q => by
    obtain ⟨v, w, rfl, q1, q2⟩ := RelVs.cons_iff.mp q
    obtain ⟨as, z⟩ := Rd.reads R d q1
    obtain ⟨bs, z2⟩ := RdA.reads R ds q2
    exact ⟨_, .cons z z2⟩
end
theorem RdA.ints {ns : List Int} : RdA σ (intsV ns) (ns.map .int) := by
  induction ns with
  | nil => exact .nil
  | cons n ns ih => exact .cons (.int n) ih
noncomputable def pairV (q : Int × Int) : Val := .tup [.int q.1, .int q.2]
noncomputable def pairP (q : Int × Int) : PyData := .tuple [.int q.1, .int q.2]
theorem RdA.pairs {ns : List (Int × Int)} : RdA σ (ns.map pairV) (ns.map pairP) := by
  induction ns with
  | nil => exact .nil
  | cons n ns ih => exact .cons (.tup (.cons (.int _) (.cons (.int _) .nil))) ih

theorem Op2.eqR {p q : PyData} (ha : Rd σ a p) (hb : Rd σ b q) (sp : SeqAt.shaped p = true) (sq : SeqAt.shaped q = true) (hn : 1 ≤ n) : Op2 B n σ a b (compareOp .Eq) (.bool (PyData.eqv p q)) := fun A μ ρ s x y Q g R r1 r2 P => by
  obtain ⟨as, z1⟩ := ha.reads R r1
  obtain ⟨bs, z2⟩ := hb.reads R r2
  exact eq_dataH z1 z2 sp sq (by have := g.units; omega) P.bool
theorem Op2.neR {p q : PyData} (ha : Rd σ a p) (hb : Rd σ b q) (sp : SeqAt.shaped p = true) (sq : SeqAt.shaped q = true) (hn : 1 ≤ n) : Op2 B n σ a b (compareOp .NotEq) (.bool (!PyData.eqv p q)) := fun A μ ρ s x y Q g R r1 r2 P => by
  obtain ⟨as, z1⟩ := ha.reads R r1
  obtain ⟨bs, z2⟩ := hb.reads R r2
  exact ne_dataH z1 z2 sp sq (by have := g.units; omega) P.bool
theorem Op2.notInR {p : PyData} {ps : List PyData} (ha : Rd σ a p) (hb : Rd σ b (.list ps)) (sp : p.canLay0 = true) (sq : PyData.canLayAll0 ps = true) (hd : p.depth ≤ 30) : Op2 B n σ a b (compareOp .NotIn) (.bool (!(ps.any fun y => PyData.eqv y p))) := fun A μ ρ s x y Q g R r1 r2 P => by
  obtain ⟨as, z1⟩ := ha.reads R r1
  obtain ⟨bs, z2⟩ := hb.reads R r2
  refine SeqAt.notIn_list_reads z2 z1 sq sp ?_ P.bool
  have := g.units
  have := Nat.min_le_right (PyData.depthAll ps) p.depth
  omega
theorem canLay_ints (ns : List Int) : PyData.canLayAll0 (ns.map PyData.int) = true := canLayAll0_ints ns
theorem canLay_pairs (ns : List (Int × Int)) : PyData.canLayAll0 (ns.map pairP) = true := by
  induction ns with
  | nil => simp [PyData.canLayAll0]
  | cons n ns ih => simp [PyData.canLayAll0, PyData.canLay0, pairP, ih]
theorem any_ints (ns : List Int) (x : Int) : ((ns.map PyData.int).any fun y => PyData.eqv y (.int x)) = ns.contains x := by
  induction ns with
  | nil => rfl
  | cons n ns ih =>
    rw [List.map_cons, List.any_cons, ih, List.contains_cons]
    congr 1
    simp only [PyData.eqv]
    rw [Bool.eq_iff_iff]
    simp only [beq_iff_eq]
    exact eq_comm
theorem any_pairs (ns : List (Int × Int)) (x : Int × Int) : ((ns.map pairP).any fun y => PyData.eqv y (pairP x)) = ns.contains x := by
  induction ns with
  | nil => rfl
  | cons n ns ih =>
    rw [List.map_cons, List.any_cons, ih, List.contains_cons]
    congr 1
    obtain ⟨n1, n2⟩ := n
    obtain ⟨x1, x2⟩ := x
    simp only [pairP, PyData.eqv, PyData.eqvAll, Bool.and_true]
    rw [Bool.eq_iff_iff]
    simp only [Bool.and_eq_true, beq_iff_eq, Prod.mk.injEq]
    exact ⟨fun ⟨x, y⟩ => ⟨x.symm, y.symm⟩, fun ⟨x, y⟩ => ⟨x.symm, y.symm⟩⟩
theorem eqv_ints : ∀ (ns ms : List Int), PyData.eqvAll (ns.map PyData.int) (ms.map PyData.int) = decide (ns = ms) := fun ns ms => PySem.W.ked_eqvAll ns ms
/-- (one, other) not in pairs -/
theorem Op2.notInPairs {ns : List (Int × Int)} {x : Int × Int} (L : Lst σ b (ns.map pairV)) : Op2 B n σ (pairV x) b (compareOp .NotIn) (.bool (!ns.contains x)) := by
  rw [← any_pairs]
  refine Op2.notInR (.tup (.cons (.int _) (.cons (.int _) .nil))) ?_ rfl (canLay_pairs ns) (Nat.le_of_ble_eq_true rfl)
  cases L with
  | fr => exact .list .pairs
  | own hi => exact .own hi .pairs
theorem Op2.notInInts {ns : List Int} {x : Int} (L : Lst σ b (intsV ns)) : Op2 B n σ (.int x) b (compareOp .NotIn) (.bool (!ns.contains x)) := by
  rw [← any_ints]
  refine Op2.notInR (.int x) ?_ rfl (canLay_ints ns) (Nat.le_of_ble_eq_true rfl)
  cases L with
  | fr => exact .list .ints
  | own hi => exact .own hi .ints
/-- sign in text -/
theorem Op2.inStr {x y : Str} : Op2 B n σ (.str y) (.str x) (compareOp .In) (.bool (Txt.contains x y)) := fun A μ ρ s u w Q g R r1 r2 P => by
  unfold RelV at r1 r2; obtain ⟨t, rfl⟩ := r1; obtain ⟨t', rfl⟩ := r2
  exact PySem.P.in_str P.bool

/-- list(range(lo, hi, step)) -/
theorem EvN.listRange {e1 e2 e3 : Expr} {x y : Str} {p q cp : Pos} {lo hi c : Int} {m : Nat} (hl : Ev B n sc vs σ (.Name x p) (.glob (.type "list"))) (hr : Ev B n sc vs σ (.Name y q) (.glob (.type "range"))) (h1 : Ev B n sc vs σ e1 (.int lo)) (h2 : Ev B n sc vs σ e2 (.int hi)) (h3 : Ev B n sc vs σ e3 (.int c))
    (hc : c ≠ 0) (hsmall : Builtin.Range.small lo hi c = true) (hm : Builtin.Range.rangeSize lo hi c = m) (hz : m ≤ 1000000) (hp : Builtin.divisionGoesByPylong (hi - lo) c = false) (hst : noStar [e1, e2, e3] = true := by rfl) :
    EvN B n sc vs σ (.Call (.Name x p) [.Call (.Name y q) [e1, e2, e3] [] cp] [] pos) (intsV ((List.range m).map fun (i : Nat) => lo + (i : Int) * c)) := fun A μ ρ env s Q g hs R F P => by
  refine PyProof.Rows.Call_ (hl A μ ρ env s _ g hs R F fun f' h₁ t₁ X₁ r₁ => ?_)
  unfold RelV at r₁; subst r₁
  refine PyProof.Rows.callWith_type1 (args_cons ?_) rfl
  obtain ⟨s1, s2⟩ := starEach_cons (env := env) hst
  refine PyProof.Rows.Call_ (hr A μ ρ env _ _ g hs (R.keeps X₁) (F.keeps R X₁) fun f' h₂ t₂ X₂ r₂ => ?_)
  unfold RelV at r₂; subst r₂
  have R₂ := (R.keeps X₁).keeps X₂
  refine PyProof.Rows.callWith_type1 ((Evs.cons h1 (.cons h2 (.cons h3 .nil))).run (pos := cp) g hs R₂ ((F.keeps R X₁).keeps (R.keeps X₁) X₂) (fun ys h₃ t₃ X₃ r₃ => ?_) hst) s1 (noStar_plain s2)
  obtain ⟨u, w, z, rfl, q1, q2, q3⟩ := RelVs.three r₃
  unfold RelV at q1 q2 q3
  obtain ⟨t, rfl⟩ := q1; obtain ⟨t', rfl⟩ := q2; obtain ⟨t'', rfl⟩ := q3
  refine call_range_3 hc ?_ (.inl hp)
  refine args_nil ?_
  have k0 : Keeps s.heap (h₃.push { cls := .type "range", data := .fields #[.int lo t, .int hi t', .int c t''] }) := X₁.trans (Keeps.trans X₂ (Keeps.trans X₃ (Keeps.push _)))
  generalize hH : h₃.push { cls := .type "range", data := .fields #[.int lo t, .int hi t', .int c t''] } = H at k0 ⊢
  have hr' : IsRange H h₃.objs.size lo hi c t t' t'' := hH ▸ IsRange.new ..
  refine call_list_range (n := m) g.handled hr' hsmall hm (by omega) fun h' tk acc c' k hg items => ?_
  have hn := fresh_none H
  refine P _ acc.toList h' tk (k0.none hn) (k0.trans k) ⟨_, hg, c', by simp⟩ ?_
  -- the items
  obtain ⟨hsz, hit⟩ := items
  have key : ∀ (M : List Value) (j : Nat), (∀ (i : Nat), i < M.length → ∃ t, M[i]? = some (.int (lo + ((j + i : Nat) : Int) * c) t)) → RelVs (H.objs.size :: μ) ρ h' (intsV ((List.range' j M.length).map fun (i : Nat) => lo + (i : Int) * c)) M := by
    intro M
    induction M with
    | nil => intro j _; exact RelVs.nil_iff.mpr rfl
    | cons v M ih =>
      intro j hM
      obtain ⟨t, e0⟩ := hM 0 (by simp)
      simp only [List.getElem?_cons_zero, Option.some.injEq] at e0
      refine RelVs.cons_iff.mpr ⟨v, M, rfl, ?_, ?_⟩
      · unfold RelV
        exact ⟨t, by rw [e0]; rfl⟩
      · refine ih (j + 1) fun i hi => ?_
        obtain ⟨t, e1⟩ := hM (i + 1) (by simp; omega)
        rw [List.getElem?_cons_succ] at e1
        exact ⟨t, by rw [e1]; congr 4; omega⟩
  have := key acc.toList 0 fun i hi => ?_
  · rw [List.range_eq_range']
    have hl : acc.toList.length = m := by simpa using hsz
    rw [hl] at this
    exact this
  · have hi' : i < acc.size := by simpa using hi
    obtain ⟨t, ht⟩ := hit i _ (Array.getElem?_eq_getElem hi')
    exact ⟨t, by rw [Array.getElem?_toList, Array.getElem?_eq_getElem hi', ht]; simp⟩
end
end Mine
namespace Mine
open PySem PySem.Spec PySem.Calls PyProof.Rows PySem.W
section
variable {B : Wd} {n : Nat} {sc : Scope} {vs vs₁ vs₂ : List (Option Val)} {σ σ₁ σ₂ : Store} {v a b c : Val} {k : Nat} {pos : Pos} {e l r : Expr} {st : Stmt} {rest : List Stmt} {f : Fl}

/-- the entry of a def of the text's own -/
theorem call_genC {fa : Addr} {params : Arguments} {body : List Stmt} {scope : Scope} {dV kV : Value} {ps : List Str} {args : List Val}
    {A : Around} {μ ρ : Addrs} {s : Shared} {pa : Args} {xs : List Value} {Rr : Result → Shared → Prop}
    (W : FnOK B.K fa params body scope dV kV)
    (hp : ∀ fd : FuncData, fd.params = params → fd.defaults = dV → fd.kwdefaults = kV → BindsTo s fd pa (ps.zip xs)) (hps : ps = (scope.names.take ps.length).map (·.1)) (hlen : args.length = ps.length)
    (hkind : ∀ y ∈ scope.names.take ps.length, y.2 = .local ∨ y.2 = .cell)
    (g : Good (n + 1) A) (R : Rep B μ ρ σ s.heap) (r : RelVs μ ρ s.heap args xs)
    (hb : ∀ (pl : Addrs) (env : Env) (h₁ : Heap) (tk : Nat), (∀ a ∈ pl, s.heap.get? a = none) → Keeps s.heap h₁ → Good n (A.deeper env) → env.scope = scope → Rep B (pl ++ μ) ρ σ h₁ → EnvOK (pl ++ μ) ρ h₁ env (atCall scope.names args) → (∀ b, Own B env b → b ∈ pl ∨ (B.grows = true ∧ b ∈ B.tabs.map (·.1))) →
      (∃ oc od fd osl, B.K.lookup fa = some ⟨oc, od, .func fd, osl⟩ ∧ env.code = fd.code ∧ env.qual = fd.qualname ++ ".<locals>.") →
      wpAny (model B.prog B.w) (A.deeper env) (execs body env) (fun f s' => Rr (.ok (.ret (match f with | .ret v => v | _ => .none))) s') NoE { s with heap := h₁, toks := tk }) :
    codeAny (model B.prog B.w) A (.call (.ref fa) pa) Rr s := by
  obtain ⟨name, qual, doc, pm, an, cdv, ct, oc, od, osl, hK, hcode⟩ := W.ex
  have hxl : xs.length = ps.length := (RelVs.length r).trans hlen
  refine codeAny_call_function (fd := fnOf name qual params body scope dV kV doc pm an cdv ct) (body := body) (by have := g.depth; omega) (R.inK _ _ hK) rfl W.co W.gen rfl (codeRec_of R.inK hcode) ?_
  refine hp _ rfl rfl rfl _ _ _ _ ?_
  have hkn : ∀ x ∈ ps.zip xs, scope.names.lookup x.1 = some .local ∨ (scope.names.lookup x.1 = some .cell ∧ ((cellsFrom (s.heap.objs.size + 1) scope.names []).lookup x.1).isSome = true) := by
    intro x hx
    have hx1 : x.1 ∈ ps := (List.of_mem_zip hx).1
    rw [hps] at hx1
    obtain ⟨y, hy, hxy⟩ := List.mem_map.mp hx1
    obtain ⟨j, hj⟩ := List.getElem?_of_mem (List.mem_of_mem_take hy)
    have hl : scope.names.lookup x.1 = some y.2 := by rw [← hxy]; exact lookup_of_nodup W.nodup hj
    rcases hkind y hy with hk | hk
    · exact .inl (hl.trans (by rw [hk]))
    · refine .inr ⟨hl.trans (by rw [hk]), ?_⟩
      have : ((cellsFrom (s.heap.objs.size + 1) scope.names []).map (·.1)).contains x.1 = true := by
        rw [cellsFrom_iff]
        simp only [Bool.or_eq_true, List.any_eq_true, Bool.and_eq_true, beq_iff_eq]
        exact .inl ⟨y, List.mem_of_mem_take hy, hxy, hk⟩
      obtain ⟨c, hc⟩ := lookup_of_contains this
      rw [hc]; rfl
  refine wpAny_newFunctionEnv_cells W.kind hkn fun env' he s' x => ?_
  subst he
  have lim : s.heap.NoLimit := B.T.nolimit.keeps R.base
  refine ⟨lim.keeps x.toInCall.keep, codeAny_func ?_⟩
  obtain ⟨h₁, tk, rfl, _⟩ := x.done
  have hk₁ : Keeps s.heap h₁ := x.toInCall.keep
  let cs := cellsFrom (s.heap.objs.size + 1) scope.names []
  have hd : (cs.map (·.1)).Nodup := cellsFrom_nodup _ _ _ W.nodup (by simp) (by simp)
  let pl : Addrs := s.heap.objs.size :: cs.map (·.2)
  have hL : s.heap.get? s.heap.objs.size = none := fresh_none _
  have hC : ∀ c ∈ cs.map (·.2), s.heap.get? c = none := fun c hc => by
    obtain ⟨⟨y, c'⟩, hm, rfl⟩ := List.mem_map.mp hc
    have := x.above y c' hm
    cases q : s.heap.get? c' with
    | none => rfl
    | some o =>
      have h1 := Heap.lt_size q
      have h2 : s.heap.objs.size < c' := this
      exact absurd (Nat.lt_trans h1 h2) (Nat.lt_irrefl _)
  have hpl : ∀ a ∈ pl, s.heap.get? a = none := fun a m => by
    rcases List.mem_cons.mp m with rfl | m
    · exact hL
    · exact hC a m
  have there : ∀ a ∈ pl, ∃ o, h₁.get? a = some o := fun a m => by
    rcases List.mem_cons.mp m with rfl | m
    · obtain ⟨o, _, _, ho, _⟩ := x.toInCall.ns; exact ⟨o, ho⟩
    · obtain ⟨⟨y, c'⟩, hm, rfl⟩ := List.mem_map.mp m
      have hy : (cs.map (·.1)).contains y = true := by
        rw [List.contains_iff_mem]; exact List.mem_map.mpr ⟨(y, c'), hm, rfl⟩
      obtain ⟨c2, hc2⟩ := lookup_of_contains hy
      obtain ⟨o, ho, _⟩ := x.cell y c2 hc2
      obtain ⟨j, hj⟩ := List.getElem?_of_mem hm
      have : cs.lookup y = some c' := lookup_of_nodup hd hj
      rw [this] at hc2; cases hc2
      exact ⟨o, ho⟩
  have R' : Rep B (pl ++ μ) ρ σ h₁ := R.addMus hk₁ hpl there
  have avoid : ∀ a o, s.heap.get? a = some o → a ∉ μ → a ∉ ρ → a ∉ pl ++ μ ∧ a ∉ ρ := fun a o e n1 n2 => ⟨fun m => by
    rcases List.mem_append.mp m with m | m
    · rw [hpl a m] at e; cases e
    · exact n1 m, n2⟩
  have rargs : RelVs (pl ++ μ) ρ h₁ args xs := RelVs.keeps hk₁ (RelVs.mu avoid (fun _ _ e => e) r)
  have hpn : (ps.zip xs).map (·.1) = ps := List.map_fst_zip (Nat.le_of_eq hxl.symm)
  have psn : ps.Nodup := by rw [hps, List.map_take]; exact List.Nodup.sublist (List.take_sublist _ _) W.nodup
  have hbn : ((ps.zip xs).map (·.1)).Nodup := by rw [hpn]; exact psn
  have hat : ∀ (i : Nat) (y : Str) (kd : NameKind) (w : Val), scope.names[i]? = some (y, kd) → (atCall scope.names args)[i]? = some (some w) → ∃ w', (ps.zip xs)[i]? = some (y, w') ∧ RelV (pl ++ μ) ρ h₁ w w' := by
    intro i y kd w e1 e2
    unfold atCall at e2
    by_cases hi : i < args.length
    · rw [List.getElem?_append_left (by simpa using hi), List.getElem?_map] at e2
      cases e3 : args[i]? with
      | none => rw [e3] at e2; cases e2
      | some w0 =>
        rw [e3] at e2
        simp only [Option.map_some, Option.some.injEq] at e2
        subst e2
        obtain ⟨w', e4, r4⟩ := RelVs.at rargs e3
        refine ⟨w', ?_, r4⟩
        have e5 : ps[i]? = some y := by
          rw [hps, List.getElem?_map, List.getElem?_take, if_pos (hlen ▸ hi), e1]; rfl
        rw [List.getElem?_zip_eq_some]
        exact ⟨e5, e4⟩
    · rw [List.getElem?_append_right (by simpa using hi), List.getElem?_replicate] at e2
      split at e2
      · cases e2
      · cases e2
  have F' : EnvOK (pl ++ μ) ρ h₁ (newEnv scope s.heap.objs.size mainGlobals cs (qual ++ ".<locals>.") (some fa) cdv none builtinsNs) (atCall scope.names args) := by
    refine ⟨W.kind, rfl, rfl, W.nodup, ⟨_, x.toInCall.ns, fun i y w e1 e2 => ?_⟩, fun i y kd e1 hkd => ?_, fun y z c e1 e2 => ?_, List.mem_cons_self, fun y c e1 e2 => ?_⟩
    · obtain ⟨w', e3, r3⟩ := hat i y _ w e1 e2
      exact ⟨w', bindL_mem hbn e3 (lookup_of_nodup W.nodup e1), r3⟩
    · have hkc : kd = .cell := by
        rcases hkd with h | h
        · exact h
        · exact absurd h (W.nofree _ (List.mem_of_getElem? e1))
      subst hkc
      have : (cs.map (·.1)).contains y = true := by
        rw [cellsFrom_iff]
        simp only [Bool.or_eq_true, List.any_eq_true, Bool.and_eq_true, beq_iff_eq]
        exact .inl ⟨_, List.mem_of_getElem? e1, rfl, rfl⟩
      obtain ⟨c, hc⟩ := lookup_of_contains this
      refine ⟨c, _, hc, x.cell y c hc, fun w e2 => ?_⟩
      obtain ⟨w', e3, r3⟩ := hat i y _ w e1 e2
      refine ⟨w', bindC_mem hbn e3 ?_, r3⟩
      intro q
      have q' : scope.names.lookup y = some .local := q
      rw [lookup_of_nodup W.nodup e1] at q'; cases q'
    · exact name_of_addr x.apart (mem_of_lookup e1) (mem_of_lookup e2)
    · exact List.mem_cons_of_mem _ (List.mem_append_left _ (List.mem_map.mpr ⟨(y, c), mem_of_lookup e1, rfl⟩))
  refine wpAny_mono (hb pl _ h₁ tk hpl hk₁ (g.deeper _) rfl R' F' (fun b q => ?_) ⟨_, _, _, _, hK, rfl, rfl⟩) (Q := fun f s' => Rr (.ok (.ret (match f with | .ret v => v | _ => .none))) s') (fun _ _ z => z) (fun _ _ z => z.elim)
  · rcases q with q | ⟨y, e1, _⟩ | q
    · have q' : b = s.heap.objs.size := q
      subst q'; exact .inl List.mem_cons_self
    · exact .inl (List.mem_cons_of_mem _ (List.mem_map.mpr ⟨(y, b), mem_of_lookup e1, rfl⟩))
    · exact .inr q

/-- the same, as a value; the text's own -/
theorem call_gen {fa : Addr} {params : Arguments} {body : List Stmt} {scope : Scope} {dV kV : Value} {ps : List Str} {args : List Val}
    {A : Around} {μ ρ : Addrs} {s : Shared} {pa : Args} {xs : List Value} {Q : Value → Shared → Prop}
    (W : FnOK B.K fa params body scope dV kV)
    (hp : ∀ fd : FuncData, fd.params = params → fd.defaults = dV → fd.kwdefaults = kV → BindsTo s fd pa (ps.zip xs)) (hps : ps = (scope.names.take ps.length).map (·.1)) (hlen : args.length = ps.length)
    (hkind : ∀ y ∈ scope.names.take ps.length, y.2 = .local ∨ y.2 = .cell)
    (g : Good (n + 1) A) (R : Rep B μ ρ σ s.heap) (r : RelVs μ ρ s.heap args xs)
    (hb : ∀ (pl : Addrs) (env : Env) (h₁ : Heap) (tk : Nat), (∀ a ∈ pl, s.heap.get? a = none) → Keeps s.heap h₁ → Good n (A.deeper env) → env.scope = scope → Rep B (pl ++ μ) ρ σ h₁ → EnvOK (pl ++ μ) ρ h₁ env (atCall scope.names args) → (∀ b, Own B env b → b ∈ pl ∨ (B.grows = true ∧ b ∈ B.tabs.map (·.1))) →
      (∃ oc od fd osl, B.K.lookup fa = some ⟨oc, od, .func fd, osl⟩ ∧ env.code = fd.code ∧ env.qual = fd.qualname ++ ".<locals>.") →
      wpAny (model B.prog B.w) (A.deeper env) (execs body env) (fun f s' => Q (match f with | .ret v => v | _ => .none) s') NoE { s with heap := h₁, toks := tk }) :
    wpAny (model B.prog B.w) A (runValue (.call (.ref fa) pa)) Q NoE s :=
  wpAny_runValue (call_genC W hp hps hlen hkind g R r hb)

theorem callOwn_keeps {pl μ ρ ρ' : Addrs} {env : Env} {h h₁ h₂ : Heap} (hn : ∀ a ∈ pl, h.get? a = none) (hk : Keeps h h₁) (w : ∀ b, Own B env b → b ∈ pl ∨ (B.grows = true ∧ b ∈ B.tabs.map (·.1))) (X : ExtN (Own B env) ρ h₁ ρ' h₂) : ∀ b o, b ∉ ρ → ¬ (B.grows = true ∧ b ∈ B.tabs.map (·.1)) → h.get? b = some o → h₂.get? b = some o :=
  fun b o nb nt e => X.keep b o nb (fun q => by
    rcases w b q with m | m
    · rw [hn b m] at e; cases e
    · exact nt m) (hk b o e)
theorem still (hB : B.grows = false) {b : Addr} : ¬ (B.grows = true ∧ b ∈ B.tabs.map (·.1)) := fun q => by rw [hB] at q; cases q.1

mutual
/-- a frame's own lists seen from without, by one who only reads them -/
inductive Fz (σ : Store) : Val → Val → Prop
  | same {v : Val} : noRef v = true → Fz σ v v
  | own {i : Nat} {xs ys : List Val} : σ[i]? = some xs → Fzs σ xs ys → Fz σ (.ref i) (.list ys)
  | list {xs ys : List Val} : Fzs σ xs ys → Fz σ (.list xs) (.list ys)
  | tup {xs ys : List Val} : Fzs σ xs ys → Fz σ (.tup xs) (.tup ys)
  | hdr {C : Addr} {x y : Val} : Fz σ x y → Fz σ (.hdr C x) (.hdr C y)
inductive Fzs (σ : Store) : List Val → List Val → Prop
  | nil : Fzs σ [] []
  | cons {x y : Val} {xs ys : List Val} : Fz σ x y → Fzs σ xs ys → Fzs σ (x :: xs) (y :: ys)
end
mutual
theorem Fz.rel {μ ρ : Addrs} {h : Heap} (R : Rep B μ ρ σ h) : ∀ {x y : Val}, Fz σ x y → ∀ {v : Value}, RelV μ ρ h x v → RelV μ [] h y v
  | _, _, .same hn, v, q => RelV.noref (fun a o _ n1 _ => ⟨n1, by simp⟩) hn q
  | _, _, .own hi z, v, q => by
    unfold RelV at q
    obtain ⟨ad, ha, rfl⟩ := q
    obtain ⟨ws, hl, q⟩ := R.obj _ ad _ ha hi
    unfold RelV
    exact ⟨ad, ws, rfl, R.apart ad (List.mem_of_getElem? ha), by simp, hl, Fzs.rel R z q⟩
  | _, _, .list z, v, q => by
    unfold RelV at q ⊢
    obtain ⟨ad, ws, rfl, h1, _, hl, q⟩ := q
    exact ⟨ad, ws, rfl, h1, by simp, hl, Fzs.rel R z q⟩
  | _, _, .tup z, v, q => by
    unfold RelV at q ⊢
    obtain ⟨ad, ws, rfl, h1, _, hl, q⟩ := q
    exact ⟨ad, ws, rfl, h1, by simp, hl, Fzs.rel R z q⟩
  | _, _, .hdr z, v, q => by
    unfold RelV at q ⊢
    obtain ⟨ad, dx, v', rfl, h1, _, h3, _, I, q⟩ := q
    exact ⟨ad, dx, v', rfl, h1, by simp, h3, by simp, I, Fz.rel R z q⟩
theorem Fzs.rel {μ ρ : Addrs} {h : Heap} (R : Rep B μ ρ σ h) : ∀ {xs ys : List Val}, Fzs σ xs ys → ∀ {ws : List Value}, RelVs μ ρ h xs ws → RelVs μ [] h ys ws
  | _, _, .nil, ws, q => by rw [RelVs.nil_iff] at q; exact RelVs.nil_iff.mpr q
  | _, _, .cons z zs, ws, q => by
    obtain ⟨v, w, rfl, q1, q2⟩ := RelVs.cons_iff.mp q
    exact RelVs.cons_iff.mpr ⟨_, _, rfl, Fz.rel R z q1, Fzs.rel R zs q2⟩
end
theorem Rep.none {μ ρ : Addrs} {h : Heap} (R : Rep B μ ρ σ h) : Rep B μ [] [] h := ⟨R.tab.turn (fun _ _ _ _ e => e) (fun _ _ _ n1 _ => ⟨n1, by simp⟩), R.base, fun _ m => (nomatch m), rfl, .nil, fun _ m => (nomatch m), R.held, R.muAbove, fun i a xs e => by simp at e⟩

/-- a call that only reads what the frame owns, and hands back a plain thing -/
theorem call_defF {fa : Addr} {params : Arguments} {body : List Stmt} {scope : Scope} {dV kV : Value} {ps : List Str} {args args' : List Val} {v₁ : Val} {f : Fl} {vs' : List (Option Val)} {σ' : Store}
    {A : Around} {μ ρ : Addrs} {s : Shared} {pa : Args} {xs : List Value} {Q : Value → Shared → Prop}
    (hB : B.grows = false) (W : FnOK B.K fa params body scope dV kV)
    (hp : ∀ fd : FuncData, fd.params = params → fd.defaults = dV → fd.kwdefaults = kV → BindsTo s fd pa (ps.zip xs)) (hps : ps = (scope.names.take ps.length).map (·.1)) (hlen : args'.length = ps.length)
    (hkind : ∀ y ∈ scope.names.take ps.length, y.2 = .local ∨ y.2 = .cell)
    (hb : Exs B n scope (atCall scope.names args') [] body f vs' σ') (hf : (f = .ret v₁) ∨ (f = .next ∧ v₁ = .none)) (hv : v₁.plain = true)
    (g : Good (n + 1) A) (R : Rep B μ ρ σ s.heap) (z : Fzs σ args args') (r : RelVs μ ρ s.heap args xs) (P : Post μ ρ s v₁ Q) :
    wpAny (model B.prog B.w) A (runValue (.call (.ref fa) pa)) Q NoE s := by
  refine call_gen W hp hps hlen hkind g R.none (z.rel R r) fun pl env h₁ tk hpl hk g' hs R' F' w _ => ?_
  refine wpAny_mono (hb _ _ [] env { s with heap := h₁, toks := tk } _ g' hs R' F' (fun ρ₂ f₂ h₂ t₂ X₂ R₂ F₂ r₂ => ?_)) (Q := fun f s' => Q (match f with | .ret v => v | _ => .none) s') (fun _ _ z => z) (fun _ _ z => z)
  have k₂ : Keeps s.heap h₂ := fun b o e => callOwn_keeps (μ := μ) hpl hk w X₂ b o (by simp) (still hB) e
  have flat : ∀ {x : Value}, RelV (pl ++ μ) ρ₂ h₂ v₁ x → RelV μ ρ h₂ v₁ x := fun q => by
    cases v₁ <;> first | (unfold RelV at q ⊢; exact q) | cases hv
  rcases hf with rfl | ⟨rfl, rfl⟩
  · unfold RelF at r₂
    obtain ⟨w', rfl, r₂⟩ := r₂
    exact P w' h₂ t₂ k₂ (flat r₂)
  · unfold RelF at r₂
    subst r₂
    exact P .none h₂ t₂ k₂ (by unfold RelV; rfl)

/-- a call that turns what the frame owns -/
theorem call_defS {fa : Addr} {params : Arguments} {body : List Stmt} {scope : Scope} {dV kV : Value} {ps : List Str} {args : List Val} {v₁ : Val} {f : Fl} {vs' : List (Option Val)} {σ₂ τ : Store}
    {A : Around} {μ ρ : Addrs} {s : Shared} {pa : Args} {xs : List Value} {Q : Value → Shared → Prop}
    (hB : B.grows = false) (W : FnOK B.K fa params body scope dV kV)
    (hp : ∀ fd : FuncData, fd.params = params → fd.defaults = dV → fd.kwdefaults = kV → BindsTo s fd pa (ps.zip xs)) (hps : ps = (scope.names.take ps.length).map (·.1)) (hlen : args.length = ps.length)
    (hkind : ∀ y ∈ scope.names.take ps.length, y.2 = .local ∨ y.2 = .cell)
    (hb : Exs B n scope (atCall scope.names args) σ body f vs' (σ₂ ++ τ)) (hf : (f = .ret v₁) ∨ (f = .next ∧ v₁ = .none)) (hv : v₁.plain = true) (h2 : σ₂.length = σ.length) (hr : ∀ xs ∈ σ₂, noRefs xs = true)
    (g : Good (n + 1) A) (R : Rep B μ ρ σ s.heap) (r : RelVs μ ρ s.heap args xs)
    (P : ∀ x h' tk, Ext ρ s.heap ρ h' → Rep B μ ρ σ₂ h' → RelV μ ρ h' v₁ x → Q x { s with heap := h', toks := tk }) :
    wpAny (model B.prog B.w) A (runValue (.call (.ref fa) pa)) Q NoE s := by
  refine call_gen W hp hps hlen hkind g R r fun pl env h₁ tk hpl hk g' hs R' F' w _ => ?_
  refine wpAny_mono (hb _ _ ρ env { s with heap := h₁, toks := tk } _ g' hs R' F' (fun ρ₂ f₂ h₂ t₂ X₂ R₂ F₂ r₂ => ?_)) (Q := fun f s' => Q (match f with | .ret v => v | _ => .none) s') (fun _ _ z => z) (fun _ _ z => z)
  obtain ⟨t, rfl, ht⟩ := X₂.pre
  have X : Ext ρ s.heap ρ h₂ := ExtN.of_keeps (N := fun _ => False) (ρ := ρ) (h := h₂) (h' := h₂) (fun b o _ e => e) |> fun _ => ⟨⟨[], by simp, fun _ m => nomatch m⟩, fun b o nb _ e => callOwn_keeps (μ := μ) hpl hk w X₂ b o nb (still hB) e⟩
  have R₃ : Rep B μ ρ σ₂ h₂ := by
    refine ⟨R₂.tab.turn (fun _ _ _ _ e => e) (fun a o _ n1 n2 => ⟨fun m => n1 (List.mem_append_right _ m), fun m => n2 (List.mem_append_left _ m)⟩), R₂.base, R.above, by rw [h2]; exact R.len, R.nodup, R.apart, fun a m => R₂.held a (List.mem_append_right _ m), R.muAbove, fun i a xs e1 e2 => ?_⟩
    have i1 := (List.getElem?_eq_some_iff.mp e1).1
    have i2 := (List.getElem?_eq_some_iff.mp e2).1
    obtain ⟨ws, hl, q⟩ := R₂.obj i a xs (by rw [List.getElem?_append_left i1]; exact e1) (by rw [List.getElem?_append_left i2]; exact e2)
    exact ⟨ws, hl, RelVs.noref (fun a o _ n1 n2 => ⟨fun m => n1 (List.mem_append_right _ m), fun m => n2 (List.mem_append_left _ m)⟩) (hr xs (List.mem_of_getElem? e2)) q⟩
  have flat : ∀ {x : Value}, RelV (pl ++ μ) (ρ ++ t) h₂ v₁ x → RelV μ ρ h₂ v₁ x := fun q => by
    cases v₁ <;> first | (unfold RelV at q ⊢; exact q) | cases hv
  rcases hf with rfl | ⟨rfl, rfl⟩
  · unfold RelF at r₂
    obtain ⟨w', rfl, r₂⟩ := r₂
    exact P w' h₂ t₂ X R₃ (flat r₂)
  · unfold RelF at r₂
    subst r₂
    exact P .none h₂ t₂ X R₃ (by unfold RelV; rfl)

/-- a call whose whole text is a return of a new list -/
theorem call_retN {fa : Addr} {params : Arguments} {scope : Scope} {dV kV : Value} {ps : List Str} {args ys : List Val} {rp : Pos}
    {A : Around} {μ ρ : Addrs} {s : Shared} {pa : Args} {xs : List Value} {Q : Value → Shared → Prop}
    (W : FnOK B.K fa params [.Return (some e) rp] scope dV kV)
    (hp : ∀ fd : FuncData, fd.params = params → fd.defaults = dV → fd.kwdefaults = kV → BindsTo s fd pa (ps.zip xs)) (hps : ps = (scope.names.take ps.length).map (·.1)) (hlen : args.length = ps.length)
    (hkind : ∀ y ∈ scope.names.take ps.length, y.2 = .local ∨ y.2 = .cell)
    (hb : EvN B n scope (atCall scope.names args) σ e ys) (g : Good (n + 1) A) (R : Rep B μ ρ σ s.heap) (r : RelVs μ ρ s.heap args xs) (P : PostN μ ρ s ys Q) :
    wpAny (model B.prog B.w) A (runValue (.call (.ref fa) pa)) Q NoE s := by
  refine call_gen W hp hps hlen hkind g R r fun pl env h₁ tk hpl hk g' hs R' F' w _ => ?_
  refine wpAny_execs_cons (wpAny_Return_some (hb _ _ ρ env { s with heap := h₁, toks := tk } _ g' hs R' F' fun a ws h₂ t₂ hn k hl q => ?_))
  exact P a ws h₂ t₂ (hk.none hn) (hk.trans k) hl (RelVs.mu (fun b o _ n1 n2 => ⟨fun m => n1 (by
    rcases List.mem_cons.mp m with rfl | m
    · exact List.mem_cons_self
    · exact List.mem_cons_of_mem _ (List.mem_append_right _ m)), n2⟩) (fun _ _ e => e) q)
end
end Mine
namespace Mine
open PySem PySem.Spec PySem.Calls PyProof.Rows PySem.W
section
variable {B : Wd} {n : Nat} {sc : Scope} {vs vs₁ vs₂ : List (Option Val)} {σ σ₁ σ₂ : Store} {v a b c : Val} {k : Nat} {pos : Pos} {e l r : Expr} {st : Stmt} {rest : List Stmt} {f : Fl}

/-- what a def of the text's own answers to things that no frame owns -/
noncomputable def Fn (B : Wd) (n : Nat) (fa : Addr) (args : List Val) (v : Val) : Prop := ∀ σ, OpS B n σ args (fun xs => call (.ref fa) xs) v
/-- the same where it only reads, and answers plainly -/
noncomputable def FnP (B : Wd) (n : Nat) (fa : Addr) (args : List Val) (v : Val) : Prop := ∀ σ args', Fzs σ args' args → OpS B n σ args' (fun xs => call (.ref fa) xs) v
/-- how a def binds what is given by position -/
noncomputable def ByPos (params : Arguments) (dV kV : Value) (ps : List Str) : Prop := ∀ (s : Shared) (fd : FuncData) (xs : List Value), fd.params = params → fd.defaults = dV → fd.kwdefaults = kV → xs.length = ps.length → BindsTo s fd ⟨xs, []⟩ (ps.zip xs)

theorem Fn.mk {fa : Addr} {params : Arguments} {body : List Stmt} {scope : Scope} {dV kV : Value} {ps : List Str} {args : List Val} {v₂ : Val}
    (hB : B.grows = false) (W : FnOK B.K fa params body scope dV kV) (hp : ByPos params dV kV ps) (hps : ps = (scope.names.take ps.length).map (·.1)) (hlen : args.length = ps.length)
    (hkind : ∀ y ∈ scope.names.take ps.length, y.2 = .local ∨ y.2 = .cell)
    (na : noRefs args = true) (hb : ∃ v₁ vs' σ', Exs B n scope (atCall scope.names args) [] body (.ret v₁) vs' σ' ∧ Out σ' v₁ v₂) : Fn B (n + 1) fa args v₂ := fun σ A μ ρ s xs Q g R q P => by
  obtain ⟨v₁, vs', σ', hb, ho⟩ := hb
  have hf : (Fl.ret v₁ = .ret v₁) ∨ (Fl.ret v₁ = .next ∧ v₁ = .none) := .inl rfl
  exact call_def hB W (fun fd h1 h2 h3 => hp s fd xs h1 h2 h3 ((RelVs.length q).trans hlen)) hps hlen hkind hb hf ho g R na q P
theorem FnP.mk {fa : Addr} {params : Arguments} {body : List Stmt} {scope : Scope} {dV kV : Value} {ps : List Str} {args : List Val} {v₁ : Val}
    (hB : B.grows = false) (W : FnOK B.K fa params body scope dV kV) (hp : ByPos params dV kV ps) (hps : ps = (scope.names.take ps.length).map (·.1)) (hlen : args.length = ps.length)
    (hkind : ∀ y ∈ scope.names.take ps.length, y.2 = .local ∨ y.2 = .cell)
    (hv : v₁.plain = true) (hb : ∃ vs' σ', Exs B n scope (atCall scope.names args) [] body (.ret v₁) vs' σ') : FnP B (n + 1) fa args v₁ := fun σ args' z A μ ρ s xs Q g R q P => by
  obtain ⟨vs', σ', hb⟩ := hb
  have hf : (Fl.ret v₁ = .ret v₁) ∨ (Fl.ret v₁ = .next ∧ v₁ = .none) := .inl rfl
  have hl : ∀ {xs ys : List Val}, Fzs σ xs ys → xs.length = ys.length := by
    intro xs
    induction xs with
    | nil => intro ys z; cases z; rfl
    | cons x xs ih => intro ys z; cases z with | cons _ z => simp [ih z]
  exact call_defF hB W (fun fd h1 h2 h3 => hp s fd xs h1 h2 h3 (((RelVs.length q).trans (hl z)).trans hlen)) hps hlen hkind hb hf hv g R z q P
theorem Fzs.same {xs : List Val} (h : noRefs xs = true) : Fzs σ xs xs := by
  induction xs with
  | nil => exact .nil
  | cons x xs ih =>
    simp only [noRefs, Bool.and_eq_true] at h
    exact .cons (.same h.1) (ih h.2)
theorem FnP.fn {fa : Addr} {args : List Val} (h : FnP B n fa args v) (na : noRefs args = true) : Fn B n fa args v := fun σ => h σ args (.same na)
theorem OpS.le {m : Nat} {as : List Val} {t : List Value → Sem Value} (h : OpS B m σ as t v) (hm : m ≤ n) : OpS B n σ as t v := fun A μ ρ s xs Q g R q P => h A μ ρ s xs Q (g.le hm) R q P
theorem Fn.le {m : Nat} {fa : Addr} {args : List Val} (h : Fn B m fa args v) (hm : m ≤ n) : Fn B n fa args v := fun σ => (h σ).le hm
theorem FnP.le {m : Nat} {fa : Addr} {args : List Val} (h : FnP B m fa args v) (hm : m ≤ n) : FnP B n fa args v := fun σ as z => (h σ as z).le hm

noncomputable def IsFn (B : Wd) (fa : Addr) : Prop := ∃ o fd, B.K.lookup fa = some o ∧ o.data = .func fd
theorem FnOK.isFn {fa : Addr} {params : Arguments} {body : List Stmt} {scope : Scope} {dV kV : Value} (W : FnOK B.K fa params body scope dV kV) : IsFn B fa := by
  obtain ⟨name, qual, doc, pm, an, cdv, ct, oc, od, osl, hK, _⟩ := W.ex
  exact ⟨_, _, hK, rfl⟩
/-- f(..): a def of the text's own by its name -/
theorem Ev.callD {x : Str} {p : Pos} {fa : Addr} {es : List Expr} {ws : List Val} (hf : Ev B n sc vs σ (.Name x p) (.glob (.ref fa))) (hi : IsFn B fa) (ha : Evs B n sc vs σ (e :: es) ws) (ho : OpS B n σ ws (fun xs => call (.ref fa) xs) v) (hst : noStar (e :: es) = true := by rfl) :
    Ev B n sc vs σ (.Call (.Name x p) (e :: es) [] pos) v := fun A μ ρ env s Q g hs R F P => by
  refine PyProof.Rows.Call_ (hf A μ ρ env s _ g hs R F fun f' h₁ t₁ X₁ r₁ => ?_)
  unfold RelV at r₁; subst r₁
  obtain ⟨o, fd, hK, hd⟩ := hi
  obtain ⟨e1, e2⟩ := starEach_cons (env := env) hst
  refine PyProof.Rows.callWith_def (o := o) hd (ha.run (pos := pos) g hs (R.keeps X₁) (F.keeps R X₁) (fun ys h₂ t₂ X₂ r₂ => ?_) hst) e1
  have R₂ := (R.keeps X₁).keeps X₂
  exact ⟨R₂.inK _ _ hK, ho A μ ρ { s with heap := h₂, toks := t₂ } ys Q g R₂ r₂ ((P.step X₁).step X₂)⟩
end
end Mine
namespace Mine
open PySem PySem.Spec PySem.Calls PyProof.Rows PySem.W
/-- a text of these signs -/
noncomputable def S (L : List Nat) : Str := ⟨L.toArray⟩
theorem S_len (L : List Nat) : (S L).length = L.length := by simp [S, Str.length]
theorem S_inj {L M : List Nat} (h : S L = S M) : L = M := by
  have := congrArg (fun x : Str => x.cps.toList) h
  simpa [S] using this
theorem S_beq (L M : List Nat) : (S L == S M) = (L == M) := by
  rw [Bool.eq_iff_iff, beq_iff_eq, beq_iff_eq]
  exact ⟨S_inj, fun h => h ▸ rfl⟩
theorem S_from (L : List Nat) (k : Nat) : Txt.slice (S L) (some (k : Int)) none = S (L.drop k) := by
  by_cases h : k ≤ L.length
  · rw [slice_from_eq (b := ((S L).length : Int)) (by omega) (by rw [S_len]; omega) rfl, S_len]
    have e : ((L.length : Int) - (k : Int)).toNat = (L.drop k).length := by rw [List.length_drop]; omega
    rw [e]
    show S _ = _
    congr 1
    simp only [S, Int.toNat_natCast]
    exact List.take_length
  · rw [slice_beyond (by rw [S_len]; omega), List.drop_eq_nil_of_le (by omega)]
    rfl
theorem S_whole (L : List Nat) : Txt.slice (S L) none none = S L := by
  have := S_from L 0
  have e : Txt.slice (S L) none none = Txt.slice (S L) (some ((0 : Nat) : Int)) none := by
    unfold Txt.slice
    have : Builtin.Str.strSliceIndices none none 1 (S L).length = Builtin.Str.strSliceIndices (some ((0 : Nat) : Int)) none 1 (S L).length := by
      simp only [Builtin.Str.strSliceIndices]
      congr 1
    rw [this]
  rw [e, this]; rfl
/-- all but the last k -/
theorem S_but (L : List Nat) (k : Nat) (h0 : 0 < k) (h1 : k ≤ L.length) : Txt.slice (S L) none (some (-(k : Int))) = S (L.take (L.length - k)) := by
  have := beq_iff_eq.mp (slice_closes_to_neg (x := S L) (j := -(k : Int)) (k := -(k : Int) + ((S L).length : Int)) (by omega) (by rw [S_len]; omega) rfl)
  rw [this, S_len]
  show S _ = _
  congr 1
  simp only [S, Int.toNat_zero, List.drop_zero]
  congr 1
  omega
theorem S_at {L : List Nat} {k : Nat} {c : Nat} (h : L[k]? = some c) : (seqIndex? (k : Int) (S L).length).bind ((S L).cps[·]?) = some c := by
  have hk := (List.getElem?_eq_some_iff.mp h).1
  have e : seqIndex? (k : Int) (S L).length = some k := by
    unfold seqIndex?
    rw [S_len]
    have h0 : ¬ ((k : Int) < 0) := by omega
    have h1 : (decide (0 ≤ (k : Int)) && decide ((k : Int) < (L.length : Int))) = true := by
      rw [Bool.and_eq_true, decide_eq_true_eq, decide_eq_true_eq]; omega
    simp only [h0, if_false, h1, if_true, Int.toNat_natCast]
  rw [e]
  simpa [S] using h
theorem S_atNeg {L : List Nat} {k : Nat} {c : Nat} {i : Int} (hi : i = (k : Int) - L.length) (h : L[k]? = some c) : (seqIndex? i (S L).length).bind ((S L).cps[·]?) = some c := by
  have hk := (List.getElem?_eq_some_iff.mp h).1
  have e : seqIndex? i (S L).length = some k := by
    unfold seqIndex?
    rw [S_len]
    subst hi
    have h0 : (k : Int) - (L.length : Int) < 0 := by omega
    have e2 : (k : Int) - (L.length : Int) + (L.length : Int) = k := by omega
    have h1 : (decide (0 ≤ (k : Int)) && decide ((k : Int) < (L.length : Int))) = true := by
      rw [Bool.and_eq_true, decide_eq_true_eq, decide_eq_true_eq]; omega
    simp only [h0, if_true, e2, h1, Int.toNat_natCast]
  rw [e]
  simpa [S] using h

section
variable {B : Wd} {n : Nat} {sc : Scope} {vs vs₁ vs₂ : List (Option Val)} {σ σ₁ σ₂ : Store} {v a b c : Val} {k : Nat} {pos : Pos} {e l r : Expr} {st : Stmt} {rest : List Stmt} {f : Fl}
theorem Ev.gint {x : Str} {z : Int} (i : Nat) (hi : sc.names[i]? = some (x, .globalImplicit)) (hg : ∃ t, nsIn B.K mainGlobals x = some (some (.int z t))) (hd : (x == ("__debug__" : Str)) = false := by decide) : Ev B n sc vs σ (.Name x pos) (.int z) := by
  obtain ⟨t, hg⟩ := hg
  exact Ev.global i hi hg (fun _ _ _ => by unfold RelV; exact ⟨t, rfl⟩) hd
theorem Ev.gval {x : Str} {g : Value} (i : Nat) (hi : sc.names[i]? = some (x, .globalImplicit)) (hg : nsIn B.K mainGlobals x = some (some g)) (hd : (x == ("__debug__" : Str)) = false := by decide) : Ev B n sc vs σ (.Name x pos) (.glob g) :=
  Ev.global i hi hg (fun _ _ _ => by unfold RelV; rfl) hd
/-- an if whose test is known -/
theorem Exs.ifT {t : Expr} {xs ys : List Stmt} (ht : Tr B n sc vs σ t true) (h : Exs B n sc vs σ xs f vs₁ σ₁) (hf : f ≠ .next) : Exs B n sc vs σ (.If t xs ys pos :: rest) f vs₁ σ₁ :=
  Exs.stop (Ex.ite ht (fun _ => h) (fun q => by cases q)) hf
theorem Exs.ifF {t : Expr} {xs : List Stmt} (ht : Tr B n sc vs σ t false) (h : Exs B n sc vs σ rest f vs₁ σ₁) : Exs B n sc vs σ (.If t xs [] pos :: rest) f vs₁ σ₁ :=
  Exs.cons (Ex.ite ht (fun q => by cases q) (fun _ => Exs.nil)) h
theorem Fl.ret_ne {v : Val} : Fl.ret v ≠ .next := fun q => by cases q
theorem Tr.eq {d d' : Bool} (h : Tr B n sc vs σ e d) (q : d = d') : Tr B n sc vs σ e d' := q ▸ h
theorem Ev.eq (h : Ev B n sc vs σ e a) (q : a = b) : Ev B n sc vs σ e b := q ▸ h
end
end Mine
namespace Mine
open PySem PySem.Spec PySem.Calls PyProof.Rows PySem.W PyProof.V
section
variable {B : Wd} {n : Nat} {sc : Scope} {vs vs₁ vs₂ : List (Option Val)} {σ σ₁ σ₂ : Store} {v a b c : Val} {k : Nat} {pos : Pos} {e l r : Expr} {st : Stmt} {rest : List Stmt} {f : Fl}
theorem Tab.here {D : List (PyData × PyData)} {d : Addr} {μ ρ : Addrs} {h : Heap} (T : TabAt (PySem.intKind B.prog B.w) PyData.int B.h₀ d D) (R : Rep B μ ρ σ h) : TabAt (PySem.intKind B.prog B.w) PyData.int h d D := by
  obtain ⟨lo, kvs, hd, hf⟩ := T
  obtain ⟨o, es, ep, ho, r⟩ := hd
  exact ⟨lo, kvs, ⟨o, es, ep, R.base _ _ ho, r⟩, hf⟩
theorem TyB.tab {D : List (PyData × PyData)} {d : Addr} (T : TabAt (PySem.intKind B.prog B.w) PyData.int B.h₀ d D) : TyB B σ (.glob (.ref d)) "dict" := fun R q => by
  unfold RelV at q; subst q
  obtain ⟨lo, kvs, hd, hf⟩ := Tab.here T R
  refine ⟨hd.typeIs, fun ad e => ?_⟩
  cases e
  obtain ⟨o, es, ep, ho, hx, _⟩ := hd
  exact ⟨o, ho, hx.2.1⟩
theorem OpS.dictGet {D : List (PyData × PyData)} {d : Addr} {i : Int} {x y : Str} (T : TabAt (PySem.intKind B.prog B.w) PyData.int B.h₀ d D) (h : (lookup (.int i) D).getD (.str x) = .str y) :
    OpS B n σ [.glob (.ref d), .int i, .str x] (fun xs => call (.builtin "dict.get") xs) (.str y) := fun A μ ρ s zs Q g R q P => by
  obtain ⟨u, w, z, rfl, r1, r2, r3⟩ := RelVs.three q
  unfold RelV at r1 r2 r3
  subst r1
  obtain ⟨t, rfl⟩ := r2
  obtain ⟨t', rfl⟩ := r3
  refine call_get2_tab (dd := .str x) PyProof.V.same_int (intKind_is _ _ _ _) (Tab.here T R) (PyProof.V.Flat.str x t') fun v hv => ?_
  rw [h] at hv
  have hv' := hv s.heap
  cases hv'
  exact P.str
end
end Mine
namespace Mine
open PySem PySem.Spec PySem.Calls PyProof.Rows PySem.W
/-- the same ground, where the tables of code may grow -/
noncomputable def Wd.up (B : Wd) : Wd := { B with grows := true }
section
variable {B : Wd} {n : Nat} {sc : Scope} {vs vs₁ vs₂ : List (Option Val)} {σ σ₁ σ₂ : Store} {v a b c : Val} {k : Nat} {pos : Pos} {e l r : Expr} {st : Stmt} {rest : List Stmt} {f : Fl}
theorem Rep.down {μ ρ : Addrs} {h : Heap} (R : Rep B.up μ ρ σ h) : Rep B μ ρ σ h := ⟨R.tab, R.base, R.above, R.len, R.nodup, R.apart, R.held, R.muAbove, R.obj⟩
theorem Rep.rise {μ ρ : Addrs} {h : Heap} (R : Rep B μ ρ σ h) : Rep B.up μ ρ σ h := ⟨R.tab, R.base, R.above, R.len, R.nodup, R.apart, R.held, R.muAbove, R.obj⟩
theorem OpS.up {as : List Val} {t : List Value → Sem Value} (h : OpS B n σ as t v) : OpS B.up n σ as t v := fun A μ ρ s xs Q g R q P => h A μ ρ s xs Q g R.down q P

/-- what a nested def needs of the ground: its maker's code c, the table P of that, the name that its code bears -/
structure Nest (B : Wd) (c P : Addr) (qual : Str) : Prop where
  mem : (P, qual) ∈ B.tabs
  one : ∀ q ∈ B.tabs, q.1 = P → q.2 = qual
  hd : CodeHd B.h₀ c P
  hid : B.h₀.get? P = none
  blt : B.h₀.BuiltinsAt B.mg P
  grows : B.grows = true
theorem Heap.BuiltinsAt.keeps' {h h' : Heap} {mg : Str → Option Value} {P : Addr} (x : h.BuiltinsAt mg P) (k : ∀ b o, h.get? b = some o → h'.get? b = some o) : h'.BuiltinsAt mg P := by
  obtain ⟨bm, o, h1, h2, h3, h4, h5, r⟩ := x
  exact ⟨bm, o, h1, h2, h3, h4, k _ _ h5, r⟩

/-- the heap after a function object is made: all stands but the table P -/
theorem made_rep {c P c' : Addr} {qual : Str} {μ ρ : Addrs} {h h' : Heap} {ps ps' : Array Value} {fo : Obj} {env : Env} (N : Nest B c P qual) (R : Rep B μ ρ σ h) (F : EnvOK μ ρ h env vs) (hP : h.get? P = some (tabObj ps)) (k : Heap.ExtBut P h h') (hP' : h'.get? P = some (tabObj ps'))
    (ht : TriplesOk ps'.toList) (hc : h'.CodeRec (.ref c') qual) (hc' : c' ∉ μ ∧ c' ∉ ρ) (hin : ∀ pos cv, codeAmong pos ps'.toList = some cv → cv = .ref c' ∨ codeAmong pos ps.toList = some cv)
    (hfo : fo.cls = .type "function") (hfd : ∃ fd, fo.data = .func fd ∧ fd.code = .ref c' ∧ fd.qualname = qual) (hfr : fo.isFreed = false) :
    ExtN (Own B env) ρ h ρ (h'.push fo) ∧ Rep B μ ρ σ (h'.push fo) ∧ EnvOK μ ρ (h'.push fo) env vs ∧ RelV μ ρ (h'.push fo) (.obj h'.objs.size fo) (.ref h'.objs.size) := by
  obtain ⟨hPμ, hPρ, ps₀, e0, t0, c0⟩ := R.tab (P, qual) N.mem
  have e0 : h.get? P = some (tabObj ps₀) := e0
  rw [hP] at e0; cases e0
  have kk : ∀ b o, b ≠ P → h.get? b = some o → (h'.push fo).get? b = some o := fun b o nb e => Heap.get?_push_of_some _ (k b o nb e)
  have X₀ : ExtN (fun b => b = P) ρ h ρ (h'.push fo) := ExtN.of_keeps fun b o nb e => kk b o nb e
  have w₀ : Within (fun b => b = P) μ h := fun b q => .inr (q ▸ ⟨ps, hP, t0⟩)
  have X : ExtN (Own B env) ρ h ρ (h'.push fo) := ExtN.of_keeps fun b o nb e => kk b o (fun q => nb (.inr (.inr ⟨N.grows, q ▸ List.mem_map.mpr ⟨_, N.mem, rfl⟩⟩))) e
  have cv : CodeV μ ρ (h'.push fo) (.ref c') qual := by
    obtain ⟨c₂, oc, vs, t, e, h1, h2, h3⟩ := hc
    cases e
    exact ⟨c', oc, vs, t, rfl, hc'.1, hc'.2, Heap.get?_push_of_some _ h1, h2, h3⟩
  have oldOf : ∀ a o, h.get? a = some o → a ≠ h'.objs.size := fun a o e q => by
    by_cases z : a = P
    · subst z; exact absurd (Heap.lt_size hP') (by rw [q]; exact Nat.lt_irrefl _)
    · exact absurd (Heap.lt_size (k a o z e)) (by rw [q]; exact Nat.lt_irrefl _)
  have R' : Rep B μ ρ σ (h'.push fo) := by
    refine ⟨fun q hq => ?_, fun b o e => ?_, R.above, R.len, R.nodup, R.apart, fun b m => ?_, R.muAbove, fun i b xs e1 e2 => ?_⟩
    · obtain ⟨q1, q2, qs, e, t, cc⟩ := R.tab q hq
      by_cases z : q.1 = P
      · have z2 := N.one q hq z
        refine ⟨q1, q2, ps', by rw [z]; exact Heap.get?_push_of_some _ hP', ht, fun pos x hx => ?_⟩
        rcases hin pos x hx with rfl | hx
        · rw [z2]; exact cv
        · rw [z2]; exact (c0 pos x hx).extN X₀ w₀
      · exact ⟨q1, q2, qs, kk _ _ z e, t, fun pos x hx => (cc pos x hx).extN X₀ w₀⟩
    · have : b ≠ P := by rintro rfl; rw [N.hid] at e; cases e
      exact kk b o this (R.base b o e)
    · obtain ⟨o, e⟩ := R.held b m
      exact ⟨o, kk b o (by rintro rfl; exact hPμ m) e⟩
    · obtain ⟨ws, ⟨o, e, r0⟩, q⟩ := R.obj i b xs e1 e2
      exact ⟨ws, ⟨o, kk b o (by rintro rfl; exact hPρ (List.mem_of_getElem? e1)) e, r0⟩, RelVs.extN X₀ w₀ q⟩
  have hLP : env.locals ≠ P := fun q => hPμ (q ▸ F.locIn)
  refine ⟨X, R', ⟨F.kind, F.glob, F.blt, F.nodup, ?_, fun i x kd e hk => ?_, F.apart, F.locIn, F.cellIn⟩, ?_⟩
  · obtain ⟨m, ⟨o, es, ep, ho, rr⟩, r⟩ := F.ns
    exact ⟨m, ⟨o, es, ep, kk _ _ hLP ho, rr⟩, fun i x v e1 e2 => let ⟨v', a, b⟩ := r i x v e1 e2; ⟨v', a, RelV.extN X₀ w₀ b⟩⟩
  · obtain ⟨c, v₀, e1, ⟨o, ho, hd⟩, e3⟩ := F.cell i x kd e hk
    have hcP : c ≠ P := by
      rintro rfl
      rw [hP] at ho; cases ho; cases hd
    exact ⟨c, v₀, e1, ⟨o, kk _ _ hcP ho, hd⟩, fun v e4 => let ⟨v', a, b⟩ := e3 v e4; ⟨v', a, RelV.extN X₀ w₀ b⟩⟩
  · unfold RelV
    refine ⟨rfl, fun m => ?_, fun m => ?_, Heap.get?_push_size _ hfr, (fun q => by rw [hfo] at q; cases q), fun fd hd => ?_⟩
    · obtain ⟨o, e⟩ := R.held _ m; exact oldOf _ o e rfl
    · obtain ⟨_, o, e, _⟩ := R.isSome m; exact oldOf _ o e rfl
    · obtain ⟨fd', h1, h2, h3⟩ := hfd
      rw [h1] at hd; cases hd
      rw [h2, h3]; exact cv

/-- a nested def -/
theorem exec_nest {c P : Addr} {qual name : Str} {params : Arguments} {body : List Stmt} {scope : Scope} {A : Around} {μ ρ : Addrs} {env : Env} {s : Shared} {Q : Flow → Shared → Prop} {i : Nat} (N : Nest B c P qual) (R : Rep B μ ρ σ s.heap) (F : EnvOK μ ρ s.heap env vs)
    (hcode : env.code = .ref c) (hq : qualnameIn env name name = qual) (hi : env.scope.names[i]? = some (name, .cell)) (hcl : ∀ x ∈ scope.names, x.2 = .free → ∃ c, env.cells.lookup x.1 = some c)
    (hd0 : params.defaults = []) (hk0 : params.kw_defaults = []) (ha : annTrees params none env = [])
    (P' : ∀ f c' doc pm ctv h' tk, ExtN (Own B env) ρ s.heap ρ h' → Rep B μ ρ σ h' → EnvOK μ ρ h' env (vs.set i (some (.obj f (fnMade name qual params body scope (closL env.cells scope.names []) doc pm c' ctv)))) → Q .next { s with heap := h', toks := tk }) :
    wpAny (model B.prog B.w) A (exec (.FunctionDef name params body [] none [] scope none name pos) env) Q NoE s := by
  obtain ⟨hPμ, hPρ, ps, hP, ht, hcs⟩ := R.tab (P, qual) N.mem
  have hP : s.heap.get? P = some (tabObj ps) := hP
  have hgs := R.nsG
  have hgP : mainGlobals ≠ P := fun q => by
    obtain ⟨o, es, ep, e, hd, _⟩ := B.T.g
    have := N.hid
    rw [← q, e] at this; cases this
  have C := N.hd.keeps R.base
  have hb := Heap.BuiltinsAt.keeps' N.blt R.base
  refine nestDef_K hd0 hk0 ha ?_
  rw [hq]
  have store : ∀ (fo : Obj) (c' : Addr) (h' : Heap) (tk : Nat) (doc pm ctv : Value), fo = fnMade name qual params body scope (closL env.cells scope.names []) doc pm c' ctv → ExtN (Own B env) ρ s.heap ρ (h'.push fo) → Rep B μ ρ σ (h'.push fo) → EnvOK μ ρ (h'.push fo) env vs → RelV μ ρ (h'.push fo) (.obj h'.objs.size fo) (.ref h'.objs.size) →
      wpAny (model B.prog B.w) A (storeName env name (.ref h'.objs.size)) (fun _ s'' => Q .next s'') NoE { s with heap := h'.push fo, toks := tk } := fun fo c' h' tk doc pm ctv e X R' F' rv => by
    subst e
    exact store_name (s := { s with heap := h'.push _, toks := tk }) hi (.inr rfl) R' F' rv fun h₂ t₂ X₂ R₂ F₂ => P' _ c' doc pm ctv h₂ t₂ (ExtN.trans X R' F.own X₂) R₂ F₂
  cases hf : codeAmong pos ps.toList with
  | none =>
    refine makeFunction_K (mg := B.mg) (closureFor_is hcl) F.glob hgs hcode C hP ht hf hgP hb fun c' ctv doc h' tk hx hge hlt hrec htb => ?_
    have fresh : ∀ o, s.heap.get? c' = some o → False := fun o e => absurd (Heap.lt_size e) (Nat.not_lt.mpr hge)
    have tp : (ps ++ #[rawInt pos.line, rawInt pos.col, .ref c']).toList = ps.toList ++ [rawInt pos.line, rawInt pos.col, .ref c'] := by simp
    have hin : ∀ pos' x, codeAmong pos' (ps ++ #[rawInt pos.line, rawInt pos.col, .ref c']).toList = some x → x = .ref c' ∨ codeAmong pos' ps.toList = some x := by
      intro pos' x hx'
      rw [tp] at hx'
      have gen : ∀ (l : List Value), TriplesOk l → codeAmong pos' (l ++ [rawInt pos.line, rawInt pos.col, .ref c']) = some x → x = .ref c' ∨ codeAmong pos' l = some x := by
        intro l
        fun_induction TriplesOk l with
        | case1 =>
          intro _ h
          simp only [List.nil_append, codeAmong, rawInt] at h
          split at h
          · cases h; exact .inl rfl
          · cases h
        | case2 a t b u y rest ih =>
          intro hh h
          simp only [List.cons_append, codeAmong] at h ⊢
          split at h
          · rename_i hc; rw [if_pos hc]; exact .inr h
          · rename_i hc; rw [if_neg hc]; exact ih hh h
        | case3 l h1 h2 => intro hh; exact hh.elim
      exact gen ps.toList ht hx'
    obtain ⟨X, R', F', rv⟩ := made_rep (ps' := ps ++ #[rawInt pos.line, rawInt pos.col, .ref c']) (fo := fnMade name qual params body scope (closL env.cells scope.names []) doc ((B.mg "__name__").getD .none) c' ctv) N R F hP hx htb (by rw [tp]; exact TriplesOk_snoc _ _ _ _ ht) hrec
      ⟨fun m => by obtain ⟨o, e⟩ := R.held _ m; exact fresh o e, fun m => by obtain ⟨_, o, e, _⟩ := R.isSome m; exact fresh o e⟩ hin rfl ⟨_, rfl, rfl, rfl⟩ rfl
    exact store _ c' h' tk doc _ ctv rfl X R' F' rv
  | some cv =>
    obtain ⟨c', oc, vsq, tq, rfl, hc1, hc2, hg, hdd, hvv⟩ := hcs pos cv hf
    refine makeFunction_hit (mg := B.mg) (closureFor_is hcl) F.glob hgs hcode C hP ht hf hb fun ctv doc h' tk hk hsz => ?_
    obtain ⟨X, R', F', rv⟩ := made_rep (ps' := ps) (fo := fnMade name qual params body scope (closL env.cells scope.names []) doc ((B.mg "__name__").getD .none) c' ctv) N R F hP (fun b o _ e => hk b o e) (hk _ _ hP) ht ⟨c', oc, vsq, tq, rfl, hk _ _ hg, hdd, hvv⟩ ⟨hc1, hc2⟩ (fun pos' x hx' => .inr hx') rfl ⟨_, rfl, rfl, rfl⟩ rfl
    exact store _ c' h' tk doc _ ctv rfl X R' F' rv

/-- the entry of a nested def -/
theorem call_clos {fa c' : Addr} {name qual : Str} {params : Arguments} {body : List Stmt} {scope : Scope} {cl : List (Str × Addr)} {doc pm ctv : Value} {ps : List Str} {args : List Val} {vi : List (Option Val)}
    {A : Around} {μ ρ : Addrs} {s : Shared} {xs : List Value} {Q : Value → Shared → Prop}
    (hp : ByPos params .none .none ps) (hps : ps = (scope.names.take ps.length).map (·.1)) (hlen : args.length = ps.length) (hkind : ∀ y ∈ scope.names.take ps.length, y.2 = .local)
    (hkd : scope.kind = .function) (hco : scope.isCoroutine = false) (hgen : scope.isGenerator = false) (hnd : (scope.names.map (·.1)).Nodup) (hcell : ∀ x ∈ scope.names, x.2 ≠ .cell) (hap : ∀ x y c, cl.lookup x = some c → cl.lookup y = some c → x = y)
    (g : Good (n + 1) A) (R : Rep B μ ρ σ s.heap) (rf : RelV μ ρ s.heap (.obj fa (fnMade name qual params body scope cl doc pm c' ctv)) (.ref fa)) (r : RelVs μ ρ s.heap args xs)
    (hvs : ∀ (i : Nat) (x : Str) (v : Val), scope.names[i]? = some (x, .local) → vi[i]? = some (some v) → args[i]? = some v)
    (hfree : ∀ (i : Nat) (x : Str), scope.names[i]? = some (x, .free) → ∃ c v₀, cl.lookup x = some c ∧ s.heap.IsCell c v₀ ∧ ∀ v, vi[i]? = some (some v) → ∃ v', v₀ = some v' ∧ RelV μ ρ s.heap v v')
    (hb : ∀ (pl : Addrs) (env : Env) (h₁ : Heap) (tk : Nat), (∀ a ∈ pl, s.heap.get? a = none) → Keeps s.heap h₁ → Good n (A.deeper env) → env.scope = scope → env.cells = cl → Rep B (pl ++ μ) ρ σ h₁ → EnvOK (pl ++ μ) ρ h₁ env vi → (∀ b, Own B env b → b ∈ pl ∨ (B.grows = true ∧ b ∈ B.tabs.map (·.1))) →
      wpAny (model B.prog B.w) (A.deeper env) (execs body env) (fun f s' => Q (match f with | .ret v => v | _ => .none) s') NoE { s with heap := h₁, toks := tk }) :
    wpAny (model B.prog B.w) A (runValue (.call (.ref fa) ⟨xs, []⟩)) Q NoE s := by
  unfold RelV at rf
  obtain ⟨_, hfμ, hfρ, hfo, _, hcd⟩ := rf
  have hxl : xs.length = ps.length := (RelVs.length r).trans hlen
  obtain ⟨c, oc, vsq, tq, e1, _, _, e2, e3, e4⟩ := hcd _ rfl
  refine wpAny_runValue ?_
  refine codeAny_call_function (fd := fnX name qual params body scope cl .none .none doc pm none (.ref c') ctv) (body := body) (by have := g.depth; omega) hfo rfl hco hgen rfl ⟨c, oc, vsq, tq, e1, e2, e3, e4⟩ ?_
  refine hp s _ xs rfl rfl rfl hxl _ _ _ _ ?_
  have hkn : ∀ x ∈ ps.zip xs, scope.names.lookup x.1 = some .local := by
    intro x hx
    have hx1 : x.1 ∈ ps := (List.of_mem_zip hx).1
    rw [hps] at hx1
    obtain ⟨y, hy, hxy⟩ := List.mem_map.mp hx1
    obtain ⟨j, hj⟩ := List.getElem?_of_mem (List.mem_of_mem_take hy)
    have hl : scope.names.lookup x.1 = some y.2 := by rw [← hxy]; exact lookup_of_nodup hnd hj
    rw [hl, hkind y hy]
  refine wpAny_newFunctionEnv hcell hkn (fun h₁ hns hsb => ?_) hkd
  have lim : s.heap.NoLimit := B.T.nolimit.keeps R.base
  refine ⟨lim.fresh _ hsb, codeAny_func ?_⟩
  have hL : s.heap.get? s.heap.objs.size = none := fresh_none _
  have hk₁ : Keeps s.heap h₁ := fun b o e => hsb.extBut b o (by rintro rfl; rw [hL] at e; cases e) (Heap.get?_push_of_some _ e)
  have R' : Rep B ([s.heap.objs.size] ++ μ) ρ σ h₁ := R.addMus hk₁ (fun a m => by rw [List.mem_singleton.mp m]; exact hL) (fun a m => by
    rw [List.mem_singleton.mp m]; obtain ⟨o, _, _, ho, _⟩ := hns; exact ⟨o, ho⟩)
  have avoid : ∀ a o, s.heap.get? a = some o → a ∉ μ → a ∉ ρ → a ∉ [s.heap.objs.size] ++ μ ∧ a ∉ ρ := fun a o e n1 n2 => ⟨fun m => by
    rcases List.mem_append.mp m with m | m
    · rw [List.mem_singleton.mp m, hL] at e; cases e
    · exact n1 m, n2⟩
  have rargs : RelVs ([s.heap.objs.size] ++ μ) ρ h₁ args xs := RelVs.keeps hk₁ (RelVs.mu avoid (fun _ _ e => e) r)
  have psn : ps.Nodup := by rw [hps, List.map_take]; exact List.Nodup.sublist (List.take_sublist _ _) hnd
  have hbn : ((ps.zip xs).map (·.1)).Nodup := by rw [List.map_fst_zip (Nat.le_of_eq hxl.symm)]; exact psn
  have F' : EnvOK ([s.heap.objs.size] ++ μ) ρ h₁ (newEnv scope s.heap.objs.size mainGlobals cl (qual ++ ".<locals>.") (some fa) (.ref c') none builtinsNs) vi := by
    refine ⟨hkd, rfl, rfl, hnd, ⟨_, hns, fun i y w q1 q2 => ?_⟩, fun i y kd q1 hkd => ?_, hap, List.mem_cons_self, fun y c q1 q2 => ?_⟩
    · have q1' : scope.names[i]? = some (y, .local) := q1
      have q3 := hvs i y w q1' q2
      obtain ⟨w', q4, r4⟩ := RelVs.at rargs q3
      refine ⟨w', ?_, r4⟩
      have hi : i < args.length := (List.getElem?_eq_some_iff.mp q3).1
      have q5 : ps[i]? = some y := by
        rw [hps, List.getElem?_map, List.getElem?_take, if_pos (hlen ▸ hi), q1']; rfl
      have q6 : (ps.zip xs)[i]? = some (y, w') := by rw [List.getElem?_zip_eq_some]; exact ⟨q5, q4⟩
      have nd2 : ((ps.zip xs).reverse.map (·.1)).Nodup := by rw [List.map_reverse]; exact (List.reverse_perm _).nodup_iff.mpr hbn
      obtain ⟨j, hj⟩ := List.getElem?_of_mem (List.mem_reverse.mpr (List.mem_of_getElem? q6))
      exact lookup_of_nodup nd2 hj
    · have q1' : scope.names[i]? = some (y, kd) := q1
      rcases hkd with rfl | rfl
      · exact absurd rfl (hcell _ (List.mem_of_getElem? q1'))
      · obtain ⟨c, v₀, h1, h2, h3⟩ := hfree i y q1'
        exact ⟨c, v₀, h1, h2.keeps hk₁, fun v hv => let ⟨v', a, b⟩ := h3 v hv; ⟨v', a, RelV.keeps hk₁ (RelV.mu avoid (fun _ _ e => e) b)⟩⟩
    · have q2' : scope.names.lookup y = some .cell := q2
      exact absurd rfl (hcell (y, .cell) (mem_of_lookup q2'))
  refine wpAny_mono (hb [s.heap.objs.size] _ h₁ _ (fun a m => by rw [List.mem_singleton.mp m]; exact hL) hk₁ (g.deeper _) rfl rfl R' F' fun b q => ?_) (Q := fun f s' => Q (match f with | .ret v => v | _ => .none) s') (fun _ _ z => z) (fun _ _ z => z.elim)
  rcases q with q | ⟨y, _, q2⟩ | q
  · exact .inl (List.mem_singleton.mpr q)
  · have q2' : scope.names.lookup y = some .cell := q2
    exact absurd rfl (hcell (y, .cell) (mem_of_lookup q2'))
  · exact .inr q
end
end Mine
namespace Mine
open PySem PySem.Spec PySem.Calls PyProof.Rows PySem.W
theorem and_high (x s : Nat) : x &&& ((x / 2 ^ s) * 2 ^ s) = (x / 2 ^ s) * 2 ^ s := by
  rw [← Nat.shiftRight_eq_div_pow, ← Nat.shiftLeft_eq]
  apply Nat.eq_of_testBit_eq
  intro i
  rw [Nat.testBit_and, Nat.testBit_shiftLeft, Nat.testBit_shiftRight]
  by_cases h : i ≥ s
  · simp only [h, decide_true, Bool.true_and]
    rw [show s + (i - s) = i by omega, Bool.and_self]
  · simp [h]
theorem xor_low (x s : Nat) : Builtin.bitXor (x : Int) (((x / 2 ^ s : Nat) : Int) * 2 ^ s) = ((x % 2 ^ s : Nat) : Int) := by
  have e : ((x / 2 ^ s : Nat) : Int) * 2 ^ s = (((x / 2 ^ s) * 2 ^ s : Nat) : Int) := by simp
  rw [e, bitXor_and]
  have h : Builtin.bitAnd (x : Int) (((x / 2 ^ s) * 2 ^ s : Nat) : Int) = (((x / 2 ^ s) * 2 ^ s : Nat) : Int) := by
    unfold Builtin.bitAnd
    have h1 : decide (0 ≤ (x : Int)) = true := by simp
    have h2 : decide (0 ≤ (((x / 2 ^ s) * 2 ^ s : Nat) : Int)) = true := decide_eq_true (Int.natCast_nonneg _)
    rw [h1, h2]
    simp only [Int.toNat_natCast]
    rw [and_high]
  rw [h]
  have := Nat.div_add_mod x (2 ^ s)
  rw [Nat.mul_comm] at this
  omega
/-- k digits of x to the base 2 ^ n, the lowest first -/
noncomputable def dg (n : Nat) : Nat → Nat → List Int
  | 0, _ => []
  | k + 1, x => ((x % 2 ^ n : Nat) : Int) :: dg n k (x / 2 ^ n)
theorem dg_succ (n k x : Nat) : dg n (k + 1) x = ((x % 2 ^ n : Nat) : Int) :: dg n k (x / 2 ^ n) := rfl
theorem dg_len (n : Nat) : ∀ (k x : Nat), (dg n k x).length = k
  | 0, _ => rfl
  | k + 1, x => by unfold dg; rw [List.length_cons, dg_len n k]
theorem dg_add (n : Nat) : ∀ (k m x : Nat), dg n (k + m) x = dg n k (x % 2 ^ (n * k)) ++ dg n m (x / 2 ^ (n * k))
  | 0, m, x => by simp [dg]
  | k + 1, m, x => by
    rw [show k + 1 + m = (k + m) + 1 by omega]
    have e : 2 ^ (n * (k + 1)) = 2 ^ n * 2 ^ (n * k) := by rw [← Nat.pow_add]; congr 1; rw [Nat.mul_add]; omega
    rw [dg_succ, dg_succ, dg_add n k m (x / 2 ^ n), e, List.cons_append]
    congr 1
    · rw [Nat.mod_mul_right_mod]
    · rw [Nat.mod_mul_right_div_self, Nat.div_div_eq_div_mul]
theorem dg_one {n x : Nat} (h : x < 2 ^ n) : dg n 1 x = [(x : Int)] := by
  unfold dg dg
  rw [Nat.mod_eq_of_lt h]
/-- the number of these digits -/
noncomputable def num (n : Nat) : List Int → Int
  | [] => 0
  | d :: ds => d + 2 ^ n * num n ds
theorem num_cons (n : Nat) (d : Int) (ds : List Int) : num n (d :: ds) = d + 2 ^ n * num n ds := rfl
theorem num_dg (n : Nat) : ∀ (k x : Nat), x < 2 ^ (n * k) → num n (dg n k x) = x
  | 0, x, h => by simp at h; subst h; rfl
  | k + 1, x, h => by
    unfold dg num
    rw [num_dg n k (x / 2 ^ n) (by
      rw [Nat.div_lt_iff_lt_mul (Nat.two_pow_pos n), ← Nat.pow_add]
      rwa [show n * k + n = n * (k + 1) by rw [Nat.mul_add]; omega])]
    have := Nat.div_add_mod x (2 ^ n)
    have e : (2 : Int) ^ n * ((x / 2 ^ n : Nat) : Int) = ((2 ^ n * (x / 2 ^ n) : Nat) : Int) := by simp
    rw [e]; omega
theorem num_append (n : Nat) : ∀ (xs ys : List Int), num n (xs ++ ys) = num n xs + 2 ^ (n * xs.length) * num n ys
  | [], ys => by simp [num]
  | x :: xs, ys => by
    rw [List.cons_append]
    rw [num_cons, num_cons, num_append n xs ys, List.length_cons]
    have e : (2 : Int) ^ (n * (xs.length + 1)) = 2 ^ n * 2 ^ (n * xs.length) := by rw [← Int.pow_add]; congr 1; rw [Nat.mul_add]; omega
    rw [e, Int.mul_add, Int.mul_assoc]; omega
end Mine
namespace Mine
open PySem PySem.Spec PySem.Calls PyProof.Rows PySem.W
section
variable {B : Wd} {n : Nat} {sc : Scope} {vs vs₁ vs₂ : List (Option Val)} {σ σ₁ σ₂ : Store} {v a b c : Val} {k : Nat} {pos : Pos} {e l r : Expr} {st : Stmt} {rest : List Stmt} {f : Fl}
/-- statements ahead of others that are walked by hand -/
noncomputable def Pre (B : Wd) (n : Nat) (sc : Scope) (vs : List (Option Val)) (σ : Store) (ss rest : List Stmt) (vs₁ : List (Option Val)) (σ₁ : Store) : Prop :=
  ∀ (A : Around) (μ ρ : Addrs) (env : Env) (s : Shared) (Q : Flow → Shared → Prop), Good n A → env.scope = sc → Rep B μ ρ σ s.heap → EnvOK μ ρ s.heap env vs →
    (∀ ρ' h' tk, ExtN (Own B env) ρ s.heap ρ' h' → Rep B μ ρ' σ₁ h' → EnvOK μ ρ' h' env vs₁ → wpAny (model B.prog B.w) A (execs rest env) Q NoE { s with heap := h', toks := tk }) → wpAny (model B.prog B.w) A (execs ss env) Q NoE s
theorem Pre.nil : Pre B n sc vs σ rest rest vs σ := fun A μ ρ env s Q g hs R F P => P ρ s.heap s.toks (ExtN.refl _ _ _) R F
theorem Pre.cons {ss : List Stmt} (h : Ex B n sc vs σ st .next vs₁ σ₁) (h2 : Pre B n sc vs₁ σ₁ ss rest vs₂ σ₂) : Pre B n sc vs σ (st :: ss) rest vs₂ σ₂ := fun A μ ρ env s Q g hs R F P => by
  refine wpAny_execs_cons (h A μ ρ env s _ g hs R F fun ρ₁ f₁ h₁ t₁ X₁ R₁ F₁ r₁ => ?_)
  unfold RelF at r₁; subst r₁
  exact h2 A μ ρ₁ env _ Q g hs R₁ F₁ fun ρ' h' tk X R' F' => P ρ' h' tk (ExtN.trans X₁ R₁ F₁.own X) R' F'
theorem Rep.sameRho {μ ρ ρ' : Addrs} {h h' : Heap} {N : Addr → Prop} (R : Rep B μ ρ σ h) (R' : Rep B μ ρ' σ₁ h') (hl : σ₁.length = σ.length) (X : ExtN N ρ h ρ' h') : ρ' = ρ := by
  obtain ⟨t, rfl, _⟩ := X.pre
  have h1 := R.len
  have h2 := R'.len
  rw [List.length_append] at h2
  have : t = [] := List.length_eq_zero_iff.mp (by omega)
  rw [this, List.append_nil]
/-- f(..) for its own sake, f a function object that the frame holds -/
theorem exec_callF {x : Str} {xp cp : Pos} {fa : Addr} {fo : Obj} {es : List Expr} {ws : List Val} {A : Around} {μ ρ : Addrs} {env : Env} {s : Shared} {Q : Flow → Shared → Prop} (hf : Ev B n sc vs σ (.Name x xp) (.obj fa fo)) (hfd : ∃ fd, fo.data = .func fd) (ha : Evs B n sc vs σ (e :: es) ws)
    (g : Good n A) (hs : env.scope = sc) (R : Rep B μ ρ σ s.heap) (F : EnvOK μ ρ s.heap env vs)
    (h : ∀ xs h₂ tk, Keeps s.heap h₂ → RelVs μ ρ h₂ ws xs → RelV μ ρ h₂ (.obj fa fo) (.ref fa) → wpAny (model B.prog B.w) A (call (.ref fa) xs) (fun v s₃ => (∀ z, v ≠ .ref z) ∧ Q .next s₃) NoE { s with heap := h₂, toks := tk })
    (hst : noStar (e :: es) = true := by rfl) (hm : sc.kind = .function := by rfl) (hsw : ∀ env, swapsWith (.Call (.Name x xp) (e :: es) [] cp) none pos.line env = pure false := by intro _; rfl) :
    wpAny (model B.prog B.w) A (exec (.Expr (.Call (.Name x xp) (e :: es) [] cp) pos) env) Q NoE s := by
  refine wpAny_Expr (PyProof.Rows.Call_ (hf A μ ρ env s _ g hs R F fun f' h₁ t₁ X₁ r₁ => ?_)) (by unfold interactive; rw [hs, hm]; rfl) (hsw env)
  have r₁' := r₁
  unfold RelV at r₁'
  obtain ⟨rfl, _, _, hfo, _⟩ := r₁'
  obtain ⟨fd, hd⟩ := hfd
  have at_ : ∀ {h₂ : Heap}, RelV μ ρ h₂ (.obj fa fo) (.ref fa) → FnAt fa h₂ := fun q => by
    unfold RelV at q
    obtain ⟨_, _, _, e, _⟩ := q
    obtain ⟨oc, od, dt, sl⟩ := fo
    simp only at hd; subst hd
    exact ⟨oc, od, fd, sl, e⟩
  obtain ⟨e1, e2⟩ := starEach_cons (env := env) hst
  refine callWith_F (at_ r₁) (ha.run (pos := cp) g hs (R.keeps X₁) (F.keeps R X₁) (fun ys h₂ t₂ X₂ r₂ => ?_) hst) e1 (noStar_plain e2)
  have rf := RelV.keeps X₂ r₁
  refine ⟨at_ rf, wpAny_mono (h ys h₂ t₂ (X₁.trans X₂) r₂ rf) (fun v s₃ hq => ?_) fun _ _ z => z⟩
  obtain ⟨hv, hq⟩ := hq
  cases v <;> first | exact absurd rfl (hv _) | exact hq
end
end Mine
namespace Mine
open PySem PySem.Spec PySem.Calls PyProof.Rows PySem.W
section
variable {B : Wd} {n : Nat} {sc : Scope} {vs vs₁ vs₂ : List (Option Val)} {σ σ₁ σ₂ : Store} {v a b c : Val} {k : Nat} {pos : Pos} {e l r : Expr} {st : Stmt} {rest : List Stmt} {f : Fl}
/-- the tables, where they may grow -/
noncomputable def Gr (B : Wd) (b : Addr) : Prop := B.grows = true ∧ b ∈ B.tabs.map (·.1)
theorem Gr.own {env : Env} {b : Addr} (q : Gr B b) : Own B env b := .inr (.inr q)
theorem Gr.tab {b : Addr} {μ : Addrs} (q : Gr B b) : b ∈ μ ∨ b ∈ B.tabs.map (·.1) := .inr q.2
theorem EnvOK.gr {μ ρ ρ' : Addrs} {h h' : Heap} {env : Env} (F : EnvOK μ ρ h env vs) (R : Rep B μ ρ σ h) (X : ExtN (Gr B) ρ h ρ' h') : EnvOK μ ρ' h' env vs := by
  have w : Within (Gr B) μ h := R.within fun b q => q.tab
  have nt : ∀ {b : Addr}, b ∈ μ → ¬ Gr B b := fun {b} m q => by
    obtain ⟨x, hx, rfl⟩ := List.mem_map.mp q.2
    exact (R.tab x hx).1 m
  refine ⟨F.kind, F.glob, F.blt, F.nodup, ?_, fun i x k e hk => ?_, F.apart, F.locIn, F.cellIn⟩
  · obtain ⟨m, hn, r⟩ := F.ns
    have off := R.off_ns hn
    refine ⟨m, ?_, fun i x v e1 e2 => let ⟨v', a, b⟩ := r i x v e1 e2; ⟨v', a, RelV.extN X w b⟩⟩
    obtain ⟨o, es, ep, ho, rr⟩ := hn
    exact ⟨o, es, ep, X.keep _ _ off (nt F.locIn) ho, rr⟩
  · obtain ⟨c, v₀, e1, e2, e3⟩ := F.cell i x k e hk
    have off := R.off_cell e2
    obtain ⟨o, ho, hd⟩ := e2
    have ng : ¬ Gr B c := fun q => by
      obtain ⟨ps, e', _⟩ := R.tab.tab q.2
      rw [ho] at e'; cases e'; cases hd
    exact ⟨c, v₀, e1, ⟨o, X.keep _ _ off ng ho, hd⟩, fun v e4 => let ⟨v', a, b⟩ := e3 v e4; ⟨v', a, RelV.extN X w b⟩⟩

/-- what an operation leaves that may change the frame's own lists, or let the tables grow -/
noncomputable def PostO (B : Wd) (μ ρ : Addrs) (s : Shared) (v : Val) (σ' : Store) (Q : Value → Shared → Prop) : Prop :=
  ∀ v' ρ' h' tk, ExtN (Gr B) ρ s.heap ρ' h' → Rep B μ ρ' σ' h' → RelV μ ρ' h' v v' → Q v' { s with heap := h', toks := tk }
noncomputable def OpE (B : Wd) (n : Nat) (σ : Store) (as : List Val) (t : List Value → Sem Value) (v : Val) (σ' : Store) : Prop :=
  ∀ (A : Around) (μ ρ : Addrs) (s : Shared) (xs : List Value) (Q : Value → Shared → Prop), Good n A → Rep B μ ρ σ s.heap → RelVs μ ρ s.heap as xs → PostO B μ ρ s v σ' Q → wpAny (model B.prog B.w) A (t xs) Q NoE s
noncomputable def PostE (B : Wd) (μ ρ : Addrs) (env : Env) (s : Shared) (v : Val) (vs : List (Option Val)) (σ' : Store) (Q : Value → Shared → Prop) : Prop :=
  ∀ v' ρ' h' tk, ExtN (Own B env) ρ s.heap ρ' h' → Rep B μ ρ' σ' h' → EnvOK μ ρ' h' env vs → RelV μ ρ' h' v v' → Q v' { s with heap := h', toks := tk }
/-- an expression that may change the frame's own lists, or let the tables grow -/
noncomputable def EvE (B : Wd) (n : Nat) (sc : Scope) (vs : List (Option Val)) (σ : Store) (e : Expr) (v : Val) (σ' : Store) : Prop :=
  ∀ (A : Around) (μ ρ : Addrs) (env : Env) (s : Shared) (Q : Value → Shared → Prop), Good n A → env.scope = sc → Rep B μ ρ σ s.heap → EnvOK μ ρ s.heap env vs →
    PostE B μ ρ env s v vs σ' Q → wpAny (model B.prog B.w) A (eval e env) Q NoE s
noncomputable def TrE (B : Wd) (n : Nat) (sc : Scope) (vs : List (Option Val)) (σ : Store) (e : Expr) (d : Bool) (σ' : Store) : Prop :=
  ∀ (A : Around) (μ ρ : Addrs) (env : Env) (s : Shared) (Q : Bool → Shared → Prop), Good n A → env.scope = sc → Rep B μ ρ σ s.heap → EnvOK μ ρ s.heap env vs →
    (∀ ρ' h' tk, ExtN (Own B env) ρ s.heap ρ' h' → Rep B μ ρ' σ' h' → EnvOK μ ρ' h' env vs → Q d { s with heap := h', toks := tk }) → wpAny (model B.prog B.w) A (isTrue e env (eval e env)) Q NoE s
theorem EvE.eq (h : EvE B n sc vs σ e a σ₁) (q : a = b) : EvE B n sc vs σ e b σ₁ := q ▸ h
theorem TrE.eq {d d' : Bool} (h : TrE B n sc vs σ e d σ₁) (q : d = d') : TrE B n sc vs σ e d' σ₁ := q ▸ h
theorem EvE.cmp {op : CmpOp} (hl : EvE B n sc vs σ l a σ₁) (hr : Ev B n sc vs σ₁ r b) (ho : Op2 B n σ₁ a b (compareOp op) v) (hm : behindInMarks op r = false := by with_unfolding_all rfl) : EvE B n sc vs σ (.Compare l [op] [r] pos) v σ₁ := fun A μ ρ env s Q g hs R F P => by
  refine wpAny_Compare1 (hl A μ ρ env s _ g hs R F fun x ρ₁ h₁ t₁ X₁ R₁ F₁ r₁ => ?_) hm
  refine hr A μ ρ₁ env _ _ g hs R₁ F₁ fun y h₂ t₂ X₂ r₂ => ?_
  have R₂ := R₁.keeps X₂
  refine ho A μ ρ₁ _ _ _ _ g R₂ (RelV.keeps X₂ r₁) r₂ fun z h₃ t₃ X₃ r₃ => ?_
  exact P z ρ₁ h₃ t₃ (ExtN.trans X₁ R₁ F₁.own (Keeps.own (μ := μ) (X₂.trans X₃))) (R₂.keeps X₃) (F₁.keeps R₁ (X₂.trans X₃)) r₃
theorem TrE.cmp {op : CmpOp} {d : Bool} (hl : EvE B n sc vs σ l a σ₁) (hr : Ev B n sc vs σ₁ r b) (ho : Op2 B n σ₁ a b (compareOp op) (.bool d)) (hm : behindInMarks op r = false := by with_unfolding_all rfl) : TrE B n sc vs σ (.Compare l [op] [r] pos) d σ₁ := fun A μ ρ env s Q g hs R F P => by
  refine wpAny_isTrue_Compare1 (hl A μ ρ env s _ g hs R F fun x ρ₁ h₁ t₁ X₁ R₁ F₁ r₁ => ?_) hm
  refine hr A μ ρ₁ env _ _ g hs R₁ F₁ fun y h₂ t₂ X₂ r₂ => ?_
  have R₂ := R₁.keeps X₂
  refine ho A μ ρ₁ _ _ _ _ g R₂ (RelV.keeps X₂ r₁) r₂ fun z h₃ t₃ X₃ r₃ => ?_
  unfold RelV at r₃; subst r₃
  exact wpAny_truthy_bool (P ρ₁ h₃ t₃ (ExtN.trans X₁ R₁ F₁.own (Keeps.own (μ := μ) (X₂.trans X₃))) (R₂.keeps X₃) (F₁.keeps R₁ (X₂.trans X₃)))
theorem EvE.sub {value slice : Expr} (hv : EvE B n sc vs σ value a σ₁) (hi : Ev B n sc vs σ₁ slice b) (I : Itm B n σ₁ a b v) (hns : notSlice slice = true := by rfl) : EvE B n sc vs σ (.Subscript value slice pos) v σ₁ := fun A μ ρ env s Q g hs R F P => by
  refine Subscript_ (hv A μ ρ env s _ g hs R F fun x ρ₁ h₁ t₁ X₁ R₁ F₁ r₁ => ?_)
  refine hi A μ ρ₁ env _ _ g hs R₁ F₁ fun y h₂ t₂ X₂ r₂ => ?_
  obtain ⟨T, id, hT, hl, hg⟩ := I A μ ρ₁ { s with heap := h₂, toks := t₂ } x y Q g (R₁.keeps X₂) (RelV.keeps X₂ r₁) r₂ fun z h₃ t₃ X₃ r₃ => P z ρ₁ h₃ t₃ (ExtN.trans X₁ R₁ F₁.own (Keeps.own (μ := μ) (X₂.trans X₃))) ((R₁.keeps X₂).keeps X₃) (F₁.keeps R₁ (X₂.trans X₃)) r₃
  refine subTail (ops := [x, y]) hT hl hg ?_
  cases slice <;> first | rfl | cases hns
/-- f(..): a def of the text's own by its name -/
theorem EvE.callD {x : Str} {p : Pos} {fa : Addr} {es : List Expr} {ws : List Val} (hf : Ev B n sc vs σ (.Name x p) (.glob (.ref fa))) (hi : IsFn B fa) (ha : Evs B n sc vs σ (e :: es) ws) (ho : OpE B n σ ws (fun xs => call (.ref fa) xs) v σ₁) (hst : noStar (e :: es) = true := by rfl) :
    EvE B n sc vs σ (.Call (.Name x p) (e :: es) [] pos) v σ₁ := fun A μ ρ env s Q g hs R F P => by
  refine PyProof.Rows.Call_ (hf A μ ρ env s _ g hs R F fun f' h₁ t₁ X₁ r₁ => ?_)
  unfold RelV at r₁; subst r₁
  obtain ⟨o, fd, hK, hd⟩ := hi
  obtain ⟨e1, e2⟩ := starEach_cons (env := env) hst
  refine PyProof.Rows.callWith_def (o := o) hd (ha.run (pos := pos) g hs (R.keeps X₁) (F.keeps R X₁) (fun ys h₂ t₂ X₂ r₂ => ?_) hst) e1
  have R₂ := (R.keeps X₁).keeps X₂
  have F₂ := (F.keeps R X₁).keeps (R.keeps X₁) X₂
  refine ⟨R₂.inK _ _ hK, ho A μ ρ { s with heap := h₂, toks := t₂ } ys Q g R₂ r₂ fun v' ρ' h' tk X R' r' => ?_⟩
  exact P v' ρ' h' tk (ExtN.trans (Keeps.own (μ := μ) (X₁.trans X₂)) R₂ F.own (X.weaken fun _ q => q.own)) R' (F₂.gr R₂ X) r'
/-- one such, then plain ones -/
theorem Evs.runE {es : List Expr} {ws : List Val} {A : Around} {μ ρ : Addrs} {env : Env} {s : Shared} {Q : List Value → Shared → Prop} (h : EvE B n sc vs σ e v σ₁) (hs' : Evs B n sc vs σ₁ es ws) (g : Good n A) (hs : env.scope = sc) (R : Rep B μ ρ σ s.heap) (F : EnvOK μ ρ s.heap env vs)
    (P : ∀ ys ρ' h' tk, ExtN (Own B env) ρ s.heap ρ' h' → Rep B μ ρ' σ₁ h' → EnvOK μ ρ' h' env vs → RelVs μ ρ' h' (v :: ws) ys → Q ys { s with heap := h', toks := tk }) (hst : noStar (e :: es) = true := by rfl) :
    wpAny (model B.prog B.w) A (spliced (backTo pos (starEach (e :: es) env))) Q NoE s := by
  obtain ⟨e1, e2⟩ := starEach_cons (env := env) hst
  refine args_cons (h A μ ρ env s _ g hs R F fun x ρ₁ h₁ t₁ X₁ R₁ F₁ r₁ => ?_) e1
  refine hs'.run g hs R₁ F₁ (fun ys h₂ t₂ X₂ r₂ => ?_) e2
  exact P _ ρ₁ h₂ t₂ (ExtN.trans X₁ R₁ F₁.own (Keeps.own (μ := μ) X₂)) (R₁.keeps X₂) (F₁.keeps R₁ X₂) (by unfold RelVs; exact ⟨_, _, rfl, RelV.keeps X₂ r₁, r₂⟩)
theorem Rep.fresh {μ ρ : Addrs} {h : Heap} (R : Rep B μ ρ σ h) {ad : Addr} (hn : h.get? ad = Option.none) : ad ∉ μ ∧ ad ∉ ρ :=
  ⟨fun m => (by obtain ⟨o, e⟩ := R.held _ m; rw [hn] at e; cases e), fun m => (by obtain ⟨_, o, e, _⟩ := R.isSome m; rw [hn] at e; cases e)⟩
/-- a tuple display, its first part such -/
theorem EvE.tuple {es : List Expr} {ws : List Val} {kd : Nat} (h : EvE B n sc vs σ e v σ₁) (ht : Evs B n sc vs σ₁ es ws) (hst : noStar (e :: es) = true := by rfl) (hz : es.length ≤ 1000 := by decide) : EvE B n sc vs σ (.Tuple (e :: es) kd pos) (.tup (v :: ws)) σ₁ := fun A μ ρ env s Q g hs R F P => by
  have hel : ∀ {es : List Expr} {ws : List Val}, Evs B n sc vs σ₁ es ws → ws.length = es.length := by
    intro es ws h; induction h with
    | nil => rfl
    | cons _ _ ih => simp [ih]
  refine wpAny_Tuple (Evs.runE h ht g hs R F (fun ys ρ₁ h₁ t₁ X₁ R₁ F₁ r₁ => ?_) hst)
  have hsz := sizeLine_eq
  have e1 := RelVs.length r₁
  have e2 := hel ht
  refine ⟨by rw [e1, List.length_cons]; omega, ?_⟩
  have hn := fresh_none h₁
  obtain ⟨hm, hr⟩ := R₁.fresh hn
  refine P _ ρ₁ _ _ (ExtN.trans X₁ R₁ F₁.own (Keeps.own (μ := μ) (Keeps.push _))) (R₁.keeps (Keeps.push _)) (F₁.keeps R₁ (Keeps.push _)) ?_
  unfold RelV
  exact ⟨_, ys, rfl, hm, hr, ⟨_, Heap.get?_push_size _ rfl, rfl, 0, rfl⟩, RelVs.keeps (Keeps.push _) r₁⟩
-- statements
theorem Ex.assignE {x : Str} {p : Pos} {kd : NameKind} (i : Nat) (hi : sc.names[i]? = some (x, kd)) (hk : kd = .local ∨ kd = .cell) (h : EvE B n sc vs σ e v σ₁) (hsw : ∀ env, swapsWith e (some (.Name x p)) pos.line env = pure false := by intro _; rfl) :
    Ex B n sc vs σ (.Assign [.Name x p] e pos) .next (vs.set i (some v)) σ₁ := fun A μ ρ env s Q g hs R F P => by
  refine wpAny_Assign_Name (h A μ ρ env s _ g hs R F fun v' ρ₁ h₁ t₁ X₁ R₁ F₁ r₁ => ?_) (hsw env)
  subst hs
  refine store_name (s := { s with heap := h₁, toks := t₁ }) hi hk R₁ F₁ r₁ fun h₂ t₂ X₂ R₂ F₂ => ?_
  exact ((P.step X₁ R₁ F.own).step X₂ R₂ F.own).here R₂ F₂ (by unfold RelF; rfl)
theorem Ex.assignTE {elts : List Expr} {kd : Nat} {tp : Pos} (h : EvE B n sc vs σ e v σ₁) (ha : As B n sc σ₁ (.Tuple elts kd tp) v vs vs₁) (hsw : ∀ env, swapsWithSole [.Tuple elts kd tp] e pos.line env = pure false := by intro _; rfl)
    (hw : ∀ env, env.scope = sc → swappedStores [.Tuple elts kd tp] e env = pure none := by intro _ _; rfl) : Ex B n sc vs σ (.Assign [.Tuple elts kd tp] e pos) .next vs₁ σ₁ := fun A μ ρ env s Q g hs R F P => by
  refine PyProof.Rows.Assign_Tuple (h A μ ρ env s _ g hs R F fun v' ρ₁ h₁ t₁ X₁ R₁ F₁ r₁ => ?_) (hsw env) (hw env hs)
  refine ha A μ ρ₁ env { s with heap := h₁, toks := t₁ } v' _ g hs R₁ F₁ r₁ fun h₂ t₂ X₂ R₂ F₂ => ?_
  exact ((P.step X₁ R₁ F.own).step X₂ R₂ F.own).here R₂ F₂ (by unfold RelF; rfl)
theorem Ex.retE (h : EvE B n sc vs σ e v σ₁) : Ex B n sc vs σ (.Return (some e) pos) (.ret v) vs σ₁ := fun A μ ρ env s Q g hs R F P => by
  refine wpAny_Return_some (h A μ ρ env s _ g hs R F fun v' ρ₁ h₁ t₁ X₁ R₁ F₁ r₁ => ?_)
  exact (P.step X₁ R₁ F.own).here R₁ F₁ (by unfold RelF; exact ⟨v', rfl, r₁⟩)
theorem Ex.iteE {t : Expr} {xs ys : List Stmt} {d : Bool} (ht : TrE B n sc vs σ t d σ₁) (h1 : d = true → Exs B n sc vs σ₁ xs f vs₁ σ₂) (h2 : d = false → Exs B n sc vs σ₁ ys f vs₁ σ₂) : Ex B n sc vs σ (.If t xs ys pos) f vs₁ σ₂ := fun A μ ρ env s Q g hs R F P => by
  refine wpAny_If (ht A μ ρ env s _ g hs R F fun ρ₁ h₁ t₁ X₁ R₁ F₁ => ?_)
  have P' := P.step (tk := t₁) X₁ R₁ F.own
  cases hd : d with
  | true => simp only [if_true]; exact h1 hd A μ ρ₁ env _ Q g hs R₁ F₁ P'
  | false => simp only [Bool.false_eq_true, if_false]; exact h2 hd A μ ρ₁ env _ Q g hs R₁ F₁ P'
end
end Mine
namespace Mine
open PySem PySem.Spec PySem.Calls PyProof.Rows PySem.W
theorem Rep.hide {B : Wd} {μ ρ : Addrs} {σ : Store} {h : Heap} (R : Rep B μ ρ σ h) : Rep B (ρ ++ μ) [] [] h :=
  ⟨R.tab.turn (fun _ _ _ _ e => e) (fun _ _ _ n1 n2 => ⟨fun m => by
    rcases List.mem_append.mp m with m | m
    · exact n2 m
    · exact n1 m, by simp⟩), R.base, fun _ m => (nomatch m), rfl, .nil, fun _ m => (nomatch m), fun a m => by
    rcases List.mem_append.mp m with m | m
    · obtain ⟨_, o, e, _⟩ := R.isSome m; exact ⟨o, e⟩
    · exact R.held a m, fun a m => by
    rcases List.mem_append.mp m with m | m
    · exact R.above a m
    · exact R.muAbove a m, fun i a xs e => by simp at e⟩
/-- where only tables grew, the frame stands -/
theorem Rep.grown {B : Wd} {μ ρ ν ν' : Addrs} {σ : Store} {h h' : Heap} (R : Rep B μ ρ σ h) (k : ∀ b o, ¬ Gr B b → h.get? b = some o → h'.get? b = some o) (T : TabOK B.tabs ν ν' h') (hν : ∀ a, a ∈ μ ∨ a ∈ ρ → a ∈ ν ∨ a ∈ ν') (hb : ∀ q ∈ B.tabs, B.h₀.get? q.1 = Option.none) : Rep B μ ρ σ h' := by
  have w : Within (Gr B) μ h := fun b q => .inr (R.tab.tab q.2)
  have X : ExtN (Gr B) ρ h ρ h' := ExtN.of_keeps fun b o nb e => k b o nb e
  have np : ∀ {b : Addr}, b ∈ ρ ∨ b ∈ μ → ¬ Gr B b := fun {b} m q => by
    obtain ⟨x, hx, rfl⟩ := List.mem_map.mp q.2
    obtain ⟨h1, h2, _⟩ := R.tab x hx
    rcases m with m | m
    · exact h2 m
    · exact h1 m
  refine ⟨T.turn (fun _ _ _ _ e => e) (fun a o _ n1 n2 => ⟨fun m => (hν a (.inl m)).elim n1 n2, fun m => (hν a (.inr m)).elim n1 n2⟩), fun b o e => ?_, R.above, R.len, R.nodup, R.apart, fun a m => ?_, R.muAbove, fun i a xs e1 e2 => ?_⟩
  · refine k b o (fun q => ?_) (R.base b o e)
    obtain ⟨x, hx, rfl⟩ := List.mem_map.mp q.2
    rw [hb x hx] at e; cases e
  · obtain ⟨o, e⟩ := R.held a m
    exact ⟨o, k a o (np (.inr m)) e⟩
  · obtain ⟨ws, ⟨o, e, r0⟩, q⟩ := R.obj i a xs e1 e2
    exact ⟨ws, ⟨o, k a o (np (.inl (List.mem_of_getElem? e1))) e, r0⟩, RelVs.extN X w q⟩
section
variable {B : Wd} {n : Nat} {sc : Scope} {vs vs₁ vs₂ : List (Option Val)} {σ σ₁ σ₂ : Store} {v a b c : Val} {k : Nat} {pos : Pos} {e l r : Expr} {st : Stmt} {rest : List Stmt} {f : Fl}
/-- a frame's statements, where what its code is is known -/
noncomputable def ExC (B : Wd) (n : Nat) (C : Env → Prop) (sc : Scope) (vs : List (Option Val)) (σ : Store) (ss : List Stmt) (f : Fl) (vs' : List (Option Val)) (σ' : Store) : Prop :=
  ∀ (A : Around) (μ ρ : Addrs) (env : Env) (s : Shared) (Q : Flow → Shared → Prop), Good n A → env.scope = sc → C env → Rep B μ ρ σ s.heap → EnvOK μ ρ s.heap env vs →
    PostF B μ ρ env s f vs' σ' Q → wpAny (model B.prog B.w) A (execs ss env) Q NoE s
theorem Exs.toC {C : Env → Prop} {ss : List Stmt} (h : Exs B n sc vs σ ss f vs₁ σ₁) : ExC B n C sc vs σ ss f vs₁ σ₁ := fun A μ ρ env s Q g hs _ R F P => h A μ ρ env s Q g hs R F P
noncomputable def Codes (B : Wd) (fa : Addr) (env : Env) : Prop := ∃ oc od fd osl, B.K.lookup fa = some ⟨oc, od, .func fd, osl⟩ ∧ env.code = fd.code ∧ env.qual = fd.qualname ++ ".<locals>."
/-- what a def answers that may make the tables grow -/
noncomputable def FnG (B : Wd) (n : Nat) (fa : Addr) (args : List Val) (v : Val) : Prop := ∀ σ, OpE B n σ args (fun xs => call (.ref fa) xs) v σ
theorem FnG.le {m : Nat} {fa : Addr} {args : List Val} (h : FnG B m fa args v) (hm : m ≤ n) : FnG B n fa args v := fun σ A μ ρ s xs Q g R r P => h σ A μ ρ s xs Q (g.le hm) R r P
theorem FnG.mk {fa : Addr} {params : Arguments} {body : List Stmt} {scope : Scope} {dV kV : Value} {ps : List Str} {args : List Val} {v₂ : Val}
    (hT : ∀ q ∈ B.tabs, B.h₀.get? q.1 = Option.none) (W : FnOK B.K fa params body scope dV kV) (hp : ByPos params dV kV ps) (hps : ps = (scope.names.take ps.length).map (·.1)) (hlen : args.length = ps.length)
    (hkind : ∀ y ∈ scope.names.take ps.length, y.2 = .local ∨ y.2 = .cell)
    (na : noRefs args = true) (hb : ∃ v₁ vs' σ', ExC B n (Codes B fa) scope (atCall scope.names args) [] body (.ret v₁) vs' σ' ∧ Out σ' v₁ v₂) : FnG B (n + 1) fa args v₂ := fun σ A μ ρ s xs Q g R q P => by
  obtain ⟨v₁, vs', σ', hb, ho⟩ := hb
  have q' : RelVs (ρ ++ μ) [] s.heap args xs := RelVs.noref (fun a o _ n1 n2 => ⟨fun m => by
    rcases List.mem_append.mp m with m | m
    · exact n2 m
    · exact n1 m, by simp⟩) na q
  refine call_gen W (fun fd h1 h2 h3 => hp s fd xs h1 h2 h3 ((RelVs.length q).trans hlen)) hps hlen hkind g R.hide q' fun pl env h₁ tk hpl hk g' hs R' F' w hc => ?_
  refine wpAny_mono (hb _ _ [] env { s with heap := h₁, toks := tk } _ g' hs hc R' F' (fun ρ₂ f₂ h₂ t₂ X₂ R₂ F₂ r₂ => ?_)) (Q := fun f s' => Q (match f with | .ret v => v | _ => .none) s') (fun _ _ z => z) (fun _ _ z => z)
  unfold RelF at r₂
  obtain ⟨v', rfl, r₂⟩ := r₂
  have kk : ∀ b o, ¬ Gr B b → s.heap.get? b = some o → h₂.get? b = some o := fun b o nb e => callOwn_keeps (μ := μ) hpl hk w X₂ b o (by simp) nb e
  refine P v' ρ h₂ t₂ (ExtN.of_keeps kk) (R.grown kk R₂.tab (fun a m => .inl (List.mem_append_right _ ?_)) hT) (ho.rel R₂ (fun a m => List.mem_append_right _ ?_) r₂)
  · exact List.mem_append.mpr m.symm
  · exact List.mem_append.mpr m.symm
end
end Mine
namespace Mine
open PySem PySem.Spec PySem.Calls PyProof.Rows PySem.W
section
variable {B : Wd} {n : Nat} {sc : Scope} {vs vs₁ vs₂ : List (Option Val)} {σ σ₁ σ₂ : Store} {v a b c : Val} {k : Nat} {pos : Pos} {e l r : Expr} {st : Stmt} {rest : List Stmt} {f : Fl}
/-- f(..), f a function object that the frame holds -/
theorem eval_callF {x : Str} {xp : Pos} {fa : Addr} {fo : Obj} {es : List Expr} {ws : List Val} {A : Around} {μ ρ : Addrs} {env : Env} {s : Shared} {Q : Value → Shared → Prop} (hf : Ev B n sc vs σ (.Name x xp) (.obj fa fo)) (hfd : ∃ fd, fo.data = .func fd) (ha : Evs B n sc vs σ (e :: es) ws)
    (g : Good n A) (hs : env.scope = sc) (R : Rep B μ ρ σ s.heap) (F : EnvOK μ ρ s.heap env vs)
    (h : ∀ xs h₂ tk, Keeps s.heap h₂ → RelVs μ ρ h₂ ws xs → RelV μ ρ h₂ (.obj fa fo) (.ref fa) → wpAny (model B.prog B.w) A (call (.ref fa) xs) Q NoE { s with heap := h₂, toks := tk })
    (hst : noStar (e :: es) = true := by rfl) :
    wpAny (model B.prog B.w) A (eval (.Call (.Name x xp) (e :: es) [] pos) env) Q NoE s := by
  refine PyProof.Rows.Call_ (hf A μ ρ env s _ g hs R F fun f' h₁ t₁ X₁ r₁ => ?_)
  have r₁' := r₁
  unfold RelV at r₁'
  obtain ⟨rfl, _, _, hfo, _⟩ := r₁'
  obtain ⟨fd, hd⟩ := hfd
  have at_ : ∀ {h₂ : Heap}, RelV μ ρ h₂ (.obj fa fo) (.ref fa) → FnAt fa h₂ := fun q => by
    unfold RelV at q
    obtain ⟨_, _, _, e, _⟩ := q
    obtain ⟨oc, od, dt, sl⟩ := fo
    simp only at hd; subst hd
    exact ⟨oc, od, fd, sl, e⟩
  obtain ⟨e1, e2⟩ := starEach_cons (env := env) hst
  refine callWith_F (at_ r₁) (ha.run (pos := pos) g hs (R.keeps X₁) (F.keeps R X₁) (fun ys h₂ t₂ X₂ r₂ => ?_) hst) e1 (noStar_plain e2)
  have rf := RelV.keeps X₂ r₁
  exact ⟨at_ rf, h ys h₂ t₂ (X₁.trans X₂) r₂ rf⟩
/-- what a nested def finds in its cells -/
theorem clos_in {μ ρ : Addrs} {h : Heap} {env : Env} {inner : Scope} (F : EnvOK μ ρ h env vs) (hs : env.scope = sc) (hn : (inner.names.map (·.1)).Nodup) {i j : Nat} {z : Str} {v : Val} (e1 : inner.names[j]? = some (z, .free)) (e2 : sc.names[i]? = some (z, .cell)) (e3 : vs[i]? = some (some v)) :
    ∃ c v', (closL env.cells inner.names []).lookup z = some c ∧ h.IsCell c (some v') ∧ RelV μ ρ h v v' := by
  obtain ⟨c₀, v₀, e4, e5, e6⟩ := F.cell i z .cell (by rw [hs]; exact e2) (.inl rfl)
  obtain ⟨v', rfl, r⟩ := e6 v e3
  refine ⟨c₀, v', ?_, e5, r⟩
  rw [closL_free inner.names [] hn (List.mem_of_getElem? e1), e4]
  rfl
theorem clos_apart {μ ρ : Addrs} {h : Heap} {env : Env} {inner : Scope} (F : EnvOK μ ρ h env vs) (hcl : ∀ y ∈ inner.names, y.2 = .free → ∃ c, env.cells.lookup y.1 = some c) : ∀ y z b, (closL env.cells inner.names []).lookup y = some b → (closL env.cells inner.names []).lookup z = some b → y = z := fun y z b e1 e2 => by
  rcases closL_mem _ _ e1 with e1 | ⟨m1, e1⟩
  · cases e1
  rcases closL_mem _ _ e2 with e2 | ⟨m2, e2⟩
  · cases e2
  obtain ⟨c1, g1⟩ := hcl _ m1 rfl
  obtain ⟨c2, g2⟩ := hcl _ m2 rfl
  rw [g1] at e1; rw [g2] at e2
  simp only [Option.getD_some] at e1 e2
  subst e1; subst e2
  exact F.apart _ _ _ g1 g2
/-- a def whose answer is plain and that leaves its caller's lists as they were -/
theorem OpE.keep {fa : Addr} {params : Arguments} {body : List Stmt} {scope : Scope} {dV kV : Value} {ps : List Str} {args : List Val} {vs' : List (Option Val)}
    (W : FnOK B.K fa params body scope dV kV) (hp : ByPos params dV kV ps) (hps : ps = (scope.names.take ps.length).map (·.1)) (hlen : args.length = ps.length)
    (hkind : ∀ y ∈ scope.names.take ps.length, y.2 = .local ∨ y.2 = .cell) (hv : v.plain = true)
    (hb : ExC B n (Codes B fa) scope (atCall scope.names args) σ body (.ret v) vs' σ) : OpE B (n + 1) σ args (fun xs => call (.ref fa) xs) v σ := fun A μ ρ s xs Q g R q P => by
  refine call_gen W (fun fd h1 h2 h3 => hp s fd xs h1 h2 h3 ((RelVs.length q).trans hlen)) hps hlen hkind g R q fun pl env h₁ tk hpl hk g' hs R' F' w hc => ?_
  refine wpAny_mono (hb _ _ ρ env { s with heap := h₁, toks := tk } _ g' hs hc R' F' (fun ρ₂ f₂ h₂ t₂ X₂ R₂ F₂ r₂ => ?_)) (Q := fun f s' => Q (match f with | .ret v => v | _ => .none) s') (fun _ _ z => z) (fun _ _ z => z)
  obtain rfl := R'.sameRho R₂ rfl X₂
  unfold RelF at r₂
  obtain ⟨v', rfl, r₂⟩ := r₂
  refine P v' ρ₂ h₂ t₂ ⟨⟨[], by simp, fun _ m => nomatch m⟩, fun b o nb nN e => callOwn_keeps (μ := μ) hpl hk w X₂ b o nb nN e⟩ (R₂.lessMu fun a m => List.mem_append_right _ m) ?_
  cases v <;> first | (unfold RelV at r₂ ⊢; exact r₂) | cases hv
end
end Mine
namespace Mine
open PySem PySem.Spec PySem.Calls PyProof.Rows PySem.W
-- re.Pattern.search where nothing is found
theorem slot_search : Slot "re.Pattern" "search" "re.Pattern.search" :=
  .of (owner := "re.Pattern") (n := "search") (by rw [typeLookup_type, builtinLookup_eq_fast]; kernel_rfl) (by decide +kernel) (by decide +kernel) (by decide +kernel)
    (by first | exact .inl (by decide +kernel) | exact .inr (by decide +kernel)) (by rw [isSubtype_type]; kernel_rfl)
theorem plain_pat : PlainAttrs "re.Pattern" :=
  ⟨⟨"object.__getattribute__", by rw [typeLookup_type, builtinLookup_eq_fast]; kernel_rfl, by decide +kernel⟩, by rw [typeLookup_type, builtinLookup_eq_fast]; kernel_rfl⟩
theorem type_search : typeOf (.builtin "re.Pattern.search") = pure (.type "method_descriptor") := by show builtinType _ = _; rw [builtinType_eq_fast]; kernel_rfl
theorem entry_search : entryFor table "re.Pattern.search" = some Builtin.«re.Pattern.search» := entryFor_of_tree (by kernel_rfl)
theorem args_search (a b : Value) : argsOk "re.Pattern.search" ⟨[a, b], []⟩ := by unfold argsOk; kernel_rfl
theorem drive_end {m : Sre.M} (h : (m.runFor 4).outcome.isSome = true) : ∀ (k : Nat), k ≠ 0 → Builtin.Re.reDrive k m = pure (m.runFor 4)
  | 0, q => absurd rfl q
  | k + 1, _ => by
    unfold Builtin.Re.reDrive
    show (if (m.runFor 4).outcome.isSome = true then pure (m.runFor 4) else _) = _
    rw [if_pos h]
theorem rules_pass {M : Model} {A : Around} {E : Value → Shared → Prop} {Q : PUnit → Shared → Prop} {f : Nat → PUnit → Sem (ForInStep PUnit)} (hf : ∀ (i : Nat) (s : Shared) (Q' : ForInStep PUnit → Shared → Prop), Q' (.yield ⟨⟩) s → wpAny M A (f i ⟨⟩) Q' E s) {s : Shared} (h : Q ⟨⟩ s) : ∀ (l : List Nat),
    wpAny M A (forIn l PUnit.unit f) Q E s
  | [] => wpAny_pure h
  | i :: l => by
    rw [List.forIn_cons]
    exact wpAny_bind (hf i s _ (rules_pass hf h l))
theorem run_none {M : Model} {A : Around} {E : Value → Shared → Prop} {s : Shared} {Q : Option Sre.M → Shared → Prop} {m : Sre.M} (h : (m.runFor 4).outcome = some .failed) (hq : Q none s) : wpAny M A (Builtin.Re.reRunToEnd m) Q E s := by
  unfold Builtin.Re.reRunToEnd
  rw [drive_end (by rw [h]; rfl) _ (by decide)]
  refine wpAny_bind (wpAny_pure (wpAny_bind (rules_pass (fun i s Q' q => ?_) ?_ _)))
  · split
    · exact wpAny_bind (wpAny_rule (wpAny_pure q))
    · exact wpAny_pure q
  · rw [h]
    exact wpAny_pure hq
/-- a compiled pattern of texts -/
structure PatAt (K : Frag) (p : Addr) (code : List Nat) : Prop where
  obj : ∃ vs sl q its n o, K.lookup p = some ⟨.type "re.Pattern", none, .fields vs, sl⟩ ∧ Builtin.Re.reRawNat (vs.getD 6 .none) = 0 ∧ Builtin.Re.reRawNat (vs.getD 2 .none) = 0 ∧ vs.getD 5 .none = .ref q ∧ K.lookup q = some o ∧ o.data = .seq its n ∧ (its.map Builtin.Re.reRawOf).map (·.toNat) = code.toArray
section
variable {B : Wd} {n : Nat} {σ : Store}
theorem OpS.search {p : Addr} {code : List Nat} {t : Str} (F : PatAt B.K p code) (h : ((Sre.forSearch code.toArray t.cps 0 0 t.cps.size false).runFor 4).outcome = some .failed) (hz : t.cps.size < 2 ^ 62) :
    OpS B n σ [.glob (.ref p), .str t] (fun xs => call (.builtin "re.Pattern.search") xs) .none := fun A μ ρ s zs Q g R r P => by
  obtain ⟨x, y, rfl, r1, r2⟩ := RelVs.two r
  unfold RelV at r1 r2
  subst r1
  obtain ⟨tk, rfl⟩ := r2
  obtain ⟨vs, sl, q, its, m, o, e1, e2, e3, e4, e5, e6, e7⟩ := F.obj
  have X := R.inK
  refine wpAny_call_entry slot_search ⟨_, X _ _ e1, rfl⟩ entry_search ?_ (args_search _ _)
  unfold Builtin.«re.Pattern.search» Builtin.Re.reTarget
  have hn : Builtin.Re.reNamed "re.Pattern.search" "search" ["string", "pos", "endpos"] 1 [.str t tk] [] = pure [some (.str t tk), none, none] := by rfl
  refine wpAny_bind (wpAny_bind ?_)
  rw [hn]
  refine wpAny_pure ?_
  dsimp only
  refine wpAny_bind (wpAny_pure ?_)
  refine wpAny_bind (wpAny_pure ?_)
  refine wpAny_bind (wpAny_fieldsOf (X _ _ e1) rfl ?_)
  refine wpAny_bind (wpAny_bind (wpAny_pure ?_))
  refine wpAny_pure ?_
  dsimp only
  rw [e2, e3, e4]
  rw [if_neg (by decide), if_neg (by decide)]
  refine wpAny_bind (show wpAny _ _ (pure ()) _ _ _ from wpAny_pure ?_)
  refine wpAny_bind (wpAny_bind (wpAny_seqItems (X _ _ e5) e6 (wpAny_pure (wpAny_pure ?_))))
  dsimp only [Option.getD_some]
  have el : min (2 ^ 63 - 1 : Int).toNat t.cps.size = t.cps.size := by omega
  rw [e7, el, show min (Int.toNat 0) t.cps.size = 0 from Nat.zero_min _]
  unfold Builtin.Re.reAnswer
  refine wpAny_bind (run_none h (wpAny_pure ?_))
  exact ⟨_, rfl, P.here (by unfold RelV; rfl)⟩
end
-- the two patterns of Headers
noncomputable def nameCode : List Nat := [14, 10, 4, 1, 1, 22, 0, 31, 16, 127, 0, 13, 7, 22, 0, 31, 16, 127, 0, 1]
noncomputable def valueCode : List Nat := [14, 14, 4, 1, 1, 9, 4294966783, 0, 0, 2147483648, 0, 0, 0, 0, 0, 13, 11, 9, 4294966783, 0, 0, 2147483648, 0, 0, 0, 0, 0, 1]
theorem inSet_name (c : Nat) (h1 : 32 ≤ c) (h2 : c < 127) (seen : Sre.Seen) : ∃ seen', Sre.inSet nameCode.toArray c nameCode.toArray.size 5 true seen = .ok (false, seen') := by
  have e : Sre.inSet nameCode.toArray c nameCode.toArray.size 5 true seen = if (decide (0 ≤ c) && decide (c ≤ 31)) = true then .ok (true, seen.add 22) else (if (c == 127) = true then .ok (true, (seen.add 22).add 16) else .ok (false, ((seen.add 22).add 16).add 0)) := by rfl
  rw [e, if_neg (by simp; omega), if_neg (by simp; omega)]
  exact ⟨_, rfl⟩
theorem inSet_value (c : Nat) (h1 : 32 ≤ c) (h2 : c < 127) (seen : Sre.Seen) : ∃ seen', Sre.inSet valueCode.toArray c valueCode.toArray.size 5 true seen = .ok (false, seen') := by
  have e : Sre.inSet valueCode.toArray c valueCode.toArray.size 5 true seen = if (decide (c < 256) && (valueCode.toArray.getD (5 + (1 + c / 32)) 0).testBit (c % 32)) = true then .ok (true, seen.add 9) else .ok (false, (seen.add 9).add 0) := by rfl
  have q : ∀ c : Nat, c < 127 → 32 ≤ c → (decide (c < 256) && (valueCode.toArray.getD (5 + (1 + c / 32)) 0).testBit (c % 32)) = false := by decide +kernel
  rw [e, if_neg (by rw [q c h2 h1]; decide)]
  exact ⟨_, rfl⟩
theorem admit_none (m : Sre.M) (h : ∀ s, s < m.lim → ∀ seen, ∃ seen', Sre.inSet m.code (m.text.getD s 0) m.code.size 5 true seen = .ok (false, seen')) : ∀ (fuel s : Nat) (seen : Sre.Seen), ∃ seen', m.admitted fuel s seen = .ok (none, seen')
  | 0, _, seen => ⟨seen, rfl⟩
  | k + 1, s, seen => by
    unfold Sre.M.admitted
    by_cases hs : s ≥ m.lim
    · rw [if_pos hs]; exact ⟨_, rfl⟩
    · rw [if_neg hs]
      obtain ⟨seen', e⟩ := h s (by omega) seen
      rw [e]
      exact admit_none m h k (s + 1) seen'
theorem say_runs {m : Sre.M} (h1 : m.outcome = none) (h2 : m.frames = []) : ((m.say false).runFor 4).outcome = some .failed := by
  have e : (m.say false).step = { m.say false with outcome := some .failed } := by
    unfold Sre.M.step Sre.M.say
    simp only [h1, h2, Option.isSome_none, Bool.false_eq_true, if_false]
  have e1 : (m.say false).outcome.isSome = false := by unfold Sre.M.say; simp only [h1]; rfl
  unfold Sre.M.runFor
  rw [e1, e]
  rfl
theorem attempt_none (m : Sre.M) (hc : m.hasFirstSet = true) (ha : ∀ (fuel s : Nat) (seen : Sre.Seen), ∃ seen', m.admitted fuel s seen = .ok (none, seen')) (ho : m.outcome = none) (hf : m.frames = []) (s : Nat) : ((m.attemptFrom s true).runFor 4).outcome = some .failed := by
  unfold Sre.M.attemptFrom
  rw [hc]
  obtain ⟨seen', e⟩ := ha (m.lim + 1 - s) s m.seen
  rw [if_neg (by decide), e]
  exact say_runs ho hf
noncomputable def Printable (t : Str) : Prop := ∀ c ∈ t.cps.toList, 32 ≤ c ∧ c < 127
theorem search_fails (code : List Nat) (t : Str) (hh : Sre.header code.toArray = (1, 11) ∨ Sre.header code.toArray = (1, 15)) (h4 : code.toArray.getD 2 0 = 4) (h0 : code.toArray.getD 0 0 = 14)
    (hin : ∀ c, 32 ≤ c → c < 127 → ∀ seen, ∃ seen', Sre.inSet code.toArray c code.toArray.size 5 true seen = .ok (false, seen')) (ht : Printable t) :
    ((Sre.forSearch code.toArray t.cps 0 0 t.cps.size false).runFor 4).outcome = some .failed := by
  unfold Sre.forSearch
  have fst : (Sre.header code.toArray).1 = 1 := by rcases hh with h | h <;> rw [h]
  dsimp only
  rw [fst]
  split
  · exact say_runs rfl rfl
  · have key : ∀ (m : Sre.M), m.code = code.toArray → m.text = t.cps → m.lim = t.cps.size → ∀ (fuel s : Nat) (seen : Sre.Seen), ∃ seen', m.admitted fuel s seen = .ok (none, seen') := fun m e1 e2 e3 => admit_none m fun s hs seen => by
      have hs : s < t.cps.size := e3 ▸ hs
      have hc : t.cps.getD s 0 ∈ t.cps.toList := by
        rw [Array.getD_eq_getD_getElem?, Array.getElem?_eq_getElem hs]; simp
      obtain ⟨h1, h2⟩ := ht _ hc
      rw [e1, e2]
      exact hin _ h1 h2 seen
    have hf : ∀ (m : Sre.M), m.code = code.toArray → m.hasFirstSet = true := fun m e => by
      unfold Sre.M.hasFirstSet
      rw [e, h0, h4]; rfl
    refine attempt_none _ ?_ ?_ ?_ ?_ _
    · exact hf _ rfl
    · exact key _ rfl rfl rfl
    · rfl
    · rfl
theorem search_name {t : Str} (h : Printable t) : ((Sre.forSearch nameCode.toArray t.cps 0 0 t.cps.size false).runFor 4).outcome = some .failed := search_fails nameCode t (.inl rfl) rfl rfl inSet_name h
theorem search_value {t : Str} (h : Printable t) : ((Sre.forSearch valueCode.toArray t.cps 0 0 t.cps.size false).runFor 4).outcome = some .failed := search_fails valueCode t (.inr rfl) rfl rfl inSet_value h
end Mine
namespace Mine
open PySem PySem.Spec PySem.Calls PyProof.Rows PySem.W
/-- what is known of the class C, whose things hold one name -/
structure FHdr (K : Frag) (C : Addr) : Prop where
  hasD : hasDictIn K C = true
  plain : plainGet K C "_headers" = true
  attr : findIn K (.ref C) "_headers" = some none
noncomputable def unshadowed (name : Str) : Bool := !(name == ("_headers" : Str))
/-- its def f -/
structure HM (K : Frag) (C f : Addr) (name : Str) : Prop where
  find : findIn K (.ref C) name = some (some (.ref f))
  typ : typeIn K (.ref f) = some (.type "function")
  fn : ∃ oc od fd sl, K.lookup f = some ⟨oc, od, .func fd, sl⟩
  other : unshadowed name = true
noncomputable def HdrCall (o : Expr) (name : Str) (ap pos : Pos) (es : List Expr) (kws : List Keyword) : Prop := ∀ env, ∃ pl : Sem Bool, eval (.Call (.Attribute o name ap) es kws pos) env = (do
      let ov ← eval o env
      standAt ap.atName
      let (f, first) ← holding [ov] (getMethod ov name pl)
      callWith pos f first (backTo pos (starEach es env)) (backToKw pos (keywordEach kws env)))
section
variable {B : Wd} {n : Nat} {sc : Scope} {vs vs₁ vs₂ : List (Option Val)} {σ σ₁ σ₂ : Store} {v a b c u : Val} {k : Nat} {pos : Pos} {e l r : Expr} {st : Stmt} {rest : List Stmt} {f : Fl} {C fa : Addr}
theorem IsHdr.inst {h : Heap} {x C dx : Addr} {v : Value} (I : IsHdr h x C dx v) : ∃ hs t n, InstAt h x (instObj C dx) C (some (dictOf [⟨hs, .str "_headers" t, v⟩] n)) := by
  obtain ⟨e1, hs, t, n, e2⟩ := I
  exact ⟨hs, t, n, e1, rfl, rfl, e2⟩
theorem shadow_no {name : Str} {hs : Int} {t : Tok} {v : Value} {n : Nat} (h : unshadowed name = true) : shadowIn (some (dictOf [⟨hs, .str "_headers" t, v⟩] n)) name = some false := by
  have h' : (("_headers" : Str) == name) = false := by
    unfold unshadowed at h
    rw [Bool.not_eq_true'] at h
    rw [Bool.eq_false_iff] at h ⊢
    intro q
    exact h (by rw [beq_iff_eq] at q ⊢; exact q.symm)
  show (lookIn name _).map _ = _
  rw [lookIn_dict]
  unfold getL
  have e : (Value.str ("_headers" : Str) t).isStr name = false := h'
  simp only [List.find?_cons, e, List.find?_nil, List.any_cons, List.any_nil]
  rfl
/-- x._headers -/
theorem Ev.attrH {x : Str} {xp : Pos} {xs : List Val} (H : FHdr B.K C) (ho : Ev B n sc vs σ (.Name x xp) (.hdr C v)) (L : Lst σ v xs) : Ev B n sc vs σ (.Attribute (.Name x xp) "_headers" pos) v := fun A μ ρ env s Q g hs R F P => by
  refine Attribute_name (ho A μ ρ env s _ g hs R F fun x' h₁ t₁ X₁ r₁ => ?_)
  have r₁' := r₁
  unfold RelV at r₁'
  obtain ⟨ad, dx, v', rfl, _, _, _, _, I, rv⟩ := r₁'
  obtain ⟨hs', t, m, I⟩ := I.inst
  obtain ⟨l, ws, rfl, _⟩ := L.is (R.keeps X₁) rv
  refine get_value (s := { s with heap := h₁, toks := t₁ }) (R.keeps X₁).inK I (plainGet_of H.plain).1 (findObj_own H.hasD H.attr rfl (v := .ref l) ?_) rfl ?_
  · rw [lookIn_dict]; unfold getL
    have e : (Value.str ("_headers" : Str) t).isStr "_headers" = true := beq_self_eq_true _
    simp only [List.find?_cons, e]
  · exact P (.ref l) h₁ (t₁ + 1) X₁ rv
theorem FnAt.ofK {h : Heap} (X : B.K.In h) (M : ∃ oc od fd sl, B.K.lookup fa = some ⟨oc, od, .func fd, sl⟩) : FnAt fa h := by
  obtain ⟨oc, od, fd, sl, e⟩ := M
  exact ⟨oc, od, fd, sl, X _ _ e⟩
theorem getM {A : Around} {μ ρ : Addrs} {s : Shared} {x : Value} {name : Str} {pl : Sem Bool} {Q : Value × List Value → Shared → Prop} (H : FHdr B.K C) (M : HM B.K C fa name) (R : Rep B μ ρ σ s.heap) (r : RelV μ ρ s.heap (.hdr C v) x) (h : Q (.ref fa, [x]) s) :
    wpAny (model B.prog B.w) A (getMethod x name pl) Q NoE s := by
  unfold RelV at r
  obtain ⟨ad, dx, v', rfl, _, _, _, _, I, rv⟩ := r
  obtain ⟨hs', t, m, I⟩ := I.inst
  exact method_fn R.inK I (plainGet_of H.plain).1 (plainGet_of H.plain).2 M.find M.typ (shadow_no M.other) h
/-- x.m(..), a def of the class -/
theorem EvE.methH {o : Expr} {name : Str} {ap : Pos} {es : List Expr} {ws : List Val} (H : FHdr B.K C) (M : HM B.K C fa name) (ho : Ev B n sc vs σ o (.hdr C v)) (ha : Evs B n sc vs σ es ws) (op : OpE B n σ (.hdr C v :: ws) (fun xs => call (.ref fa) xs) u σ₁)
    (hst : noStar es = true := by rfl) (he : HdrCall o name ap pos es [] := by intro _; exact ⟨_, rfl⟩) : EvE B n sc vs σ (.Call (.Attribute o name ap) es [] pos) u σ₁ := fun A μ ρ env s Q g hs R F P => by
  obtain ⟨pl, he⟩ := he env
  refine methodCall_KW (ho A μ ρ env s _ g hs R F fun x h₁ t₁ X₁ r₁ => ?_) he
  have R₁ := R.keeps X₁
  refine getM (s := { s with heap := h₁, toks := t₁ }) H M R₁ r₁ ?_
  have fin : ∀ ys h₂ t₂, Keeps h₁ h₂ → RelVs μ ρ h₂ ws ys → wpAny (model B.prog B.w) A (call (.ref fa) (x :: ys)) Q NoE { s with heap := h₂, toks := t₂ } := fun ys h₂ t₂ X₂ r₂ => by
    have R₂ := R₁.keeps X₂
    refine op A μ ρ { s with heap := h₂, toks := t₂ } (x :: ys) Q g R₂ (RelVs.cons_iff.mpr ⟨_, _, rfl, RelV.keeps X₂ r₁, r₂⟩) fun v' ρ' h' tk X R' r' => ?_
    exact P v' ρ' h' tk (ExtN.trans (Keeps.own (μ := μ) (X₁.trans X₂)) R₂ F.own (X.weaken fun _ q => q.own)) R' (((F.keeps R X₁).keeps R₁ X₂).gr R₂ X) r'
  cases es with
  | nil =>
    cases ha
    exact callWith_F0 (FnAt.ofK R₁.inK M.fn) (fin [] h₁ t₁ (Keeps.refl _) (RelVs.nil_iff.mpr rfl))
  | cons e es =>
    obtain ⟨e1, e2⟩ := starEach_cons (env := env) hst
    refine callWith_F (FnAt.ofK R₁.inK M.fn) (ha.run (pos := pos) g hs R₁ (F.keeps R X₁) (fun ys h₂ t₂ X₂ r₂ => ?_) hst) e1 (noStar_plain e2)
    exact ⟨FnAt.ofK (R₁.keeps X₂).inK M.fn, fin ys h₂ t₂ X₂ r₂⟩
/-- the same where nothing changes -/
theorem Ev.methH {o : Expr} {name : Str} {ap : Pos} {es : List Expr} {ws : List Val} (H : FHdr B.K C) (M : HM B.K C fa name) (ho : Ev B n sc vs σ o (.hdr C v)) (ha : Evs B n sc vs σ es ws) (op : OpS B n σ (.hdr C v :: ws) (fun xs => call (.ref fa) xs) u)
    (hst : noStar es = true := by rfl) (he : HdrCall o name ap pos es [] := by intro _; exact ⟨_, rfl⟩) : Ev B n sc vs σ (.Call (.Attribute o name ap) es [] pos) u := fun A μ ρ env s Q g hs R F P => by
  obtain ⟨pl, he⟩ := he env
  refine methodCall_KW (ho A μ ρ env s _ g hs R F fun x h₁ t₁ X₁ r₁ => ?_) he
  have R₁ := R.keeps X₁
  refine getM (s := { s with heap := h₁, toks := t₁ }) H M R₁ r₁ ?_
  have fin : ∀ ys h₂ t₂, Keeps h₁ h₂ → RelVs μ ρ h₂ ws ys → wpAny (model B.prog B.w) A (call (.ref fa) (x :: ys)) Q NoE { s with heap := h₂, toks := t₂ } := fun ys h₂ t₂ X₂ r₂ => by
    exact op A μ ρ { s with heap := h₂, toks := t₂ } (x :: ys) Q g (R₁.keeps X₂) (RelVs.cons_iff.mpr ⟨_, _, rfl, RelV.keeps X₂ r₁, r₂⟩) ((P.step (tk := t₁) X₁).step X₂)
  cases es with
  | nil =>
    cases ha
    exact callWith_F0 (FnAt.ofK R₁.inK M.fn) (fin [] h₁ t₁ (Keeps.refl _) (RelVs.nil_iff.mpr rfl))
  | cons e es =>
    obtain ⟨e1, e2⟩ := starEach_cons (env := env) hst
    refine callWith_F (FnAt.ofK R₁.inK M.fn) (ha.run (pos := pos) g hs R₁ (F.keeps R X₁) (fun ys h₂ t₂ X₂ r₂ => ?_) hst) e1 (noStar_plain e2)
    exact ⟨FnAt.ofK (R₁.keeps X₂).inK M.fn, fin ys h₂ t₂ X₂ r₂⟩
/-- x.m(e, name=True) -/
theorem Ev.methKW {o : Expr} {name kw : Str} {ap kp cp : Pos} {d : Bool} {ck : Nat} {w : Val} (H : FHdr B.K C) (M : HM B.K C fa name) (ho : Ev B n sc vs σ o (.hdr C v)) (ha : Ev B n sc vs σ e w) (op : OpS B n σ [.hdr C v, w] (fun xs => call (.ref fa) xs [(kw, .bool d)]) u)
    (hst : noStar [e] = true := by rfl) (he : HdrCall o name ap pos [e] [⟨some kw, .Constant (.bool d) ck cp, kp⟩] := by intro _; exact ⟨_, rfl⟩) : Ev B n sc vs σ (.Call (.Attribute o name ap) [e] [⟨some kw, .Constant (.bool d) ck cp, kp⟩] pos) u := fun A μ ρ env s Q g hs R F P => by
  obtain ⟨pl, he⟩ := he env
  refine methodCall_KW (ho A μ ρ env s _ g hs R F fun x h₁ t₁ X₁ r₁ => ?_) he
  have R₁ := R.keeps X₁
  refine getM (s := { s with heap := h₁, toks := t₁ }) H M R₁ r₁ ?_
  obtain ⟨e1, e2⟩ := starEach_cons (env := env) hst
  have hk : keepIn B.K (.ref fa) = true := by
    obtain ⟨oc, od, fd, sl, e⟩ := M.fn
    unfold keepIn; dsimp only; rw [e]
  refine callWith_KW R₁.inK hk rfl (((Evs.cons ha .nil).run (pos := pos) g hs R₁ (F.keeps R X₁) (fun ys h₂ t₂ X₂ r₂ => ?_) hst)) (by rw [e1]; rfl) e1
  refine kwAll_cons (Constant_bool (kwAll_nil ⟨(R₁.keeps X₂).inK, ?_⟩))
  exact op A μ ρ { s with heap := h₂, toks := t₂ } (x :: ys) Q g (R₁.keeps X₂) (RelVs.cons_iff.mpr ⟨_, _, rfl, RelV.keeps X₂ r₁, r₂⟩) ((P.step (tk := t₁) X₁).step X₂)
end
end Mine
namespace Mine
open PySem PySem.Spec PySem.Calls PyProof.Rows PySem.W
section
variable {B : Wd} {n : Nat} {sc : Scope} {vs vs₁ vs₂ : List (Option Val)} {σ σ₁ σ₂ : Store} {v a b c u : Val} {k : Nat} {pos : Pos} {e l r : Expr} {st : Stmt} {rest : List Stmt} {f : Fl} {C fa : Addr}
/-- o.m(..) for the own list's sake, o any expression that gives it -/
theorem Ex.methA {o : Expr} {name : Str} {ap cp : Pos} {es : List Expr} {ws : List Val} {i : Nat} {id : String} (hx : Ev B n sc vs σ o (.ref i)) (ha : Evs B n sc vs σ es ws) (slot : Slot "list" name id) (ty : typeOf (.builtin id) = pure (.type "method_descriptor"))
    (op : OpM B n σ i ws (fun o xs => call (.builtin id) (o :: xs)) σ₁) (hst : noStar es = true := by rfl) (hl : es.length ≤ 20 := by decide) (hline : (ap.endLine == cp.line) = true := by rfl) (hm : sc.kind = .function := by rfl)
    (hbase : ∀ env, attributeBase o name env (eval o env) = eval o env := by intro _; rfl)
    (hsw : ∀ env, swapsWith (.Call (.Attribute o name ap) es [] cp) none pos.line env = pure false := by intro _; rfl) :
    Ex B n sc vs σ (.Expr (.Call (.Attribute o name ap) es [] cp) pos) .next vs σ₁ := fun A μ ρ env s Q g hs R F P => by
  refine wpAny_Expr (meth_core hst hl hline (hbase env) (hx A μ ρ env s _ g hs R F fun o h₁ t₁ X₁ r₁ => ?_)) (by unfold interactive; rw [hs, hm]; rfl) (hsw env)
  have R₁ := R.keeps X₁
  have F₁ := F.keeps R X₁
  unfold RelV at r₁
  obtain ⟨ad, hi, rfl⟩ := r₁
  have m : ad ∈ ρ := List.mem_of_getElem? hi
  obtain ⟨us, hl'⟩ := R₁.isSome m
  obtain ⟨c, hl'⟩ := hl'.isl
  refine ⟨"list", id, PySem.F.plainAttrs_list, slot, ty, hl'.isList.typeIs, fun z e => by cases e; exact ⟨_, hl', rfl⟩, ha.run g hs R₁ F₁ (fun ys h₂ t₂ X₂ r₂ => ?_) hst⟩
  refine op A μ ρ { s with heap := h₂, toks := t₂ } ad ys _ g (R₁.keeps X₂) hi r₂ fun v' h₃ t₃ X₃ R₃ hv => ?_
  have q : Q .next { s with heap := h₃, toks := t₃ } := (((P.keeps X₁ R₁ F.own).keeps X₂ (R₁.keeps X₂) F.own).step X₃.any R₃ F.own).here R₃ ((F₁.keeps R₁ X₂).ext (R₁.keeps X₂) X₃) (by unfold RelF; rfl)
  cases v' <;> first | exact absurd rfl (hv _) | exact q
theorem Gr.up {x : Addr} (q : Gr B x) : Gr B.up x := ⟨rfl, q.2⟩
theorem OpE.up {as : List Val} {t : List Value → Sem Value} (h : OpE B n σ as t v σ₁) : OpE B.up n σ as t v σ₁ := fun A μ ρ s xs Q g R r P =>
  h A μ ρ s xs Q g R.down r fun v' ρ' h' tk X R' r' => P v' ρ' h' tk (X.weaken fun _ q => q.up) R'.rise r'
theorem OpE.le {m : Nat} {as : List Val} {t : List Value → Sem Value} (h : OpE B m σ as t v σ₁) (hm : m ≤ n) : OpE B n σ as t v σ₁ := fun A μ ρ s xs Q g R q P => h A μ ρ s xs Q (g.le hm) R q P
theorem OpN.up {as ys : List Val} {t : List Value → Sem Value} (h : OpN B n σ as t ys) : OpN B.up n σ as t ys := fun A μ ρ s xs Q g R q P => h A μ ρ s xs Q g R.down q P
theorem OpN.le {m : Nat} {as ys : List Val} {t : List Value → Sem Value} (h : OpN B m σ as t ys) (hm : m ≤ n) : OpN B n σ as t ys := fun A μ ρ s xs Q g R q P => h A μ ρ s xs Q (g.le hm) R q P
theorem EvN.ite {t x y : Expr} {d : Bool} {xs : List Val} (ht : Tr B n sc vs σ t d) (h1 : d = true → EvN B n sc vs σ x xs) (h2 : d = false → EvN B n sc vs σ y xs) : EvN B n sc vs σ (.IfExp t x y pos) xs := fun A μ ρ env s Q g hs R F P => by
  refine IfExp_ (ht A μ ρ env s _ g hs R F fun h₁ t₁ X₁ => ?_)
  cases hd : d with
  | true => simp only [if_true]; exact h1 hd A μ ρ env _ Q g hs (R.keeps X₁) (F.keeps R X₁) (P.step X₁)
  | false => simp only [Bool.false_eq_true, if_false]; exact h2 hd A μ ρ env _ Q g hs (R.keeps X₁) (F.keeps R X₁) (P.step X₁)
theorem Ev.debug : Ev B n sc vs σ (.Name "__debug__" pos) (.bool true) := fun A μ ρ env s Q g hs R F P => by
  rw [arm_eval_Name]
  refine wpAny_bind (wpAny_standAt ?_)
  rw [if_pos (by decide)]
  exact wpAny_bind (wpAny_rule (wpAny_pure P.bool))
/-- x.m(..), a def of the class that hands back a new list -/
theorem EvN.methH {o : Expr} {name : Str} {ap : Pos} {es : List Expr} {ws ys : List Val} (H : FHdr B.K C) (M : HM B.K C fa name) (ho : Ev B n sc vs σ o (.hdr C v)) (ha : Evs B n sc vs σ es ws) (op : OpN B n σ (.hdr C v :: ws) (fun xs => call (.ref fa) xs) ys)
    (hst : noStar es = true := by rfl) (he : HdrCall o name ap pos es [] := by intro _; exact ⟨_, rfl⟩) : EvN B n sc vs σ (.Call (.Attribute o name ap) es [] pos) ys := fun A μ ρ env s Q g hs R F P => by
  obtain ⟨pl, he⟩ := he env
  refine methodCall_KW (ho A μ ρ env s _ g hs R F fun x h₁ t₁ X₁ r₁ => ?_) he
  have R₁ := R.keeps X₁
  refine getM (s := { s with heap := h₁, toks := t₁ }) H M R₁ r₁ ?_
  have fin : ∀ zs h₂ t₂, Keeps h₁ h₂ → RelVs μ ρ h₂ ws zs → wpAny (model B.prog B.w) A (call (.ref fa) (x :: zs)) Q NoE { s with heap := h₂, toks := t₂ } := fun zs h₂ t₂ X₂ r₂ => by
    exact op A μ ρ { s with heap := h₂, toks := t₂ } (x :: zs) Q g (R₁.keeps X₂) (RelVs.cons_iff.mpr ⟨_, _, rfl, RelV.keeps X₂ r₁, r₂⟩) ((P.step (tk := t₁) X₁).step X₂)
  cases es with
  | nil =>
    cases ha
    exact callWith_F0 (FnAt.ofK R₁.inK M.fn) (fin [] h₁ t₁ (Keeps.refl _) (RelVs.nil_iff.mpr rfl))
  | cons e es =>
    obtain ⟨e1, e2⟩ := starEach_cons (env := env) hst
    refine callWith_F (FnAt.ofK R₁.inK M.fn) (ha.run (pos := pos) g hs R₁ (F.keeps R X₁) (fun ys h₂ t₂ X₂ r₂ => ?_) hst) e1 (noStar_plain e2)
    exact ⟨FnAt.ofK (R₁.keeps X₂).inK M.fn, fin ys h₂ t₂ X₂ r₂⟩
/-- what is known besides of a class whose things take a name -/
structure FSet (K : Frag) (C : Addr) : Prop where
  sa : findIn K (.ref C) "__setattr__" = some (some (.builtin "object.__setattr__"))
  over : plainOver K C = true
  taker : takerIn K C "_headers" = some none
theorem set_hdr {prog : Program} {w : World} {A : Around} {E : Value → Shared → Prop} {K : Frag} {s : Shared} {x dx : Addr} {y : Value} {Q : Unit → Shared → Prop} (X : K.In s.heap) (H : FHdr K C) (S : FSet K C) (hx : s.heap.get? x = some (instObj C dx)) (hd : s.heap.get? dx = some emptyDict)
    (h : ∀ (h' : Heap) (tk : Nat) (hsh : Int) (t : Tok) (m : Nat), ButI dx s.heap h' → h'.get? dx = some (dictOf [⟨hsh, .str "_headers" t, y⟩] m) → Q () { s with heap := h', toks := tk }) : wpAny (model prog w) A (setAttr (.ref x) "_headers" y) Q E s := by
  have I : InstAt s.heap x (instObj C dx) C (some emptyDict) := ⟨hx, rfl, rfl, hd⟩
  refine set_plain X I S.sa (osa_open (s := { s with toks := s.toks + 1 }) X I S.over S.taker fun b => ?_)
  obtain ⟨cd, hc, hd'⟩ := any_some H.hasD
  refine wpAny_bind (wpAny_pure (wpAny_bind (wpAny_bind (wpAny_loadPart hx (wpAny_bind (Looks.here (s := { s with toks := s.toks + 1 }) (looks_clsIn X hc) ?_))))))
  rw [hd']
  refine wpAny_pure (a := some dx) (wpAny_bind (wpAny_pure (wpAny_bind ?_)))
  unfold nsSet
  refine wpAny_bind (wpAny_bind (wpAny_askSetting (wpAny_pure (wpAny_bind (wpAny_mkText (wpAny_bind (wpAny_loadPart hd ?_)))))))
  dsimp only
  rw [aRefKeyMayBeTheName_at]
  rw [if_neg (by simp)]
  generalize (if ("_headers" : Str).cps.isEmpty = true then (0 : Int) else _) = hsh
  have e1 : ∀ (hsh : Int) (t : Tok), Obj.putName "_headers" hsh (.str "_headers" t) y emptyDict = dictOf [⟨hsh, .str "_headers" t, y⟩] 1 := fun hsh t => putName_dict _ _ _ _ [] 0
  have e2 : ∀ (hsh : Int) (t : Tok), (s.heap.update dx (Obj.putName "_headers" hsh (.str "_headers" t) y)).get? dx = some (dictOf [⟨hsh, .str "_headers" t, y⟩] 1) := fun hsh t => by
    rw [Heap.get?_update_self _ hd (by rw [e1]; rfl), e1]
  refine wpAny_updatePart hd ?_
  refine wpAny_bind (wpAny_lookBehind (e2 _ _) (pastItsLine_dict (by simp)) ?_)
  exact wpAny_pure (h _ _ _ _ _ ButI.update (e2 _ _))
end
end Mine
namespace Mine
open PySem PySem.Spec PySem.Calls PyProof.Rows PySem.W
section
variable {B : Wd} {n : Nat} {sc : Scope} {vs vs₁ vs₂ vc : List (Option Val)} {σ σ₁ σ₂ : Store} {v a b c u : Val} {k : Nat} {pos : Pos} {e l r : Expr} {st : Stmt} {rest : List Stmt} {f : Fl} {C fa : Addr}
/-- where a comprehension's free names stand with its maker, and which of its places are filled -/
noncomputable def seesB (names outer : List (Str × NameKind)) (l : List (Nat × Nat)) (bs : List Bool) : Bool :=
  names.zipIdx.all fun x => match x.1.2 with
    | .free => l.any fun p => p.1 == x.2 && (match outer[p.2]? with
      | some (y, .cell) => y == x.1.1
      | some (y, .free) => y == x.1.1
      | _ => false)
    | .local => !(bs[x.2]?).getD false
    | _ => true
noncomputable def SameAt (vs vc : List (Option Val)) : List (Nat × Nat) → Prop
  | [] => True
  | p :: l => vc[p.1]? = vs[p.2]? ∧ SameAt vs vc l
theorem SameAt.mem {l : List (Nat × Nat)} (h : SameAt vs vc l) {p : Nat × Nat} (m : p ∈ l) : vc[p.1]? = vs[p.2]? := by
  induction l with
  | nil => cases m
  | cons q l ih =>
    rcases List.mem_cons.mp m with rfl | m
    · exact h.1
    · exact ih h.2 m
theorem Sees.by {scope : Scope} (l : List (Nat × Nat)) (bs : List Bool) (h1 : seesB scope.names sc.names l bs = true) (h2 : vc.map (·.isSome) = bs) (h3 : SameAt vs vc l) : Sees scope sc vs vc := by
  have key : ∀ (i : Nat) (x : Str) (k : NameKind), scope.names[i]? = some (x, k) → ((x, k), i) ∈ scope.names.zipIdx := fun i x k h => by
    rw [List.mem_zipIdx_iff_getElem?]
    exact h
  have h1' := List.all_eq_true.mp h1
  refine ⟨fun i x hi => ?_, fun i x v hi hv => ?_⟩
  · have q := h1' _ (key i x _ hi)
    simp only at q
    obtain ⟨p, hp, hq⟩ := List.any_eq_true.mp q
    rw [Bool.and_eq_true, beq_iff_eq] at hq
    obtain ⟨e1, e2⟩ := hq
    cases ho : sc.names[p.2]? with
    | none => rw [ho] at e2; cases e2
    | some yk =>
      obtain ⟨y, k⟩ := yk
      rw [ho] at e2
      have hs := h3.mem hp
      rw [e1] at hs
      cases k <;> first
        | (simp only [beq_iff_eq] at e2; subst e2; exact ⟨p.2, _, ho, .inl rfl, fun v hv => by rw [← hs]; exact hv⟩)
        | (simp only [beq_iff_eq] at e2; subst e2; exact ⟨p.2, _, ho, .inr rfl, fun v hv => by rw [← hs]; exact hv⟩)
        | cases e2
  · have q := h1' _ (key i x _ hi)
    simp only [← h2, List.getElem?_map, hv] at q
    cases q
/-- a comprehension over pairs -/
theorem Cp.map2 {α : Type} {x y : Str} {p q tp : Pos} {kd : Nat} {elt : Expr} (f g h : α → Val) (i j : Nat) (hi : sc.names[i]? = some (x, .local)) (hj : sc.names[j]? = some (y, .local)) :
    ∀ (L : List α) (vc : List (Option Val)), (∀ vc' : List (Option Val), vc'.length = vc.length → ∀ a ∈ L, Ev B n sc ((vc'.set i (some (f a))).set j (some (g a))) σ elt (h a)) → Cp B n sc σ (.Tuple [.Name x p, .Name y q] kd tp) [] elt vc (L.map fun a => .tup [f a, g a]) (L.map h)
  | [], vc, _ => .nil
  | a :: L, vc, H => .keep (AsL.two i j hi hj) .nil (H vc rfl a (.head _)) (Cp.map2 f g h i j hi hj L _ fun vc' hl b hb => H vc' (by rw [hl]; simp) b (.tail _ hb))
theorem Itr.of {xs : List Val} (h : Ev B n sc vs σ e a) (L : Lst σ a xs) (hz : xs.length ≤ sizeLine) : ∃ fr, Itr fr B n sc vs σ e xs := by
  cases L with
  | fr => exact ⟨_, Itr.list h hz⟩
  | own hx => exact ⟨_, Itr.own h hx hz⟩
end
end Mine
namespace Mine
open PySem PySem.Spec PySem.Calls PyProof.Rows PySem.W
section
variable {B : Wd} {n : Nat} {sc : Scope} {vs vs₁ vs₂ vc : List (Option Val)} {σ σ₁ σ₂ : Store} {v a b c u : Val} {k : Nat} {pos : Pos} {e l r : Expr} {st : Stmt} {rest : List Stmt} {f : Fl} {C fa : Addr}
theorem Good.under {A : Around} (g : Good (n + 1) A) (vals : List Value) (kw : List (Str × Value)) : Good n (A.under (.builtin "type.__call__" ⟨.ref C :: vals, kw⟩)) := by
  refine ⟨g.handled, ?_, ?_⟩
  · have := g.depth; show A.depth + 1 + 4 * n + 4 < recursionLimit; omega
  · have := g.units
    have e : ∀ c : Code, c.frames ≤ 3 := fun c => by
      unfold Code.frames
      split <;> first | decide | (split <;> decide)
    have e1 : (Code.builtin "type.__call__" ⟨.ref C :: vals, kw⟩).cUnits = 1 + 3 * (Code.builtin "type.__call__" ⟨.ref C :: vals, kw⟩).frames := rfl
    have e2 : (A.under (.builtin "type.__call__" ⟨.ref C :: vals, kw⟩)).units = A.units + (Code.builtin "type.__call__" ⟨.ref C :: vals, kw⟩).cUnits := rfl
    have := e (.builtin "type.__call__" ⟨.ref C :: vals, kw⟩)
    rw [e2, e1]
    omega
/-- a frame's names where its own lists are looked at as things that nobody turns -/
theorem EnvOK.frz {μ ρ : Addrs} {h : Heap} {env : Env} (F : EnvOK μ ρ h env vs) (R : Rep B μ ρ σ h) (hz : ∀ (i : Nat) (v' : Val), vs₁[i]? = some (some v') → ∃ v, vs[i]? = some (some v) ∧ Fz σ v v') : EnvOK μ [] h env vs₁ := by
  refine ⟨F.kind, F.glob, F.blt, F.nodup, ?_, fun i x k e hk => ?_, F.apart, F.locIn, F.cellIn⟩
  · obtain ⟨m, hn, r⟩ := F.ns
    refine ⟨m, hn, fun i x v' e1 e2 => ?_⟩
    obtain ⟨v, e3, z⟩ := hz i v' e2
    obtain ⟨w, e4, q⟩ := r i x v e1 e3
    exact ⟨w, e4, z.rel R q⟩
  · obtain ⟨c, v₀, e1, e2, e3⟩ := F.cell i x k e hk
    refine ⟨c, v₀, e1, e2, fun v' e4 => ?_⟩
    obtain ⟨v, e5, z⟩ := hz i v' e4
    obtain ⟨w, e6, q⟩ := e3 v e5
    exact ⟨w, e6, z.rel R q⟩
/-- where nothing changes but places that the frames hold -/
theorem Rep.keptBut {μ ρ : Addrs} {h h' : Heap} {N : Addr → Prop} (R : Rep B μ ρ σ h) (k : ∀ b o, ¬ N b → h.get? b = some o → h'.get? b = some o) (hN : ∀ b, N b → b ∈ μ) (hh : ∀ a ∈ μ, ∃ o, h'.get? a = some o) : Rep B μ ρ σ h' := by
  have X : ExtN N ρ h ρ h' := ExtN.of_keeps fun c o hc e => k c o hc e
  have w : Within N μ h := fun c e => .inl (hN c e)
  refine ⟨R.tab.turn (fun c o n _ e => k c o (fun q => n (hN c q)) e) fun _ _ _ n1 n2 => ⟨n1, n2⟩, fun c o e => ?_, R.above, R.len, R.nodup, R.apart, hh, R.muAbove, fun i c xs e1 e2 => ?_⟩
  · exact k c o (fun q => by rw [R.muAbove c (hN c q)] at e; cases e) (R.base c o e)
  · obtain ⟨ws, ⟨o, e, r⟩, r2⟩ := R.obj i c xs e1 e2
    exact ⟨ws, ⟨o, k c o (fun q => R.apart c (List.mem_of_getElem? e1) (hN c q)) e, r⟩, RelVs.extN X w r2⟩
end
end Mine
namespace Mine
open PySem PySem.Spec PySem.Calls PyProof.Rows PySem.W
mutual
/-- only the frame's first k own lists -/
noncomputable def lowRef (k : Nat) : Val → Bool
  | .ref i => decide (i < k)
  | .list xs => lowRefs k xs
  | .tup xs => lowRefs k xs
  | .hdr _ v => lowRef k v
  | _ => true
noncomputable def lowRefs (k : Nat) : List Val → Bool
  | [] => true
  | x :: xs => lowRef k x && lowRefs k xs
end
mutual
theorem RelV.low {μ ρ t : Addrs} {h : Heap} : ∀ {x : Val} {v : Value}, lowRef ρ.length x = true → RelV μ (ρ ++ t) h x v → RelV μ ρ h x v
  | .none, _, _, r => by simpa only [RelV] using r
  | .bool _, _, _, r => by simpa only [RelV] using r
  | .int _, _, _, r => by simpa only [RelV] using r
  | .str _, _, _, r => by simpa only [RelV] using r
  | .list xs, v, n, r => by
    unfold RelV at r ⊢
    obtain ⟨a, vs, rfl, h1, h2, ⟨o, e, r1⟩, r2⟩ := r
    exact ⟨a, vs, rfl, h1, fun m => h2 (List.mem_append_left _ m), ⟨o, e, r1⟩, RelVs.low (by simpa only [lowRef] using n) r2⟩
  | .tup xs, v, n, r => by
    unfold RelV at r ⊢
    obtain ⟨a, vs, rfl, h1, h2, ⟨o, e, r1⟩, r2⟩ := r
    exact ⟨a, vs, rfl, h1, fun m => h2 (List.mem_append_left _ m), ⟨o, e, r1⟩, RelVs.low (by simpa only [lowRef] using n) r2⟩
  | .ref i, v, n, r => by
    unfold RelV at r ⊢
    simp only [lowRef, decide_eq_true_eq] at n
    rw [List.getElem?_append_left n] at r
    exact r
  | .hdr C x, v, n, r => by
    unfold RelV at r ⊢
    obtain ⟨a, dx, v', rfl, h1, h2, h3, h4, I, r⟩ := r
    exact ⟨a, dx, v', rfl, h1, fun m => h2 (List.mem_append_left _ m), h3, fun m => h4 (List.mem_append_left _ m), I, RelV.low (by simpa only [lowRef] using n) r⟩
  | .glob _, _, _, r => by simpa only [RelV] using r
  | .obj a o, v, n, r => by
    unfold RelV at r ⊢
    obtain ⟨rfl, h1, h2, e, hc, cd⟩ := r
    refine ⟨rfl, h1, fun m => h2 (List.mem_append_left _ m), e, hc, fun fd hf => ?_⟩
    obtain ⟨c, oc, vs, t', r0, g1, g2, e', r'⟩ := cd fd hf
    exact ⟨c, oc, vs, t', r0, g1, fun m => g2 (List.mem_append_left _ m), e', r'⟩
theorem RelVs.low {μ ρ t : Addrs} {h : Heap} : ∀ {x : List Val} {v : List Value}, lowRefs ρ.length x = true → RelVs μ (ρ ++ t) h x v → RelVs μ ρ h x v
  | [], _, _, r => by simpa only [RelVs] using r
  | x :: xs, vs, n, r => by
    unfold RelVs at r ⊢
    obtain ⟨v, rr, rfl, r1, r2⟩ := r
    simp only [lowRefs, Bool.and_eq_true] at n
    exact ⟨v, rr, rfl, RelV.low n.1 r1, RelVs.low n.2 r2⟩
end
section
variable {B : Wd} {n : Nat} {sc : Scope} {vs vs₁ vs₂ vc : List (Option Val)} {σ σ₁ σ₂ : Store} {v a b c u : Val} {k : Nat} {pos : Pos} {e l r : Expr} {st : Stmt} {rest : List Stmt} {f : Fl} {C fa : Addr}
noncomputable def Fl.low (k : Nat) : Fl → Bool
  | .ret v => lowRef k v
  | _ => true
/-- what came new and is no more looked at -/
theorem Exs.drop {ss : List Stmt} {τ : Store} (h : Exs B n sc vs σ ss f vs₁ (σ₁ ++ τ)) (hl : σ₁.length = σ.length) (hr : ∀ xs ∈ σ₁, lowRefs σ.length xs = true) (hw : Weak vs₁ vs₂) (hv : ∀ v, some v ∈ vs₂ → lowRef σ.length v = true) (hf : f.low σ.length = true := by rfl) : Exs B n sc vs σ ss f vs₂ σ₁ := fun A μ ρ env s Q g hs R F P => by
  refine h A μ ρ env s Q g hs R F fun ρ' f' h' tk X R' F' r' => ?_
  obtain ⟨t, rfl, ht⟩ := X.pre
  have hρ : ρ.length = σ.length := R.len
  have R₂ : Rep B μ ρ σ₁ h' := by
    refine ⟨R'.tab.turn (fun _ _ _ _ e => e) (fun a o _ n1 n2 => ⟨n1, fun m => n2 (List.mem_append_left _ m)⟩), R'.base, R.above, by rw [hl]; exact R.len, R.nodup, R.apart, R'.held, R.muAbove, fun i a xs e1 e2 => ?_⟩
    have i1 := (List.getElem?_eq_some_iff.mp e1).1
    have i2 := (List.getElem?_eq_some_iff.mp e2).1
    obtain ⟨ws, hl', q⟩ := R'.obj i a xs (by rw [List.getElem?_append_left i1]; exact e1) (by rw [List.getElem?_append_left i2]; exact e2)
    exact ⟨ws, hl', RelVs.low (by rw [hρ]; exact hr xs (List.mem_of_getElem? e2)) q⟩
  have F₂ : EnvOK μ ρ h' env vs₂ := by
    have F'' := F'.weak hw
    refine ⟨F''.kind, F''.glob, F''.blt, F''.nodup, ?_, fun i x k e hk => ?_, F''.apart, F''.locIn, F''.cellIn⟩
    · obtain ⟨m, hn, r⟩ := F''.ns
      exact ⟨m, hn, fun i x v e1 e2 => let ⟨w, e3, q⟩ := r i x v e1 e2; ⟨w, e3, RelV.low (by rw [hρ]; exact hv v (List.mem_of_getElem? e2)) q⟩⟩
    · obtain ⟨c, v₀, e1, e2, e3⟩ := F''.cell i x k e hk
      exact ⟨c, v₀, e1, e2, fun v e4 => let ⟨w, e5, q⟩ := e3 v e4; ⟨w, e5, RelV.low (by rw [hρ]; exact hv v (List.mem_of_getElem? e4)) q⟩⟩
  refine P ρ f' h' tk ⟨⟨[], by simp, fun _ m => nomatch m⟩, X.keep⟩ R₂ F₂ ?_
  cases f with
  | next => exact r'
  | brk => exact r'
  | cont => exact r'
  | ret v =>
    unfold RelF at r' ⊢
    obtain ⟨w, e, q⟩ := r'
    exact ⟨w, e, RelV.low (by rw [hρ]; exact hf) q⟩
theorem Tr.ands {zs : List Expr} {d d' : Bool} (h : Tr B n sc vs σ e d) (h1 : Tr B n sc vs σ (.BoolOp .And zs pos) d') : Tr B n sc vs σ (.BoolOp .And (e :: zs) pos) (d && d') :=
  Tr.and h (fun q => by rw [q]; exact h1) (fun q => by rw [q]; rfl)
end
end Mine
namespace Mine
open PySem PySem.Spec PySem.Calls PyProof.Rows PySem.W
section
variable {B : Wd} {n : Nat} {sc : Scope} {vs vs₁ vs₂ vc vc₁ vc₂ : List (Option Val)} {σ σ₁ σ₂ : Store} {v a b c u : Val} {k : Nat} {pos : Pos} {e l r elt : Expr} {st : Stmt} {rest : List Stmt} {f : Fl} {C fa : Addr}
/-- what a turn of a comprehension does at its end: acc takes ys -/
noncomputable def Em (B : Wd) (n : Nat) (sc : Scope) (σ : Store) (emit : Value → Env → Sem Unit) (vc vc' : List (Option Val)) (ys : List Val) : Prop :=
  ∀ (A : Around) (μ ρ : Addrs) (env : Env) (s : Shared) (D : Addr) (ws : List Value) (done : List Val) (Q : Unit → Shared → Prop), Good n A → env.scope = sc → D ∈ μ → env.locals ≠ D →
    (∀ (i : Nat) (y : Str) (kd : NameKind) (c : Addr), env.scope.names[i]? = some (y, kd) → kd = .cell ∨ kd = .free → env.cells.lookup y = some c → c ≠ D) →
    Rep B μ ρ σ s.heap → EnvOK μ ρ s.heap env vc → LS s.heap D (List.toArray ws) → RelVs μ ρ s.heap done ws → ws.length + ys.length ≤ sizeLine →
    (∀ us h' tk, (∀ b o, b ≠ D → b ≠ env.locals → s.heap.get? b = some o → h'.get? b = some o) → Rep B μ ρ σ h' → EnvOK μ ρ h' env vc' → LS h' D (List.toArray (ws ++ us)) → RelVs μ ρ h' (done ++ ys) (ws ++ us) → Q () { s with heap := h', toks := tk }) →
    wpAny (model B.prog B.w) A (emit (.ref D) env) Q NoE s
noncomputable def emitE (elt : Expr) : Value → Env → Sem Unit := fun acc env => do let _ ← call (.builtin "list.append") [acc, ← eval elt env]
theorem Em.one (h : Ev B n sc vc σ elt v) : Em B n sc σ (emitE elt) vc vc [v] := fun A μ ρ env s D ws done Q g hs hD hL hC R F hl hr hz P => by
  refine wpAny_bind (h A μ ρ env s _ g hs R F fun y h₁ t₁ k₁ ry => ?_)
  have hl₁ : LS h₁ D (List.toArray ws) := by obtain ⟨o, e, r⟩ := hl; exact ⟨o, k₁ _ _ e, r⟩
  refine wpAny_bind (wpAny_list_append_plain (s := { s with heap := h₁, toks := t₁ }) hl₁.plain (fun h₂ hl₂' hs₂ => ?_) (by show ws.toArray.size ≤ sizeLine; rw [List.size_toArray]; simp at hz; omega))
  have hl₂ := LS.of hl₂'
  have b₂ : ButI D h₁ h₂ := fun b o nb e => (hs₂.2 b nb).trans e
  have R₁ := R.keeps k₁
  have F₁ := F.keeps R k₁
  have R₂ := R₁.butI hD b₂ (by obtain ⟨o, e, _⟩ := hl₂; exact ⟨o, e⟩)
  have X₂ : ExtN (fun b => b = D) ρ h₁ ρ h₂ := ExtN.of_keeps fun b o nb e => b₂ b o nb e
  have w₂ : Within (fun b => b = D) μ h₁ := fun b q => .inl (q ▸ hD)
  refine wpAny_pure (P [y] h₂ t₁ (fun b o n1 n2 e => b₂ b o n1 (k₁ b o e)) R₂ (F₁.butI hD b₂ hL hC) ?_ ?_)
  · have : (List.toArray ws).push y = List.toArray (ws ++ [y]) := by simp
    rw [← this]; exact hl₂
  · exact RelVs.append (RelVs.extN X₂ w₂ (RelVs.keeps k₁ hr)) (RelVs.cons_iff.mpr ⟨_, _, rfl, RelV.extN X₂ w₂ ry, RelVs.nil_iff.mpr rfl⟩)
/-- the turns of a comprehension with no tests -/
inductive CpM (B : Wd) (n : Nat) (sc : Scope) (σ : Store) (tg : Expr) (emit : Value → Env → Sem Unit) : List (Option Val) → List Val → List Val → List (Option Val) → Prop
  | nil {vc : List (Option Val)} : CpM B n sc σ tg emit vc [] [] vc
  | turn {vc vc₁ vc₂ vc₃ : List (Option Val)} {x : Val} {xs ys ys' : List Val} : AsL B n sc σ tg x vc vc₁ → Em B n sc σ emit vc₁ vc₂ ys → CpM B n sc σ tg emit vc₂ xs ys' vc₃ → CpM B n sc σ tg emit vc (x :: xs) (ys ++ ys') vc₃
theorem comp_loop {gens : List Comprehension} {scope : Scope} {dep : Nat} {tg iter : Expr} {emit : Value → Env → Sem Unit} {vcE : List (Option Val)} {xs ys : List Val} {I D : Addr} {fp : List Addr} {Pi : Nat → Value → Prop} {St : Nat → Heap → Prop}
    {A : Around} {μ ρ : Addrs} {env : Env} {s : Shared} {Rr : Result → Shared → Prop} {ws : List Value} {done : List Val}
    (hturn : ∀ it acc env, compTurn (.ListComp elt gens scope pos) dep it acc env = (do
      standAt iter.pos
      match ← pyNext it with
      | none => pure (.done .next)
      | some v =>
        letOwnedTupleGo tg it v
        assign tg env v
        emit acc env
        again (.compLoop (.ListComp elt gens scope pos) dep it acc env)))
    (g : Good n A) (hs : env.scope = sc) (R : Rep B (I :: μ) ρ σ s.heap) (F : EnvOK (I :: μ) ρ s.heap env vc) (hD : D ∈ μ) (hI : I ∉ μ) (hL : env.locals ∈ μ) (hLD : env.locals ≠ D)
    (hcl : ∀ (i : Nat) (y : Str) (kd : NameKind) (c : Addr), env.scope.names[i]? = some (y, kd) → kd = .cell ∨ kd = .free → env.cells.lookup y = some c → c ≠ I ∧ c ≠ D)
    (W : Walks B.prog B.w A I fp [I] xs.length Pi St) (st : St 0 s.heap) (hfp : ∀ b ∈ fp, b ≠ D ∧ b ≠ env.locals) (hq : ∀ j h, St j h → ∃ o T, h.get? I = some o ∧ o.cls = .type T ∧ quietIter T = true)
    (hit : ∀ (j : Nat) (y : Value) (x : Val), Pi j y → xs[j]? = some x → RelV (I :: μ) ρ s.heap x y) (hl : LS s.heap D (List.toArray ws)) (hr : RelVs (I :: μ) ρ s.heap done ws) (hz : ws.length + ys.length ≤ sizeLine)
    (hc : CpM B n sc σ tg emit vc xs ys vcE)
    (P : ∀ us h' tk, (∀ b o, b ≠ D → b ≠ env.locals → b ≠ I → s.heap.get? b = some o → h'.get? b = some o) → Rep B μ ρ σ h' → EnvOK μ ρ h' env vcE → LS h' D (List.toArray (ws ++ us)) → RelVs μ ρ h' (done ++ ys) (ws ++ us) → Rr (.ok .next) { s with heap := h', toks := tk }) :
    codeAny (model B.prog B.w) A (.compLoop (.ListComp elt gens scope pos) dep (.ref I) (.ref D) env) Rr s := by
  have hDI : I ≠ D := fun q => hI (q ▸ hD)
  have hLI : env.locals ≠ I := fun q => hI (q ▸ hL)
  have hI' : I ∈ I :: μ := List.mem_cons_self
  have hD' : D ∈ I :: μ := List.mem_cons_of_mem _ hD
  refine codeAny_loop rfl (fun m s' => ∃ (j : Nat) (vj : List (Option Val)) (dn todo : List Val) (us : List Value) (h' : Heap) (tk' : Nat), s' = { s with heap := h', toks := tk' } ∧ m = xs.length - j ∧ j ≤ xs.length ∧ St j h' ∧
      (∀ b o, b ≠ D → b ≠ env.locals → b ≠ I → s.heap.get? b = some o → h'.get? b = some o) ∧ Rep B (I :: μ) ρ σ h' ∧ EnvOK (I :: μ) ρ h' env vj ∧ LS h' D (List.toArray (ws ++ us)) ∧ RelVs (I :: μ) ρ h' (done ++ dn) (ws ++ us) ∧ ys = dn ++ todo ∧ us.length = dn.length ∧ CpM B n sc σ tg emit vj (xs.drop j) todo vcE) ?_ xs.length
    ⟨0, vc, [], ys, [], s.heap, s.toks, rfl, by simp, Nat.zero_le _, st, fun _ _ _ _ _ e => e, R, F, by rw [List.append_nil]; exact hl, by rw [List.append_nil, List.append_nil]; exact hr, rfl, rfl, hc⟩
  rintro m s' ⟨j, vj, dn, todo, us, h', tk', rfl, rfl, hj, stj, kj, Rj, Fj, hlj, hrj, hys, hul, Cj⟩
  show wpAny _ A ((compTurn (.ListComp elt gens scope pos) dep (.ref I) (.ref D) env).onRaise (fun x => do noteFrame x env; theTreesLotGoes x)) _ _ _
  refine wpAny_noted ?_
  rw [hturn]
  refine wpAny_bind (wpAny_standAt ?_)
  have wI : ∀ b, b = I → b ∈ I :: μ := fun b q => q ▸ hI'
  by_cases hlt : j < xs.length
  · obtain ⟨x, hx⟩ : ∃ x, xs[j]? = some x := ⟨xs[j], List.getElem?_eq_getElem hlt⟩
    have hdrop : xs.drop j = x :: xs.drop (j + 1) := by
      rw [List.drop_eq_getElem_cons hlt]
      have := List.getElem?_eq_getElem hlt
      rw [hx] at this; cases this; rfl
    rw [hdrop] at Cj
    refine wpAny_bind (W.item j _ _ _ hlt stj fun v h₄ t₄ hp st₄ hk₄ => ?_)
    have kI : ButI I h' h₄ := fun b o nb e => hk₄ b o (by simpa using nb) e
    have hI₄ : ∃ o, h₄.get? I = some o := by obtain ⟨o, _, e, _⟩ := hq _ _ st₄; exact ⟨o, e⟩
    have X4 : ExtN (fun b => b = I) ρ h' ρ h₄ := ExtN.of_keeps fun b o nb e => kI b o nb e
    have w4 : Within (fun b => b = I) (I :: μ) h' := fun b q => .inl (wI b q)
    have R₄ := Rj.butI hI' kI hI₄
    have F₄ : EnvOK (I :: μ) ρ h₄ env vj := Fj.butI hI' kI hLI fun i y kd c e1 hkd e2 => (hcl i y kd c e1 hkd e2).1
    have hl₄ : LS h₄ D (List.toArray (ws ++ us)) := by obtain ⟨o, e, r⟩ := hlj; exact ⟨o, kI _ _ (Ne.symm hDI) e, r⟩
    have hr₄ : RelVs (I :: μ) ρ h₄ (done ++ dn) (ws ++ us) := RelVs.extN X4 w4 hrj
    have k04 : ∀ b o, b ≠ D → b ≠ env.locals → b ≠ I → s.heap.get? b = some o → h₄.get? b = some o := fun b o n1 n2 n3 e => kI b o n3 (kj b o n1 n2 n3 e)
    have rx : RelV (I :: μ) ρ h₄ x v := RelV.extN (N := fun b => b = D ∨ b = env.locals ∨ b = I) (ExtN.of_keeps fun b o nb e => k04 b o (fun q => nb (.inl q)) (fun q => nb (.inr (.inl q))) (fun q => nb (.inr (.inr q))) e) (fun b q => by
      rcases q with rfl | rfl | rfl
      · exact .inl hD'
      · exact .inl F.locIn
      · exact .inl hI') (hit j v x hp hx)
    refine wpAny_bind (letGo_any (s := { s with heap := h₄, toks := t₄ }) (hq _ _ st₄) ?_)
    generalize hxs : xs.drop (j + 1) = xr at Cj
    cases Cj with
    | @turn _ vc₁ vc₂ _ _ _ ys₁ ys' ha he hrest =>
      refine wpAny_bind (anyE (ha A (I :: μ) ρ env { s with heap := h₄, toks := t₄ } v _ g hs R₄ F₄ rx fun h₅ t₅ b5 R₅ F₅ => ?_))
      have hl₅ : LS h₅ D (List.toArray (ws ++ us)) := by obtain ⟨o, e, r⟩ := hl₄; exact ⟨o, b5 _ _ (Ne.symm hLD) e, r⟩
      have hr₅ : RelVs (I :: μ) ρ h₅ (done ++ dn) (ws ++ us) := RelVs.extN (N := fun b => b = env.locals) (ExtN.of_keeps fun b o nb e => b5 b o nb e) (fun b q => .inl (q ▸ F.locIn)) hr₄
      have st₅ : St (j + 1) h₅ := W.frame _ _ _ st₄ fun b hb o e => b5 b o (hfp b hb).2 e
      have hz' : (ws ++ us).length + ys₁.length ≤ sizeLine := by
        rw [hys] at hz
        simp only [List.length_append] at hz ⊢
        omega
      refine wpAny_bind (anyE (he A (I :: μ) ρ env { s with heap := h₅, toks := t₅ } D (ws ++ us) (done ++ dn) _ g hs hD' hLD (fun i y kd c e1 hkd e2 => (hcl i y kd c e1 hkd e2).2) R₅ F₅ hl₅ hr₅ hz' fun us' h₆ t₆ k₆ R₆ F₆ hl₆ hr₆ => ?_))
      refine wpAny_pure ⟨rfl, xs.length - (j + 1), by omega, j + 1, vc₂, dn ++ ys₁, ys', us ++ us', h₆, t₆, rfl, rfl, hlt, W.frame _ _ _ st₅ (fun b hb o e => k₆ b o (hfp b hb).1 (hfp b hb).2 e), ?_, R₆, F₆, ?_, ?_, by rw [hys, List.append_assoc], ?_, hxs ▸ hrest⟩
      · exact fun b o n1 n2 n3 e => k₆ b o n1 n2 (b5 b o n2 (k04 b o n1 n2 n3 e))
      · rw [← List.append_assoc]; exact hl₆
      · rw [← List.append_assoc, ← List.append_assoc]; exact hr₆
      · have e1 := RelVs.length hr₆
        have e2 := RelVs.length hrj
        simp only [List.length_append] at e1 e2 ⊢
        omega
  · obtain rfl : j = xs.length := Nat.le_antisymm hj (Nat.not_lt.mp hlt)
    refine wpAny_bind (W.done _ _ _ stj fun h₄ t₄ hk₄ => ?_)
    have kI : ButI I h' h₄ := fun b o nb e => hk₄ b o (by simpa using nb) e
    rw [List.drop_length] at Cj
    cases Cj
    rw [List.append_nil] at hys
    subst hys
    have X4 : ExtN (fun b => b = I) ρ h' ρ h₄ := ExtN.of_keeps fun b o nb e => kI b o nb e
    have w4 : Within (fun b => b = I) (I :: μ) h' := fun b q => .inl (wI b q)
    have R₄ : Rep B μ ρ σ h₄ := Rj.dropI hI kI
    have hr₄ : RelVs μ ρ h₄ (done ++ ys) (ws ++ us) := RelVs.mu (fun b o _ n1 n2 => ⟨fun m => n1 (List.mem_cons_of_mem _ m), n2⟩) (fun _ _ e => e) (RelVs.extN X4 w4 hrj)
    have F₄ : EnvOK μ ρ h₄ env vcE := (Fj.butI hI' kI hLI fun i y kd c e1 hkd e2 => (hcl i y kd c e1 hkd e2).1).lessMu (fun a m => List.mem_cons_of_mem _ m) hL fun x c e1 e2 => by
      have e3 : env.scope.names.lookup x = some .cell := e2
      obtain ⟨i, hi⟩ := List.getElem?_of_mem (mem_of_lookup e3)
      rcases List.mem_cons.mp (Fj.cellIn x c e1 e2) with q | q
      · exact absurd q (hcl i x _ c hi (.inl rfl) e1).1
      · exact q
    exact wpAny_pure (P us h₄ t₄ (fun b o n1 n2 n3 e => kI b o n3 (kj b o n1 n2 n3 e)) R₄ F₄ (by obtain ⟨o, e, r⟩ := hlj; exact ⟨o, kI _ _ (Ne.symm hDI) e, r⟩) hr₄)
end
end Mine
namespace Mine
open PySem PySem.Spec PySem.Calls PyProof.Rows PySem.W
/-- the end of an outer turn of a comprehension with two fors -/
noncomputable def emit2 (elt tg iter tg2 iter2 : Expr) (scope : Scope) (pos : Pos) : Value → Env → Sem Unit := fun acc env => do
  let x ← eval iter2 env
  standAt iter2.pos
  let x ← foldedSetIterable iter2 env x
  let _ ← runOwn (.compStart (.ListComp elt [⟨tg, iter, [], 0⟩, ⟨tg2, iter2, [], 0⟩] scope pos) 1 (← holding [x] (pyIter x)) acc env) env
theorem compTurn_two (elt tg iter tg2 iter2 : Expr) (scope : Scope) (pos : Pos) (it acc : Value) (env : Env) : compTurn (.ListComp elt [⟨tg, iter, [], 0⟩, ⟨tg2, iter2, [], 0⟩] scope pos) 0 it acc env = (do
      standAt iter.pos
      match ← pyNext it with
      | none => pure (.done .next)
      | some v =>
        letOwnedTupleGo tg it v
        assign tg env v
        emit2 elt tg iter tg2 iter2 scope pos acc env
        again (.compLoop (.ListComp elt [⟨tg, iter, [], 0⟩, ⟨tg2, iter2, [], 0⟩] scope pos) 0 it acc env)) := by
  have e : compTurn (.ListComp elt [⟨tg, iter, [], 0⟩, ⟨tg2, iter2, [], 0⟩] scope pos) 0 it acc env = (do
      standAt iter.pos
      match ← pyNext it with
      | none => pure (.done .next)
      | some v =>
        letOwnedTupleGo tg it v
        assign tg env v
        let x ← eval iter2 env
        standAt iter2.pos
        let x ← foldedSetIterable iter2 env x
        let it' ← holding [x] (pyIter x)
        let _ ← runOwn (.compStart (.ListComp elt [⟨tg, iter, [], 0⟩, ⟨tg2, iter2, [], 0⟩] scope pos) 1 it' acc env) env
        again (.compLoop (.ListComp elt [⟨tg, iter, [], 0⟩, ⟨tg2, iter2, [], 0⟩] scope pos) 0 it acc env)) := by rfl
  rw [e]
  simp only [emit2, bind_assoc]
  rfl
section
variable {prog : Program} {w : World} {A : Around} {E : Value → Shared → Prop} {R : Result → Shared → Prop} {s : Shared}
theorem compStart_1 {elt tg iter tg2 iter2 : Expr} {scope : Scope} {pos : Pos} {it acc : Value} {env : Env}
    (h0 : codeAny (model prog w) A (.compLoop (.ListComp elt [⟨tg, iter, [], 0⟩, ⟨tg2, iter2, [], 0⟩] scope pos) 1 it acc env) R s)
    (h : wpAny (model prog w) A (pyIter it) (fun it' s' => codeAny (model prog w) A (.compLoop (.ListComp elt [⟨tg, iter, [], 0⟩, ⟨tg2, iter2, [], 0⟩] scope pos) 1 it' acc env) R s') (notedBy (model prog w) A env fun x s' => R (.error x) s') s) :
    codeAny (model prog w) A (.compStart (.ListComp elt [⟨tg, iter, [], 0⟩, ⟨tg2, iter2, [], 0⟩] scope pos) 1 it acc env) R s := by
  refine codeAny_of_tree ?_
  show wpAny _ _ ((compStart (.ListComp elt [⟨tg, iter, [], 0⟩, ⟨tg2, iter2, [], 0⟩] scope pos) 1 it acc env).onRaise (fun x => do noteFrame x env; standAt theWindowsPlace)) _ _ s
  refine wpAny_notedAt ?_
  unfold compStart
  show wpAny _ _ (ask >>= _) _ _ s
  refine wpAny_bind (wpAny_askSetting (wpAny_ite ?_))
  split
  · first
      | exact wpAny_bind (wpAny_pure (wpAny_pure (And.intro rfl h0)))
      | exact wpAny_pure (And.intro rfl h0)
  · first
      | exact wpAny_bind (wpAny_rule (wpAny_bind (wpAny_standAt (wpAny_bind (wpAny_mono h (fun it' s' h' => wpAny_pure (And.intro rfl h')) fun _ _ x => x)))))
      | (refine wpAny_bind (wpAny_rule ?_); show wpAny _ _ (standAt iter2.pos >>= _) _ _ s; exact wpAny_bind (wpAny_standAt (wpAny_bind (wpAny_mono h (fun it' s' h' => wpAny_pure (And.intro rfl h')) fun _ _ x => x))))
end
section
variable {B : Wd} {n : Nat} {sc : Scope} {vs vs₁ vs₂ vc vc₁ vc₂ : List (Option Val)} {σ σ₁ σ₂ : Store} {v a b c u : Val} {k : Nat} {pos : Pos} {e l r : Expr} {st : Stmt} {rest : List Stmt} {f : Fl} {C fa : Addr}
theorem Em.two {elt tg iter tg2 iter2 : Expr} {scope : Scope} {vcE : List (Option Val)} {xs ys : List Val} (it : Itr true B n sc vc σ iter2 xs) (hc : CpM B n sc σ tg2 (emitE elt) vc xs ys vcE) (hf : ∀ env x, foldedSetIterable iter2 env x = pure x := by intro _ _; rfl) :
    Em B n sc σ (emit2 elt tg iter tg2 iter2 scope pos) vc vcE ys := fun A μ ρ env s D ws done Q g hs hD hLD hC R F hl hr hz P => by
  unfold emit2
  refine wpAny_bind (wpAny_mono (it A μ ρ env s (fun itv s' => wpAny (model B.prog B.w) A (runOwn (.compStart (.ListComp elt [⟨tg, iter, [], 0⟩, ⟨tg2, iter2, [], 0⟩] scope pos) 1 itv (.ref D) env) env) (fun _ s'' => Q () s'') NoE s') g hs R F fun I fp Pi St h₁ h₂ tk k₁ hn k₂ W st hfp hq hit hsz => ?_) (fun x s₁ h₁ => ?_) fun _ _ z => z)
  · have hI₂ : ∃ o, h₂.get? I = some o := by obtain ⟨o, _, e, _⟩ := hq _ _ st; exact ⟨o, e⟩
    have R₁ := R.keeps k₁
    have F₁ := F.keeps R k₁
    have hIμ : I ∉ μ := fun m => by obtain ⟨o, e⟩ := R₁.held I m; rw [hn] at e; cases e
    have R₂ : Rep B (I :: μ) ρ σ h₂ := R₁.addMu hn k₂ hI₂
    have F₂ : EnvOK (I :: μ) ρ h₂ env vc := F₁.addMu R₁ hn k₂
    have hh : A.handled = none := g.handled
    have hm : A.mark none = A := by cases A; simp only at hh; subst hh; rfl
    have up : ∀ {x : Val} {v : Value}, RelV μ ρ h₁ x v → RelV (I :: μ) ρ h₂ x v := fun r => RelV.keeps k₂ (RelV.mu (fun a o e n1 n2 => ⟨fun m => by
      rcases List.mem_cons.mp m with rfl | m
      · rw [hn] at e; cases e
      · exact n1 m, n2⟩) (fun _ _ e => e) r)
    have ups : ∀ {x : List Val} {v : List Value}, RelVs μ ρ h₁ x v → RelVs (I :: μ) ρ h₂ x v := fun r => RelVs.keeps k₂ (RelVs.mu (fun a o e n1 n2 => ⟨fun m => by
      rcases List.mem_cons.mp m with rfl | m
      · rw [hn] at e; cases e
      · exact n1 m, n2⟩) (fun _ _ e => e) r)
    have hl₂ : LS h₂ D (List.toArray ws) := by obtain ⟨o, e, r⟩ := hl; exact ⟨o, k₂ _ _ (k₁ _ _ e), r⟩
    have loop := comp_loop (Rr := fun r s' => match r with | .ok f => Q () s' | .error e => cameBackBy (model B.prog B.w) A env NoE e s') (elt := elt) (gens := [⟨tg, iter, [], 0⟩, ⟨tg2, iter2, [], 0⟩]) (scope := scope) (pos := pos) (dep := 1) (iter := iter2) (s := { s with heap := h₂, toks := tk }) (emit := emitE elt) (done := done)
      (fun it acc env => by rfl) g hs R₂ F₂ hD hIμ F.locIn hLD (fun i y kd c e1 hkd e2 => ⟨(fun q => by
        obtain ⟨c', v₀, e3, ⟨o, ho, _⟩, _⟩ := F₁.cell i y kd e1 hkd
        rw [e2] at e3; cases e3
        rw [q, hn] at ho; cases ho), hC i y kd c e1 hkd e2⟩) W st (fun b hb => by
        by_cases q : b = I
        · subst q; exact ⟨fun z => hIμ (z ▸ hD), fun z => hIμ (z ▸ F.locIn)⟩
        · obtain ⟨h1, _⟩ := (hfp b hb q).2 rfl
          exact ⟨fun z => h1 (z ▸ hD), fun z => h1 (z ▸ F.locIn)⟩) hq (fun j y x h1 h2 => up (hit j y x h1 h2)) hl₂ (ups (RelVs.keeps k₁ hr)) hz hc
      (fun us h' tk' kk R' F' hl' hr' => P us h' tk' (fun b o n1 n2 e => by
        have e2 := k₁ _ _ e
        refine kk b o n1 n2 (fun q => ?_) (k₂ _ _ e2)
        subst q; rw [hn] at e2; cases e2) R' F' hl' hr')
    refine wpAny_runOwn (h := none) ?_
    rw [hm]
    exact compStart_1 loop (anyE (W.self 0 _ _ _ st loop))
  · refine wpAny_bind (wpAny_standAt ?_)
    rw [hf]
    refine wpAny_bind (wpAny_pure (wpAny_bind (wpAny_holding (wpAny_mono h₁ (fun itv s₂ h₂ => wpAny_bind (wpAny_mono h₂ (fun _ _ z => wpAny_pure z) fun _ _ z => z)) fun _ _ z => z))))
theorem comp_block2 {A : Around} {μ ρ : Addrs} {env : Env} {s₂ : Shared} {h₁ : Heap} {elt tg iter tg2 iter2 : Expr} {vcE : List (Option Val)} {scope : Scope} {vc : List (Option Val)} {xs ys : List Val} {I : Addr} {fp : List Addr} {Pi : Nat → Value → Prop} {St : Nat → Heap → Prop}
    {RR : Value → Addr → Result → Shared → Prop}
    (g : Good n A) (hs : env.scope = sc) (R : Rep B μ ρ σ h₁) (F : EnvOK μ ρ h₁ env vs) (hn : h₁.get? I = none) (k₂ : Keeps h₁ s₂.heap) (W : Walks B.prog B.w A I fp [I] xs.length Pi St) (st : St 0 s₂.heap)
    (hfp : ∀ b ∈ fp, b ≠ I → ∃ o, h₁.get? b = some o) (hq : ∀ j h, St j h → ∃ o T, h.get? I = some o ∧ o.cls = .type T ∧ quietIter T = true) (hit : ∀ (j : Nat) (y : Value) (x : Val), Pi j y → xs[j]? = some x → RelV μ ρ h₁ x y) (hsz : xs.length ≤ sizeLine)
    (hkind : scope.kind = .function) (hnd : (scope.names.map (·.1)).Nodup) (hcell : ∀ y ∈ scope.names, y.2 ≠ .cell) (hsee : Sees scope sc vs vc)
    (hc : CpM B n (relS scope sc) σ tg (emit2 elt tg iter tg2 iter2 scope pos) vc xs ys vcE) (hys : ys.length ≤ sizeLine)
    (hRR : ∀ D C h tk m' ws, h₁.get? D = none → h₁.get? C = none → D ≠ C → Keeps h₁ h → LS h D (List.toArray ws) → RelVs (D :: C :: μ) ρ h ys ws → h.Ns C m' → RR (.ref D) C (.ok .next) { s₂ with heap := h, toks := tk }) :
    wpAny (model B.prog B.w) A (newList []) (fun acc s₃ => wpAny (model B.prog B.w) A (newFunctionEnv scope env.globals (closL env.cells scope.names []) [] env.qual none .none (some env)) (fun cenv s₄ =>
      codeAny (model B.prog B.w) A (.compStart (.ListComp elt [⟨tg, iter, [], 0⟩, ⟨tg2, iter2, [], 0⟩] scope pos) 0 (.ref I) acc { cenv with scope := relabel scope env }) (RR acc cenv.locals) s₄) NoE s₃) NoE s₂ := by
  refine wpAny_newObj_type (wpAny_newFunctionEnv hcell (by intro y hy; simp at hy) (fun h₃ hns hsb => ?_) hkind)
  dsimp only at hns hsb ⊢
  generalize hH2 : s₂.heap.push { cls := .type "list", dict := none, data := .seq ([] : List Value).toArray } = H2 at hns hsb ⊢
  generalize hDe : s₂.heap.objs.size = D at *
  generalize hCe : H2.objs.size = C at *
  have hCD : C = D + 1 := by rw [← hCe, ← hH2, Heap.size_push, hDe]
  have hD₂ : s₂.heap.get? D = none := by
    cases q : s₂.heap.get? D with
    | none => rfl
    | some o => have := Heap.lt_size q; rw [hDe] at this; exact absurd this (Nat.lt_irrefl _)
  have hC₂ : s₂.heap.get? C = none := by
    cases q : s₂.heap.get? C with
    | none => rfl
    | some o => have := Heap.lt_size q; rw [hDe, hCD] at this; exact absurd this (Nat.not_lt.mpr (Nat.le_succ D))
  have none₁ : ∀ a, s₂.heap.get? a = none → h₁.get? a = none := fun a e => by
    cases q : h₁.get? a with
    | none => rfl
    | some o => rw [k₂ _ _ q] at e; cases e
  have hD₁ := none₁ D hD₂
  have hC₁ := none₁ C hC₂
  have hDC : D ≠ C := by rw [hCD]; exact Nat.ne_of_lt (Nat.lt_succ_self _)
  have hI₂ : ∃ o, s₂.heap.get? I = some o := by obtain ⟨o, _, e, _⟩ := hq _ _ st; exact ⟨o, e⟩
  have hID : I ≠ D := by rintro rfl; obtain ⟨o, e⟩ := hI₂; rw [hD₂] at e; cases e
  have hIC : I ≠ C := by rintro rfl; obtain ⟨o, e⟩ := hI₂; rw [hC₂] at e; cases e
  have k₃' : Keeps s₂.heap h₃ := fun b o e => hsb.extBut b o (by rintro rfl; rw [hC₂] at e; cases e) (Heap.get?_push_of_some _ (by rw [← hH2]; exact Heap.get?_push_of_some _ e))
  have hacc : LS h₃ D (List.toArray []) := by
    have e0 : H2.get? D = some { cls := .type "list", dict := none, data := .seq ([] : List Value).toArray } := by rw [← hH2, ← hDe]; exact Heap.get?_push_size _ rfl
    exact ⟨_, hsb.extBut _ _ hDC (Heap.get?_push_of_some _ e0), 0, rfl⟩
  have k₃ : Keeps h₁ h₃ := k₂.trans k₃'
  have hC₃ : ∃ o, h₃.get? C = some o := by obtain ⟨o, _, _, ho, _⟩ := hns; exact ⟨o, ho⟩
  have hI₃ : ∃ o, h₃.get? I = some o := by obtain ⟨o, e⟩ := hI₂; exact ⟨o, k₃' _ _ e⟩
  have hD₃ : ∃ o, h₃.get? D = some o := by obtain ⟨o, e, _⟩ := hacc; exact ⟨o, e⟩
  have R₃ : Rep B ([D, C, I] ++ μ) ρ σ h₃ := R.addMus k₃ (by
    intro a m
    simp only [List.mem_cons, List.not_mem_nil, or_false] at m
    rcases m with rfl | rfl | rfl <;> assumption) (by
    intro a m
    simp only [List.mem_cons, List.not_mem_nil, or_false] at m
    rcases m with rfl | rfl | rfl <;> assumption)
  have avoid : ∀ a o, h₁.get? a = some o → a ∉ μ → a ∉ ρ → a ∉ [D, C, I] ++ μ ∧ a ∉ ρ := fun a o e n1 n2 => ⟨fun m => by
    simp only [List.cons_append, List.nil_append, List.mem_cons] at m
    rcases m with rfl | rfl | rfl | m
    · rw [hD₁] at e; cases e
    · rw [hC₁] at e; cases e
    · rw [hn] at e; cases e
    · exact n1 m, n2⟩
  have up : ∀ {x : Val} {v : Value} {h : Heap}, Keeps h₁ h → RelV μ ρ h₁ x v → RelV ([D, C, I] ++ μ) ρ h x v := fun k r => RelV.keeps k (RelV.mu avoid (fun _ _ e => e) r)
  have hIρ : ∀ b ∈ [D, C, I], b ∉ ρ := fun b m q => R₃.apart b q (List.mem_append_left _ m)
  subst hs
  -- the comprehension's own frame
  let cl := closL env.cells scope.names []
  have hfreeC : ∀ x, (x, NameKind.free) ∈ scope.names → ∃ c, env.cells.lookup x = some c ∧ cl.lookup x = some c := fun x m => by
    obtain ⟨i, hi⟩ := List.getElem?_of_mem m
    obtain ⟨j, kd, hj, hkd, _⟩ := hsee.1 i x hi
    obtain ⟨c, _, hc, _⟩ := F.cell j x kd hj hkd
    exact ⟨c, hc, by show (closL env.cells scope.names []).lookup x = _; rw [closL_free _ _ hnd m, hc]; rfl⟩
  have hclB : ∀ x c, cl.lookup x = some c → env.cells.lookup x = some c ∧ (x, NameKind.free) ∈ scope.names := fun x c h => by
    rcases closL_mem _ _ h with h | ⟨h1, h2⟩
    · cases h
    · obtain ⟨c', hc', _⟩ := hfreeC x h1
      rw [hc'] at h2
      exact ⟨by rw [h2]; exact hc', h1⟩
  have F₃ : EnvOK ([D, C, I] ++ μ) ρ h₃ (compEnvC scope cl C env) vc := by
    refine ⟨hkind, F.glob, F.blt, ?_, ⟨_, hns, fun i x v e1 e2 => ?_⟩, fun i x kd e1 hkd => ?_, fun x y c e1 e2 => ?_, by simp [compEnvC], fun x c e1 e2 => ?_⟩
    · show ((relabel scope env).names.map (·.1)).Nodup
      rw [relabel_eq, relS_names]; exact hnd
    · have e1' : (relS scope env.scope).names[i]? = some (x, .local) := by rw [← relabel_eq]; exact e1
      rcases relS_back e1' with h | ⟨h, _⟩
      · exact absurd e2 (hsee.2 i x v h)
      · cases h
    · have e1' : (relS scope env.scope).names[i]? = some (x, kd) := by rw [← relabel_eq]; exact e1
      have hfr : scope.names[i]? = some (x, .free) := by
        rcases relS_back e1' with h | ⟨_, h, _⟩
        · rcases hkd with rfl | rfl
          · exact absurd rfl (hcell _ (List.mem_of_getElem? h))
          · exact h
        · exact h
      obtain ⟨j, kd', hj, hkd', hv⟩ := hsee.1 i x hfr
      obtain ⟨c, v₀, hc, hcl, hcv⟩ := F.cell j x kd' hj hkd'
      obtain ⟨c', hc', hcl'⟩ := hfreeC x (List.mem_of_getElem? hfr)
      rw [hc] at hc'; cases hc'
      exact ⟨c, v₀, hcl', hcl.keeps k₃, fun v e2 => let ⟨v', a, b⟩ := hcv v (hv v e2); ⟨v', a, up k₃ b⟩⟩
    · exact F.apart x y c (hclB x c e1).1 (hclB y c e2).1
    · have h1 := hclB x c e1
      obtain ⟨i, hi⟩ := List.getElem?_of_mem h1.2
      have hk' : env.kindOf x = some .cell := by
        have e2' : (relS scope env.scope).names.lookup x = some .cell := by rw [← relabel_eq]; exact e2
        have hnd' : ((relS scope env.scope).names.map (·.1)).Nodup := by rw [relS_names]; exact hnd
        rcases relS_free (sc := env.scope) hi with q | q
        · rw [lookup_of_nodup hnd' q] at e2'; cases e2'
        · rcases relS_back q with q | ⟨_, _, q⟩
          · rw [hi] at q; cases q
          · exact q
      exact List.mem_append_right _ (F.cellIn x c h1.1 hk')
  have st₃ : St 0 h₃ := W.frame _ _ _ st fun b _ o e => k₃' b o e
  have hIμ : I ∉ [D, C] ++ μ := fun m => by
    simp only [List.cons_append, List.nil_append, List.mem_cons] at m
    rcases m with m | m | m
    · exact hID m
    · exact hIC m
    · obtain ⟨o, e⟩ := R.held I m; rw [hn] at e; cases e
  have hCf : ∀ b ∈ fp, b ≠ D ∧ b ≠ C := fun b hb => by
    by_cases q : b = I
    · subst q; exact ⟨hID, hIC⟩
    · obtain ⟨o, e⟩ := hfp b hb q
      exact ⟨(by rintro rfl; rw [hD₁] at e; cases e), (by rintro rfl; rw [hC₁] at e; cases e)⟩
  have sub : ∀ a, a ∈ I :: ([D, C] ++ μ) → a ∈ [D, C, I] ++ μ := fun a m => by
    simp only [List.cons_append, List.nil_append, List.mem_cons] at m ⊢
    rcases m with m | m | m | m <;> simp [m]
  have R₄ : Rep B (I :: ([D, C] ++ μ)) ρ σ h₃ := R₃.lessMu sub
  have F₄ : EnvOK (I :: ([D, C] ++ μ)) ρ h₃ (compEnvC scope cl C env) vc := F₃.lessMu sub (by simp [compEnvC]) fun x c e1 e2 => by
    have := F₃.cellIn x c e1 e2
    simp only [List.cons_append, List.nil_append, List.mem_cons] at this ⊢
    rcases this with m | m | m | m <;> simp [m]
  have loop : codeAny (model B.prog B.w) A (.compLoop (.ListComp elt [⟨tg, iter, [], 0⟩, ⟨tg2, iter2, [], 0⟩] scope pos) 0 (.ref I) (.ref D) (compEnvC scope cl C env)) (RR (.ref D) C) { s₂ with heap := h₃, toks := s₂.toks + ([] : List (Str × Value)).length } :=
    comp_loop (iter := iter) (s := { s₂ with heap := h₃, toks := _ }) (ws := []) (done := []) (emit := emit2 elt tg iter tg2 iter2 scope pos) (fun it acc env => compTurn_two ..) g (relabel_eq scope env) R₄ F₄ (by simp) hIμ (by simp [compEnvC]) (fun q => hDC q.symm)
      (fun i y kd c e1 hkd e2 => by
        obtain ⟨e3, e4⟩ := hclB y c e2
        obtain ⟨i', hi'⟩ := List.getElem?_of_mem e4
        obtain ⟨jj, kd', hjj, hkd', _⟩ := hsee.1 i' y hi'
        obtain ⟨c', v₀, hc', ⟨o, ho, _⟩, _⟩ := F.cell jj y kd' hjj hkd'
        rw [e3] at hc'; cases hc'
        exact ⟨(by rintro rfl; rw [hn] at ho; cases ho), (by rintro rfl; rw [hD₁] at ho; cases ho)⟩) W st₃ hCf hq (fun j y x h1 h2 => RelV.lessMu (up k₃ (hit j y x h1 h2)) sub) hacc (RelVs.nil_iff.mpr rfl) (by simpa using hys) hc
      (fun us h' tk' kk R' F' hl' hr' => by
        obtain ⟨m', hm', _⟩ := F'.ns
        rw [List.nil_append] at hl' hr'
        refine hRR D C h' tk' m' us hD₁ hC₁ hDC (fun b o e => kk b o ?_ ?_ ?_ (k₃ b o e)) hl' hr' hm'
        · rintro rfl; rw [hD₁] at e; cases e
        · intro q
          have q' : b = C := q
          rw [q', hC₁] at e; cases e
        · rintro rfl; rw [hn] at e; cases e)
  exact codeAny_compStart_list loop (anyE (W.self 0 _ _ _ st₃ loop))
end
end Mine
namespace Mine
open PySem PySem.Spec PySem.Calls PyProof.Rows PySem.W
section
variable {B : Wd} {n : Nat} {sc : Scope} {vs vs₁ vs₂ : List (Option Val)} {σ σ₁ σ₂ : Store} {v a b c : Val} {k : Nat} {pos : Pos} {e l r : Expr} {st : Stmt} {rest : List Stmt} {f : Fl}
theorem EvN.comp2 {fr : Bool} {elt tg iter tg2 iter2 : Expr} {vcE : List (Option Val)} {scope : Scope} {vc : List (Option Val)} {xs ys : List Val} (hI : Itr fr B n sc vs σ iter xs) (C : CompOK scope) (hsee : Sees scope sc vs vc)
    (hc : CpM B n (relS scope sc) σ tg (emit2 elt tg iter tg2 iter2 scope pos) vc xs ys vcE) (hys : ys.length ≤ sizeLine) (hf : ∀ env x, foldedSetIterable iter env x = pure x := by intro _ _; rfl) : EvN B n sc vs σ (.ListComp elt [⟨tg, iter, [], 0⟩, ⟨tg2, iter2, [], 0⟩] scope pos) ys := fun A μ ρ env s Q g hs R F P => by
  rw [eval_ListComp]
  refine wpAny_comprehension_free (use := none) rfl (hf env) (Sees.closure (hs ▸ hsee) F) C.kind C.names (hI A μ ρ env s _ g hs R F fun I fp Pi St h₁ h₂ tk k₁ hn k₂ W st hfp hq hit hsz => ?_)
  refine comp_block2 (s₂ := { s with heap := h₂, toks := tk }) (RR := fun acc C => compPost _ A NoE none Q acc C) g hs (R.keeps k₁) (F.keeps R k₁) hn k₂ W st (fun b hb nb => let ⟨o, e, _⟩ := (hfp b hb nb).1; ⟨o, e⟩) hq hit hsz C.kind C.nodup C.nocell hsee hc hys ?_
  intro D C' h tk' m' ws hD hC hDC k hl r hns
  refine ⟨m', hns, fun h'' hs'' => ?_⟩
  have b : ButI C' h h'' := fun b o nb e => (hs''.2 b nb).trans e
  have none0 : ∀ a, h₁.get? a = none → s.heap.get? a = none := fun a e => by
    cases q : s.heap.get? a with
    | none => rfl
    | some o => rw [k₁ _ _ q] at e; cases e
  refine P D ws h'' tk' (none0 D hD) (fun x o e => b x o (by rintro rfl; rw [none0 _ hC] at e; cases e) (k _ _ (k₁ _ _ e))) ?_ ?_
  · obtain ⟨o, e, rr⟩ := hl
    exact ⟨o, b _ _ hDC e, rr⟩
  · refine RelVs.mu (fun x o _ n1 n2 => ⟨fun m => n1 ?_, n2⟩) (fun _ _ e => e) (RelVs.extN (N := fun x => x = C') (ExtN.of_keeps fun x o nb e => b x o nb e) (fun x q => by rw [q]; simp) r)
    rcases List.mem_cons.mp m with rfl | m
    · simp
    · simp [m]

/-- x = [.. for .. in ..] -/
theorem Ex.assignC2 {fr : Bool} {x : Str} {xp cp : Pos} {kd : NameKind} {elt tg iter tg2 iter2 : Expr} {vcE : List (Option Val)} {scope : Scope} {vc : List (Option Val)} {xs ys : List Val} (i : Nat) (hi : sc.names[i]? = some (x, kd)) (hk : kd = .local ∨ kd = .cell)
    (hI : Itr fr B n sc vs σ iter xs) (C : CompOK scope) (hsee : Sees scope sc vs vc) (hc : CpM B n (relS scope sc) σ tg (emit2 elt tg iter tg2 iter2 scope cp) vc xs ys vcE) (hys : ys.length ≤ sizeLine) (hf : ∀ env x, foldedSetIterable iter env x = pure x := by intro _ _; rfl) :
    Ex B n sc vs σ (.Assign [.Name x xp] (.ListComp elt [⟨tg, iter, [], 0⟩, ⟨tg2, iter2, [], 0⟩] scope cp) pos) .next (vs.set i (some (.list ys))) σ := fun A μ ρ env s Q g hs R F P => by
  obtain ⟨d, hd, hloc⟩ := swaps_dec elt [⟨tg, iter, [], 0⟩, ⟨tg2, iter2, [], 0⟩] scope cp x xp pos.line env
  cases d with
  | false =>
    have hN : EvN B n sc vs σ (.ListComp elt [⟨tg, iter, [], 0⟩, ⟨tg2, iter2, [], 0⟩] scope cp) ys := EvN.comp2 hI C hsee hc hys hf
    refine wpAny_Assign_Name (hN.ev A μ ρ env s _ g hs R F fun v' h₁ t₁ X₁ r₁ => ?_) hd
    subst hs
    refine store_name hi hk (R.keeps X₁) (F.keeps R X₁) r₁ fun h₂ t₂ X₂ R₂ F₂ => ?_
    exact ((P.keeps X₁ (R.keeps X₁) F.own).step X₂ R₂ F.own).here R₂ F₂ (by unfold RelF; rfl)
  | true =>
    rw [exec_Assign_Name_used _ _ _ _ hd]
    refine wpAny_bind (wpAny_standAt (wpAny_bind ?_))
    skip
    refine wpAny_bind (wpAny_mono (wpAny_comprehension_free (use := some (PySem.assign (PySem.Expr.Name x xp) env)) (Q := fun _ s' => Q .next s') rfl (hf env) (Sees.closure (hs ▸ hsee) F) C.kind C.names
      (hI A μ ρ env s _ g hs R F fun I fp Pi St h₁ h₂ tk k₁ hn k₂ W st hfp hq hit hsz => ?_)) (fun _ s' hq => wpAny_pure (wpAny_pure hq)) fun _ _ e => e)
    refine comp_block2 (s₂ := { s with heap := h₂, toks := tk }) (RR := fun acc C => compPost _ A NoE (some (PySem.assign (PySem.Expr.Name x xp) env)) (fun _ s' => Q .next s') acc C) g hs (R.keeps k₁) (F.keeps R k₁) hn k₂ W st (fun b hb nb => let ⟨o, e, _⟩ := (hfp b hb nb).1; ⟨o, e⟩) hq hit hsz C.kind C.nodup C.nocell hsee hc hys ?_
    intro D C' h tk' m' ws hD hC hDC k hl r hns
    have none0 : ∀ a, h₁.get? a = none → s.heap.get? a = none := fun a e => by
      cases q : s.heap.get? a with
      | none => rfl
      | some o => rw [k₁ _ _ q] at e; cases e
    have kk : Keeps s.heap h := fun b o e => k _ _ (k₁ _ _ e)
    have hCh : ∃ o, h.get? C' = some o := by obtain ⟨o, _, _, ho, _⟩ := hns; exact ⟨o, ho⟩
    have R' : Rep B (C' :: μ) ρ σ h := R.addMu (none0 _ hC) kk hCh
    have F' : EnvOK (C' :: μ) ρ h env vs := F.addMu R (none0 _ hC) kk
    have hDμ : D ∉ C' :: μ := fun m => by
      rcases List.mem_cons.mp m with rfl | m
      · exact hDC rfl
      · obtain ⟨o, e⟩ := R.held D m; rw [none0 _ hD] at e; cases e
    have hDρ : D ∉ ρ := fun m => by obtain ⟨_, o, e, _⟩ := R.isSome m; rw [none0 _ hD] at e; cases e
    have hCμ : C' ∉ μ := fun m => by obtain ⟨o, e⟩ := R.held C' m; rw [none0 _ hC] at e; cases e
    have rl : RelV (C' :: μ) ρ h (.list ys) (.ref D) := by
      unfold RelV
      exact ⟨D, ws, rfl, hDμ, hDρ, hl, RelVs.mu (fun x o _ n1 n2 => ⟨fun m => n1 (List.mem_cons_of_mem _ m), n2⟩) (fun _ _ e => e) r⟩
    skip
    subst hs
    refine wpAny_assign_Name (store_name (s := { s with heap := h, toks := tk' }) hi hk R' F' rl fun h₅ t₅ X₅ R₅ F₅ => ?_)
    have ownC : ¬ Own B env C' := fun q => by
      rcases F.own _ q with m | m
      · exact hCμ m
      · obtain ⟨ps, e, _⟩ := (R.keeps k₁).tab.tab m; rw [hC] at e; cases e
    have hCρ : C' ∉ ρ := fun q => R'.apart _ q List.mem_cons_self
    refine ⟨m', ?_, fun h₆ hs₆ => ?_⟩
    · obtain ⟨o, es, ep, ho, rr⟩ := hns
      exact ⟨o, es, ep, X₅.keep _ _ hCρ ownC ho, rr⟩
    have b6 : ButI C' h₅ h₆ := fun b o nb e => (hs₆.2 b nb).trans e
    have hLC : env.locals ≠ C' := fun q => hCμ (q ▸ F.locIn)
    have R₆ : Rep B μ ρ σ h₆ := R₅.dropI hCμ b6
    have F₆ : EnvOK μ ρ h₆ env (vs.set i (some (.list ys))) := (F₅.butI List.mem_cons_self b6 hLC fun j y kd' c e1 hkd e2 q => by
      obtain ⟨c', v₀, e3, ⟨o, ho, _⟩, _⟩ := F.cell j y kd' e1 hkd
      rw [e2] at e3; cases e3
      rw [q, none0 _ hC] at ho; cases ho).lessMu (fun a m => List.mem_cons_of_mem _ m) F.locIn F.cellIn
    have X₆ : ExtN (Own B env) ρ s.heap ρ h₆ := by
      refine ExtN.skipI ?_ (.inl (none0 _ hC)) b6
      exact ExtN.trans (B := B) (μ := C' :: μ) (σ := σ) (Keeps.own (μ := μ) kk) R' (fun b q => (F.own b q).imp (List.mem_cons_of_mem _) (fun m => m)) X₅
    exact P ρ .next h₆ t₅ X₆ R₆ F₆ (by unfold RelF; rfl)

end
end Mine
namespace Mine
open PySem PySem.Spec PySem.Calls PyProof.Rows PySem.W PySem.Builtin PySem.Builtin.Str
section
variable {B : Wd} {n : Nat} {sc : Scope} {vs vs₁ vs₂ : List (Option Val)} {σ σ₁ σ₂ : Store} {v a b c : Val} {k : Nat} {pos : Pos} {e l r : Expr} {st : Stmt} {rest : List Stmt} {f : Fl}
theorem strsV_from {μ ρ : Addrs} {h : Heap} : ∀ (xs : List Str) (tk : Nat), RelVs μ ρ h (strsV xs) (strsFrom tk xs)
  | [], _ => RelVs.nil_iff.mpr rfl
  | x :: xs, tk => RelVs.cons_iff.mpr ⟨_, _, rfl, by unfold RelV; exact ⟨_, rfl⟩, strsV_from xs (tk + 1)⟩
theorem LS.pushed (h : Heap) (ws : List Value) : LS (h.push { cls := .type "list", data := .seq ws.toArray }) h.objs.size ws.toArray := ⟨_, Heap.get?_push_size _ rfl, _, rfl⟩
theorem OpN.split {x y : Str} (hy : (y.length == 0) = false) (hx : x.length ≤ 1000000) (hn : (partsBetween x (occurrences x y 0 x.length (x.length + 1)) y.length).length ≤ 1000000) : OpN B n σ [.str x, .str y] (fun xs => call (.builtin "str.split") xs) (strsV (Txt.split x y)) := fun A μ ρ s zs Q g R r P => by
  have sl := sizeLine_eq
  obtain ⟨p, q, rfl, r1, r2⟩ := RelVs.two r
  unfold RelV at r1 r2
  obtain ⟨t, rfl⟩ := r1; obtain ⟨u, rfl⟩ := r2
  have fin : ∀ ws tk, RelVs (s.heap.objs.size :: μ) ρ (s.heap.push { cls := .type "list", data := .seq ws.toArray }) (strsV (Txt.split x y)) ws → Q (.ref s.heap.objs.size) { s with heap := s.heap.push { cls := .type "list", data := .seq ws.toArray }, toks := tk } := fun ws tk q => P _ ws _ tk (fresh_none _) (Keeps.push _) (LS.pushed _ _) q
  have self : Txt.split x y = [x] → RelVs (s.heap.objs.size :: μ) ρ (s.heap.push { cls := .type "list", data := .seq [Value.str x t].toArray }) (strsV (Txt.split x y)) [.str x t] := fun e => by
    rw [e]; exact RelVs.cons_iff.mpr ⟨_, _, rfl, by unfold RelV; exact ⟨_, rfl⟩, RelVs.nil_iff.mpr rfl⟩
  cases h1 : (decide (x.length < y.length) || decide (strKind x < strKind y)) with
  | true =>
    exact call_meets PySem.F.slot_str_split (typeIs_str _ _ _) PySem.F.entry_str_split (PySem.F.args_str_split_2 _ _) (meets_str_split_cannot_occur x y t u h1) (fin _ s.toks (self (if_pos h1)))
  | false =>
    cases hf : (occurrences x y 0 x.length (x.length + 1)).isEmpty with
    | true =>
      exact call_meets PySem.F.slot_str_split (typeIs_str _ _ _) PySem.F.entry_str_split (PySem.F.args_str_split_2 _ _) (meets_str_split_not_found x y t u h1 hy hf) (fin _ s.toks (self ((if_neg (ne_true_of_eq_false h1)).trans (if_pos hf))))
    | false =>
      refine call_meets PySem.F.slot_str_split (typeIs_str _ _ _) PySem.F.entry_str_split (PySem.F.args_str_split_2 _ _) (meets_str_split_sep x y t u h1 hy hf (by omega) (by omega)) (fin _ _ ?_)
      have e : Txt.split x y = partsBetween x (occurrences x y 0 x.length (x.length + 1)) y.length := (if_neg (ne_true_of_eq_false h1)).trans (if_neg (ne_true_of_eq_false hf))
      rw [e]
      exact strsV_from _ _
end
end Mine
namespace Mine
open PySem PySem.Spec PySem.Calls PyProof.Rows PySem.W
section
variable {B : Wd} {n : Nat} {sc : Scope} {vs vs₁ vs₂ : List (Option Val)} {σ σ₁ σ₂ : Store} {v a b c : Val} {k : Nat} {pos : Pos} {e l r : Expr} {st : Stmt} {rest : List Stmt} {f : Fl}
/-- C(), a class of the text's own -/
theorem EvE.callC {x : Str} {p : Pos} {C : Addr} (hf : Ev B n sc vs σ (.Name x p) (.glob (.ref C))) (hk : keepIn B.K (.ref C) = true) (ho : OpE B n σ [] (fun xs => call (.ref C) xs) v σ₁) :
    EvE B n sc vs σ (.Call (.Name x p) [] [] pos) v σ₁ := fun A μ ρ env s Q g hs R F P => by
  refine PyProof.Rows.Call_ (hf A μ ρ env s _ g hs R F fun f' h₁ t₁ X₁ r₁ => ?_)
  unfold RelV at r₁; subst r₁
  have R₁ := R.keeps X₁
  refine callWith_K0 R₁.inK hk (ho A μ ρ { s with heap := h₁, toks := t₁ } [] Q g R₁ (RelVs.nil_iff.mpr rfl) fun v' ρ' h' tk X R' r' => ?_)
  exact P v' ρ' h' tk (ExtN.trans (Keeps.own (μ := μ) X₁) R₁ F.own (X.weaken fun _ q => q.own)) R' ((F.keeps R X₁).gr R₁ X) r'
/-- a list of ints that stood before the law's call, and that nobody turns -/
noncomputable def Giv (B : Wd) (ad : Addr) (ns : List Int) : Prop := ∃ ws : List Value, B.h₀.IsList ad (List.toArray ws) ∧ IntsAre ws ns
theorem intsAre_rel {μ ρ : Addrs} {h : Heap} {ws : List Value} {ns : List Int} (I : IntsAre ws ns) : RelVs μ ρ h (intsV ns) ws := by
  induction I with
  | nil => exact RelVs.nil_iff.mpr rfl
  | cons n t _ ih => exact RelVs.cons_iff.mpr ⟨_, _, rfl, by unfold RelV; exact ⟨_, rfl⟩, ih⟩
theorem Giv.here {ad : Addr} {ns : List Int} (G : Giv B ad ns) {μ ρ : Addrs} {h : Heap} (R : Rep B μ ρ σ h) : ∃ ws : List Value, h.IsList ad (List.toArray ws) ∧ RelVs μ ρ h (intsV ns) ws := by
  obtain ⟨ws, ⟨o, e, r⟩, i⟩ := G
  exact ⟨ws, ⟨o, R.base _ _ e, r⟩, intsAre_rel i⟩
theorem OpS.lenG {ad : Addr} {ns : List Int} (G : Giv B ad ns) (hz : ns.length ≤ sizeLine) : OpS B n σ [.glob (.ref ad)] (fun xs => call (.builtin "len") xs) (.int ns.length) := fun A μ ρ s zs Q g R r P => by
  obtain ⟨x, rfl, r1⟩ := RelVs.one r
  unfold RelV at r1; subst r1
  obtain ⟨ws, hl, q⟩ := G.here R
  have e : (List.toArray ws).size = ns.length := by rw [List.size_toArray, RelVs.length q]; unfold intsV; simp
  exact call_len_list hl (by rw [e]; exact lt63 hz) (by rw [e]; exact P.int)
theorem EvN.sliceG {value : Expr} {lo hi : Option Expr} {i j : Option Int} {ad : Addr} {ns : List Int} {p : Pos} (hv : Ev B n sc vs σ value (.glob (.ref ad))) (G : Giv B ad ns) (hl : EvP B n sc vs σ lo i) (hh : EvP B n sc vs σ hi j) (hz : ns.length ≤ sizeLine) :
    EvN B n sc vs σ (.Subscript value (.Slice lo hi none p) pos) (slc i j (intsV ns)) := fun A μ ρ env s Q g hs R F P => by
  refine Subscript_ (hv A μ ρ env s _ g hs R F fun x h₁ t₁ X₁ r₁ => ?_)
  refine wpAny_Slice (hl.run g hs (R.keeps X₁) (F.keeps R X₁) fun y h₂ t₂ X₂ p₂ => ?_)
  refine hh.run g hs ((R.keeps X₁).keeps X₂) ((F.keeps R X₁).keeps (R.keeps X₁) X₂) fun z h₃ t₃ X₃ p₃ => ?_
  have X13 : Keeps s.heap h₃ := (X₁.trans X₂).trans X₃
  unfold RelV at r₁; subst r₁
  obtain ⟨ws, hl, r⟩ := G.here (R.keeps X13)
  have len : ws.length = (intsV ns).length := RelVs.length r
  have len2 : (intsV ns).length = ns.length := by unfold intsV; simp
  rw [evalPart_none]
  refine wpAny_pure ?_
  refine subTail (ops := [_, _]) (Heap.IsList.typeIs (hl.push _)) list_getitem_lookup (wpAny_getItem_list_slice (hl.push _) (Heap.IsSliceOf.new ..) p₂.part p₃.part .none (by simp) ?_ (by rw [List.size_toArray, len, len2]; exact hz)) rfl
  dsimp only
  generalize hH : h₃.push { cls := .type "slice", data := .fields #[y, z, .none] } = H
  have k3 : Keeps h₃ H := hH ▸ Keeps.push _
  have hn := fresh_none H
  refine P _ (slc i j ws) _ _ (X13.none (k3.none hn)) ((X13.trans k3).trans (Keeps.push _)) ⟨_, Heap.get?_push_size _ rfl, 0, ?_⟩ ?_
  · rw [kms_pick_eq]
    rfl
  · refine RelVs.addTo (h := H) (RelVs.keeps k3 ?_) hn (Keeps.push _)
    unfold slc
    rw [len]
    exact RelVs.take _ (RelVs.drop _ r)
end
end Mine
namespace Mine
open PySem PySem.Spec PySem.Calls PyProof.Rows PySem.W PyProof.V
-- the ground at the law's call
structure Base (h₁ : Heap) (K : Frag) (tc : List (Addr × Addr)) : Prop where
  X : K.In h₁
  hT : TabsAt tc h₁
  hnt : noTabs K = true
section
variable {prog : Program} {w : World} {h₁ : Heap} {K : Frag} {tc : List (Addr × Addr)} {p : Program} {loose : List Str} {mean : ExcName → Option Value} {mg mb : Str → Option Value}
noncomputable def wdOf (prog : Program) (w : World) (Bs : Base h₁ K tc) (T : Top p loose mean mg mb h₁) (tq : List (Addr × Str)) : Wd :=
  { prog := prog, w := w, h₀ := ghostOf h₁ tc, K := K, X := ghost_K Bs.hT Bs.X Bs.hnt, p := topProg, loose := _, mg := mg, mb := mb, T := topRead_of (ghost_top Bs.hT T), tabs := tq, grows := false }
variable {Bs : Base h₁ K tc} {T : Top p loose mean mg mb h₁} {tq : List (Addr × Str)}
theorem tq_in (hq : tq.map (·.1) = tc.map (·.2)) {x : Addr × Str} (m : x ∈ tq) : ∃ y ∈ tc, y.2 = x.1 := by
  have : x.1 ∈ tc.map (·.2) := by rw [← hq]; exact List.mem_map_of_mem m
  obtain ⟨y, hy, e⟩ := List.mem_map.mp this
  exact ⟨y, hy, e⟩
theorem hid0 (hq : tq.map (·.1) = tc.map (·.2)) : ∀ q ∈ (wdOf prog w Bs T tq).tabs, (wdOf prog w Bs T tq).h₀.get? q.1 = none := fun q m => by
  obtain ⟨y, hy, e⟩ := tq_in hq m
  show (ghostOf h₁ tc).get? q.1 = none
  rw [← e]
  exact hideAll_none _ (List.mem_map_of_mem hy)
theorem rep0 (hq : tq.map (·.1) = tc.map (·.2)) : Rep (wdOf prog w Bs T tq).up [] [] [] h₁ := by
  refine ⟨fun q m => ?_, fun b o e => of_hideAll _ e, fun _ m => (nomatch m), rfl, .nil, fun _ m => (nomatch m), fun _ m => (nomatch m), fun _ m => (nomatch m), fun i a xs e => by simp at e⟩
  obtain ⟨y, hy, e⟩ := tq_in hq m
  have := (Bs.hT y hy).2
  rw [e] at this
  exact ⟨by simp, by simp, #[], this, trivial, fun pos cv h => by cases h⟩
theorem nest0 (hq : tq.map (·.1) = tc.map (·.2)) {c P : Addr} {qual : Str} (m : (P, qual) ∈ tq) (one : ∀ q ∈ tq, q.1 = P → q.2 = qual) (mc : (c, P) ∈ tc) : Nest (wdOf prog w Bs T tq).up c P qual := by
  have hno : (ghostOf h₁ tc).get? P = none := hideAll_none _ (List.mem_map_of_mem (f := (·.2)) mc)
  refine ⟨m, one, ?_, hno, ?_, rfl⟩
  · have key : ∀ (l : List (Addr × Addr)) (h : Heap), CodeAll l h → ∀ q ∈ l, CodeHd h q.1 q.2 := by
      intro l
      induction l with
      | nil => intro h _ q hq; cases hq
      | cons x l ih =>
        intro h k q hq
        rcases List.mem_cons.mp hq with rfl | hq
        · exact k.1
        · exact ih h k.2 q hq
    exact key tc _ (ghost_code Bs.hT) (c, P) mc
  · obtain ⟨bm, ob, a1, a2, a3, a4, a5, a6⟩ := (ghost_top Bs.hT T).bmain
    refine ⟨bm, ob, a1, a2, ?_, ?_, a3, a4, a5, a6⟩
    · obtain ⟨o, es, ep, e, hd, _⟩ := (ghost_top Bs.hT T).g
      rintro rfl
      rw [a3] at e; cases e
      rw [a6] at hd; cases hd
    · rintro rfl
      rw [hno] at a3; cases a3
/-- the law's answer, as the claim wants it -/
theorem good_end {cw : ClaimW} {cl : Str → Option Addr} {args : List WData} {s : Shared} {Bs : Base s.heap K tc} {T : Top p loose mean mg mb s.heap} {fa sa : Addr} {n : Nat} (hq : tq.map (·.1) = tc.map (·.2)) (hg : s.gens = #[])
    (hr : ∀ cls, cw.raises args cls = false) (hp : cw.post args (.bool true) args = true)
    (F : FnG (wdOf prog w Bs T tq).up n fa [.glob (.ref sa)] (.bool true)) (g : Good n callerA) :
    wpAny (model prog w) callerA (call (.ref fa) [.ref sa]) (fun v s' => GoodWG cw cl mean args s (.ok (.ret v)) s') (fun e s' => GoodWG cw cl mean args s (.error e) s') s := by
  refine anyE (F [] callerA [] [] s [.ref sa] _ g (rep0 hq) (RelVs.cons_iff.mpr ⟨_, _, rfl, by unfold RelV; rfl, RelVs.nil_iff.mpr rfl⟩) fun v' ρ' h' tk X R' r' => ?_)
  unfold RelV at r'; subst r'
  have keep : ∀ b o, b ∉ tc.map (·.2) → s.heap.get? b = some o → h'.get? b = some o := fun b o nb e => X.keep b o (by simp) (fun q => nb (by rw [← hq]; exact q.2)) e
  have tabs' : ∀ b, b ∈ tc.map (·.2) → ∃ ps, h'.get? b = some (tabObj ps) := fun b m => by
    rw [← hq] at m
    obtain ⟨x, hx, rfl⟩ := List.mem_map.mp m
    obtain ⟨_, _, ps, e, _⟩ := R'.tab x hx
    exact ⟨ps, e⟩
  refine ⟨.inl ⟨_, .bool true, [], rfl, hr, .bool _, hp, fun _ => ⟨.nil, fun _ m => (nomatch m)⟩⟩, ⟨fun b o e => ?_, fun b o e => ?_⟩, rfl, .of_eq hg⟩
  · by_cases m : b ∈ tc.map (·.2)
    · obtain ⟨ps, e'⟩ := tabs' b m
      obtain ⟨y, hy, rfl⟩ := List.mem_map.mp m
      have e2 := (Bs.hT y hy).2
      have e3 := e
      rw [e2] at e3; cases e3
      exact .inr (.inl ⟨((Bs.hT y hy).1.tab (Bs.hT y hy).2).isCodeTable, rfl, #[], ps, rfl, by rw [Array.empty_append]; exact e'⟩)
    · exact .inl (keep b o m e)
  · by_cases m : b ∈ tc.map (·.2)
    · obtain ⟨ps, e'⟩ := tabs' b m; exact ⟨_, e'⟩
    · exact ⟨o, keep b o m e⟩
theorem giv0 {sa : Addr} {ws : List Value} {ns : List Int} (hL : h₁.IsList sa ws.toArray) (hI : IntsAre ws ns) : Giv (wdOf prog w Bs T tq).up sa ns := ⟨ws, ghost_list Bs.hT hL, hI⟩
/-- what code a def is -/
noncomputable def codeAt (K : Frag) (f : Addr) : Option (Value × Str) := match K.lookup f with
  | some ⟨_, _, .func fd, _⟩ => some (fd.code, fd.qualname)
  | _ => none
theorem codeAt_of {f c : Addr} {q : Str} (h : codeAt K f = some (.ref c, q)) : ∀ oc od fd osl, K.lookup f = some ⟨oc, od, .func fd, osl⟩ → fd.code = .ref c ∧ fd.qualname = q := fun oc od fd osl e => by
  unfold codeAt at h
  rw [e] at h
  simp only [Option.some.injEq, Prod.mk.injEq] at h
  exact h
/-- a dict of ints and texts in the fragment -/
noncomputable def flatD : List DictEntry → List (Int × Str) → Bool
  | [], [] => true
  | ⟨h, .int k _, .str s _⟩ :: es, (k', s') :: D => h == hashInt k && (k == k' && (s == s' && flatD es D))
  | _, _ => false
noncomputable def dictAt (K : Frag) (d : Addr) (D : List (Int × Str)) : Bool := match K.lookup d with
  | some ⟨.type "dict", none, .dict es _, sl⟩ => sl.toList.isEmpty && flatD es.toList D
  | _ => false
theorem flat_of {es : List DictEntry} : ∀ {D : List (Int × Str)}, flatD es D = true → ∃ kvs : List (Int × Value), (∀ e ∈ es, ∃ k, (PySem.intKind prog w).is k e.key = true ∧ e.hash = (PySem.intKind prog w).hash k) ∧ Pairs (PySem.intKind prog w) es kvs ∧ FlatPairs PyData.int kvs (D.map fun q => (.int q.1, .str q.2)) ∧ kvs.map (·.1) = D.map (·.1) := by
  induction es with
  | nil =>
    intro D h
    cases D with
    | nil => exact ⟨[], fun _ m => (nomatch m), .nil, .nil, rfl⟩
    | cons _ _ => cases h
  | cons e es ih =>
    intro D h
    obtain ⟨hs, ky, vl⟩ := e
    cases D with
    | nil => cases ky <;> cases vl <;> cases h
    | cons q D =>
      obtain ⟨k', s'⟩ := q
      cases ky <;> try (cases h; done)
      rename_i k t
      cases vl <;> try (cases h; done)
      rename_i x u
      simp only [flatD, Bool.and_eq_true, beq_iff_eq] at h
      obtain ⟨rfl, rfl, rfl, h⟩ := h
      obtain ⟨kvs, a1, a2, a3, a4⟩ := ih h
      refine ⟨(k, .str x u) :: kvs, fun e m => ?_, .cons (intKind_is _ _ _ _) rfl a2, .cons (PyProof.V.Flat.str x u) a3, by simp [a4]⟩
      rcases List.mem_cons.mp m with rfl | m
      · exact ⟨k, intKind_is _ _ _ _, rfl⟩
      · exact a1 e m
theorem tabAt_of {d : Addr} {D : List (Int × Str)} (h : dictAt K d D = true) (hd : (d == sysModules) = false) (hn : (D.map (·.1)).Nodup) : TabAt (PySem.intKind prog w) PyData.int (wdOf prog w Bs T tq).h₀ d (D.map fun q => (.int q.1, .str q.2)) := by
  unfold dictAt at h
  split at h
  · rename_i es ep sl hk
    simp only [Bool.and_eq_true, List.isEmpty_iff] at h
    obtain ⟨hsl, h⟩ := h
    obtain ⟨kvs, a1, a2, a3, a4⟩ := flat_of (prog := prog) (w := w) h
    refine ⟨hd, kvs, ⟨_, es, ep, (wdOf prog w Bs T tq).X _ _ hk, ⟨rfl, rfl, ?_⟩, rfl, fun e m => a1 e (by simpa using m), a2, by rw [a4]; exact hn⟩, a3⟩
    exact Array.toList_inj.mp hsl
  · cases h
end
end Mine
namespace Mine
open PySem PySem.Spec PySem.Calls PyProof.Rows PySem.W
-- what the end of the top shows, asked once
noncomputable def fragAt (as : List Addr) (h : Heap) : Frag := as.filterMap fun a => (h.get? a).map fun o => (a, o)
theorem fragAt_in (h : Heap) : ∀ as : List Addr, (fragAt as h).In h
  | [] => fun a o e => by cases e
  | b :: as => fun a o e => by
    have ih := fragAt_in h as a o
    unfold fragAt at e ih
    rw [List.filterMap_cons] at e
    cases q : h.get? b with
    | none => rw [q] at e; exact ih e
    | some x =>
      rw [q] at e
      simp only [Option.map_some, List.lookup_cons] at e
      cases z : (a == b) with
      | true => rw [z] at e; cases e; rw [beq_iff_eq.mp z]; exact q
      | false => rw [z] at e; exact ih e
noncomputable abbrev FnV := Arguments × FuncBody × Scope × Value × Value × Addr × List (Str × Addr) × Addr × Bool
noncomputable def fnAt (K : Frag) (f : Addr) : Option FnV := match K.lookup f with
  | some ⟨_, _, .func fd, _⟩ => some (fd.params, fd.body, fd.scope, fd.defaults, fd.kwdefaults, fd.globals, fd.closure, fd.builtins, codeIn K fd.code fd.qualname)
  | _ => none
noncomputable def fnV (params : Arguments) (body : List Stmt) (scope : Scope) (dV : Value) : Option FnV := some (params, .stmts body, scope, dV, .none, mainGlobals, [], builtinsNs, true)
noncomputable def patAt (K : Frag) (p : Addr) : Option (Bool × List Nat) := match K.lookup p with
  | some ⟨.type "re.Pattern", none, .fields vs, _⟩ => (match vs.getD 5 .none with
    | .ref q => (match K.lookup q with
      | some ⟨_, _, .seq its _, _⟩ => some (decide (Builtin.Re.reRawNat (vs.getD 6 .none) = 0) && decide (Builtin.Re.reRawNat (vs.getD 2 .none) = 0), ((its.map Builtin.Re.reRawOf).map (·.toNat)).toList)
      | _ => none)
    | _ => none)
  | _ => none
noncomputable def seqAt (K : Frag) (t : Addr) : Option (List Value) := match K.lookup t with
  | some ⟨_, _, .seq its _, _⟩ => some its.toList
  | _ => none
noncomputable def intNs (K : Frag) (x : Str) : Option Int := match nsIn K mainGlobals x with
  | some (some (.int z _)) => some z
  | _ => none
/-- what is asked -/
structure Asks where
  C : Addr
  ns : List Str
  fns : List Addr
  codes : List Addr
  finds : List Str
  pats : List Addr
  seqs : List Addr
  nums : List Str
  dict : Addr
  names : List (Int × Str)
  heads : List (Addr × Addr)
noncomputable abbrev Told := List (Option (Option Value)) × List (Option FnV) × List (Option (Value × Str)) × List (Option (Option Value)) × List (Option Value) × List (Option (Bool × List Nat)) × List (Option (List Value)) × List (Option Int) × Option (Option Value) × List Bool
noncomputable def told (S : Asks) (K : Frag) : Told :=
  (S.ns.map (nsIn K mainGlobals), S.fns.map (fnAt K), S.codes.map (codeAt K), S.finds.map (findIn K (.ref S.C)), S.fns.map (fun f => typeIn K (.ref f)), S.pats.map (patAt K), S.seqs.map (seqAt K), S.nums.map (intNs K), takerIn K S.C "_headers",
    [noTabs K, hasDictIn K S.C, plainGet K S.C "_headers", plainOver K S.C, makesIn K S.C, keepIn K (.ref S.C), dictAt K S.dict S.names] ++ S.heads.map fun q => codeHdIn K q.1 q.2)
noncomputable def asking (S : Asks) (as : List Addr) (T : Told) : Hook where
  α := Told × List (Option Obj)
  obs := fun s => (told S (fragAt as s.heap), S.heads.map fun q => s.heap.get? q.2)
  val := fun _ => (T, S.heads.map fun _ => some (tabObj #[]))
  says := fun _ h => ∃ K : Frag, K.In h ∧ told S K = T ∧ ∀ q ∈ S.heads, h.get? q.2 = some (tabObj #[])
  of := fun w s e => ⟨_, fragAt_in s.heap as, (Prod.mk.inj e).1, List.map_inj_left.mp (Prod.mk.inj e).2⟩
  keeps := fun w h h' ⟨K, X, e, t⟩ k => ⟨K, fun a o q => k _ _ (X a o q), e, fun q m => k _ _ (t q m)⟩
theorem at_of {α β : Type} {f : α → β} {L : List α} {M : List β} (h : L.map f = M) (i : Nat) {a : α} {b : β} (ha : L[i]? = some a) (hb : M[i]? = some b) : f a = b := by
  rw [← h, List.getElem?_map, ha] at hb
  exact Option.some.inj hb
theorem at_b {L M : List Bool} (h : L = M) (i : Nat) {a b : Bool} (ha : L[i]? = some a) (hb : M[i]? = some b) : a = b := by
  rw [h, hb] at ha
  exact (Option.some.inj ha).symm
section
variable {K : Frag} {f : Addr} {params : Arguments} {body : List Stmt} {scope : Scope} {dV : Value}
theorem fn_ex (h : fnAt K f = fnV params body scope dV) : ∃ name qual doc pm an cdv ct oc od osl, K.lookup f = some ⟨oc, od, .func (fnOf name qual params body scope dV .none doc pm an cdv ct), osl⟩ ∧ codeIn K cdv qual = true := by
  unfold fnAt fnV at h
  split at h
  · rename_i oc od fd osl hk
    simp only [Option.some.injEq, Prod.mk.injEq] at h
    obtain ⟨h1, h2, h3, h4, h5, h6, h7, h8, h9⟩ := h
    obtain ⟨nm, ql, pr, bd, sc, gl, cl, df, kd, dc, pm, an, cv, ct, bn⟩ := fd
    simp only at h1 h2 h3 h4 h5 h6 h7 h8 h9
    subst h1 h2 h3 h4 h5 h6 h7 h8
    exact ⟨nm, ql, dc, pm, an, cv, ct, oc, od, osl, hk, h9⟩
  · cases h
theorem FnOK.at (h : fnAt K f = fnV params body scope dV) (co : scope.isCoroutine = false) (gen : scope.isGenerator = false) (kind : scope.kind = .function) (nodup : (scope.names.map (·.1)).Nodup) (nofree : ∀ x ∈ scope.names, x.2 ≠ .free) : FnOK K f params body scope dV .none :=
  ⟨fn_ex h, co, gen, kind, nodup, nofree⟩
theorem HM.at {C : Addr} {name : Str} (h : fnAt K f = fnV params body scope dV) (find : findIn K (.ref C) name = some (some (.ref f))) (typ : typeIn K (.ref f) = some (.type "function")) (other : unshadowed name = true) : HM K C f name := by
  obtain ⟨_, _, _, _, _, _, _, oc, od, osl, hk, _⟩ := fn_ex h
  exact ⟨find, typ, ⟨_, _, _, _, hk⟩, other⟩
theorem PatAt.at {p : Addr} {code : List Nat} (h : patAt K p = some (true, code)) : PatAt K p code := by
  unfold patAt at h
  split at h
  · rename_i vs sl hk
    split at h
    · rename_i q hq
      split at h
      · rename_i oc od its n osl hk2
        simp only [Option.some.injEq, Prod.mk.injEq, Bool.and_eq_true, decide_eq_true_eq] at h
        obtain ⟨⟨h1, h2⟩, h3⟩ := h
        exact ⟨⟨vs, sl, q, its, n, _, hk, h1, h2, hq, hk2, rfl, Array.toList_inj.mp (by rw [h3])⟩⟩
      · cases h
    · cases h
  · cases h
theorem seq_ex {t : Addr} {v : Value} (h : seqAt K t = some [v]) : ∃ o n, K.lookup t = some o ∧ o.data = .seq #[v] n := by
  unfold seqAt at h
  split at h
  · rename_i oc od its n osl hk
    refine ⟨_, n, hk, ?_⟩
    have : its = #[v] := Array.toList_inj.mp (by simpa using h)
    rw [this]
  · cases h
theorem int_ex {x : Str} {z : Int} (h : intNs K x = some z) : ∃ t, nsIn K mainGlobals x = some (some (.int z t)) := by
  unfold intNs at h
  split at h
  · rename_i y t hk
    cases h
    exact ⟨t, hk⟩
  · cases h
end
end Mine
namespace Mine
open PySem PySem.Spec PySem.Calls PyProof.Rows PySem.W
noncomputable def top : List Stmt := PySem.Challenge.pw_uq0023_02.main.body
noncomputable def nth : List Stmt → Nat → Stmt
  | [], _ => .Pass ⟨0, 0, 0, 0⟩
  | x :: _, 0 => x
  | _ :: xs, i + 1 => nth xs i
noncomputable def fBody : Stmt → List Stmt
  | .FunctionDef _ _ b _ _ _ _ _ _ _ => b
  | _ => []
noncomputable def fScope : Stmt → Scope
  | .FunctionDef _ _ _ _ _ _ s _ _ _ => s
  | _ => default
noncomputable def fPar : Stmt → Arguments
  | .FunctionDef _ a _ _ _ _ _ _ _ _ => a
  | _ => default
noncomputable def cBody : Stmt → List Stmt
  | .ClassDef _ _ _ b _ _ _ _ _ _ _ => b
  | _ => []
noncomputable def parN (sc : Scope) (k : Nat) : List Str := (sc.names.take k).map (·.1)
/-- where the text's defs lie -/
structure Ad where
  sub : Addr
  lev : Addr
  pretty : Addr
  div2 : Addr
  i2d : Addr
  d2i : Addr
  dpos : Addr
  idm : Addr
theorem one_of {α : Type} {xs : List α} (h : xs.length = 1) : ∃ x, xs = [x] := List.length_eq_one_iff.mp h
theorem two_of {α : Type} {xs : List α} (h : xs.length = 2) : ∃ x y, xs = [x, y] := by
  cases xs with
  | nil => cases h
  | cons x xs =>
    obtain ⟨y, rfl⟩ := one_of (Nat.succ.inj h)
    exact ⟨x, y, rfl⟩
theorem three_of {α : Type} {xs : List α} (h : xs.length = 3) : ∃ x y z, xs = [x, y, z] := by
  cases xs with
  | nil => cases h
  | cons x xs =>
    obtain ⟨y, z, rfl⟩ := two_of (Nat.succ.inj h)
    exact ⟨x, y, z, rfl⟩
theorem boot_len : bootBuiltins "len" = some (.builtin "len") := by rfl
theorem boot_range : bootBuiltins "range" = some (.type "range") := by rfl
theorem boot_list : bootBuiltins "list" = some (.type "list") := by rfl
theorem boot_min : bootBuiltins "min" = some (.builtin "min") := by rfl
theorem boot_sum : bootBuiltins "sum" = some (.builtin "sum") := by rfl
theorem boot_str : bootBuiltins "str" = some (.type "str") := by rfl
theorem boot_hex : bootBuiltins "hex" = some (.builtin "hex") := by rfl
theorem boot_divmod : bootBuiltins "divmod" = some (.builtin "divmod") := by rfl
theorem boot_reversed : bootBuiltins "reversed" = some (.type "reversed") := by rfl
theorem boot_type : bootBuiltins "type" = some (.type "type") := by rfl
end Mine
namespace Mine
open PySem PySem.Spec PySem.Calls PyProof.Rows PySem.W
-- _substitution_cost
noncomputable def subStmt := nth top 21
noncomputable def subBody := fBody subStmt
noncomputable def subScope := fScope subStmt
noncomputable def subPar := fPar subStmt
structure FSub (B : Wd) (a : Ad) : Prop where
  still : B.grows = false
  move : ∃ t, nsIn B.K mainGlobals "_MOVE_COST" = some (some (.int 2 t))
  case_ : ∃ t, nsIn B.K mainGlobals "_CASE_COST" = some (some (.int 1 t))
  sub : nsIn B.K mainGlobals "_substitution_cost" = some (some (.ref a.sub))
  fsub : FnOK B.K a.sub subPar subBody subScope .none .none
theorem sub_pos : ByPos subPar .none .none (parN subScope 2) := fun s fd xs h1 h2 h3 hl => by
  obtain ⟨x, y, rfl⟩ := two_of hl
  exact BindsTo.of_eq (by cases fd; simp only at h1 h2 h3; subst h1; subst h2; subst h3; rfl)
noncomputable def subC (x y : Str) : Int := if (x == y) = true then 0 else if (Txt.lower x == Txt.lower y) = true then 1 else 2
theorem sub_fn {B : Wd} {a : Ad} (F : FSub B a) {n : Nat} (x y : Str) (hx : x.length ≤ 1000) (hy : y.length ≤ 1000) : FnP B (n + 1) a.sub [.str x, .str y] (.int (subC x y)) := by
  have sl := sizeLine_eq
  refine FnP.mk F.still F.fsub sub_pos rfl rfl (by decide) rfl ?_
  show ∃ vs' σ', Exs B n subScope _ [] subBody _ vs' σ'
  unfold subC
  cases h1 : (x == y) with
  | true =>
    rw [if_pos rfl]
    exact ⟨_, _, Exs.ifT ((Tr.cmp (Ev.local 0 rfl rfl) (Ev.local 1 rfl rfl) Op2.seq).eq h1) (Exs.one (Ex.ret Ev.cint)) Fl.ret_ne⟩
  | false =>
    rw [if_neg (by decide)]
    cases h2 : (Txt.lower x == Txt.lower y) with
    | true =>
      rw [if_pos rfl]
      exact ⟨_, _, Exs.ifF ((Tr.cmp (Ev.local 0 rfl rfl) (Ev.local 1 rfl rfl) Op2.seq).eq h1) (Exs.ifT ((Tr.cmp (Ev.meth (Ev.local 0 rfl rfl) .nil TyB.str PySem.F.plainAttrs_str PySem.F.slot_str_lower PySem.F.type_str_lower (OpS.lower (by omega))) (Ev.meth (Ev.local 1 rfl rfl) .nil TyB.str PySem.F.plainAttrs_str PySem.F.slot_str_lower PySem.F.type_str_lower (OpS.lower (by omega))) Op2.seq).eq h2) (Exs.one (Ex.ret (Ev.gint 2 rfl F.case_))) Fl.ret_ne)⟩
    | false =>
      rw [if_neg (by decide)]
      exact ⟨_, _, Exs.ifF ((Tr.cmp (Ev.local 0 rfl rfl) (Ev.local 1 rfl rfl) Op2.seq).eq h1) (Exs.ifF ((Tr.cmp (Ev.meth (Ev.local 0 rfl rfl) .nil TyB.str PySem.F.plainAttrs_str PySem.F.slot_str_lower PySem.F.type_str_lower (OpS.lower (by omega))) (Ev.meth (Ev.local 1 rfl rfl) .nil TyB.str PySem.F.plainAttrs_str PySem.F.slot_str_lower PySem.F.type_str_lower (OpS.lower (by omega))) Op2.seq).eq h2) (Exs.one (Ex.ret (Ev.gint 3 rfl F.move))))⟩
end Mine
namespace Mine
open PySem PySem.Spec PySem.Calls PyProof.Rows PySem.W
-- _levenshtein_distance, of two texts of one length
noncomputable def levStmt := nth top 22
noncomputable def levBody := fBody levStmt
noncomputable def levScope := fScope levStmt
noncomputable def levPar := fPar levStmt
structure FLev (B : Wd) (a : Ad) : Prop extends FSub B a where
  maxs : ∃ t, nsIn B.K mainGlobals "_MAX_STRING_SIZE" = some (some (.int 40 t))
  lev : nsIn B.K mainGlobals "_levenshtein_distance" = some (some (.ref a.lev))
  flev : FnOK B.K a.lev levPar levBody levScope .none .none
  b_len : nsIn B.K mainGlobals "len" = some none
  b_range : nsIn B.K mainGlobals "range" = some none
  b_list : nsIn B.K mainGlobals "list" = some none
  b_min : nsIn B.K mainGlobals "min" = some none
theorem lev_pos : ByPos levPar .none .none (parN levScope 3) := fun s fd xs h1 h2 h3 hl => by
  obtain ⟨x, y, z, rfl⟩ := three_of hl
  exact BindsTo.of_eq (by cases fd; simp only at h1 h2 h3; subst h1; subst h2; subst h3; rfl)
/-- how far two lists go together -/
noncomputable def together : List Nat → List Nat → Nat
  | x :: xs, y :: ys => if x = y then together xs ys + 1 else 0
  | _, _ => 0
structure LSt where
  dist : Int
  res : Int
  mn : Int
  row : List Int
noncomputable def sgn (c : Nat) : Str := ⟨#[c]⟩
noncomputable def lstep (A : List Nat) (bc : Nat) (s : LSt) (i : Int) : LSt :=
  let sub := s.dist + subC (sgn bc) (sgn (A.getD i.toNat 0))
  let d := s.row.getD i.toNat 0
  let ins := (if d < s.res then d else s.res) + 2
  let r := if sub < ins then sub else ins
  ⟨d, r, if r < s.mn then r else s.mn, s.row.set i.toNat r⟩
noncomputable def lrow (A : List Nat) (bc : Nat) (bi : Int) (row : List Int) : LSt := (rng 0 A.length).foldl (lstep A bc) ⟨bi * 2, bi * 2, 9223372036854775807, row⟩
noncomputable def lrows (A : List Nat) (mc : Int) : List Nat → Int → List Int → Int → Int
  | [], _, _, res => res
  | c :: cs, bi, row, res => let s := lrow A c bi row; if s.mn > mc then mc + 1 else lrows A mc cs (bi + 1) s.row s.res
section
variable {B : Wd} {a : Ad} {n : Nat}
/-- the frame's names in the two loops -/
noncomputable def lvs (A Bs : List Nat) (mc : Int) (bi bc dist mn res : Option Val) : List (Option Val) :=
  [some (.str (S A)), some (.str (S Bs)), some (.int mc), none, none, some (.ref 0), res, bi, bc, dist, mn, none, none, none, none, none, none, none, none, none, none]
noncomputable def ivs (A Bs : List Nat) (mc : Int) (bi : Int) (bc : Nat) (s : LSt) : List (Option Val) := lvs A Bs mc (some (.int bi)) (some (.str (sgn bc))) (some (.int s.dist)) (some (.int s.mn)) (some (.int s.res))
end
noncomputable def levInner : Stmt → List Stmt
  | .For _ _ b _ _ => b
  | _ => []
noncomputable def levOuter := levInner (nth levBody 15)
noncomputable def levIn := levInner (nth levOuter 3)
section
variable {B : Wd} {a : Ad} {n : Nat}
theorem lev_inner (F : FLev B a) (A Bs : List Nat) (mc bi : Int) (bc : Nat) (s : LSt) (j : Nat) (hj : j < A.length) (hA : A.length ≤ 40) (hrow : s.row.length = A.length) :
    Exs B (n + 1) levScope ((ivs A Bs mc bi bc s).set 11 (some (.int (j : Int)))) [intsV s.row] levIn .next (ivs A Bs mc bi bc (lstep A bc s (j : Int))) [intsV (lstep A bc s (j : Int)).row] := by
  have sl := sizeLine_eq
  have hc : A[j]? = some (A.getD j 0) := by rw [List.getD_eq_getElem?_getD, List.getElem?_eq_getElem hj]; rfl
  have hd : (intsV s.row)[j]? = some (.int (s.row.getD j 0)) := by
    unfold intsV
    rw [List.getElem?_map, List.getD_eq_getElem?_getD, List.getElem?_eq_getElem (by omega)]; rfl
  have hl : (intsV s.row).length = A.length := by unfold intsV; rw [List.length_map]; exact hrow
  have hset : ∀ (r : Int), (intsV s.row).set j (.int r) = intsV (s.row.set j r) := fun r => by unfold intsV; rw [List.map_set]
  refine Exs.cons (Ex.assign 12 rfl (.inl rfl) (Ev.bin (Ev.local 9 rfl rfl) (Ev.callD (Ev.gval 19 rfl F.sub) F.fsub.isFn (.cons (Ev.local 8 rfl rfl) (.cons (Ev.sub (Ev.local 0 rfl rfl) (Ev.local 11 rfl rfl) (Itm.str (S_at hc) (by constructor <;> omega))) .nil)) ((sub_fn F.toFSub _ _ (Nat.le_of_ble_eq_true rfl) (Nat.le_of_ble_eq_true rfl)).fn rfl _)) Op2.add)) ?_
  refine Exs.cons (Ex.assign 9 rfl (.inl rfl) (Ev.sub (Ev.local 5 rfl rfl) (Ev.local 11 rfl rfl) (Itm.list j (.own rfl) hd rfl (by omega)))) ?_
  refine Exs.cons (Ex.assign 13 rfl (.inl rfl) (Ev.bin (Ev.callB (Ev.builtin 20 rfl F.b_min boot_min (by decide)) (.cons (Ev.local 6 rfl rfl) (.cons (Ev.local 9 rfl rfl) .nil)) OpS.min2) (Ev.gint 14 rfl F.move) Op2.add)) ?_
  refine Exs.cons (Ex.assign 6 rfl (.inl rfl) (Ev.callB (Ev.builtin 20 rfl F.b_min boot_min (by decide)) (.cons (Ev.local 13 rfl rfl) (.cons (Ev.local 12 rfl rfl) .nil)) OpS.min2)) ?_
  refine Exs.cons (Ex.setI (Ev.local 5 rfl rfl) (Ev.local 6 rfl rfl) (Ev.local 11 rfl rfl) rfl rfl (by rw [hl]; exact hj) (by omega)) ?_
  have wk : ∀ {v1 v2 v3 v4 v5 v6 v7 v8 v9 v10 v11 v12 : Option Val}, Weak [v1, v2, v3, v9, v10, v4, v5, v6, v7, v8, v11, some (.int (j : Int)), v12, some (.int ((if s.row.getD j 0 < s.res then s.row.getD j 0 else s.res) + 2)), none, none, none, none, none, none, none] [v1, v2, v3, v9, v10, v4, v5, v6, v7, v8, v11, none, none, none, none, none, none, none, none, none, none] := fun {_ _ _ _ _ _ _ _ _ _ _ _} => by
    repeat (first | exact Weak.refl _ | apply Weak.keep | apply Weak.forget)
  rw [hset]
  cases hm : decide ((lstep A bc s (j : Int)).res < s.mn) with
  | true =>
    have e : (lstep A bc s (j : Int)).mn = (lstep A bc s (j : Int)).res := by
      have := of_decide_eq_true hm
      unfold lstep at this ⊢
      dsimp only at this ⊢
      rw [if_pos this]
    refine Exs.weak (Exs.one (Ex.ite ((Tr.cmp (Ev.local 6 rfl rfl) (Ev.local 10 rfl rfl) Op2.lt).eq hm) (fun _ => Exs.one (Ex.assign 10 rfl (.inl rfl) (Ev.local 6 rfl rfl))) (fun q => by cases q))) ?_
    unfold ivs lvs
    rw [e]
    exact wk
  | false =>
    have e : (lstep A bc s (j : Int)).mn = s.mn := by
      have := of_decide_eq_false hm
      unfold lstep at this ⊢
      dsimp only at this ⊢
      rw [if_neg this]
    refine Exs.weak (Exs.one (Ex.ite ((Tr.cmp (Ev.local 6 rfl rfl) (Ev.local 10 rfl rfl) Op2.lt).eq hm) (fun q => by cases q) (fun _ => Exs.nil))) ?_
    unfold ivs lvs
    rw [e]
    exact wk
theorem lstep_row (A : List Nat) (bc : Nat) (s : LSt) (i : Int) : (lstep A bc s i).row.length = s.row.length := by unfold lstep; simp
theorem lev_row (F : FLev B a) (A Bs : List Nat) (mc bi : Int) (bc : Nat) (s : LSt) (hA : A.length ≤ 40) (hrow : s.row.length = A.length) :
    Ex B (n + 1) levScope (ivs A Bs mc bi bc s) [intsV s.row] (nth levOuter 3) .next (ivs A Bs mc bi bc ((rng 0 A.length).foldl (lstep A bc) s)) [intsV ((rng 0 A.length).foldl (lstep A bc) s).row] := by
  have sl := sizeLine_eq
  have hl : (rng 0 (A.length : Int)).length = A.length := by unfold rng; simp
  refine Ex.forL (f := .next) (Itr.range1 (Ev.builtin 18 rfl F.b_range boot_range (by decide)) (Ev.callB (Ev.builtin 15 rfl F.b_len boot_len (by decide)) (.cons (Ev.local 0 rfl rfl) .nil) ((OpS.lenS (by rw [S_len]; omega)))) ?_ (by rw [S_len, hl]; omega)) ?_ (fun _ => Exs.nil) (fun q => by cases q) (fun v q => by cases q)
  · rw [S_len]; constructor <;> omega
  · rw [S_len]
    exact Lp.fold Val.int (ivs A Bs mc bi bc) (fun s => [intsV s.row]) (lstep A bc) (fun i s => (ivs A Bs mc bi bc s).set 11 (some (.int i))) (fun i s => As.name 11 rfl (.inl rfl)) (rng 0 A.length)
      (fun _ s => s.row.length = A.length) (fun j i s _ h => by rw [lstep_row]; exact h) (fun j i s hj h => by
        have hlt := (List.getElem?_eq_some_iff.mp hj).1
        have := rng_at hj
        rw [Int.zero_add] at this
        subst this
        exact lev_inner F A Bs mc bi bc s j (by omega) hA h) s hrow
theorem rng_nil {lo hi : Int} (h : hi ≤ lo) : rng lo hi = [] := by
  unfold rng
  have : (hi - lo).toNat = 0 := by omega
  rw [this]; rfl
theorem rng_cons {lo hi : Int} (h : lo < hi) : rng lo hi = lo :: rng (lo + 1) hi := by
  unfold rng
  obtain ⟨k, hk⟩ : ∃ k : Nat, (hi - lo).toNat = k + 1 := ⟨(hi - lo).toNat - 1, by omega⟩
  have h2 : (hi - (lo + 1)).toNat = k := by omega
  rw [hk, h2, List.range_succ_eq_map, List.map_cons, List.map_map]
  congr 1
  · simp
  · apply List.map_congr_left
    intro i _
    show lo + ((i + 1 : Nat) : Int) = lo + 1 + (i : Int)
    omega
noncomputable def forTg : Stmt → Expr
  | .For t _ _ _ _ => t
  | _ => .Name "" ⟨0, 0, 0, 0⟩
theorem lev_turn (F : FLev B a) (A Bs : List Nat) (mc : Int) (bi : Nat) (c : Nat) (row : List Int) (res : Int) (hA : A.length ≤ 40) (hB : Bs.length ≤ 40) (hrow : row.length = A.length) (hc : Bs[bi]? = some c) :
    (¬ (lrow A c bi row).mn > mc → Exs B (n + 1) levScope ((lvs A Bs mc none none none none (some (.int res))).set 7 (some (.int (bi : Int)))) [intsV row] levOuter .next (lvs A Bs mc none none none none (some (.int (lrow A c bi row).res))) [intsV (lrow A c bi row).row]) ∧
    ((lrow A c bi row).mn > mc → ∃ vs' σ', Exs B (n + 1) levScope ((lvs A Bs mc none none none none (some (.int res))).set 7 (some (.int (bi : Int)))) [intsV row] levOuter (.ret (.int (mc + 1))) vs' σ') := by
  have sl := sizeLine_eq
  have hbi := (List.getElem?_eq_some_iff.mp hc).1
  have pre : ∀ {f : Fl} {vs' : List (Option Val)} {σ' : Store}, Exs B (n + 1) levScope (ivs A Bs mc bi c (lrow A c bi row)) [intsV (lrow A c bi row).row] [nth levOuter 4] f vs' σ' →
      Exs B (n + 1) levScope ((lvs A Bs mc none none none none (some (.int res))).set 7 (some (.int (bi : Int)))) [intsV row] levOuter f vs' σ' := fun h => by
    refine Exs.cons (Ex.assign 8 rfl (.inl rfl) (Ev.sub (Ev.local 1 rfl rfl) (Ev.local 7 rfl rfl) (Itm.str (S_at hc) (by constructor <;> omega)))) ?_
    refine Exs.cons (Ex.assign2 9 6 rfl (.inl rfl) rfl (.inl rfl) (Ev.bin (Ev.local 7 rfl rfl) (Ev.gint 14 rfl F.move) (Op2.mul (IntMulOk.of_right (by decide))))) ?_
    refine Exs.cons (Ex.assign 10 rfl (.inl rfl) Ev.cint) ?_
    exact Exs.cons (lev_row F A Bs mc bi c ⟨bi * 2, bi * 2, 9223372036854775807, row⟩ hA hrow) h
  constructor
  · intro hm
    refine pre (Exs.weak (Exs.one (Ex.ite ((Tr.cmp (Ev.local 10 rfl rfl) (Ev.local 2 rfl rfl) Op2.gt).eq (decide_eq_false hm)) (fun q => by cases q) (fun _ => Exs.nil))) ?_)
    unfold ivs lvs
    repeat (first | exact Weak.refl _ | apply Weak.keep | apply Weak.forget)
  · intro hm
    exact ⟨_, _, pre (Exs.one (Ex.ite ((Tr.cmp (Ev.local 10 rfl rfl) (Ev.local 2 rfl rfl) Op2.gt).eq (decide_eq_true hm)) (fun _ => Exs.one (Ex.ret (Ev.bin (Ev.local 2 rfl rfl) Ev.cint Op2.add))) (fun q => by cases q)))⟩
theorem lev_rows (F : FLev B a) (A Bs : List Nat) (mc : Int) (hA : A.length ≤ 40) (hB : Bs.length ≤ 40) : ∀ (cs : List Nat) (k : Nat) (row : List Int) (res : Int), Bs.drop k = cs → k ≤ Bs.length → row.length = A.length →
    ∃ f vs' σ', Lp B (n + 1) levScope (forTg (nth levBody 15)) levOuter (intsV (rng k Bs.length)) (lvs A Bs mc none none none none (some (.int res))) [intsV row] f vs' σ' ∧
      (f = .ret (.int (lrows A mc cs k row res)) ∨ (f = .next ∧ vs' = lvs A Bs mc none none none none (some (.int (lrows A mc cs k row res)))))
  | [], k, row, res, hk, hle, hrow => by
    have : Bs.length ≤ k := List.drop_eq_nil_iff.mp hk
    rw [rng_nil (by omega)]
    exact ⟨_, _, _, .nil, .inr ⟨rfl, rfl⟩⟩
  | c :: cs, k, row, res, hk, hle, hrow => by
    have hc : Bs[k]? = some c := by rw [← Nat.add_zero k, ← List.getElem?_drop, hk]; rfl
    have hlt := (List.getElem?_eq_some_iff.mp hc).1
    have hk' : Bs.drop (k + 1) = cs := by rw [← List.tail_drop, hk]; rfl
    rw [rng_cons (by omega)]
    obtain ⟨t1, t2⟩ := lev_turn (n := n) F A Bs mc k c row res hA hB hrow hc
    unfold lrows
    by_cases hm : (lrow A c k row).mn > mc
    · obtain ⟨vs', σ', h⟩ := t2 hm
      refine ⟨_, _, _, .stop (As.name 7 rfl (.inl rfl)) h (.inr ⟨_, rfl⟩), .inl ?_⟩
      simp only [hm, if_true]
    · have hlen : (lrow A c k row).row.length = A.length := by
        unfold lrow
        have : ∀ (L : List Int) (s : LSt), (L.foldl (lstep A c) s).row.length = s.row.length := by
          intro L
          induction L with
          | nil => intro s; rfl
          | cons i L ih => intro s; rw [List.foldl_cons, ih, lstep_row]
        rw [this]; exact hrow
      obtain ⟨f, vs', σ', h, q⟩ := lev_rows F A Bs mc hA hB cs (k + 1) (lrow A c k row).row (lrow A c k row).res hk' hlt hlen
      refine ⟨f, vs', σ', .next (As.name 7 rfl (.inl rfl)) (t1 hm) (by simpa [intsV] using h), ?_⟩
      simp only [hm, if_false]
      simpa using q
end
end Mine
namespace Mine
open PySem PySem.Spec PySem.Calls PyProof.Rows PySem.W
noncomputable def wTest : Stmt → Expr
  | .While t _ _ _ => t
  | _ => .Name "" ⟨0, 0, 0, 0⟩
noncomputable def wBody : Stmt → List Stmt
  | .While _ b _ _ => b
  | _ => []
section
variable {B : Wd} {a : Ad} {n : Nat}
theorem sl40 {L : List Nat} (h : L.length ≤ 40) : (S L).length ≤ sizeLine := by have := sizeLine_eq; rw [S_len]; omega
noncomputable def pvs (A Bs : List Nat) (mc : Int) (p q : Option Val) : List (Option Val) :=
  [some (.str (S A)), some (.str (S Bs)), some (.int mc), p, q, none, none, none, none, none, none, none, none, none, none, none, none, none, none, none, none]
theorem lenNe {L : List Nat} : (((S L).length : Int) != 0) = !L.isEmpty := by
  rw [S_len]
  cases L with
  | nil => rfl
  | cons x L => simp; omega
noncomputable def goB : List Nat → List Nat → Bool
  | x :: _, y :: _ => decide (x = y)
  | _, _ => false
/-- the first while's test -/
theorem lev_t1 (A Bs : List Nat) (mc : Int) (q : Option Val) (k : Nat) (hA : A.length ≤ 40) (hB : Bs.length ≤ 40) (hk : k ≤ 40) :
    Tr B n levScope (pvs A Bs mc (some (.int (k : Int))) q) [] (wTest (nth levBody 2)) (goB (A.drop k) (Bs.drop k)) := by
  cases ha : A.drop k with
  | nil =>
    refine Tr.and ((Tr.of (EvN.slices (Ev.local 0 rfl rfl) (.int (Ev.local 3 rfl rfl)) .none (sl40 hA)) (Tv.str (by rw [S_from]; exact sl40 (by rw [List.length_drop]; omega)))).eq (by rw [S_from, lenNe, ha])) (fun h => by cases h) (fun _ => rfl)
  | cons x xs =>
    have hx : A[k]? = some x := by rw [← Nat.add_zero k, ← List.getElem?_drop, ha]; rfl
    refine Tr.and ((Tr.of (EvN.slices (Ev.local 0 rfl rfl) (.int (Ev.local 3 rfl rfl)) .none (sl40 hA)) (Tv.str (by rw [S_from]; exact sl40 (by rw [List.length_drop]; omega)))).eq (by rw [S_from, lenNe, ha])) (fun _ => ?_) (fun h => by cases h)
    cases hb : Bs.drop k with
    | nil =>
      exact Tr.and ((Tr.of (EvN.slices (Ev.local 1 rfl rfl) (.int (Ev.local 3 rfl rfl)) .none (sl40 hB)) (Tv.str (by rw [S_from]; exact sl40 (by rw [List.length_drop]; omega)))).eq (by rw [S_from, lenNe, hb])) (fun h => by cases h) (fun _ => rfl)
    | cons y ys =>
      have hy : Bs[k]? = some y := by rw [← Nat.add_zero k, ← List.getElem?_drop, hb]; rfl
      refine Tr.and ((Tr.of (EvN.slices (Ev.local 1 rfl rfl) (.int (Ev.local 3 rfl rfl)) .none (sl40 hB)) (Tv.str (by rw [S_from]; exact sl40 (by rw [List.length_drop]; omega)))).eq (by rw [S_from, lenNe, hb])) (fun _ => ?_) (fun h => by cases h)
      refine Tr.and ((Tr.cmp (Ev.sub (Ev.local 0 rfl rfl) (Ev.local 3 rfl rfl) (Itm.str (S_at hx) (by constructor <;> omega))) (Ev.sub (Ev.local 1 rfl rfl) (Ev.local 3 rfl rfl) (Itm.str (S_at hy) (by constructor <;> omega))) Op2.seq).eq (d' := decide (x = y)) ?_) (fun h => by show Tr B n levScope _ _ _ (decide (x = y)); rw [h]; exact Tr.andNil) (fun h => h)
      show (S [x] == S [y]) = _
      rw [S_beq, Bool.eq_iff_iff]
      simp
theorem lev_w1 (A Bs : List Nat) (mc : Int) (q : Option Val) (hA : A.length ≤ 40) (hB : Bs.length ≤ 40) : ∀ (m k : Nat), together (A.drop k) (Bs.drop k) = m → k + m ≤ 40 →
    Wh B n levScope (wTest (nth levBody 2)) (wBody (nth levBody 2)) m (pvs A Bs mc (some (.int (k : Int))) q) [] .next (pvs A Bs mc (some (.int ((k + m : Nat) : Int))) q) []
  | 0, k, h, hk => by
    have t := lev_t1 (B := B) (n := n) A Bs mc q k hA hB hk
    refine .done (t.eq (d' := false) ?_)
    cases ha : A.drop k with
    | nil => rfl
    | cons x xs =>
      cases hb : Bs.drop k with
      | nil => rfl
      | cons y ys =>
        rw [ha, hb] at h
        unfold together at h
        split at h
        · omega
        · rename_i hne; simp [goB, hne]
  | m + 1, k, h, hk => by
    have t := lev_t1 (B := B) (n := n) A Bs mc q k hA hB (by omega)
    cases ha : A.drop k with
    | nil => rw [ha] at h; unfold together at h; cases h
    | cons x xs =>
      cases hb : Bs.drop k with
      | nil => rw [ha, hb] at h; unfold together at h; cases h
      | cons y ys =>
        rw [ha, hb] at h t
        unfold together at h
        split at h
        · rename_i hxy
          have ha' : A.drop (k + 1) = xs := by rw [← List.tail_drop, ha]; rfl
          have hb' : Bs.drop (k + 1) = ys := by rw [← List.tail_drop, hb]; rfl
          have ih := lev_w1 A Bs mc q hA hB m (k + 1) (by rw [ha', hb']; omega) (by omega)
          refine .next (t.eq (d' := true) (by simp [goB, hxy])) (Exs.one (Ex.aug 3 rfl (.inl rfl) rfl Ev.cint Op2.iadd)) ?_
          rw [show k + (m + 1) = k + 1 + m by omega]
          exact ih
        · cases h
theorem S_upto (L : List Nat) (k : Nat) (h : k ≤ L.length) : Txt.slice (S L) none (if k = 0 then none else some (-(k : Int))) = S (L.take (L.length - k)) := by
  by_cases h0 : k = 0
  · subst h0; rw [if_pos rfl, S_whole, Nat.sub_zero, List.take_length]
  · rw [if_neg h0]; exact S_but L k (by omega) h
theorem lev_or {A Bs : List Nat} {mc : Int} {p : Option Val} {k : Nat} {ke : Nat} {p1 p2 p3 : Pos} :
    EvP B n levScope (pvs A Bs mc p (some (.int (-(k : Int))))) [] (some (.BoolOp .Or [.Name "post" p1, .Constant .none ke p2] p3)) (if k = 0 then none else some (-(k : Int))) := by
  by_cases h0 : k = 0
  · subst h0
    rw [if_pos rfl]
    exact .no (Ev.or (Ev.local 4 rfl rfl) Tv.int (fun _ => Ev.or1 Ev.cnone) (fun h => by simp at h))
  · rw [if_neg h0]
    exact .int (Ev.or (Ev.local 4 rfl rfl) Tv.int (fun h => by simp at h; omega) (fun _ => rfl))
theorem take_empty (L : List Nat) (k : Nat) : (L.take (L.length - k)).isEmpty = (L.reverse.drop k).isEmpty := by
  rw [Bool.eq_iff_iff, List.isEmpty_iff, List.isEmpty_iff, ← List.length_eq_zero_iff, ← List.length_eq_zero_iff, List.length_take, List.length_drop, List.length_reverse]
  omega
theorem lev_t2 (A Bs : List Nat) (mc : Int) (p : Option Val) (k : Nat) (hA : A.length ≤ 40) (hB : Bs.length ≤ 40) (h1 : k ≤ A.length) (h2 : k ≤ Bs.length) :
    Tr B n levScope (pvs A Bs mc p (some (.int (-(k : Int))))) [] (wTest (nth levBody 6)) (goB (A.reverse.drop k) (Bs.reverse.drop k)) := by
  cases ha : A.reverse.drop k with
  | nil =>
    exact Tr.and ((Tr.of (EvN.slices (Ev.local 0 rfl rfl) .none lev_or (sl40 hA)) (Tv.str (by rw [S_upto _ _ h1]; exact sl40 (by rw [List.length_take]; omega)))).eq (by rw [S_upto _ _ h1, lenNe, take_empty, ha])) (fun h => by cases h) (fun _ => rfl)
  | cons x xs =>
    have hx : A[A.length - 1 - k]? = some x := by
      have : A.reverse[k]? = some x := by rw [← Nat.add_zero k, ← List.getElem?_drop, ha]; rfl
      have hl := (List.getElem?_eq_some_iff.mp this).1
      rw [List.length_reverse] at hl
      rwa [List.getElem?_reverse hl] at this
    have hla : k < A.length := by
      have := congrArg List.length ha
      rw [List.length_drop, List.length_reverse, List.length_cons] at this
      omega
    refine Tr.and ((Tr.of (EvN.slices (Ev.local 0 rfl rfl) .none lev_or (sl40 hA)) (Tv.str (by rw [S_upto _ _ h1]; exact sl40 (by rw [List.length_take]; omega)))).eq (by rw [S_upto _ _ h1, lenNe, take_empty, ha])) (fun _ => ?_) (fun h => by cases h)
    cases hb : Bs.reverse.drop k with
    | nil =>
      exact Tr.and ((Tr.of (EvN.slices (Ev.local 1 rfl rfl) .none lev_or (sl40 hB)) (Tv.str (by rw [S_upto _ _ h2]; exact sl40 (by rw [List.length_take]; omega)))).eq (by rw [S_upto _ _ h2, lenNe, take_empty, hb])) (fun h => by cases h) (fun _ => rfl)
    | cons y ys =>
      have hy : Bs[Bs.length - 1 - k]? = some y := by
        have : Bs.reverse[k]? = some y := by rw [← Nat.add_zero k, ← List.getElem?_drop, hb]; rfl
        have hl := (List.getElem?_eq_some_iff.mp this).1
        rw [List.length_reverse] at hl
        rwa [List.getElem?_reverse hl] at this
      have hlb : k < Bs.length := by
        have := congrArg List.length hb
        rw [List.length_drop, List.length_reverse, List.length_cons] at this
        omega
      refine Tr.and ((Tr.of (EvN.slices (Ev.local 1 rfl rfl) .none lev_or (sl40 hB)) (Tv.str (by rw [S_upto _ _ h2]; exact sl40 (by rw [List.length_take]; omega)))).eq (by rw [S_upto _ _ h2, lenNe, take_empty, hb])) (fun _ => ?_) (fun h => by cases h)
      refine Tr.and ((Tr.cmp (Ev.sub (Ev.local 0 rfl rfl) (Ev.bin (Ev.local 4 rfl rfl) Ev.cint Op2.sub) (Itm.str (S_atNeg (by omega) hx) (by constructor <;> omega))) (Ev.sub (Ev.local 1 rfl rfl) (Ev.bin (Ev.local 4 rfl rfl) Ev.cint Op2.sub) (Itm.str (S_atNeg (by omega) hy) (by constructor <;> omega))) Op2.seq).eq (d' := decide (x = y)) ?_) (fun h => by show Tr B n levScope _ _ _ (decide (x = y)); rw [h]; exact Tr.andNil) (fun h => h)
      show (S [x] == S [y]) = _
      rw [S_beq, Bool.eq_iff_iff]
      simp
theorem together_le : ∀ (A Bs : List Nat), together A Bs ≤ A.length ∧ together A Bs ≤ Bs.length
  | [], _ => by simp [together]
  | _ :: _, [] => by simp [together]
  | x :: xs, y :: ys => by
    have := together_le xs ys
    unfold together
    split
    · simp only [List.length_cons]; omega
    · simp
theorem lev_w2 (A Bs : List Nat) (mc : Int) (p : Option Val) (hA : A.length ≤ 40) (hB : Bs.length ≤ 40) : ∀ (m k : Nat), together (A.reverse.drop k) (Bs.reverse.drop k) = m → k + m ≤ A.length → k + m ≤ Bs.length →
    Wh B n levScope (wTest (nth levBody 6)) (wBody (nth levBody 6)) m (pvs A Bs mc p (some (.int (-(k : Int))))) [] .next (pvs A Bs mc p (some (.int (-((k + m : Nat) : Int))))) []
  | 0, k, h, h1, h2 => by
    have t := lev_t2 (B := B) (n := n) A Bs mc p k hA hB (by omega) (by omega)
    refine .done (t.eq (d' := false) ?_)
    cases ha : A.reverse.drop k with
    | nil => rfl
    | cons x xs =>
      cases hb : Bs.reverse.drop k with
      | nil => rfl
      | cons y ys =>
        rw [ha, hb] at h
        unfold together at h
        split at h
        · omega
        · rename_i hne; simp [goB, hne]
  | m + 1, k, h, h1, h2 => by
    have t := lev_t2 (B := B) (n := n) A Bs mc p k hA hB (by omega) (by omega)
    cases ha : A.reverse.drop k with
    | nil => rw [ha] at h; unfold together at h; cases h
    | cons x xs =>
      cases hb : Bs.reverse.drop k with
      | nil => rw [ha, hb] at h; unfold together at h; cases h
      | cons y ys =>
        rw [ha, hb] at h t
        unfold together at h
        split at h
        · rename_i hxy
          have ha' : A.reverse.drop (k + 1) = xs := by rw [← List.tail_drop, ha]; rfl
          have hb' : Bs.reverse.drop (k + 1) = ys := by rw [← List.tail_drop, hb]; rfl
          have ih := lev_w2 A Bs mc p hA hB m (k + 1) (by rw [ha', hb']; omega) (by omega) (by omega)
          refine .next (t.eq (d' := true) (by simp [goB, hxy])) (Exs.one (Ex.aug 4 rfl (.inl rfl) rfl Ev.cint Op2.isub)) ?_
          rw [show k + (m + 1) = k + 1 + m by omega]
          rw [show -((k + 1 : Nat) : Int) = -(k : Int) - 1 by omega] at ih
          exact ih
        · cases h
end
end Mine
namespace Mine
open PySem PySem.Spec PySem.Calls PyProof.Rows PySem.W
noncomputable def row0 (m : Nat) : List Int := (List.range m).map fun (i : Nat) => (2 : Int) + (i : Int) * 2
/-- the distance of two lists of one length, as the text reckons it -/
noncomputable def lev (A Bs : List Nat) (mc : Int) : Int :=
  if A = Bs then 0 else
    let p := together A Bs
    let P := A.drop p
    let R := Bs.drop p
    let q := together P.reverse R.reverse
    let P' := P.take (P.length - q)
    let R' := R.take (R.length - q)
    if P' = [] then 0 else lrows P' mc R' 0 (row0 P'.length) 0
section
variable {B : Wd} {a : Ad} {n : Nat}
theorem range_small {m : Nat} (h : m ≤ 40) (h0 : 0 < m) : Builtin.Range.rangeSize 2 (2 * ((m : Int) + 1)) 2 = (m : Nat) ∧ Builtin.Range.small 2 (2 * ((m : Int) + 1)) 2 = true := by
  have e : Builtin.Range.rangeSize 2 (2 * ((m : Int) + 1)) 2 = (m : Nat) := by
    unfold Builtin.Range.rangeSize
    rw [if_pos (by decide), if_pos (by omega)]
    omega
  refine ⟨e, ?_⟩
  unfold Builtin.Range.small
  rw [e]
  unfold Builtin.Range.rangeFitsLong
  simp only [show (2 : Int) > 0 by decide, if_true, Bool.and_eq_true, Bool.or_eq_true, decide_eq_true_eq, beq_iff_eq]
  refine ⟨⟨⟨⟨?_, ?_⟩, ?_⟩, ?_⟩, .inr ?_⟩ <;> constructor <;> omega
theorem lev_fn (F : FLev B a) (A Bs : List Nat) (mc : Int) (hA : A.length ≤ 40) (hl : A.length = Bs.length) (hmc : 0 ≤ mc) : FnP B (n + 2) a.lev [.str (S A), .str (S Bs), .int mc] (.int (lev A Bs mc)) := by
  have sl := sizeLine_eq
  refine FnP.mk F.still F.flev lev_pos rfl rfl (by decide) rfl ?_
  show ∃ vs' σ', Exs B (n + 1) levScope (pvs A Bs mc none none) [] levBody _ vs' σ'
  unfold lev
  by_cases hab : A = Bs
  · rw [if_pos hab]
    exact ⟨_, _, Exs.ifT ((Tr.cmp (Ev.local 0 rfl rfl) (Ev.local 1 rfl rfl) Op2.seq).eq (by rw [S_beq, hab]; simp)) (Exs.one (Ex.ret Ev.cint)) Fl.ret_ne⟩
  rw [if_neg hab]
  dsimp only
  have hB : Bs.length ≤ 40 := by omega
  have hp := together_le A Bs
  generalize hpe : together A Bs = p at hp
  have w1 := lev_w1 (B := B) (n := n + 1) A Bs mc none hA hB p 0 (by simpa using hpe) (by omega)
  have hP : (A.drop p).length ≤ 40 := by rw [List.length_drop]; omega
  have hR : (Bs.drop p).length ≤ 40 := by rw [List.length_drop]; omega
  have hPR : (A.drop p).length = (Bs.drop p).length := by rw [List.length_drop, List.length_drop, hl]
  generalize hPe : A.drop p = P at hP hPR
  generalize hRe : Bs.drop p = R at hR hPR
  have hq := together_le P.reverse R.reverse
  rw [List.length_reverse, List.length_reverse] at hq
  generalize hqe : together P.reverse R.reverse = q at hq
  have w2 := lev_w2 (B := B) (n := n + 1) P R mc (some (.int ((0 + p : Nat) : Int))) hP hR q 0 (by simpa using hqe) (by omega) (by omega)
  have hP' : (P.take (P.length - q)).length ≤ 40 := by rw [List.length_take]; omega
  have hPR' : (P.take (P.length - q)).length = (R.take (R.length - q)).length := by rw [List.length_take, List.length_take, hPR]
  generalize hPe' : P.take (P.length - q) = P' at hP' hPR'
  generalize hRe' : R.take (R.length - q) = R' at hPR'
  have pre : ∀ {f : Fl} {vs' : List (Option Val)} {σ' : Store}, Exs B (n + 1) levScope (pvs P' R' mc (some (.int ((0 + p : Nat) : Int))) (some (.int (-((0 + q : Nat) : Int))))) [] (levBody.drop 9) f vs' σ' → Exs B (n + 1) levScope (pvs A Bs mc none none) [] levBody f vs' σ' := fun h => by
    refine Exs.ifF ((Tr.cmp (Ev.local 0 rfl rfl) (Ev.local 1 rfl rfl) Op2.seq).eq (by rw [S_beq]; simpa using hab)) ?_
    refine Exs.cons (Ex.assign 3 rfl (.inl rfl) Ev.cint) ?_
    refine Exs.cons (Ex.whileL w1) ?_
    refine Exs.cons (Ex.assign 0 rfl (.inl rfl) ((EvN.slices (Ev.local 0 rfl rfl) (.int (Ev.local 3 rfl rfl)) .none (sl40 hA)).eq (b := .str (S P)) (by rw [S_from, Nat.zero_add, hPe]))) ?_
    refine Exs.cons (Ex.assign 1 rfl (.inl rfl) ((EvN.slices (Ev.local 1 rfl rfl) (.int (Ev.local 3 rfl rfl)) .none (sl40 hB)).eq (b := .str (S R)) (by rw [S_from, Nat.zero_add, hRe]))) ?_
    refine Exs.cons (Ex.assign 4 rfl (.inl rfl) Ev.cint) ?_
    refine Exs.cons (Ex.whileL w2) ?_
    refine Exs.cons (Ex.assign 0 rfl (.inl rfl) ((EvN.slices (vs := pvs P R mc (some (.int ((0 + p : Nat) : Int))) (some (.int (-((0 + q : Nat) : Int))))) (Ev.local 0 rfl rfl) .none lev_or (sl40 hP)).eq (b := .str (S P')) (by rw [S_upto _ _ (by omega), Nat.zero_add, hPe']))) ?_
    refine Exs.cons (Ex.assign 1 rfl (.inl rfl) ((EvN.slices (vs := pvs P' R mc (some (.int ((0 + p : Nat) : Int))) (some (.int (-((0 + q : Nat) : Int))))) (Ev.local 1 rfl rfl) .none lev_or (sl40 hR)).eq (b := .str (S R')) (by rw [S_upto _ _ (by omega), Nat.zero_add, hRe']))) ?_
    exact h
  have lenA : ∀ {σ : Store} {vs : List (Option Val)} {pos : Pos} {p1 p2 : Pos}, vs[0]? = some (some (.str (S P'))) → Ev B (n + 1) levScope vs σ (.Call (.Name "len" p1) [.Name "a" p2] [] pos) (.int (P'.length : Int)) := fun h =>
    (Ev.callB (Ev.builtin 15 rfl F.b_len boot_len (by decide)) (.cons (Ev.local 0 rfl h) .nil) (OpS.lenS (sl40 hP'))).eq (by rw [S_len])
  have lenB : ∀ {σ : Store} {vs : List (Option Val)} {pos : Pos} {p1 p2 : Pos}, vs[1]? = some (some (.str (S R'))) → Ev B (n + 1) levScope vs σ (.Call (.Name "len" p1) [.Name "b" p2] [] pos) (.int (P'.length : Int)) := fun h =>
    (Ev.callB (Ev.builtin 15 rfl F.b_len boot_len (by decide)) (.cons (Ev.local 1 rfl h) .nil) (OpS.lenS (sl40 (by omega)))).eq (by rw [S_len, ← hPR'])
  have z1 : ¬ ((P'.length : Int) > 40) := by omega
  have z2 : ¬ ((P'.length : Int) < (P'.length : Int)) := by omega
  have z3 : ¬ (((P'.length : Int) - (P'.length : Int)) * 2 > mc) := by rw [Int.sub_self, Int.zero_mul]; omega
  have em : R'.isEmpty = P'.isEmpty := by
    rw [Bool.eq_iff_iff, List.isEmpty_iff, List.isEmpty_iff, ← List.length_eq_zero_iff, ← List.length_eq_zero_iff, hPR']
  by_cases he : P' = []
  · rw [if_pos he]
    refine ⟨_, _, pre (Exs.ifT (Tr.or ((Tr.not (Tr.of (Ev.local 0 rfl rfl) (Tv.str (sl40 hP')))).eq (d' := true) (by rw [lenNe, he]; rfl)) (fun h => by cases h) (fun _ => rfl)) (Exs.one (Ex.ret ((Ev.bin (Ev.gint 14 rfl F.move) (Ev.bin (lenA rfl) (lenB rfl) Op2.add) (Op2.mul (IntMulOk.of_left (by decide)))).eq ?_))) Fl.ret_ne)⟩
    rw [he]; rfl
  · rw [if_neg he]
    have ie : P'.isEmpty = false := by rw [Bool.eq_false_iff]; intro h; exact he (List.isEmpty_iff.mp h)
    have pos0 : 0 < P'.length := List.length_pos_iff.mpr he
    obtain ⟨rs, rm⟩ := range_small hP' pos0
    have tail : ∀ {f : Fl} {vs' : List (Option Val)} {σ' : Store}, Exs B (n + 1) levScope (lvs P' R' mc none none none none (some (.int 0))) [intsV (row0 P'.length)] (levBody.drop 15) f vs' σ' → ∃ vs' σ', Exs B (n + 1) levScope (pvs A Bs mc none none) [] levBody f vs' σ' := fun {f vs' σ'} h => by
      refine ⟨vs', σ', pre ?_⟩
      refine Exs.ifF (Tr.or ((Tr.not (Tr.of (Ev.local 0 rfl rfl) (Tv.str (sl40 hP')))).eq (d' := false) (by rw [lenNe, ie]; rfl)) (fun _ => Tr.or ((Tr.not (Tr.of (Ev.local 1 rfl rfl) (Tv.str (sl40 (by omega))))).eq (d' := false) (by rw [lenNe, em, ie]; rfl)) (fun _ => Tr.orNil) (fun h => by cases h)) (fun h => by cases h)) ?_
      refine Exs.ifF (Tr.or ((Tr.cmp (lenA rfl) (Ev.gint 16 rfl F.maxs) Op2.gt).eq (d' := false) (decide_eq_false z1)) (fun _ => Tr.or ((Tr.cmp (lenB rfl) (Ev.gint 16 rfl F.maxs) Op2.gt).eq (d' := false) (decide_eq_false z1)) (fun _ => Tr.orNil) (fun h => by cases h)) (fun h => by cases h)) ?_
      refine Exs.ifF ((Tr.cmp (lenB rfl) (lenA rfl) Op2.lt).eq (decide_eq_false z2)) ?_
      refine Exs.ifF ((Tr.cmp (Ev.bin (Ev.bin (lenB rfl) (lenA rfl) Op2.sub) (Ev.gint 14 rfl F.move) (Op2.mul (IntMulOk.of_right (by decide)))) (Ev.local 2 rfl rfl) Op2.gt).eq (decide_eq_false z3)) ?_
      refine Exs.cons (Ex.assignN 5 rfl (.inl rfl) (EvN.listRange (m := P'.length) (Ev.builtin 17 rfl F.b_list boot_list (by decide)) (Ev.builtin 18 rfl F.b_range boot_range (by decide)) (Ev.gint 14 rfl F.move) (Ev.bin (Ev.gint 14 rfl F.move) (Ev.bin (lenA rfl) Ev.cint Op2.add) (Op2.mul (IntMulOk.of_left (by decide)))) (Ev.gint 14 rfl F.move) (by decide) rm rs (by omega) (PyProof.noPylong_small (by decide)))) ?_
      refine Exs.cons (Ex.assign 6 rfl (.inl rfl) Ev.cint) ?_
      refine Exs.pre h ?_
      unfold lvs
      repeat (first | exact Weak.refl _ | apply Weak.keep | apply Weak.forget)
    obtain ⟨f, vs', σ', hL, hq⟩ := lev_rows (n := n) F P' R' mc hP' (by omega) R' 0 (row0 P'.length) 0 rfl (by omega) (by unfold row0; simp)
    have hrl : (rng 0 (R'.length : Int)).length ≤ sizeLine := by unfold rng; simp; omega
    rcases hq with rfl | ⟨rfl, rfl⟩
    · refine tail (Exs.stop (Ex.forL (Itr.range1 (Ev.builtin 18 rfl F.b_range boot_range (by decide)) ((lenB rfl).eq (b := .int (R'.length : Int)) (by rw [hPR'])) (by constructor <;> omega) hrl) hL (fun q => by cases q) (fun q => by cases q) (fun v q => ⟨q, rfl, rfl⟩)) Fl.ret_ne)
    · refine tail (Exs.cons (Ex.forL (f' := .next) (Itr.range1 (Ev.builtin 18 rfl F.b_range boot_range (by decide)) ((lenB rfl).eq (b := .int (R'.length : Int)) (by rw [hPR'])) (by constructor <;> omega) hrl) hL (fun _ => Exs.nil) (fun q => by cases q) (fun v q => by cases q)) (Exs.one (Ex.ret (Ev.local 6 rfl rfl))))
end
end Mine
namespace Mine
open PySem PySem.Spec PySem.Calls PyProof.Rows PySem.W
-- pretty_flags
noncomputable def pfStmt := nth top 16
noncomputable def pfBody := fBody pfStmt
noncomputable def pfScope := fScope pfStmt
noncomputable def pfPar := fPar pfStmt
noncomputable def flagsD : List (PyData × PyData) := [(.int 1, .str "OPTIMIZED"), (.int 2, .str "NEWLOCALS"), (.int 4, .str "VARARGS"), (.int 8, .str "VARKEYWORDS"), (.int 16, .str "NESTED"), (.int 32, .str "GENERATOR"), (.int 64, .str "NOFREE"), (.int 128, .str "COROUTINE"), (.int 256, .str "ITERABLE_COROUTINE"), (.int 512, .str "ASYNC_GENERATOR")]
structure FPf (B : Wd) (a : Ad) (fl : Addr) : Prop where
  still : B.grows = false
  flags : nsIn B.K mainGlobals "COMPILER_FLAG_NAMES" = some (some (.ref fl))
  tab : TabAt (PySem.intKind B.prog B.w) PyData.int B.h₀ fl flagsD
  pretty : nsIn B.K mainGlobals "pretty_flags" = some (some (.ref a.pretty))
  fpretty : FnOK B.K a.pretty pfPar pfBody pfScope .none .none
  b_range : nsIn B.K mainGlobals "range" = some none
  b_hex : nsIn B.K mainGlobals "hex" = some none
theorem pf_pos : ByPos pfPar .none .none (parN pfScope 1) := fun s fd xs h1 h2 h3 hl => by
  obtain ⟨x, rfl⟩ := one_of hl
  exact BindsTo.of_eq (by cases fd; simp only at h1 h2 h3; subst h1; subst h2; subst h3; rfl)
noncomputable def hexT (i : Int) : Str := baseText "0x" 16 i
noncomputable def strOf : PyData → Str
  | .str x => x
  | _ => Str.empty
noncomputable def isStrP : PyData → Bool
  | .str _ => true
  | _ => false
noncomputable def flagName (i : Nat) : Str := strOf ((lookup (.int (1 * 2 ^ i)) flagsD).getD (.str (hexT (1 * 2 ^ i))))
theorem flag_facts : ∀ i < 32, (isStrP ((lookup (.int (1 * 2 ^ i)) flagsD).getD (.str (hexT (1 * 2 ^ i)))) && decide ((hexT (1 * 2 ^ i)).length ≤ 100)) = true := by decide +kernel
noncomputable def pfLoop : Nat → Nat → List Str → Int → List Str × Int × Bool
  | 0, _, ns, fl => (ns, fl, false)
  | m + 1, k, ns, fl => if Builtin.bitAnd fl (1 * 2 ^ k) ≠ 0 then (if Builtin.bitXor fl (1 * 2 ^ k) = 0 then (ns ++ [flagName k], Builtin.bitXor fl (1 * 2 ^ k), true) else pfLoop m (k + 1) (ns ++ [flagName k]) (Builtin.bitXor fl (1 * 2 ^ k))) else pfLoop m (k + 1) ns fl
noncomputable def pfNames (fl : Int) : List Str := let r := pfLoop 32 0 [] fl; if r.2.2 then r.1 else r.1 ++ [hexT r.2.1]
noncomputable def pfText (fl : Int) : Str := Txt.join ", " (pfNames fl)
/-- what bounds it -/
noncomputable def pfFits (fl : Int) : Bool := decide ((hexT (pfLoop 32 0 [] fl).2.1).length ≤ 1000) && decide (((pfNames fl).map (·.length)).sum + (pfNames fl).length * 2 ≤ 100000)
section
variable {B : Wd} {a : Ad} {fa : Addr} {n : Nat}
noncomputable def thn : Stmt → List Stmt
  | .If _ b _ _ => b
  | _ => []
noncomputable def pvf (fl : Int) : List (Option Val) := [some (.int fl), some (.ref 0), none, none, none, none, none]
theorem pf_turn (F : FPf B a fa) (k : Nat) (hk : k < 32) (ns : List Str) (fl : Int) (hn : ns.length ≤ 32) :
    ∃ f vs' σ', Exs B n pfScope ((pvf fl).set 2 (some (.int (k : Int)))) [strsV ns] (levInner (nth pfBody 1)) f vs' σ' ∧
      (if Builtin.bitAnd fl (1 * 2 ^ k) ≠ 0 then (if Builtin.bitXor fl (1 * 2 ^ k) = 0 then f = .brk else f = .next) ∧ vs' = pvf (Builtin.bitXor fl (1 * 2 ^ k)) ∧ σ' = [strsV (ns ++ [flagName k])] else f = .next ∧ vs' = pvf fl ∧ σ' = [strsV ns]) := by
  obtain ⟨ff1, ff2⟩ := Bool.and_eq_true_iff.mp (flag_facts k hk)
  have ff2 := of_decide_eq_true ff2
  have sl := sizeLine_eq
  have eqn : (lookup (.int (1 * 2 ^ k)) flagsD).getD (.str (hexT (1 * 2 ^ k))) = .str (flagName k) := by
    unfold flagName
    generalize (lookup (.int (1 * 2 ^ k)) flagsD).getD (.str (hexT (1 * 2 ^ k))) = p at ff1
    cases p <;> first | rfl | cases ff1
  have wk : ∀ {x : Option Val} {y : Int}, Weak [some (.int y), some (.ref 0), x, some (.int (1 * 2 ^ k)), none, none, none] (pvf y) := fun {x y} => by
    unfold pvf
    repeat (first | exact Weak.refl _ | apply Weak.keep | apply Weak.forget)
  have e1 : ∀ {vs' : List (Option Val)} {f : Fl} {σ' : Store}, Exs B n pfScope [some (.int fl), some (.ref 0), some (.int (k : Int)), some (.int (1 * 2 ^ k)), none, none, none] [strsV ns] ((levInner (nth pfBody 1)).drop 1) f vs' σ' →
      Exs B n pfScope ((pvf fl).set 2 (some (.int (k : Int)))) [strsV ns] (levInner (nth pfBody 1)) f vs' σ' := fun h => by
    refine Exs.cons (Ex.assign 3 rfl (.inl rfl) (Ev.bin Ev.cint (Ev.local 2 rfl rfl) (Op2.shl (by omega) ?_))) h
    have : Builtin.Int.intBits 1 = 1 := by decide
    rw [this]; omega
  by_cases h : Builtin.bitAnd fl (1 * 2 ^ k) = 0
  · refine ⟨_, _, _, e1 (Exs.weak (Exs.one (Ex.ite ((Tr.of (Ev.bin (Ev.local 0 rfl rfl) (Ev.local 3 rfl rfl) Op2.band) Tv.int).eq (d' := false) ?_) (fun q => by cases q) (fun _ => Exs.nil))) wk), by rw [if_neg (fun q => q h)]; exact ⟨rfl, rfl, rfl⟩⟩
    rw [h]; rfl
  · have hne : Builtin.bitAnd fl (1 * 2 ^ k) ≠ 0 := h
    have app : ∀ {vs' : List (Option Val)} {f : Fl} {σ' : Store} {xs : List Stmt}, Exs B n pfScope [some (.int (Builtin.bitXor fl (1 * 2 ^ k))), some (.ref 0), some (.int (k : Int)), some (.int (1 * 2 ^ k)), none, none, none] [strsV (ns ++ [flagName k])] [nth (thn (nth (levInner (nth pfBody 1)) 1)) 2] f vs' σ' →
        Exs B n pfScope [some (.int fl), some (.ref 0), some (.int (k : Int)), some (.int (1 * 2 ^ k)), none, none, none] [strsV ns] (thn (nth (levInner (nth pfBody 1)) 1)) f vs' σ' := fun {vs' f σ' xs} h => by
      have m := OpM.append (B := B) (n := n) (σ := [strsV ns]) (i := 0) (a := .str (flagName k)) (xs := strsV ns) rfl (by unfold strsV; rw [List.length_map]; omega)
      have e : ([strsV ns] : Store).set 0 (strsV ns ++ [.str (flagName k)]) = [strsV (ns ++ [flagName k])] := by unfold strsV; simp
      rw [e] at m
      refine Exs.cons (Ex.meth (Ev.local 1 rfl rfl) (.cons (Ev.meth (Ev.gval 5 rfl F.flags) (.cons (Ev.local 3 rfl rfl) (.cons (Ev.callB (Ev.builtin 6 rfl F.b_hex boot_hex (by decide)) (.cons (Ev.local 3 rfl rfl) .nil) (OpS.hex (Nat.le_trans ff2 (by omega)))) .nil)) (TyB.tab F.tab) PySem.F.plainAttrs_dict PySem.F.slot_dict_get PySem.F.type_dict_get (OpS.dictGet F.tab eqn)) .nil) PySem.F.slot_list_append PySem.F.type_list_append m) ?_
      exact Exs.cons (Ex.aug 0 rfl (.inl rfl) rfl (Ev.local 3 rfl rfl) Op2.ibxor) h
    by_cases h2 : Builtin.bitXor fl (1 * 2 ^ k) = 0
    · refine ⟨_, _, _, e1 (Exs.weak (Exs.one (Ex.ite ((Tr.of (Ev.bin (Ev.local 0 rfl rfl) (Ev.local 3 rfl rfl) Op2.band) Tv.int).eq (d' := true) ?_) (fun _ => app (xs := []) (Exs.one (Ex.ite ((Tr.not (Tr.of (Ev.local 0 rfl rfl) Tv.int)).eq (d' := true) (by rw [h2]; rfl)) (fun _ => Exs.one Ex.brk) (fun q => by cases q)))) (fun q => by cases q))) wk), by rw [if_pos hne, if_pos h2]; exact ⟨rfl, rfl, rfl⟩⟩
      simpa using h
    · refine ⟨_, _, _, e1 (Exs.weak (Exs.one (Ex.ite ((Tr.of (Ev.bin (Ev.local 0 rfl rfl) (Ev.local 3 rfl rfl) Op2.band) Tv.int).eq (d' := true) ?_) (fun _ => app (xs := []) (Exs.one (Ex.ite ((Tr.not (Tr.of (Ev.local 0 rfl rfl) Tv.int)).eq (d' := false) (by simpa using h2)) (fun q => by cases q) (fun _ => Exs.nil)))) (fun q => by cases q))) wk), by rw [if_pos hne, if_neg h2]; exact ⟨rfl, rfl, rfl⟩⟩
      simpa using h
theorem pf_lp (F : FPf B a fa) : ∀ (m k : Nat), k + m = 32 → ∀ (ns : List Str) (fl : Int), ns.length ≤ k →
    ∃ f vs' σ', Lp B n pfScope (forTg (nth pfBody 1)) (levInner (nth pfBody 1)) (intsV (rng k 32)) (pvf fl) [strsV ns] f vs' σ' ∧ (f = if (pfLoop m k ns fl).2.2 = true then .brk else .next) ∧ vs' = pvf (pfLoop m k ns fl).2.1 ∧ σ' = [strsV (pfLoop m k ns fl).1] ∧ (pfLoop m k ns fl).1.length ≤ 32
  | 0, k, hk, ns, fl, hn => by
    have : k = 32 := by omega
    subst this
    exact ⟨_, _, _, .nil, rfl, rfl, rfl, hn⟩
  | m + 1, k, hk, ns, fl, hn => by
    have e : rng (k : Int) 32 = (k : Int) :: rng ((k + 1 : Nat) : Int) 32 := by rw [rng_cons (by omega)]; rfl
    rw [e]
    obtain ⟨f, vs', σ', hb, hq⟩ := pf_turn (n := n) F k (by omega) ns fl (by omega)
    unfold pfLoop
    by_cases h : Builtin.bitAnd fl (1 * 2 ^ k) ≠ 0
    · rw [if_pos h] at hq
      by_cases h2 : Builtin.bitXor fl (1 * 2 ^ k) = 0
      · rw [if_pos h2] at hq
        obtain ⟨rfl, rfl, rfl⟩ := hq
        refine ⟨_, _, _, .stop (As.name 2 rfl (.inl rfl)) hb (.inl rfl), ?_⟩
        simp only [h, h2, ne_eq, not_false_eq_true, if_true]
        refine ⟨trivial, trivial, trivial, ?_⟩
        simp; omega
      · rw [if_neg h2] at hq
        obtain ⟨rfl, rfl, rfl⟩ := hq
        obtain ⟨f, vs', σ', hl, r⟩ := pf_lp F m (k + 1) (by omega) (ns ++ [flagName k]) (Builtin.bitXor fl (1 * 2 ^ k)) (by simp; omega)
        refine ⟨f, vs', σ', .next (As.name 2 rfl (.inl rfl)) hb hl, ?_⟩
        simp only [h, h2, ne_eq, not_false_eq_true, if_true, if_false]
        exact r
    · rw [if_neg h] at hq
      obtain ⟨rfl, rfl, rfl⟩ := hq
      obtain ⟨f, vs', σ', hl, r⟩ := pf_lp F m (k + 1) (by omega) ns fl (by omega)
      refine ⟨f, vs', σ', .next (As.name 2 rfl (.inl rfl)) hb hl, ?_⟩
      rw [if_neg h]
      exact r
theorem pf_ret (fl g : Int) (ns : List Str) (e : pfNames fl = ns) (f2 : ((pfNames fl).map (·.length)).sum + (pfNames fl).length * 2 ≤ 100000) : Exs B n pfScope (pvf g) [strsV ns] [nth pfBody 2] (.ret (.str (pfText fl))) (pvf g) [strsV ns] := by
  unfold pfText
  generalize pfNames fl = ms at e f2
  subst e
  refine Exs.one (Ex.ret (Ev.meth Ev.cstr (.cons (Ev.local 1 rfl rfl) .nil) TyB.str PySem.F.plainAttrs_str PySem.F.slot_str_join PySem.F.type_str_join (OpS.join (ys := ms) (.own rfl) ?_)))
  show _ + _ * 2 ≤ _
  omega
theorem pf_fn (F : FPf B a fa) (fl : Int) (hf : pfFits fl = true) : FnP B (n + 1) a.pretty [.int fl] (.str (pfText fl)) := by
  have sl := sizeLine_eq
  obtain ⟨f1, f2⟩ := Bool.and_eq_true_iff.mp hf
  have f1 := of_decide_eq_true f1
  have f2 := of_decide_eq_true f2
  refine FnP.mk F.still F.fpretty pf_pos rfl rfl (by decide) rfl ?_
  show ∃ vs' σ', Exs B n pfScope [some (.int fl), none, none, none, none, none, none] [] pfBody _ vs' σ'
  obtain ⟨f, vs', σ', hl, hff, rfl, rfl, hlen⟩ := pf_lp (n := n) F 32 0 rfl [] fl (Nat.le_refl _)
  rw [show ((0 : Nat) : Int) = 0 from rfl] at hl
  have en : pfNames fl = (if (pfLoop 32 0 [] fl).2.2 = true then (pfLoop 32 0 [] fl).1 else (pfLoop 32 0 [] fl).1 ++ [hexT (pfLoop 32 0 [] fl).2.1]) := rfl
  generalize pfLoop 32 0 [] fl = r at *
  have h32 : (rng 0 32).length ≤ sizeLine := by unfold rng; simp; omega
  have pre : ∀ {f' : Fl} {vs' : List (Option Val)} {σ' : Store}, Exs B n pfScope (pvf fl) [strsV []] [nth pfBody 1, nth pfBody 2] f' vs' σ' → Exs B n pfScope [some (.int fl), none, none, none, none, none, none] [] pfBody f' vs' σ' := fun h =>
    Exs.cons (Ex.assignN 1 rfl (.inl rfl) (EvN.display .nil)) h
  cases hb : r.2.2 with
  | true =>
    rw [hb] at hff
    have hff : f = .brk := hff
    subst hff
    have loop : Ex B n pfScope (pvf fl) [strsV []] (nth pfBody 1) .next (pvf r.2.1) [strsV r.1] :=
      Ex.forL (Itr.range1 (Ev.builtin 4 rfl F.b_range boot_range (by decide)) Ev.cint (by decide) h32) hl (fun q => by cases q) (fun _ => ⟨rfl, rfl, rfl⟩) (fun v q => by cases q)
    have e := pf_ret (B := B) (n := n) fl r.2.1 r.1 (en.trans (if_pos hb)) f2
    exact ⟨_, _, pre (Exs.cons loop e)⟩
  | false =>
    rw [hb] at hff
    have hff : f = .next := hff
    subst hff
    have m := OpM.append (B := B) (n := n) (σ := [strsV r.1]) (i := 0) (a := .str (hexT r.2.1)) (xs := strsV r.1) rfl (by unfold strsV; rw [List.length_map]; omega)
    have e : ([strsV r.1] : Store).set 0 (strsV r.1 ++ [.str (hexT r.2.1)]) = [strsV (r.1 ++ [hexT r.2.1])] := by unfold strsV; simp
    rw [e] at m
    have loop : Ex B n pfScope (pvf fl) [strsV []] (nth pfBody 1) .next (pvf r.2.1) [strsV (r.1 ++ [hexT r.2.1])] :=
      Ex.forL (Itr.range1 (Ev.builtin 4 rfl F.b_range boot_range (by decide)) Ev.cint (by decide) h32) hl (fun _ => Exs.one (Ex.meth (Ev.local 1 rfl rfl) (.cons (Ev.callB (Ev.builtin 6 rfl F.b_hex boot_hex (by decide)) (.cons (Ev.local 0 rfl rfl) .nil) (OpS.hex (Nat.le_trans f1 (by omega)))) .nil) PySem.F.slot_list_append PySem.F.type_list_append m)) (fun q => by cases q) (fun v q => by cases q)
    have e' := pf_ret (B := B) (n := n) fl r.2.1 (r.1 ++ [hexT r.2.1]) (en.trans (if_neg (by rw [hb]; decide))) f2
    exact ⟨_, _, pre (Exs.cons loop e')⟩
end
end Mine
namespace Mine
open PySem PySem.Spec PySem.Calls PyProof.Rows PySem.W
-- inner of _int2digits
noncomputable def i2dStmt := nth top 10
noncomputable def i2dBody := fBody i2dStmt
noncomputable def i2dScope := fScope i2dStmt
noncomputable def i2dPar := fPar i2dStmt
noncomputable def inBody := fBody (nth i2dBody 1)
noncomputable def inScope := fScope (nth i2dBody 1)
noncomputable def inPar := fPar (nth i2dBody 1)
theorem in_pos : ByPos inPar .none .none (parN inScope 3) := fun s fd xs h1 h2 h3 hl => by
  obtain ⟨x, y, z, rfl⟩ := three_of hl
  exact BindsTo.of_eq (by cases fd; simp only at h1 h2 h3; subst h1; subst h2; subst h3; rfl)
theorem bits_le {x m : Nat} (h : x < 2 ^ m) : Builtin.Int.intBits (x : Int) ≤ m := by
  unfold Builtin.Int.intBits
  split
  · exact Nat.zero_le _
  · rename_i h0
    have hx : x ≠ 0 := by rintro rfl; simp at h0
    have : (x : Int).natAbs.log2 < m := by rw [Int.natAbs_natCast]; exact (Nat.log2_lt hx).mpr h
    omega
noncomputable def InF (cl : List (Str × Addr)) (μ ρ : Addrs) (h : Heap) (j : Nat) (fa : Addr) (fo : Obj) (n : Nat) : Prop :=
  (∃ c v', cl.lookup ("a_digits" : Str) = some c ∧ h.IsCell c (some v') ∧ RelV μ ρ h (.ref j) v') ∧ (∃ c v', cl.lookup ("inner" : Str) = some c ∧ h.IsCell c (some v') ∧ RelV μ ρ h (.obj fa fo) v') ∧ (∃ c v', cl.lookup ("n" : Str) = some c ∧ h.IsCell c (some v') ∧ RelV μ ρ h (.int (n : Int)) v')
noncomputable def iv (x L R mid sh up lo : Option Val) (j : Nat) (fa : Addr) (fo : Obj) (n : Nat) : List (Option Val) := [x, L, R, mid, sh, up, lo, some (.ref j), some (.obj fa fo), some (.int (n : Int))]
section
variable {B : Wd} {cl : List (Str × Addr)} {μ ρ : Addrs} {σ : Store} {h h' : Heap} {j : Nat} {fa : Addr} {fo : Obj} {n : Nat}
theorem InF.ext (I : InF cl μ ρ h j fa fo n) (R : Rep B μ ρ σ h) (X : Ext ρ h ρ h') : InF cl μ ρ h' j fa fo n := by
  obtain ⟨⟨c1, v1, a1, b1, d1⟩, ⟨c2, v2, a2, b2, d2⟩, ⟨c3, v3, a3, b3, d3⟩⟩ := I
  have cell : ∀ {c : Addr} {v : Value}, h.IsCell c (some v) → h'.IsCell c (some v) := fun q => by
    have off := R.off_cell q
    obtain ⟨o, e, d⟩ := q
    exact ⟨o, X.keep _ _ off (fun q => q) e, d⟩
  exact ⟨⟨c1, v1, a1, cell b1, RelV.ext X d1⟩, ⟨c2, v2, a2, cell b2, RelV.ext X d2⟩, ⟨c3, v3, a3, cell b3, RelV.ext X d3⟩⟩
theorem InF.frees {x L R mid sh up lo : Option Val} (I : InF cl μ ρ h j fa fo n) : ∀ (i : Nat) (y : Str), inScope.names[i]? = some (y, .free) → ∃ c v₀, cl.lookup y = some c ∧ h.IsCell c v₀ ∧ ∀ v, (iv x L R mid sh up lo j fa fo n)[i]? = some (some v) → ∃ v', v₀ = some v' ∧ RelV μ ρ h v v' := by
  obtain ⟨⟨c1, v1, a1, b1, d1⟩, ⟨c2, v2, a2, b2, d2⟩, ⟨c3, v3, a3, b3, d3⟩⟩ := I
  intro i y hi
  match i, hi with
  | 7, hi => cases hi; exact ⟨c1, _, a1, b1, fun v hv => by cases hv; exact ⟨_, rfl, d1⟩⟩
  | 8, hi => cases hi; exact ⟨c2, _, a2, b2, fun v hv => by cases hv; exact ⟨_, rfl, d2⟩⟩
  | 9, hi => cases hi; exact ⟨c3, _, a3, b3, fun v hv => by cases hv; exact ⟨_, rfl, d3⟩⟩
theorem InF.of {env : Env} {x L R mid sh up lo : Option Val} (F : EnvOK μ ρ h env (iv x L R mid sh up lo j fa fo n)) (hs : env.scope = inScope) (hc : env.cells = cl) : InF cl μ ρ h j fa fo n := by
  subst hc
  have at_ : ∀ (i : Nat) (y : Str) (v : Val), inScope.names[i]? = some (y, .free) → (iv x L R mid sh up lo j fa fo n)[i]? = some (some v) → ∃ c v', env.cells.lookup y = some c ∧ h.IsCell c (some v') ∧ RelV μ ρ h v v' := fun i y v h1 h2 => by
    obtain ⟨c, v₀, e1, e2, e3⟩ := F.cell i y .free (by rw [hs]; exact h1) (.inr rfl)
    obtain ⟨v', rfl, r⟩ := e3 v h2
    exact ⟨c, v', e1, e2, r⟩
  exact ⟨at_ 7 _ _ rfl rfl, at_ 8 _ _ rfl rfl, at_ 9 _ _ rfl rfl⟩
theorem inner_one {m : Nat} (x L : Nat) (ds : List Int) (hs : σ[j]? = some (intsV ds)) (hL : L < ds.length) (hz : ds.length ≤ 1000000) :
    Exs B m inScope (iv (some (.int (x : Int))) (some (.int (L : Int))) (some (.int ((L + 1 : Nat) : Int))) none none none none j fa fo n) σ inBody (.ret .none) (iv (some (.int (x : Int))) (some (.int (L : Int))) (some (.int ((L + 1 : Nat) : Int))) none none none none j fa fo n) (σ.set j (intsV (ds.set L (x : Int)))) := by
  have hl : (intsV ds).length = ds.length := by unfold intsV; rw [List.length_map]
  refine Exs.ifT ((Tr.cmp (Ev.bin (Ev.local 1 rfl rfl) Ev.cint Op2.add) (Ev.local 2 rfl rfl) Op2.eq).eq (d' := true) (by simp)) ?_ Fl.ret_ne
  have e : (intsV ds).set L (.int (x : Int)) = intsV (ds.set L (x : Int)) := by unfold intsV; rw [List.map_set]
  rw [← e]
  exact Exs.cons (Ex.setI (j := L) (Ev.free 7 rfl rfl) (Ev.local 0 rfl rfl) (Ev.local 1 rfl rfl) hs rfl (by rw [hl]; exact hL) (by rw [hl]; exact hz)) (Exs.one Ex.retNone)
theorem inner_pre {m : Nat} (x L k : Nat) (hk : 2 ≤ k) (hx : x < 2 ^ (n * k)) (hb : n * k ≤ 100000) (hn : n ≤ 1000) :
    Pre B m inScope (iv (some (.int (x : Int))) (some (.int (L : Int))) (some (.int ((L + k : Nat) : Int))) none none none none j fa fo n) σ inBody (inBody.drop 5)
      (iv (some (.int (x : Int))) (some (.int (L : Int))) (some (.int ((L + k : Nat) : Int))) (some (.int ((L + k / 2 : Nat) : Int))) (some (.int ((n * (k / 2) : Nat) : Int))) (some (.int ((x / 2 ^ (n * (k / 2)) : Nat) : Int))) (some (.int ((x % 2 ^ (n * (k / 2)) : Nat) : Int))) j fa fo n) σ := by
  have e1 : ((L : Int) + ((L + k : Nat) : Int)).fdiv (2 ^ (1 : Int).toNat) = ((L + k / 2 : Nat) : Int) := by
    show ((L : Int) + ((L + k : Nat) : Int)).fdiv 2 = _
    rw [Int.fdiv_eq_ediv_of_nonneg _ (by decide)]; omega
  have e2 : (((L + k / 2 : Nat) : Int) - (L : Int)) * (n : Int) = ((n * (k / 2) : Nat) : Int) := by
    rw [show ((L + k / 2 : Nat) : Int) - (L : Int) = ((k / 2 : Nat) : Int) by omega, Nat.mul_comm, Int.natCast_mul]
  have e3 : ∀ (q : Nat), (x : Int).fdiv (2 ^ ((q : Nat) : Int).toNat) = ((x / 2 ^ q : Nat) : Int) := fun q => by
    rw [Int.toNat_natCast, Int.fdiv_eq_ediv_of_nonneg _ (by exact Int.le_of_lt (Int.pow_pos (by decide)))]
    simp
  refine Pre.cons (Ex.ite ((Tr.cmp (Ev.bin (Ev.local 1 rfl rfl) Ev.cint Op2.add) (Ev.local 2 rfl rfl) Op2.eq).eq (d' := false) (by simp; omega)) (fun q => by cases q) (fun _ => Exs.nil)) ?_
  refine Pre.cons (Ex.assign 3 rfl (.inl rfl) ((Ev.bin (Ev.bin (Ev.local 1 rfl rfl) (Ev.local 2 rfl rfl) Op2.add) Ev.cint (Op2.shr (by decide))).eq (by rw [e1]))) ?_
  refine Pre.cons (Ex.assign 4 rfl (.inl rfl) ((Ev.bin (Ev.bin (Ev.local 3 rfl rfl) (Ev.local 1 rfl rfl) Op2.sub) (Ev.free 9 rfl rfl) (Op2.mul (IntMulOk.of_right (intBits_le_64 (by omega) (by omega))))).eq (by rw [e2]))) ?_
  refine Pre.cons (Ex.assign 5 rfl (.inl rfl) ((Ev.bin (Ev.local 0 rfl rfl) (Ev.local 4 rfl rfl) (Op2.shr (Int.natCast_nonneg _))).eq (by rw [e3]))) ?_
  refine Pre.cons (Ex.assign 6 rfl (.inl rfl) ((Ev.bin (Ev.local 0 rfl rfl) (Ev.bin (Ev.local 5 rfl rfl) (Ev.local 4 rfl rfl) (Op2.shl (Int.natCast_nonneg _) (by
    have h1 := bits_le (Nat.lt_of_le_of_lt (Nat.div_le_self x (2 ^ (n * (k / 2)))) hx)
    have h2 : n * (k / 2) ≤ n * k := Nat.mul_le_mul_left n (Nat.div_le_self k 2)
    omega))) Op2.bxor).eq (by rw [Int.toNat_natCast, xor_low]))) ?_
  exact Pre.nil
theorem inner_fn (hB : B.grows = false) {name qual : Str} {doc pm ctv : Value} {c' : Addr} (hfo : fo = fnMade name qual inPar inBody inScope cl doc pm c' ctv) (hap : ∀ x y c, cl.lookup x = some c → cl.lookup y = some c → x = y) (hn : n ≤ 1000) :
    ∀ (k : Nat), 1 ≤ k → n * k ≤ 100000 → ∀ (x L : Nat), x < 2 ^ (n * k) → ∀ (A : Around) (μ ρ : Addrs) (σ : Store) (s : Shared) (ds : List Int) (t1 t2 t3 : Tok) (Q : Value → Shared → Prop), Good (k + 1) A → Rep B μ ρ σ s.heap → RelV μ ρ s.heap (.obj fa fo) (.ref fa) → InF cl μ ρ s.heap j fa fo n →
      σ[j]? = some (intsV ds) → L + k ≤ ds.length → ds.length ≤ 1000000 →
      (∀ h' tk, Ext ρ s.heap ρ h' → Rep B μ ρ (σ.set j (intsV (ds.take L ++ dg n k x ++ ds.drop (L + k)))) h' → Q .none { s with heap := h', toks := tk }) →
      wpAny (model B.prog B.w) A (call (.ref fa) [.int (x : Int) t1, .int (L : Int) t2, .int ((L + k : Nat) : Int) t3]) Q NoE s := by
  intro k
  induction k using Nat.strongRecOn with
  | ind k ih =>
    intro hk hb x L hx A μ ρ σ s ds t1 t2 t3 Q g R rf I hs hL hz P
    subst hfo
    refine call_clos (n := k) (args := [.int (x : Int), .int (L : Int), .int ((L + k : Nat) : Int)]) (vi := iv (some (.int (x : Int))) (some (.int (L : Int))) (some (.int ((L + k : Nat) : Int))) none none none none j fa _ n) in_pos rfl rfl (by decide) rfl rfl rfl (by decide) (by decide) hap g R rf
      (RelVs.cons_iff.mpr ⟨_, _, rfl, by unfold RelV; exact ⟨_, rfl⟩, RelVs.cons_iff.mpr ⟨_, _, rfl, by unfold RelV; exact ⟨_, rfl⟩, RelVs.cons_iff.mpr ⟨_, _, rfl, by unfold RelV; exact ⟨_, rfl⟩, RelVs.nil_iff.mpr rfl⟩⟩⟩)
      (fun i y v h1 h2 => ?_) I.frees ?_
    · match i, h2 with
      | 0, h2 => cases h2; rfl
      | 1, h2 => cases h2; rfl
      | 2, h2 => cases h2; rfl
      | 7, h2 => cases h1
      | 8, h2 => cases h1
      | 9, h2 => cases h1
    intro pl env h₁ tk hpl hk₁ g' hsc hcl R₁ F₁ w
    -- from the frame's end to the call's end
    have still' : ∀ {ρ' : Addrs} {h₂ : Heap} {σ₂ : Store}, ExtN (Own B env) ρ h₁ ρ' h₂ → Rep B (pl ++ μ) ρ' σ₂ h₂ → σ₂.length = σ.length → ρ' = ρ ∧ Ext ρ s.heap ρ h₂ ∧ Rep B μ ρ σ₂ h₂ := fun {ρ' h₂ σ₂} X R₂ hl => by
      have e := R₁.sameRho R₂ hl X
      subst e
      exact ⟨rfl, ⟨⟨[], by simp, fun _ m => nomatch m⟩, fun b o nb _ e => callOwn_keeps (μ := μ) hpl hk₁ w X b o nb (still hB) e⟩, R₂.lessMu fun a m => List.mem_append_right _ m⟩
    by_cases h1 : k = 1
    · subst h1
      refine inner_one x L ds hs (by omega) hz (A.deeper env) (pl ++ μ) ρ env { s with heap := h₁, toks := tk } _ g' hsc R₁ F₁ fun ρ₂ f₂ h₂ t₂ X₂ R₂ F₂ r₂ => ?_
      obtain ⟨rfl, X, R₃⟩ := still' X₂ R₂ (by rw [List.length_set])
      unfold RelF at r₂
      obtain ⟨v', rfl, r₂⟩ := r₂
      unfold RelV at r₂; subst r₂
      refine P h₂ t₂ X ?_
      have e : ds.take L ++ dg n 1 x ++ ds.drop (L + 1) = ds.set L (x : Int) := by
        rw [dg_one (by simpa using hx), List.set_eq_take_append_cons_drop, if_pos (by omega)]; simp
      rw [e]
      exact R₃
    · have hk2 : 2 ≤ k := by omega
      refine inner_pre x L k hk2 hx hb hn (A.deeper env) (pl ++ μ) ρ env { s with heap := h₁, toks := tk } _ g' hsc R₁ F₁ fun ρ₂ h₂ t₂ X₂ R₂ F₂ => ?_
      have hk1 : 1 ≤ k / 2 := by omega
      have hk3 : k / 2 < k := by omega
      have eρ := R₁.sameRho R₂ rfl X₂
      subst eρ
      have I₂ := InF.of F₂ hsc hcl
      have lt1 : x % 2 ^ (n * (k / 2)) < 2 ^ (n * (k / 2)) := Nat.mod_lt _ (Nat.two_pow_pos _)
      have lt2 : x / 2 ^ (n * (k / 2)) < 2 ^ (n * (k - k / 2)) := by
        rw [Nat.div_lt_iff_lt_mul (Nat.two_pow_pos _), ← Nat.pow_add, ← Nat.mul_add, show k - k / 2 + k / 2 = k by omega]; exact hx
      have b1 : n * (k / 2) ≤ 100000 := Nat.le_trans (Nat.mul_le_mul_left n (Nat.div_le_self k 2)) hb
      have b2 : n * (k - k / 2) ≤ 100000 := Nat.le_trans (Nat.mul_le_mul_left n (Nat.sub_le k (k / 2))) hb
      show wpAny _ (A.deeper env) (execs [nth inBody 5, nth inBody 6] env) _ NoE _
      refine wpAny_execs_cons (exec_callF (Ev.free 8 rfl rfl) ⟨_, rfl⟩ (.cons (Ev.local 6 rfl rfl) (.cons (Ev.local 1 rfl rfl) (.cons (Ev.local 3 rfl rfl) .nil))) g' hsc R₂ F₂ (fun xs h₃ tk₃ k₃ r₃ rf₃ => ?_))
      obtain ⟨y1, y2, y3, rfl, q1, q2, q3⟩ := RelVs.three r₃
      unfold RelV at q1 q2 q3
      obtain ⟨u1, rfl⟩ := q1; obtain ⟨u2, rfl⟩ := q2; obtain ⟨u3, rfl⟩ := q3
      have R₃ := R₂.keeps k₃
      have F₃ := F₂.keeps R₂ k₃
      have I₃ := I₂.ext R₂ (Ext.of_keeps k₃)
      refine ih (k / 2) hk3 hk1 b1 _ L lt1 (A.deeper env) (pl ++ μ) ρ₂ σ { s with heap := h₃, toks := tk₃ } ds u1 u2 u3 _ (g'.le (by omega)) R₃ rf₃ I₃ hs (by omega) hz fun h₄ tk₄ X₄ R₄ => ?_
      refine ⟨fun z q => (by cases q), ?_⟩
      have F₄ := F₃.ext R₃ X₄
      have I₄ := I₃.ext R₃ X₄
      have hlt : j < σ.length := (List.getElem?_eq_some_iff.mp hs).1
      have hs₄ : (σ.set j (intsV (ds.take L ++ dg n (k / 2) (x % 2 ^ (n * (k / 2))) ++ ds.drop (L + k / 2))))[j]? = some (intsV (ds.take L ++ dg n (k / 2) (x % 2 ^ (n * (k / 2))) ++ ds.drop (L + k / 2))) := by
        rw [List.getElem?_set]; simp [hlt]
      have len1 : (ds.take L ++ dg n (k / 2) (x % 2 ^ (n * (k / 2))) ++ ds.drop (L + k / 2)).length = ds.length := by
        simp only [List.length_append, List.length_take, List.length_drop, dg_len]; omega
      refine wpAny_execs_cons (exec_callF (σ := σ.set j _) (Ev.free 8 rfl rfl) ⟨_, rfl⟩ (.cons (Ev.local 5 rfl rfl) (.cons (Ev.local 3 rfl rfl) (.cons (Ev.local 2 rfl rfl) .nil))) g' hsc R₄ F₄ (fun xs h₅ tk₅ k₅ r₅ rf₅ => ?_))
      obtain ⟨y1, y2, y3, rfl, q1, q2, q3⟩ := RelVs.three r₅
      unfold RelV at q1 q2 q3
      obtain ⟨u4, rfl⟩ := q1; obtain ⟨u5, rfl⟩ := q2; obtain ⟨u6, rfl⟩ := q3
      have R₅ := R₄.keeps k₅
      have F₅ := F₄.keeps R₄ k₅
      have I₅ := I₄.ext R₄ (Ext.of_keeps k₅)
      have eR : L + k = (L + k / 2) + (k - k / 2) := by omega
      rw [eR]
      refine ih (k - k / 2) (by omega) (by omega) b2 _ (L + k / 2) lt2 (A.deeper env) (pl ++ μ) ρ₂ _ { s with heap := h₅, toks := tk₅ } _ u4 u5 u6 _ (g'.le (by omega)) R₅ rf₅ I₅ hs₄ (by omega) (by omega) fun h₆ tk₆ X₆ R₆ => ?_
      refine ⟨fun z q => (by cases q), ?_⟩
      refine wpAny_execs_nil ?_
      have Xall : ExtN (Own B env) ρ₂ h₁ ρ₂ h₆ := by
        refine ⟨⟨[], by simp, fun _ m => nomatch m⟩, fun b o nb nN e => ?_⟩
        exact X₆.keep b o nb (fun q => q) (k₅ b o (X₄.keep b o nb (fun q => q) (k₃ b o (X₂.keep b o nb nN e))))
      obtain ⟨_, X, R₇⟩ := still' Xall R₆ (by rw [List.length_set, List.length_set])
      refine P h₆ tk₆ X ?_
      rw [List.set_set] at R₇
      have e : (ds.take L ++ dg n (k / 2) (x % 2 ^ (n * (k / 2))) ++ ds.drop (L + k / 2)).take (L + k / 2) ++ dg n (k - k / 2) (x / 2 ^ (n * (k / 2))) ++ (ds.take L ++ dg n (k / 2) (x % 2 ^ (n * (k / 2))) ++ ds.drop (L + k / 2)).drop (L + k / 2 + (k - k / 2)) = ds.take L ++ dg n k x ++ ds.drop (L + k) := by
        have l0 : (ds.take L ++ dg n (k / 2) (x % 2 ^ (n * (k / 2)))).length = L + k / 2 := by
          simp only [List.length_append, List.length_take, dg_len]; omega
        rw [List.take_left' l0, List.drop_append, List.drop_eq_nil_of_le (by omega), List.nil_append, l0, List.drop_drop]
        have : k = k / 2 + (k - k / 2) := by omega
        conv => rhs; rw [this, dg_add]
        rw [List.append_assoc, List.append_assoc, List.append_assoc, List.append_assoc]
        congr 3
        congr 1
        omega
      rw [e] at R₇
      exact R₇
end
end Mine
namespace Mine
open PySem PySem.Spec PySem.Calls PyProof.Rows PySem.W
-- _int2digits
structure FI2d (B : Wd) (a : Ad) (c P : Addr) : Prop where
  still : B.grows = false
  fi2d : FnOK B.K a.i2d i2dPar i2dBody i2dScope .none .none
  code : ∀ oc od fd osl, B.K.lookup a.i2d = some ⟨oc, od, .func fd, osl⟩ → fd.code = .ref c ∧ fd.qualname = "_int2digits"
  nest : Nest B.up c P "_int2digits.<locals>.inner"
  hid : ∀ q ∈ B.tabs, B.h₀.get? q.1 = Option.none
  b_len : nsIn B.K mainGlobals "len" = some none
theorem i2d_pos : ByPos i2dPar .none .none (parN i2dScope 2) := fun s fd xs h1 h2 h3 hl => by
  obtain ⟨x, y, rfl⟩ := two_of hl
  exact BindsTo.of_eq (by cases fd; simp only at h1 h2 h3; subst h1; subst h2; subst h3; rfl)
section
variable {B : Wd} {a : Ad} {c P : Addr}
theorem i2d_head (x n m : Nat) (hn : 1 ≤ n) (hm : (Builtin.Int.intBits (x : Int) + n - 1) / n = m) (hz : m ≤ 100000) (hn2 : n < 2 ^ 30) {k : Nat} :
    Ex B k i2dScope [some (.int (x : Int)), some (.int (n : Int)), none, none, none] [] (nth i2dBody 0) .next [some (.int (x : Int)), some (.int (n : Int)), some (.ref 0), none, none] [intsV (List.replicate m 0)] := by
  have e : ((Builtin.Int.intBits (x : Int) : Int) + (n : Int) - 1).fdiv (n : Int) = (m : Int) := by
    rw [← hm, Int.fdiv_eq_ediv_of_nonneg _ (Int.natCast_nonneg _)]
    rw [show ((Builtin.Int.intBits (x : Int) : Int) + (n : Int) - 1) = ((Builtin.Int.intBits (x : Int) + n - 1 : Nat) : Int) by omega]
    simp
  have e2 : intsV (List.replicate m 0) = List.replicate (m : Int).toNat (.int 0) := by unfold intsV; simp
  rw [e2]
  refine Ex.assignN 2 rfl (.inr rfl) (EvN.rep (i := (m : Int)) (EvN.ev (EvN.display (.cons Ev.cint .nil))) .fr ?_ (Int.natCast_nonneg _) (by simp; omega))
  exact (Ev.bin (Ev.bin (Ev.bin (Ev.meth (Ev.local 0 rfl rfl) .nil TyB.int PySem.F.plainAttrs_int PySem.F.slot_int_bit_length PySem.F.type_int_bit_length OpS.bits) (Ev.cell 1 rfl rfl) Op2.add) Ev.cint Op2.sub) (Ev.cell 1 rfl rfl) (Op2.fdiv (by omega) (PyProof.noPylong_small (by omega)))).eq (by rw [e])
theorem intsV_noref : ∀ (ns : List Int), noRefs (intsV ns) = true
  | [] => rfl
  | x :: ns => by
    show (noRef (.int x) && noRefs (intsV ns)) = true
    rw [intsV_noref ns]; rfl
theorem codeOfFn {B : Wd} {fa c : Addr} {q : Str} {env : Env} (hF : ∀ oc od fd osl, B.K.lookup fa = some ⟨oc, od, .func fd, osl⟩ → fd.code = .ref c ∧ fd.qualname = q) (hc : Codes B fa env) : env.code = .ref c ∧ env.qual = q ++ ".<locals>." := by
  obtain ⟨oc, od, fd, osl, hK, e1, e2⟩ := hc
  obtain ⟨h1, h2⟩ := hF _ _ _ _ hK
  exact ⟨e1.trans h1, by rw [e2, h2]⟩
theorem qual_in {env : Env} {name q : Str} (hq : env.qual = q) (hk : env.kindOf name = some .cell) : qualnameIn env name name = q ++ name := by
  unfold qualnameIn
  rw [hk, hq]
  rfl
theorem i2d_fn (F : FI2d B a c P) (x n m : Nat) (hn : 1 ≤ n) (hm : (Builtin.Int.intBits (x : Int) + n - 1) / n = m) (hz : n * m ≤ 100000) (hn2 : n ≤ 1000) (hx : x < 2 ^ (n * m)) :
    FnG B.up (m + 3) a.i2d [.int (x : Int), .int (n : Int)] (.list (intsV (dg n m x))) := by
  have hm0 : m ≤ 100000 := Nat.le_trans (Nat.le_mul_of_pos_left m hn) hz
  refine FnG.mk F.hid F.fi2d i2d_pos rfl rfl (by decide) rfl ⟨.ref 0, [some (.int (x : Int)), some (.int (n : Int)), some (.ref 0), none, none], [intsV (dg n m x)], fun A μ ρ env s Q g hs hc R Fe P' => ?_, Out.list rfl (intsV_noref _)⟩
  obtain ⟨hcode, hqual⟩ := codeOfFn F.code hc
  show wpAny _ A (execs [nth i2dBody 0, nth i2dBody 1, nth i2dBody 2, nth i2dBody 3] env) Q NoE s
  refine wpAny_execs_cons (i2d_head x n m hn hm hm0 (Nat.lt_of_le_of_lt hn2 (by decide)) A μ ρ env s _ g hs R Fe fun ρ₁ f₁ h₁ t₁ X₁ R₁ F₁ r₁ => ?_)
  unfold RelF at r₁; subst r₁
  show wpAny _ A (execs [nth i2dBody 1, nth i2dBody 2, nth i2dBody 3] env) Q NoE _
  have hk3 : env.kindOf "inner" = some .cell := F₁.kindOf (i := 3) (by rw [hs]; rfl)
  have hcl : ∀ y ∈ inScope.names, y.2 = .free → ∃ c, env.cells.lookup y.1 = some c := by
    intro y hy hf
    have at_ : ∀ (i : Nat) (z : Str), i2dScope.names[i]? = some (z, .cell) → ∃ c, env.cells.lookup z = some c := fun i z e => by
      obtain ⟨c, _, e1, _⟩ := F₁.cell i z .cell (by rw [hs]; exact e) (.inl rfl)
      exact ⟨c, e1⟩
    obtain ⟨i, hi⟩ := List.getElem?_of_mem hy
    obtain ⟨y1, y2⟩ := y
    match i, hi with
    | 0, hi => cases hi; cases hf
    | 1, hi => cases hi; cases hf
    | 2, hi => cases hi; cases hf
    | 3, hi => cases hi; cases hf
    | 4, hi => cases hi; cases hf
    | 5, hi => cases hi; cases hf
    | 6, hi => cases hi; cases hf
    | 7, hi => cases hi; exact at_ 2 _ rfl
    | 8, hi => cases hi; exact at_ 3 _ rfl
    | 9, hi => cases hi; exact at_ 1 _ rfl
  refine wpAny_execs_cons (exec_nest (name := "inner") (params := inPar) (body := inBody) (scope := inScope) (i := 3) F.nest R₁ F₁ hcode ?_ (by rw [hs]; rfl) hcl rfl rfl rfl ?_)
  · rw [qual_in hqual hk3]; rfl
  intro fa c' doc pm ctv h₂ t₂ X₂ R₂ F₂
  show wpAny _ A (execs [nth i2dBody 2, nth i2dBody 3] env) Q NoE _
  have Y₂ := ExtN.trans X₁ R₁ Fe.own X₂
  have fin : ∀ (h' : Heap) (tk : Nat) (u : Option Val), ExtN (Own B.up env) ρ s.heap ρ₁ h' → Rep B.up μ ρ₁ [intsV (dg n m x)] h' → EnvOK μ ρ₁ h' env [some (.int (x : Int)), some (.int (n : Int)), some (.ref 0), u, none] → wpAny (model B.up.prog B.up.w) A (execs [nth i2dBody 3] env) Q NoE { s with heap := h', toks := tk } := fun h' tk u X' R' F' =>
    (Exs.one (Ex.ret (Ev.cell 2 rfl rfl))) A μ ρ₁ env _ Q g hs R' (F'.weak (.keep _ (.keep _ (.keep _ (.forget _ (.refl _)))))) (P'.step X' R' Fe.own)
  by_cases h0 : x = 0
  · subst h0
    have hm0 : m = 0 := by rw [← hm]; show (0 + n - 1) / n = 0; exact Nat.div_eq_of_lt (by omega)
    subst hm0
    refine wpAny_execs_cons (Ex.ite (ys := []) (d := false) (Tr.of (Ev.local 0 rfl rfl) Tv.int) (fun q => by cases q) (fun _ => Exs.nil) A μ ρ₁ env _ _ g hs R₂ F₂ fun ρ₃ f₃ h₃ t₃ X₃ R₃ F₃ r₃ => ?_)
    unfold RelF at r₃; subst r₃
    obtain rfl := R₂.sameRho R₃ rfl X₃
    exact fin h₃ t₃ _ (ExtN.trans Y₂ R₂ Fe.own X₃) R₃ F₃
  · have hm1 : 1 ≤ m := by
      rcases Nat.eq_zero_or_pos m with h | h
      · subst h; simp at hx; exact absurd hx h0
      · exact h
    refine wpAny_execs_cons ?_
    refine wpAny_If ((Tr.of (d := true) (Ev.local 0 rfl rfl) ?_) A μ ρ₁ env _ _ g hs R₂ F₂ fun h₃ t₃ k₃ => ?_)
    · have : ((x : Int) != 0) = true := by simp; exact h0
      rw [← this]; exact Tv.int
    have R₃ := R₂.keeps k₃
    have F₃ := F₂.keeps R₂ k₃
    simp only [if_true]
    refine wpAny_execs_cons (exec_callF (Ev.cell 3 rfl rfl) ⟨_, rfl⟩ (.cons (Ev.local 0 rfl rfl) (.cons Ev.cint (.cons (Ev.callB (Ev.builtin 4 rfl F.b_len boot_len (by decide)) (.cons (Ev.cell 2 rfl rfl) .nil) (OpS.lenL (Lst.own rfl) (by unfold intsV; simp; have := sizeLine_eq; omega))) .nil))) g hs R₃ F₃ (fun xs h₄ tk₄ k₄ r₄ rf₄ => ?_))
    obtain ⟨y1, y2, y3, rfl, q1, q2, q3⟩ := RelVs.three r₄
    unfold RelV at q1 q2 q3
    obtain ⟨u1, rfl⟩ := q1; obtain ⟨u2, rfl⟩ := q2; obtain ⟨u3, rfl⟩ := q3
    have R₄ := R₃.keeps k₄
    have F₄ := F₃.keeps R₃ k₄
    have el : (((intsV (List.replicate m 0)).length : Nat) : Int) = ((0 + m : Nat) : Int) := by unfold intsV; simp
    rw [el]
    have hfree : ∀ (i : Nat) (z : Str) (v : Val) (j : Nat), inScope.names[j]? = some (z, .free) → i2dScope.names[i]? = some (z, .cell) → [some (.int (x : Int)), some (.int (n : Int)), some (.ref 0), some (.obj fa (fnMade "inner" "_int2digits.<locals>.inner" inPar inBody inScope (closL env.cells inScope.names []) doc pm c' ctv)), none][i]? = some (some v) → ∃ c v', (closL env.cells inScope.names []).lookup z = some c ∧ h₄.IsCell c (some v') ∧ RelV μ ρ₁ h₄ v v' := fun i z v j e1 e2 e3 => by
      obtain ⟨c₀, v₀, e4, e5, e6⟩ := F₄.cell i z .cell (by rw [hs]; exact e2) (.inl rfl)
      obtain ⟨v', rfl, r⟩ := e6 v e3
      refine ⟨c₀, v', ?_, e5, r⟩
      rw [closL_free inScope.names [] (by decide) (List.mem_of_getElem? e1), e4]
      rfl
    have hap : ∀ y z b, (closL env.cells inScope.names []).lookup y = some b → (closL env.cells inScope.names []).lookup z = some b → y = z := fun y z b e1 e2 => by
      rcases closL_mem _ _ e1 with e1 | ⟨m1, e1⟩
      · cases e1
      rcases closL_mem _ _ e2 with e2 | ⟨m2, e2⟩
      · cases e2
      obtain ⟨c1, g1⟩ := hcl _ m1 rfl
      obtain ⟨c2, g2⟩ := hcl _ m2 rfl
      rw [g1] at e1; rw [g2] at e2
      simp only [Option.getD_some] at e1 e2
      subst e1; subst e2
      exact Fe.apart _ _ _ g1 g2
    refine inner_fn F.still rfl hap hn2 m hm1 hz x 0 hx A μ ρ₁ [intsV (List.replicate m 0)] { s with heap := h₄, toks := tk₄ } (List.replicate m 0) u1 u2 u3 _ (g.le (by omega)) R₄.down rf₄ ⟨hfree 2 _ _ 7 rfl rfl rfl, hfree 3 _ _ 8 rfl rfl rfl, hfree 1 _ _ 9 rfl rfl rfl⟩ rfl (by simp) (by simp; omega) fun h₅ tk₅ X₅ R₅ => ?_
    refine ⟨fun z q => (by cases q), ?_⟩
    refine wpAny_execs_nil ?_
    have e : [intsV (List.replicate m 0)].set 0 (intsV (List.take 0 (List.replicate m 0) ++ dg n m x ++ List.drop (0 + m) (List.replicate m 0))) = [intsV (dg n m x)] := by simp
    rw [e] at R₅
    exact fin h₅ tk₅ _ (ExtN.trans (ExtN.trans Y₂ R₂ Fe.own (Keeps.own (μ := μ) (k₃.trans k₄))) R₄ Fe.own X₅.any) R₅.rise (F₄.ext R₄ X₅)
end
end Mine
namespace Mine
open PySem PySem.Spec PySem.Calls PyProof.Rows PySem.W
-- inner of _digits2int
noncomputable def d2iStmt := nth top 11
noncomputable def d2iBody := fBody d2iStmt
noncomputable def d2iScope := fScope d2iStmt
noncomputable def d2iPar := fPar d2iStmt
noncomputable def jnBody := fBody (nth d2iBody 0)
noncomputable def jnScope := fScope (nth d2iBody 0)
noncomputable def jnPar := fPar (nth d2iBody 0)
theorem jn_pos : ByPos jnPar .none .none (parN jnScope 2) := fun s fd xs h1 h2 h3 hl => by
  obtain ⟨x, y, rfl⟩ := two_of hl
  exact BindsTo.of_eq (by cases fd; simp only at h1 h2 h3; subst h1; subst h2; subst h3; rfl)
theorem d2i_pos : ByPos d2iPar .none .none (parN d2iScope 2) := fun s fd xs h1 h2 h3 hl => by
  obtain ⟨x, y, rfl⟩ := two_of hl
  exact BindsTo.of_eq (by cases fd; simp only at h1 h2 h3; subst h1; subst h2; subst h3; rfl)
/-- digits below 2 ^ n -/
noncomputable def Dig (n : Nat) (ds : List Int) : Prop := ∀ d ∈ ds, 0 ≤ d ∧ d < 2 ^ n
theorem Dig.num_lt {n : Nat} : ∀ {ds : List Int}, Dig n ds → 0 ≤ num n ds ∧ num n ds < 2 ^ (n * ds.length)
  | [], _ => by simp [num]
  | d :: ds, h => by
    have h1 := h d (by simp)
    have h2 := Dig.num_lt (ds := ds) fun z hz => h z (List.mem_cons_of_mem _ hz)
    rw [num_cons, List.length_cons, Nat.mul_add, Nat.mul_one, Int.pow_add, Int.mul_comm ((2 : Int) ^ (n * ds.length))]
    have hp : (0 : Int) < 2 ^ n := Int.pow_pos (by decide)
    generalize hA : (2 : Int) ^ n = A at *
    generalize hP : (2 : Int) ^ (n * ds.length) = P at *
    constructor
    · have := Int.mul_nonneg (Int.le_of_lt hp) h2.1; omega
    · have : A * num n ds + A * 1 ≤ A * P := by rw [← Int.mul_add]; exact Int.mul_le_mul_of_nonneg_left (by omega) (Int.le_of_lt hp)
      omega
theorem Dig.bits {n k : Nat} {ds : List Int} (h : Dig n ds) (hl : ds.length ≤ k) : Builtin.Int.intBits (num n ds) ≤ n * k := by
  obtain ⟨h1, h2⟩ := h.num_lt
  obtain ⟨m, hm⟩ := Int.eq_ofNat_of_zero_le h1
  rw [hm] at h2 ⊢
  refine bits_le (Nat.lt_of_lt_of_le (m := 2 ^ (n * ds.length)) ?_ (Nat.pow_le_pow_right (by decide) (Nat.mul_le_mul_left n hl)))
  have : ((2 : Int) ^ (n * ds.length)) = ((2 ^ (n * ds.length) : Nat) : Int) := by simp
  rw [this] at h2
  exact Int.ofNat_lt.mp h2
theorem Dig.part {n : Nat} {ds : List Int} (h : Dig n ds) (i k : Nat) : Dig n ((ds.drop i).take k) := fun d hd => h d (List.mem_of_mem_drop (List.mem_of_mem_take hd))
/-- what a nested def reads by a name -/
noncomputable def Cel (cl : List (Str × Addr)) (μ ρ : Addrs) (h : Heap) (x : Str) (v : Val) : Prop := ∃ c v', cl.lookup x = some c ∧ h.IsCell c (some v') ∧ RelV μ ρ h v v'
noncomputable def InD (cl : List (Str × Addr)) (μ ρ : Addrs) (h : Heap) (j : Nat) (fa : Addr) (fo : Obj) (n : Nat) : Prop := Cel cl μ ρ h "digits" (.ref j) ∧ Cel cl μ ρ h "inner" (.obj fa fo) ∧ Cel cl μ ρ h "n" (.int (n : Int))
noncomputable def jv (L R mid sh : Option Val) (j : Nat) (fa : Addr) (fo : Obj) (n : Nat) : List (Option Val) := [L, R, mid, sh, some (.ref j), some (.obj fa fo), some (.int (n : Int))]
section
variable {B : Wd} {cl : List (Str × Addr)} {μ ρ : Addrs} {σ : Store} {h h' : Heap} {j : Nat} {fa : Addr} {fo : Obj} {n : Nat}
theorem Cel.ext {x : Str} {v : Val} (I : Cel cl μ ρ h x v) (R : Rep B μ ρ σ h) (X : Ext ρ h ρ h') : Cel cl μ ρ h' x v := by
  obtain ⟨c, v', e1, e2, r⟩ := I
  have off := R.off_cell e2
  obtain ⟨o, e, d⟩ := e2
  exact ⟨c, v', e1, ⟨o, X.keep _ _ off (fun q => q) e, d⟩, RelV.ext X r⟩
theorem InD.ext (I : InD cl μ ρ h j fa fo n) (R : Rep B μ ρ σ h) (X : Ext ρ h ρ h') : InD cl μ ρ h' j fa fo n := ⟨I.1.ext R X, I.2.1.ext R X, I.2.2.ext R X⟩
theorem InD.frees {L R mid sh : Option Val} (I : InD cl μ ρ h j fa fo n) : ∀ (i : Nat) (y : Str), jnScope.names[i]? = some (y, .free) → ∃ c v₀, cl.lookup y = some c ∧ h.IsCell c v₀ ∧ ∀ v, (jv L R mid sh j fa fo n)[i]? = some (some v) → ∃ v', v₀ = some v' ∧ RelV μ ρ h v v' := by
  obtain ⟨⟨c1, v1, a1, b1, d1⟩, ⟨c2, v2, a2, b2, d2⟩, ⟨c3, v3, a3, b3, d3⟩⟩ := I
  intro i y hi
  match i, hi with
  | 4, hi => cases hi; exact ⟨c1, _, a1, b1, fun v hv => by cases hv; exact ⟨_, rfl, d1⟩⟩
  | 5, hi => cases hi; exact ⟨c2, _, a2, b2, fun v hv => by cases hv; exact ⟨_, rfl, d2⟩⟩
  | 6, hi => cases hi; exact ⟨c3, _, a3, b3, fun v hv => by cases hv; exact ⟨_, rfl, d3⟩⟩
theorem InD.of {env : Env} {L R mid sh : Option Val} (F : EnvOK μ ρ h env (jv L R mid sh j fa fo n)) (hs : env.scope = jnScope) (hc : env.cells = cl) : InD cl μ ρ h j fa fo n := by
  subst hc
  have at_ : ∀ (i : Nat) (y : Str) (v : Val), jnScope.names[i]? = some (y, .free) → (jv L R mid sh j fa fo n)[i]? = some (some v) → Cel env.cells μ ρ h y v := fun i y v h1 h2 => by
    obtain ⟨c, v₀, e1, e2, e3⟩ := F.cell i y .free (by rw [hs]; exact h1) (.inr rfl)
    obtain ⟨v', rfl, r⟩ := e3 v h2
    exact ⟨c, v', e1, e2, r⟩
  exact ⟨at_ 4 _ _ rfl rfl, at_ 5 _ _ rfl rfl, at_ 6 _ _ rfl rfl⟩
theorem jn_one {m : Nat} (L : Nat) (ds : List Int) (d : Int) (hs : σ[j]? = some (intsV ds)) (hd : ds[L]? = some d) (hL : L ≤ 1000000) :
    Exs B m jnScope (jv (some (.int (L : Int))) (some (.int ((L + 1 : Nat) : Int))) none none j fa fo n) σ jnBody (.ret (.int d)) (jv (some (.int (L : Int))) (some (.int ((L + 1 : Nat) : Int))) none none j fa fo n) σ := by
  refine Exs.ifT ((Tr.cmp (Ev.bin (Ev.local 0 rfl rfl) Ev.cint Op2.add) (Ev.local 1 rfl rfl) Op2.eq).eq (d' := true) (by simp)) ?_ Fl.ret_ne
  exact Exs.one (Ex.ret (Ev.sub (Ev.free 4 rfl rfl) (Ev.local 0 rfl rfl) (Itm.list L (Lst.own hs) (by unfold intsV; rw [List.getElem?_map, hd]; rfl) rfl (by have := sizeLine_eq; omega))))
theorem jn_pre {m : Nat} (L k : Nat) (hk : 2 ≤ k) (hb : n * k ≤ 100000) (hn : n ≤ 1000) :
    Pre B m jnScope (jv (some (.int (L : Int))) (some (.int ((L + k : Nat) : Int))) none none j fa fo n) σ jnBody (jnBody.drop 3)
      (jv (some (.int (L : Int))) (some (.int ((L + k : Nat) : Int))) (some (.int ((L + k / 2 : Nat) : Int))) (some (.int ((n * (k / 2) : Nat) : Int))) j fa fo n) σ := by
  have e1 : ((L : Int) + ((L + k : Nat) : Int)).fdiv (2 ^ (1 : Int).toNat) = ((L + k / 2 : Nat) : Int) := by
    show ((L : Int) + ((L + k : Nat) : Int)).fdiv 2 = _
    rw [Int.fdiv_eq_ediv_of_nonneg _ (by decide)]; omega
  have e2 : (((L + k / 2 : Nat) : Int) - (L : Int)) * (n : Int) = ((n * (k / 2) : Nat) : Int) := by
    rw [show ((L + k / 2 : Nat) : Int) - (L : Int) = ((k / 2 : Nat) : Int) by omega, Nat.mul_comm, Int.natCast_mul]
  refine Pre.cons (Ex.ite ((Tr.cmp (Ev.bin (Ev.local 0 rfl rfl) Ev.cint Op2.add) (Ev.local 1 rfl rfl) Op2.eq).eq (d' := false) (by simp; omega)) (fun q => by cases q) (fun _ => Exs.nil)) ?_
  refine Pre.cons (Ex.assign 2 rfl (.inl rfl) ((Ev.bin (Ev.bin (Ev.local 0 rfl rfl) (Ev.local 1 rfl rfl) Op2.add) Ev.cint (Op2.shr (by decide))).eq (by rw [e1]))) ?_
  refine Pre.cons (Ex.assign 3 rfl (.inl rfl) ((Ev.bin (Ev.bin (Ev.local 2 rfl rfl) (Ev.local 0 rfl rfl) Op2.sub) (Ev.free 6 rfl rfl) (Op2.mul (IntMulOk.of_right (intBits_le_64 (by omega) (by omega))))).eq (by rw [e2]))) ?_
  exact Pre.nil
theorem part_split (ds : List Int) (n L k i : Nat) (hi : i ≤ k) (hL : L + k ≤ ds.length) : num n ((ds.drop L).take k) = num n ((ds.drop (L + i)).take (k - i)) * 2 ^ (n * i) + num n ((ds.drop L).take i) := by
  have e : (ds.drop L).take k = (ds.drop L).take i ++ (ds.drop (L + i)).take (k - i) := by
    have h1 : k = i + (k - i) := by omega
    conv => lhs; rw [h1]
    rw [List.take_add, List.drop_drop]
  rw [e, num_append, List.length_take, List.length_drop, Nat.min_eq_left (by omega)]
  generalize (2 : Int) ^ (n * i) = A
  rw [Int.mul_comm]; omega
theorem jn_fn (hB : B.grows = false) {name qual : Str} {doc pm ctv : Value} {c' : Addr} (hfo : fo = fnMade name qual jnPar jnBody jnScope cl doc pm c' ctv) (hap : ∀ x y c, cl.lookup x = some c → cl.lookup y = some c → x = y) (hn : n ≤ 1000)
    (ds : List Int) (hds : Dig n ds) (hz : n * ds.length ≤ 100000) (hz1 : ds.length ≤ 100000) :
    ∀ (k : Nat), 1 ≤ k → ∀ (L : Nat), L + k ≤ ds.length → ∀ (A : Around) (μ ρ : Addrs) (σ : Store) (s : Shared) (t1 t2 : Tok) (Q : Value → Shared → Prop), Good (k + 1) A → Rep B μ ρ σ s.heap → RelV μ ρ s.heap (.obj fa fo) (.ref fa) → InD cl μ ρ s.heap j fa fo n →
      σ[j]? = some (intsV ds) →
      (∀ h' tk t, Ext ρ s.heap ρ h' → Rep B μ ρ σ h' → Q (.int (num n ((ds.drop L).take k)) t) { s with heap := h', toks := tk }) →
      wpAny (model B.prog B.w) A (call (.ref fa) [.int (L : Int) t1, .int ((L + k : Nat) : Int) t2]) Q NoE s := by
  intro k
  induction k using Nat.strongRecOn with
  | ind k ih =>
    intro hk L hL A μ ρ σ s t1 t2 Q g R rf I hs P
    subst hfo
    refine call_clos (n := k) (args := [.int (L : Int), .int ((L + k : Nat) : Int)]) (vi := jv (some (.int (L : Int))) (some (.int ((L + k : Nat) : Int))) none none j fa _ n) jn_pos rfl rfl (by decide) rfl rfl rfl (by decide) (by decide) hap g R rf
      (RelVs.cons_iff.mpr ⟨_, _, rfl, by unfold RelV; exact ⟨_, rfl⟩, RelVs.cons_iff.mpr ⟨_, _, rfl, by unfold RelV; exact ⟨_, rfl⟩, RelVs.nil_iff.mpr rfl⟩⟩)
      (fun i y v h1 h2 => ?_) I.frees ?_
    · match i, h2 with
      | 0, h2 => cases h2; rfl
      | 1, h2 => cases h2; rfl
      | 4, h2 => cases h1
      | 5, h2 => cases h1
      | 6, h2 => cases h1
    intro pl env h₁ tk hpl hk₁ g' hsc hcl R₁ F₁ w
    have still' : ∀ {ρ' : Addrs} {h₂ : Heap} {σ₂ : Store}, ExtN (Own B env) ρ h₁ ρ' h₂ → Rep B (pl ++ μ) ρ' σ₂ h₂ → σ₂.length = σ.length → ρ' = ρ ∧ Ext ρ s.heap ρ h₂ ∧ Rep B μ ρ σ₂ h₂ := fun {ρ' h₂ σ₂} X R₂ hl => by
      have e := R₁.sameRho R₂ hl X
      subst e
      exact ⟨rfl, ⟨⟨[], by simp, fun _ m => nomatch m⟩, fun b o nb _ e => callOwn_keeps (μ := μ) hpl hk₁ w X b o nb (still hB) e⟩, R₂.lessMu fun a m => List.mem_append_right _ m⟩
    by_cases h1 : k = 1
    · subst h1
      have hd : ds[L]? = some ds[L] := List.getElem?_eq_getElem (by omega)
      refine jn_one L ds _ hs hd (by omega) (A.deeper env) (pl ++ μ) ρ env { s with heap := h₁, toks := tk } _ g' hsc R₁ F₁ fun ρ₂ f₂ h₂ t₂ X₂ R₂ F₂ r₂ => ?_
      obtain ⟨rfl, X, R₃⟩ := still' X₂ R₂ rfl
      unfold RelF at r₂
      obtain ⟨v', rfl, r₂⟩ := r₂
      unfold RelV at r₂
      obtain ⟨t, rfl⟩ := r₂
      have := P h₂ t₂ t X R₃
      rw [show (ds.drop L).take 1 = [ds[L]] by rw [List.drop_eq_getElem_cons (by omega)]; rfl, num_cons, show num n [] = 0 from rfl, Int.mul_zero, Int.add_zero] at this
      exact this
    · have hk2 : 2 ≤ k := by omega
      have hb : n * k ≤ 100000 := Nat.le_trans (Nat.mul_le_mul_left n (by omega)) hz
      refine jn_pre L k hk2 hb hn (A.deeper env) (pl ++ μ) ρ env { s with heap := h₁, toks := tk } _ g' hsc R₁ F₁ fun ρ₂ h₂ t₂ X₂ R₂ F₂ => ?_
      have hk1 : 1 ≤ k / 2 := by omega
      have hk3 : k / 2 < k := by omega
      obtain rfl := R₁.sameRho R₂ rfl X₂
      have I₂ := InD.of F₂ hsc hcl
      show wpAny _ (A.deeper env) (execs [nth jnBody 3] env) _ NoE _
      refine wpAny_execs_cons (wpAny_Return_some (wpAny_BinOp (wpAny_BinOp (eval_callF (Ev.free 5 rfl rfl) ⟨_, rfl⟩ (.cons (Ev.local 2 rfl rfl) (.cons (Ev.local 1 rfl rfl) .nil)) g' hsc R₂ F₂ (fun xs h₃ tk₃ k₃ r₃ rf₃ => ?_)))))
      obtain ⟨y1, y2, rfl, q1, q2⟩ := RelVs.two r₃
      unfold RelV at q1 q2
      obtain ⟨u1, rfl⟩ := q1; obtain ⟨u2, rfl⟩ := q2
      have R₃ := R₂.keeps k₃
      have F₃ := F₂.keeps R₂ k₃
      have I₃ := I₂.ext R₂ (Ext.of_keeps k₃)
      have eR : L + k = (L + k / 2) + (k - k / 2) := by omega
      rw [eR]
      refine ih (k - k / 2) (by omega) (by omega) (L + k / 2) (by omega) (A.deeper env) (pl ++ μ) ρ₂ σ { s with heap := h₃, toks := tk₃ } u1 u2 _ (g'.le (by omega)) R₃ rf₃ I₃ hs fun h₄ tk₄ v₄ X₄ R₄ => ?_
      have F₄ := F₃.ext R₃ X₄
      have I₄ := I₃.ext R₃ X₄
      refine (Ev.local (vs := jv _ _ _ _ j fa _ n) (sc := jnScope) 3 rfl rfl) (A.deeper env) (pl ++ μ) ρ₂ env { s with heap := h₄, toks := tk₄ } _ g' hsc R₄ F₄ fun w₅ h₅ tk₅ k₅ r₅ => ?_
      have R₅ := R₄.keeps k₅
      have F₅ := F₄.keeps R₄ k₅
      have I₅ := I₄.ext R₄ (Ext.of_keeps k₅)
      have hb3 : n * (k - k / 2) + n * (k / 2) ≤ 100000 := by rw [← Nat.mul_add, show k - k / 2 + k / 2 = k by omega]; exact hb
      refine Op2.shl (x := num n ((ds.drop (L + k / 2)).take (k - k / 2))) (y := ((n * (k / 2) : Nat) : Int)) (Int.natCast_nonneg _) (by
        have := Dig.bits (k := k - k / 2) (hds.part (L + k / 2) (k - k / 2)) (by rw [List.length_take]; omega)
        omega) (A.deeper env) (pl ++ μ) ρ₂ { s with heap := h₅, toks := tk₅ } _ _ _ g' R₅ (by unfold RelV; exact ⟨_, rfl⟩) r₅ fun w₆ h₆ tk₆ k₆ r₆ => ?_
      have R₆ := R₅.keeps k₆
      have F₆ := F₅.keeps R₅ k₆
      have I₆ := I₅.ext R₅ (Ext.of_keeps k₆)
      refine eval_callF (Ev.free 5 rfl rfl) ⟨_, rfl⟩ (.cons (Ev.local 0 rfl rfl) (.cons (Ev.local 2 rfl rfl) .nil)) g' hsc R₆ F₆ (fun xs h₇ tk₇ k₇ r₇ rf₇ => ?_)
      obtain ⟨y1, y2, rfl, q1, q2⟩ := RelVs.two r₇
      unfold RelV at q1 q2
      obtain ⟨u3, rfl⟩ := q1; obtain ⟨u4, rfl⟩ := q2
      have R₇ := R₆.keeps k₇
      have F₇ := F₆.keeps R₆ k₇
      have I₇ := I₆.ext R₆ (Ext.of_keeps k₇)
      refine ih (k / 2) hk3 hk1 L (by omega) (A.deeper env) (pl ++ μ) ρ₂ σ { s with heap := h₇, toks := tk₇ } u3 u4 _ (g'.le (by omega)) R₇ rf₇ I₇ hs fun h₈ tk₈ v₈ X₈ R₈ => ?_
      unfold RelV at r₆
      obtain ⟨t6, rfl⟩ := r₆
      refine Op2.add (A.deeper env) (pl ++ μ) ρ₂ { s with heap := h₈, toks := tk₈ } _ _ _ g' R₈ (by unfold RelV; exact ⟨_, rfl⟩) (by unfold RelV; exact ⟨_, rfl⟩) fun w₉ h₉ tk₉ k₉ r₉ => ?_
      unfold RelV at r₉
      obtain ⟨t9, rfl⟩ := r₉
      have Xall : ExtN (Own B env) ρ₂ h₁ ρ₂ h₉ := by
        refine ⟨⟨[], by simp, fun _ m => nomatch m⟩, fun b o nb nN e => ?_⟩
        exact k₉ b o (X₈.keep b o nb (fun q => q) (k₇ b o (k₆ b o (k₅ b o (X₄.keep b o nb (fun q => q) (k₃ b o (X₂.keep b o nb nN e)))))))
      obtain ⟨_, X, R₉⟩ := still' Xall (R₈.keeps k₉) rfl
      have := P h₉ tk₉ t9 X R₉
      rw [part_split ds n L k (k / 2) (by omega) hL] at this

      exact this
-- _digits2int
structure FD2i (B : Wd) (a : Ad) (c P : Addr) : Prop where
  still : B.grows = false
  fd2i : FnOK B.K a.d2i d2iPar d2iBody d2iScope .none .none
  code : ∀ oc od fd osl, B.K.lookup a.d2i = some ⟨oc, od, .func fd, osl⟩ → fd.code = .ref c ∧ fd.qualname = "_digits2int"
  nest : Nest B.up c P "_digits2int.<locals>.inner"
  b_len : nsIn B.K mainGlobals "len" = some none
theorem d2i_fn {a : Ad} {c P : Addr} (F : FD2i B a c P) (n : Nat) (hn : n ≤ 1000) (ds : List Int) (hds : Dig n ds) (hz : n * ds.length ≤ 100000) (hz1 : ds.length ≤ 100000) (hs : σ[j]? = some (intsV ds)) :
    OpE B.up (ds.length + 3) σ [.ref j, .int (n : Int)] (fun xs => call (.ref a.d2i) xs) (.int (num n ds)) σ := by
  have hil : (intsV ds).length = ds.length := by unfold intsV; simp
  refine OpE.keep (n := ds.length + 2) (vs' := [some (.ref j), some (.int (n : Int)), none, none]) F.fd2i d2i_pos rfl rfl (by decide) rfl fun A μ ρ env s Q g hsc hc R Fe P' => ?_
  obtain ⟨hcode, hqual⟩ := codeOfFn F.code hc
  show wpAny _ A (execs [nth d2iBody 0, nth d2iBody 1] env) Q NoE s
  have hk3 : env.kindOf "inner" = some .cell := Fe.kindOf (i := 2) (by rw [hsc]; rfl)
  have hcl : ∀ y ∈ jnScope.names, y.2 = .free → ∃ c, env.cells.lookup y.1 = some c := by
    intro y hy hf
    have at_ : ∀ (i : Nat) (z : Str), d2iScope.names[i]? = some (z, .cell) → ∃ c, env.cells.lookup z = some c := fun i z e => by
      obtain ⟨c, _, e1, _⟩ := Fe.cell i z .cell (by rw [hsc]; exact e) (.inl rfl)
      exact ⟨c, e1⟩
    obtain ⟨i, hi⟩ := List.getElem?_of_mem hy
    obtain ⟨y1, y2⟩ := y
    match i, hi with
    | 0, hi => cases hi; cases hf
    | 1, hi => cases hi; cases hf
    | 2, hi => cases hi; cases hf
    | 3, hi => cases hi; cases hf
    | 4, hi => cases hi; exact at_ 0 _ rfl
    | 5, hi => cases hi; exact at_ 2 _ rfl
    | 6, hi => cases hi; exact at_ 1 _ rfl
  refine wpAny_execs_cons (exec_nest (name := "inner") (params := jnPar) (body := jnBody) (scope := jnScope) (i := 2) F.nest R Fe hcode ?_ (by rw [hsc]; rfl) hcl rfl rfl rfl ?_)
  · rw [qual_in hqual hk3]; rfl
  intro fa c' doc pm ctv h₂ t₂ X₂ R₂ F₂
  show wpAny _ A (execs [nth d2iBody 1] env) Q NoE _
  have W : ∀ u : Option Val, Weak [some (.ref j), some (.int (n : Int)), u, none] [some (.ref j), some (.int (n : Int)), none, none] := fun u => .keep _ (.keep _ (.forget _ (.refl _)))
  by_cases h0 : ds = []
  · subst h0
    exact Exs.one (Ex.ret (Ev.ite (d := false) (Tr.of (Ev.cell 0 rfl rfl) (Tv.list (Lst.own hs) (by simp [intsV]))) (fun q => by cases q) (fun _ => Ev.cint))) A μ ρ env _ Q g hsc R₂ (F₂.weak (W _)) (P'.step X₂ R₂ Fe.own)
  · have hl1 : 1 ≤ ds.length := by
      cases ds with
      | nil => exact absurd rfl h0
      | cons _ _ => simp
    refine wpAny_execs_cons (wpAny_Return_some (IfExp_ ((Tr.of (d := true) (Ev.cell 0 rfl rfl) ?_) A μ ρ env _ _ g hsc R₂ F₂ fun h₃ t₃ k₃ => ?_)))
    · have : (!(intsV ds).isEmpty) = true := by
        cases ds with
        | nil => exact absurd rfl h0
        | cons _ _ => rfl
      rw [← this]; exact Tv.list (Lst.own hs) (by rw [hil]; have := sizeLine_eq; omega)
    have R₃ := R₂.keeps k₃
    have F₃ := F₂.keeps R₂ k₃
    simp only [if_true]
    refine eval_callF (Ev.cell 2 rfl rfl) ⟨_, rfl⟩ (.cons Ev.cint (.cons (Ev.callB (Ev.builtin 3 rfl F.b_len boot_len (by decide)) (.cons (Ev.cell 0 rfl rfl) .nil) (OpS.lenL (Lst.own hs) (by rw [hil]; have := sizeLine_eq; omega))) .nil)) g hsc R₃ F₃ (fun xs h₄ tk₄ k₄ r₄ rf₄ => ?_)
    obtain ⟨y1, y2, rfl, q1, q2⟩ := RelVs.two r₄
    unfold RelV at q1 q2
    obtain ⟨u1, rfl⟩ := q1; obtain ⟨u2, rfl⟩ := q2
    have R₄ := R₃.keeps k₄
    have F₄ := F₃.keeps R₃ k₄
    have el : (((intsV ds).length : Nat) : Int) = ((0 + ds.length : Nat) : Int) := by rw [hil]; simp
    rw [el]
    have hf : ∀ (i : Nat) (z : Str) (v : Val) (j' : Nat), jnScope.names[j']? = some (z, .free) → d2iScope.names[i]? = some (z, .cell) → [some (.ref j), some (.int (n : Int)), some (.obj fa (fnMade "inner" "_digits2int.<locals>.inner" jnPar jnBody jnScope (closL env.cells jnScope.names []) doc pm c' ctv)), none][i]? = some (some v) → Cel (closL env.cells jnScope.names []) μ ρ h₄ z v := fun i z v j' e1 e2 e3 => clos_in F₄ hsc (by decide) e1 e2 e3
    refine jn_fn F.still rfl (clos_apart Fe hcl) hn ds hds hz hz1 ds.length hl1 0 (by omega) A μ ρ σ { s with heap := h₄, toks := tk₄ } u1 u2 _ (g.le (by omega)) R₄.down rf₄ ⟨hf 0 _ _ 4 rfl rfl rfl, hf 2 _ _ 5 rfl rfl rfl, hf 1 _ _ 6 rfl rfl rfl⟩ hs fun h₅ tk₅ t₅ X₅ R₅ => ?_
    rw [List.drop_zero, List.take_length]
    have X := ExtN.trans (ExtN.trans X₂ R₂ Fe.own (Keeps.own (μ := μ) (k₃.trans k₄))) R₄ Fe.own X₅.any
    exact P' ρ _ h₅ tk₅ X R₅.rise ((F₄.ext R₄ X₅).weak (W _)) (by unfold RelF; exact ⟨_, rfl, by unfold RelV; exact ⟨_, rfl⟩⟩)
end
end Mine
namespace Mine
open PySem PySem.Spec PySem.Calls PyProof.Rows PySem.W
-- _div2n1n, _divmod_pos, int_divmod
noncomputable def div2Stmt := nth top 8
noncomputable def div2Body := fBody div2Stmt
noncomputable def div2Scope := fScope div2Stmt
noncomputable def div2Par := fPar div2Stmt
noncomputable def dposStmt := nth top 12
noncomputable def dposBody := fBody dposStmt
noncomputable def dposScope := fScope dposStmt
noncomputable def dposPar := fPar dposStmt
noncomputable def idmStmt := nth top 13
noncomputable def idmBody := fBody idmStmt
noncomputable def idmScope := fScope idmStmt
noncomputable def idmPar := fPar idmStmt
theorem div2_pos : ByPos div2Par .none .none (parN div2Scope 3) := fun s fd xs h1 h2 h3 hl => by
  obtain ⟨x, y, z, rfl⟩ := three_of hl
  exact BindsTo.of_eq (by cases fd; simp only at h1 h2 h3; subst h1; subst h2; subst h3; rfl)
theorem dpos_pos : ByPos dposPar .none .none (parN dposScope 2) := fun s fd xs h1 h2 h3 hl => by
  obtain ⟨x, y, rfl⟩ := two_of hl
  exact BindsTo.of_eq (by cases fd; simp only at h1 h2 h3; subst h1; subst h2; subst h3; rfl)
theorem idm_pos : ByPos idmPar .none .none (parN idmScope 2) := fun s fd xs h1 h2 h3 hl => by
  obtain ⟨x, y, rfl⟩ := two_of hl
  exact BindsTo.of_eq (by cases fd; simp only at h1 h2 h3; subst h1; subst h2; subst h3; rfl)
structure FDiv (B : Wd) (a : Ad) (ci Pi cd Pd : Addr) : Prop where
  still : B.grows = false
  hid : ∀ q ∈ B.tabs, B.h₀.get? q.1 = Option.none
  toI : FI2d B a ci Pi
  toD : FD2i B a cd Pd
  fdiv2 : FnOK B.K a.div2 div2Par div2Body div2Scope .none .none
  fdpos : FnOK B.K a.dpos dposPar dposBody dposScope .none .none
  fidm : FnOK B.K a.idm idmPar idmBody idmScope .none .none
  g_i2d : nsIn B.K mainGlobals "_int2digits" = some (some (.ref a.i2d))
  g_div2 : nsIn B.K mainGlobals "_div2n1n" = some (some (.ref a.div2))
  g_d2i : nsIn B.K mainGlobals "_digits2int" = some (some (.ref a.d2i))
  g_dpos : nsIn B.K mainGlobals "_divmod_pos" = some (some (.ref a.dpos))
  g_idm : nsIn B.K mainGlobals "int_divmod" = some (some (.ref a.idm))
  g_lim : ∃ t, nsIn B.K mainGlobals "_DIV_LIMIT" = some (some (.int 4000 t))
  b_divmod : nsIn B.K mainGlobals "divmod" = some none
  b_reversed : nsIn B.K mainGlobals "reversed" = some none
section
variable {B : Wd} {a : Ad} {ci Pi cd Pd : Addr} {k : Nat}
theorem div2_fn (F : FDiv B a ci Pi cd Pd) (x y : Int) (n : Nat) (hb : Builtin.Int.intBits x ≤ n + 4000) (hy : y ≠ 0) (hy2 : y.natAbs.log2 < 9000) : Fn B (k + 1) a.div2 [.int x, .int y, .int (n : Int)] (.tup [.int (x.fdiv y), .int (x.fmod y)]) := by
  refine Fn.mk F.still F.fdiv2 div2_pos rfl rfl (by decide) rfl ⟨_, _, _, Exs.ifT ((Tr.cmp (Ev.bin (Ev.meth (Ev.local 0 rfl rfl) .nil TyB.int PySem.F.plainAttrs_int PySem.F.slot_int_bit_length PySem.F.type_int_bit_length OpS.bits) (Ev.local 2 rfl rfl) Op2.sub) (Ev.gint 11 rfl F.g_lim) Op2.le).eq (d' := true) (by simp; omega)) (Exs.one (Ex.ret (Ev.callB (Ev.builtin 12 rfl F.b_divmod boot_divmod (by decide)) (.cons (Ev.local 0 rfl rfl) (.cons (Ev.local 1 rfl rfl) .nil)) (OpS.divmod hy (PyProof.noPylong_of_log2 hy2))))) Fl.ret_ne, Out.same rfl⟩
/-- long division, a digit a turn -/
noncomputable def hstep (n : Nat) (y : Int) (s : List Int × Int) (d : Int) : List Int × Int := (s.1 ++ [(s.2 * 2 ^ n + d).fdiv y], (s.2 * 2 ^ n + d).fmod y)
theorem hstep_ok {n : Nat} {y r d : Int} (hy : 0 < y) (hr : 0 ≤ r ∧ r < y) (hd : 0 ≤ d ∧ d < 2 ^ n) : (0 ≤ (r * 2 ^ n + d).fmod y ∧ (r * 2 ^ n + d).fmod y < y) ∧ (0 ≤ (r * 2 ^ n + d).fdiv y ∧ (r * 2 ^ n + d).fdiv y < 2 ^ n) ∧ y * (r * 2 ^ n + d).fdiv y + (r * 2 ^ n + d).fmod y = r * 2 ^ n + d := by
  have hA : (0 : Int) < 2 ^ n := Int.pow_pos (by decide)
  generalize (2 : Int) ^ n = A at *
  have h0 : 0 ≤ r * A := Int.mul_nonneg hr.1 (Int.le_of_lt hA)
  have h1 : r * A + A ≤ y * A := by
    have : (r + 1) * A ≤ y * A := Int.mul_le_mul_of_nonneg_right (by omega) (Int.le_of_lt hA)
    rw [Int.add_mul, Int.one_mul] at this; exact this
  have e := Int.mul_fdiv_add_fmod (r * A + d) y
  have m1 := Int.fmod_nonneg_of_pos (r * A + d) hy
  have m2 := Int.fmod_lt_of_pos (r * A + d) hy
  refine ⟨⟨m1, m2⟩, ⟨?_, ?_⟩, e⟩
  · rw [Int.fdiv_eq_ediv_of_nonneg _ (Int.le_of_lt hy)]
    exact Int.ediv_nonneg (by omega) (Int.le_of_lt hy)
  · rw [Int.fdiv_eq_ediv_of_nonneg _ (Int.le_of_lt hy)]
    refine Int.ediv_lt_of_lt_mul hy ?_
    rw [Int.mul_comm A y]; omega
theorem horner {n : Nat} {y : Int} (hy : 0 < y) : ∀ (ds : List Int), Dig n ds → (0 ≤ (ds.reverse.foldl (hstep n y) ([], 0)).2 ∧ (ds.reverse.foldl (hstep n y) ([], 0)).2 < y) ∧ Dig n (ds.reverse.foldl (hstep n y) ([], 0)).1 ∧ (ds.reverse.foldl (hstep n y) ([], 0)).1.length = ds.length ∧
    y * num n (ds.reverse.foldl (hstep n y) ([], 0)).1.reverse + (ds.reverse.foldl (hstep n y) ([], 0)).2 = num n ds
  | [], _ => ⟨⟨Int.le_refl _, hy⟩, fun _ h => (nomatch h), rfl, by simp [num]⟩
  | d :: ds, h => by
    obtain ⟨i1, i2, i3, i4⟩ := horner hy ds fun z hz => h z (List.mem_cons_of_mem _ hz)
    rw [List.reverse_cons, List.foldl_append]
    generalize ds.reverse.foldl (hstep n y) ([], 0) = st at *
    obtain ⟨qs, r⟩ := st
    obtain ⟨h1, h2, h3⟩ := hstep_ok hy i1 (h d (by simp))
    simp only [List.foldl_cons, List.foldl_nil, hstep] at *
    refine ⟨h1, fun z hz => ?_, by simp [i3], ?_⟩
    · rcases List.mem_append.mp hz with m | m
      · exact i2 z m
      · rw [List.mem_singleton.mp m]; exact h2
    · rw [List.reverse_append, List.reverse_singleton, List.singleton_append, num_cons, num_cons, ← i4]
      generalize (r * 2 ^ n + d).fdiv y = q at *
      generalize (r * 2 ^ n + d).fmod y = r' at *
      rw [Int.mul_add, Int.mul_add, ← Int.mul_assoc, ← Int.mul_assoc, Int.mul_comm y (2 ^ n), Int.mul_comm (2 ^ n) r]
      omega
theorem dg_dig (n : Nat) : ∀ (k x : Nat), Dig n (dg n k x)
  | 0, _ => fun _ h => (nomatch h)
  | k + 1, x => fun d hd => by
    rw [dg_succ] at hd
    rcases List.mem_cons.mp hd with rfl | hd
    · have : x % 2 ^ n < 2 ^ n := Nat.mod_lt _ (Nat.two_pow_pos n)
      have e : ((2 : Int) ^ n) = ((2 ^ n : Nat) : Int) := by simp
      rw [e]; omega
    · exact dg_dig n k _ d hd
theorem lt_bits (x : Nat) : x < 2 ^ Builtin.Int.intBits (x : Int) := by
  unfold Builtin.Int.intBits
  by_cases h : x = 0
  · subst h; exact Nat.two_pow_pos _
  · have : ((x : Int) == 0) = false := by simp; exact h
    rw [this, if_neg (by decide), Int.natAbs_natCast]
    exact Nat.lt_log2_self
theorem bits_pos {y : Nat} (h : 0 < y) : 1 ≤ Builtin.Int.intBits (y : Int) := by
  unfold Builtin.Int.intBits
  have : ((y : Int) == 0) = false := by simp; omega
  rw [this, if_neg (by decide)]
  omega
theorem log_bits (y : Nat) : y.log2 ≤ Builtin.Int.intBits (y : Int) := by
  unfold Builtin.Int.intBits
  split
  · rename_i h
    have : y = 0 := by simpa using h
    subst this; decide
  · rw [Int.natAbs_natCast]; omega
noncomputable def dpv (x y n : Nat) (ds : List Int) (s : List Int × Int) : List (Option Val) := [some (.int (x : Int)), some (.int (y : Int)), some (.int (n : Int)), some (.list (intsV ds)), some (.int s.2), some (.ref 0), none, none, none, none, none, none, none]
theorem dpos_loop (F : FDiv B a ci Pi cd Pd) (x y n : Nat) (hn : Builtin.Int.intBits (y : Int) = n) (hn1 : n ≤ 1000) (hy : 0 < y) (ds : List Int) (hds : Dig n ds) (hl : ds.length ≤ 1000) :
    Ex B.up (k + 1) dposScope (dpv x y n ds ([], 0)) [intsV []] (nth dposBody 4) .next (dpv x y n ds (ds.reverse.foldl (hstep n (y : Int)) ([], 0))) [intsV (ds.reverse.foldl (hstep n (y : Int)) ([], 0)).1] := by
  have hil : ∀ ns : List Int, (intsV ns).length = ns.length := fun ns => by unfold intsV; simp
  have hy' : (0 : Int) < (y : Int) := by omega
  have hlp := Lp.fold (B := B.up) (n := k + 1) (sc := dposScope) (tg := forTg (nth dposBody 4)) (body := levInner (nth dposBody 4)) (α := Int) (S := List Int × Int) .int (fun s => dpv x y n ds s) (fun s => [intsV s.1]) (hstep n (y : Int)) (fun d s => (dpv x y n ds s).set 6 (some (.int d))) (fun d s => As.name 6 rfl (.inl rfl)) ds.reverse
    (fun j s => (0 ≤ s.2 ∧ s.2 < (y : Int)) ∧ s.1.length = j ∧ j ≤ ds.length) (fun j d s hd hs => by
      have hm : d ∈ ds := List.mem_reverse.mp (List.mem_of_getElem? hd)
      obtain ⟨h1, h2, h3⟩ := hstep_ok hy' hs.1 (hds d hm)
      have hj := (List.getElem?_eq_some_iff.mp hd).1
      rw [List.length_reverse] at hj
      exact ⟨h1, by simp [hstep, hs.2.1], by omega⟩) (fun j d s hd hs => ?_) ([], 0) ⟨⟨Int.le_refl _, hy'⟩, rfl, Nat.zero_le _⟩
  · refine Ex.forL (f := .next) (xs := (intsV ds).reverse) (Itr.rev (Ev.builtin 10 rfl F.b_reversed boot_reversed (by decide)) (Ev.local 3 rfl rfl) (by rw [hil]; have := sizeLine_eq; omega)) ?_ (fun _ => Exs.nil) (fun q => by cases q) (fun v q => by cases q)
    have e : (intsV ds).reverse = ds.reverse.map .int := by unfold intsV; rw [List.map_reverse]
    rw [e]
    exact hlp
  · have hm : d ∈ ds := List.mem_reverse.mp (List.mem_of_getElem? hd)
    obtain ⟨hr, hlen, hj⟩ := hs
    obtain ⟨qs, r⟩ := s
    simp only at hr hlen
    have hd2 := hds d hm
    have eq0 : (0 : Int) ≤ r * 2 ^ n + d := Int.add_nonneg (Int.mul_nonneg hr.1 (Int.le_of_lt (Int.pow_pos (by decide)))) hd2.1
    obtain ⟨rn, rfl⟩ := Int.eq_ofNat_of_zero_le hr.1
    obtain ⟨dn, rfl⟩ := Int.eq_ofNat_of_zero_le hd2.1
    have hyb := lt_bits y
    rw [hn] at hyb
    have hrn : rn < 2 ^ n := by omega
    have hdn : dn < 2 ^ n := by have := hd2.2; rw [show ((2 : Int) ^ n) = ((2 ^ n : Nat) : Int) by simp] at this; omega
    have ec : (rn : Int) * 2 ^ n + (dn : Int) = ((rn * 2 ^ n + dn : Nat) : Int) := by simp
    have hbits : Builtin.Int.intBits ((rn : Int) * 2 ^ n + (dn : Int)) ≤ n + 4000 := by
      rw [ec]
      refine Nat.le_trans (bits_le (m := n + n) ?_) (by omega)
      rw [Nat.pow_add]
      have : (rn + 1) * 2 ^ n ≤ 2 ^ n * 2 ^ n := Nat.mul_le_mul_right _ hrn
      rw [Nat.add_mul] at this; omega
    have hlog : ((y : Nat) : Int).natAbs.log2 < 9000 := by rw [Int.natAbs_natCast]; have := log_bits y; omega
    have hshl : (Builtin.Int.intBits (rn : Int) : Int) + (n : Int) ≤ 2 ^ 27 := by
      have := bits_le hrn; omega
    have hne : (y : Int) ≠ 0 := by omega
    refine Exs.cons (Ex.assignT (Ev.callD (Ev.gval 11 rfl F.g_div2) F.fdiv2.isFn (.cons ((Ev.bin (Ev.bin (Ev.local 4 rfl rfl) (Ev.local 2 rfl rfl) (Op2.shl (Int.natCast_nonneg _) hshl)) (Ev.local 6 rfl rfl) Op2.add)) (.cons (Ev.local 1 rfl rfl) (.cons (Ev.local 2 rfl rfl) .nil))) (OpS.up (div2_fn F ((rn : Int) * 2 ^ n + (dn : Int)) (y : Int) n hbits hne hlog _))) (As.two 7 4 rfl (.inl rfl) rfl (.inl rfl))) ?_
    have m := OpM.append (B := B.up) (n := k + 1) (σ := [intsV qs]) (i := 0) (a := .int (((rn : Int) * 2 ^ n + (dn : Int)).fdiv (y : Int))) (xs := intsV qs) rfl (by rw [hil]; omega)
    have e : ([intsV qs] : Store).set 0 (intsV qs ++ [.int (((rn : Int) * 2 ^ n + (dn : Int)).fdiv (y : Int))]) = [intsV (qs ++ [((rn : Int) * 2 ^ n + (dn : Int)).fdiv (y : Int)])] := by unfold intsV; simp
    rw [e] at m
    refine Exs.weak (Exs.one (Ex.meth (Ev.local 5 rfl rfl) (.cons (Ev.local 7 rfl rfl) .nil) PySem.F.slot_list_append PySem.F.type_list_append m)) ?_
    unfold dpv
    repeat (first | exact Weak.refl _ | apply Weak.keep | apply Weak.forget)
theorem dpos_plain {x y : Nat} (hy : 0 < y) {ds : List Int} {n : Nat} (hds : Dig n ds) (hx : num n ds = x) : num n (ds.reverse.foldl (hstep n (y : Int)) ([], 0)).1.reverse = (x : Int).fdiv y ∧ (ds.reverse.foldl (hstep n (y : Int)) ([], 0)).2 = (x : Int).fmod y := by
  have hy' : (0 : Int) < (y : Int) := by omega
  obtain ⟨h1, h2, h3, h4⟩ := horner hy' ds hds
  generalize (ds.reverse.foldl (hstep n (y : Int)) ([], 0)) = st at *
  obtain ⟨qs, r⟩ := st
  simp only at *
  generalize num n qs.reverse = q at *
  rw [hx] at h4
  have h5 : (x : Int) = r + q * (y : Int) := by rw [← h4, Int.mul_comm]; omega
  have e1 : (x : Int).fdiv y = q := by
    rw [Int.fdiv_eq_ediv_of_nonneg _ (Int.le_of_lt hy'), h5, Int.add_mul_ediv_right _ _ (by omega), Int.ediv_eq_zero_of_lt h1.1 h1.2]; omega
  have e2 : (x : Int).fmod y = r := by
    rw [Int.fmod_eq_emod_of_nonneg _ (Int.le_of_lt hy'), h5, Int.add_mul_emod_self_right, Int.emod_eq_of_lt h1.1 h1.2]
  exact ⟨e1.symm, e2.symm⟩
theorem dpos_fn (F : FDiv B a ci Pi cd Pd) (x y M : Nat) (hy : 0 < y) (hy1 : Builtin.Int.intBits (y : Int) ≤ 1000) (hM : M ≤ 100) (hx : Builtin.Int.intBits (x : Int) ≤ Builtin.Int.intBits (y : Int) * M) :
    FnG B.up (M + 4) a.dpos [.int (x : Int), .int (y : Int)] (.tup [.int ((x : Int).fdiv y), .int ((x : Int).fmod y)]) := by
  generalize hn : Builtin.Int.intBits (y : Int) = n at *
  have hn1 : 1 ≤ n := by rw [← hn]; exact bits_pos hy
  obtain ⟨m, hm⟩ : ∃ m, (Builtin.Int.intBits (x : Int) + n - 1) / n = m := ⟨_, rfl⟩
  have hmM : m ≤ M := by
    rw [← hm]
    refine Nat.le_of_lt_succ (Nat.div_lt_of_lt_mul ?_)
    rw [Nat.mul_succ]; omega
  have hmn : Builtin.Int.intBits (x : Int) ≤ n * m := by
    have h1 := Nat.lt_div_mul_add (a := Builtin.Int.intBits (x : Int) + n - 1) (b := n) (by omega)
    rw [hm, Nat.mul_comm] at h1; omega
  have hnm : n * m ≤ 100000 := Nat.le_trans (Nat.mul_le_mul hy1 (Nat.le_trans hmM hM)) (by decide)
  have hxl : x < 2 ^ (n * m) := Nat.lt_of_lt_of_le (lt_bits x) (Nat.pow_le_pow_right (by decide) hmn)
  have hdl : (dg n m x).length = m := dg_len n m x
  have hdd := dg_dig n m x
  have hnum : num n (dg n m x) = x := num_dg n m x hxl
  have hI := i2d_fn F.toI x n m hn1 hm hnm hy1 hxl
  generalize dg n m x = ds at *
  have hloop := dpos_loop (k := M + 2) F x y n hn hy1 hy ds hdd (by omega)
  obtain ⟨p1, p2⟩ := dpos_plain hy hdd hnum
  obtain ⟨_, q2, q3, _⟩ := horner (n := n) (y := (y : Int)) (by omega) ds hdd
  generalize ds.reverse.foldl (hstep n (y : Int)) ([], 0) = st at *
  obtain ⟨qs, r⟩ := st
  simp only at p1 p2 q2 q3
  subst p2
  have hqd : Dig n qs.reverse := fun d hd => q2 d (List.mem_reverse.mp hd)
  have hqi : (intsV qs).reverse = intsV qs.reverse := by unfold intsV; rw [List.map_reverse]
  have hm2 := OpM.reverse (B := B.up) (n := M + 3) (σ := [intsV qs]) (i := 0) (xs := intsV qs) rfl (by unfold intsV; simp; omega)
  have e2 : ([intsV qs] : Store).set 0 (intsV qs).reverse = [intsV qs.reverse] := by rw [hqi]; rfl
  rw [e2] at hm2
  have hD := d2i_fn (σ := [intsV qs.reverse]) (j := 0) F.toD n hy1 qs.reverse hqd (by rw [List.length_reverse, q3, hdl]; exact hnm) (by rw [List.length_reverse]; omega) rfl
  rw [p1, List.length_reverse, q3, hdl] at hD
  refine FnG.mk F.hid F.fdpos dpos_pos rfl rfl (by decide) rfl ?_
  exact ⟨_, _, _, Exs.toC (
    Exs.cons (Ex.assign 2 rfl (.inl rfl) (Ev.eq (Ev.meth (Ev.local 1 rfl rfl) .nil TyB.int PySem.F.plainAttrs_int PySem.F.slot_int_bit_length PySem.F.type_int_bit_length OpS.bits) (by rw [hn]))) <|
    Exs.cons (Ex.assignE 3 rfl (.inl rfl) (EvE.callD (Ev.gval 9 rfl F.g_i2d) F.toI.fi2d.isFn (.cons (Ev.local 0 rfl rfl) (.cons (Ev.local 2 rfl rfl) .nil)) ((hI.le (n := M + 3) (by omega)) _))) <|
    Exs.cons (Ex.assign 4 rfl (.inl rfl) Ev.cint) <|
    Exs.cons (Ex.assignN 5 rfl (.inl rfl) (EvN.display .nil)) <|
    Exs.cons hloop <|
    Exs.cons (Ex.meth (Ev.local 5 rfl rfl) .nil PySem.F.slot_list_reverse PySem.F.type_list_reverse hm2) <|
    Exs.cons (Ex.assignE 8 rfl (.inl rfl) (EvE.callD (Ev.gval 12 rfl F.g_d2i) F.toD.fd2i.isFn (.cons (Ev.local 5 rfl rfl) (.cons (Ev.local 2 rfl rfl) .nil)) (fun A μ ρ s xs Q g R r P => hD A μ ρ s xs Q (g.le (by omega)) R r P))) <|
    Exs.one (Ex.ret (Ev.tuple (.cons (Ev.local 8 rfl rfl) (.cons (Ev.local 4 rfl rfl) .nil))))), Out.same rfl⟩
theorem idm_0 (F : FDiv B a ci Pi cd Pd) (x y M : Nat) (hy : 0 < y) (hy1 : Builtin.Int.intBits (y : Int) ≤ 1000) (hM : M ≤ 100) (hx : Builtin.Int.intBits (x : Int) ≤ Builtin.Int.intBits (y : Int) * M) :
    FnG B.up (M + 5) a.idm [.int (x : Int), .int (y : Int)] (.tup [.int ((x : Int).fdiv y), .int ((x : Int).fmod y)]) := by
  have hP := dpos_fn F x y M hy hy1 hM hx
  refine FnG.mk F.hid F.fidm idm_pos rfl rfl (by decide) rfl ?_
  exact ⟨_, _, _, Exs.toC (Exs.one <|
    Ex.ite ((Tr.cmp (Ev.local 1 rfl rfl) Ev.cint Op2.eq).eq (d' := false) (by simp; omega)) (fun q => by cases q) fun _ => Exs.one <|
    Ex.ite ((Tr.cmp (Ev.local 1 rfl rfl) Ev.cint Op2.lt).eq (d' := false) (by simp)) (fun q => by cases q) fun _ => Exs.one <|
    Ex.ite ((Tr.cmp (Ev.local 0 rfl rfl) Ev.cint Op2.lt).eq (d' := false) (by simp)) (fun q => by cases q) fun _ => Exs.one <|
    Ex.retE (EvE.callD (Ev.gval 6 rfl F.g_dpos) F.fdpos.isFn (.cons (Ev.local 0 rfl rfl) (.cons (Ev.local 1 rfl rfl) .nil)) (hP _))), Out.same rfl⟩
theorem neg_x (x y : Int) (hy : 0 < y) : -((-x - 1).fdiv y) - 1 = x.fdiv y ∧ y + (-((-x - 1).fmod y) - 1) = x.fmod y := by
  have e := Int.mul_fdiv_add_fmod (-x - 1) y
  have m1 := Int.fmod_nonneg_of_pos (-x - 1) hy
  have m2 := Int.fmod_lt_of_pos (-x - 1) hy
  generalize (-x - 1).fdiv y = q at *
  generalize (-x - 1).fmod y = r at *
  have hx : x = (y + (-r - 1)) + (-q - 1) * y := by
    rw [Int.sub_mul, Int.neg_mul, Int.mul_comm q y, Int.one_mul]; omega
  constructor
  · rw [Int.fdiv_eq_ediv_of_nonneg _ (Int.le_of_lt hy), hx, Int.add_mul_ediv_right _ _ (by omega), Int.ediv_eq_zero_of_lt (by omega) (by omega)]; omega
  · rw [Int.fmod_eq_emod_of_nonneg _ (Int.le_of_lt hy), hx, Int.add_mul_emod_self_right, Int.emod_eq_of_lt (by omega) (by omega)]
theorem neg_y (x y : Int) (hy : y < 0) : (-x).fdiv (-y) = x.fdiv y ∧ -((-x).fmod (-y)) = x.fmod y := by
  have e : (-x).fdiv (-y) = x.fdiv y := Int.neg_fdiv_neg ..
  refine ⟨e, ?_⟩
  have h1 := Int.mul_fdiv_add_fmod (-x) (-y)
  have h2 := Int.mul_fdiv_add_fmod x y
  rw [e, Int.neg_mul] at h1
  omega
theorem idm_1 (F : FDiv B a ci Pi cd Pd) (x : Int) (y M : Nat) (hy : 0 < y) (hy1 : Builtin.Int.intBits (y : Int) ≤ 1000) (hM : M ≤ 100) (hx : Builtin.Int.intBits (x.natAbs : Int) ≤ Builtin.Int.intBits (y : Int) * M) :
    FnG B.up (M + 6) a.idm [.int x, .int (y : Int)] (.tup [.int (x.fdiv y), .int (x.fmod y)]) := by
  by_cases h0 : 0 ≤ x
  · obtain ⟨z, rfl⟩ := Int.eq_ofNat_of_zero_le h0
    rw [Int.natAbs_natCast] at hx
    exact (idm_0 F z y M hy hy1 hM hx).le (by omega)
  · obtain ⟨z, hz⟩ : ∃ z : Nat, -x - 1 = (z : Int) := Int.eq_ofNat_of_zero_le (by omega)
    have hzx : Builtin.Int.intBits (z : Int) ≤ Builtin.Int.intBits (y : Int) * M := by
      refine Nat.le_trans (bits_le ?_) hx
      have := lt_bits x.natAbs
      omega
    have hP := idm_0 F z y M hy hy1 hM hzx
    obtain ⟨e1, e2⟩ := neg_x x (y : Int) (by omega)
    rw [hz] at e1 e2
    refine FnG.mk F.hid F.fidm idm_pos rfl rfl (by decide) rfl ?_
    rw [← e1, ← e2]
    exact ⟨_, _, _, Exs.toC (Exs.one <|
      Ex.ite ((Tr.cmp (Ev.local 1 rfl rfl) Ev.cint Op2.eq).eq (d' := false) (by simp; omega)) (fun q => by cases q) fun _ => Exs.one <|
      Ex.ite ((Tr.cmp (Ev.local 1 rfl rfl) Ev.cint Op2.lt).eq (d' := false) (by simp)) (fun q => by cases q) fun _ => Exs.one <|
      Ex.ite ((Tr.cmp (Ev.local 0 rfl rfl) Ev.cint Op2.lt).eq (d' := true) (by simp; omega)) (fun _ =>
        Exs.cons (Ex.assignTE (EvE.callD (Ev.gval 5 rfl F.g_idm) F.fidm.isFn (.cons ((Ev.un (Ev.local 0 rfl rfl) Op1.inv).eq (by rw [hz])) (.cons (Ev.local 1 rfl rfl) .nil)) (hP _)) (As.two 2 3 rfl (.inl rfl) rfl (.inl rfl))) <|
        Exs.one (Ex.ret (Ev.tuple (.cons (Ev.un (Ev.local 2 rfl rfl) Op1.inv) (.cons (Ev.bin (Ev.local 1 rfl rfl) (Ev.un (Ev.local 3 rfl rfl) Op1.inv) Op2.add) .nil))))) fun q => by cases q), Out.same rfl⟩
/-- int_divmod is division with the remainder's sign the divisor's -/
theorem idm_fn (F : FDiv B a ci Pi cd Pd) (x y : Int) (M : Nat) (hy : y ≠ 0) (hy1 : Builtin.Int.intBits (y.natAbs : Int) ≤ 1000) (hM : M ≤ 100) (hx : Builtin.Int.intBits (x.natAbs : Int) ≤ Builtin.Int.intBits (y.natAbs : Int) * M) :
    FnG B.up (M + 7) a.idm [.int x, .int y] (.tup [.int (x.fdiv y), .int (x.fmod y)]) := by
  by_cases h0 : 0 < y
  · obtain ⟨z, rfl⟩ := Int.eq_ofNat_of_zero_le (Int.le_of_lt h0)
    rw [Int.natAbs_natCast] at hx hy1
    exact (idm_1 F x z M (by omega) hy1 hM hx).le (by omega)
  · obtain ⟨z, hz⟩ : ∃ z : Nat, -y = (z : Int) := Int.eq_ofNat_of_zero_le (by omega)
    have hzy : y.natAbs = z := by omega
    rw [hzy] at hx hy1
    have hP := idm_1 F (-x) z M (by omega) hy1 hM (by rw [Int.natAbs_neg]; exact hx)
    obtain ⟨e1, e2⟩ := neg_y x y (by omega)
    rw [hz] at e1 e2
    refine FnG.mk F.hid F.fidm idm_pos rfl rfl (by decide) rfl ?_
    rw [← e1, ← e2]
    exact ⟨_, _, _, Exs.toC (Exs.one <|
      Ex.ite ((Tr.cmp (Ev.local 1 rfl rfl) Ev.cint Op2.eq).eq (d' := false) (by simp; omega)) (fun q => by cases q) fun _ => Exs.one <|
      Ex.ite ((Tr.cmp (Ev.local 1 rfl rfl) Ev.cint Op2.lt).eq (d' := true) (by simp; omega)) (fun _ =>
        Exs.cons (Ex.assignTE (EvE.callD (Ev.gval 5 rfl F.g_idm) F.fidm.isFn (.cons (Ev.un (Ev.local 0 rfl rfl) Op1.neg) (.cons ((Ev.un (Ev.local 1 rfl rfl) Op1.neg).eq (by rw [hz])) .nil)) (hP _)) (As.two 2 3 rfl (.inl rfl) rfl (.inl rfl))) <|
        Exs.one (Ex.ret (Ev.tuple (.cons (Ev.local 2 rfl rfl) (.cons (Ev.un (Ev.local 3 rfl rfl) Op1.neg) .nil))))) fun q => by cases q), Out.same rfl⟩
end
end Mine
namespace Mine
open PySem PySem.Spec PySem.Calls PyProof.Rows PySem.W
-- Headers
noncomputable def hdrBody := cBody (nth top 5)
noncomputable def hPar (i : Nat) := fPar (nth hdrBody i)
noncomputable def hBody (i : Nat) := fBody (nth hdrBody i)
noncomputable def hScope (i : Nat) := fScope (nth hdrBody i)
noncomputable def asgV : Stmt → Expr
  | .Assign _ e _ => e
  | _ => .Constant .none 0 ⟨0, 0, 0, 0⟩
noncomputable def testOf : Stmt → Expr
  | .If e _ _ _ => e
  | _ => .Constant .none 0 ⟨0, 0, 0, 0⟩
noncomputable def forIt : Stmt → Expr
  | .For _ e _ _ _ => e
  | _ => .Constant .none 0 ⟨0, 0, 0, 0⟩
structure Hd where
  C : Addr
  init : Addr
  cst : Addr
  get : Addr
  pn : Addr
  pv : Addr
structure FCst (B : Wd) (d : Hd) : Prop where
  still : B.grows = false
  cls : FHdr B.K d.C
  cst : HM B.K d.C d.cst "_convert_string_type"
  fcst : FnOK B.K d.cst (hPar 1) (hBody 1) (hScope 1) .none .none
  b_type : nsIn B.K mainGlobals "type" = some none
  b_str : nsIn B.K mainGlobals "str" = some none
  g_pn : nsIn B.K mainGlobals "_name_disallowed_re" = some (some (.ref d.pn))
  g_pv : nsIn B.K mainGlobals "_value_disallowed_re" = some (some (.ref d.pv))
  patN : PatAt B.K d.pn nameCode
  patV : PatAt B.K d.pv valueCode
section
variable {B : Wd} {d : Hd} {n : Nat} {σ : Store}
theorem TyB.pat {p : Addr} {code : List Nat} (F : PatAt B.K p code) : TyB B σ (.glob (.ref p)) "re.Pattern" := fun R q => by
  unfold RelV at q; subst q
  obtain ⟨vs, sl, q, its, m, o, e1, _⟩ := F.obj
  exact ⟨⟨_, R.inK _ _ e1, rfl⟩, fun ad z => by cases z; exact ⟨_, R.inK _ _ e1, rfl⟩⟩
theorem cst_binds {s : Shared} {fd : FuncData} {x y : Value} {b : Bool} (h1 : fd.params = hPar 1) (h2 : fd.defaults = .none) (h3 : fd.kwdefaults = .none) : BindsTo s fd ⟨[x, y], [("name", .bool b)]⟩ ((parN (hScope 1) 3).zip [x, y, .bool b]) := by
  refine BindsTo.of_eq ?_
  cases fd
  simp only at h1 h2 h3
  subst h1; subst h2; subst h3
  rfl
/-- _convert_string_type answers a printable text with itself -/
theorem cst_op (F : FCst B d) {x x' : Val} (z : Fz σ x x') (t : Str) (b : Bool) (ht : Printable t) (hz : t.length ≤ 1000000) : OpS B (n + 1) σ [x, .str t] (fun xs => call (.ref d.cst) xs [("name", .bool b)]) (.str t) := fun A μ ρ s xs Q g R r P => by
  obtain ⟨u, w, rfl, r1, r2⟩ := RelVs.two r
  have hz' : t.cps.size < 2 ^ 62 := by have : t.cps.size ≤ 1000000 := hz; omega
  have body : ∃ vs' σ', Exs B n (hScope 1) [some x', some (.str t), some (.bool b), none, none, none, none, none, none, none, none] [] (hBody 1) (.ret (.str t)) vs' σ' := by
    have main : ∀ (p : Addr) (code : List Nat), PatAt B.K p code → ((Sre.forSearch code.toArray t.cps 0 0 t.cps.size false).runFor 4).outcome = some .failed → Ev B n (hScope 1) [some x', some (.str t), some (.bool b), none, none, none, none, none, none, none, none] [] (asgV (nth (thn (nth (hBody 1) 0)) 0)) (.glob (.ref p)) → ∃ vs' σ', Exs B n (hScope 1) [some x', some (.str t), some (.bool b), none, none, none, none, none, none, none, none] [] (hBody 1) (.ret (.str t)) vs' σ' := fun p code hp hs hv =>
      ⟨_, _, Exs.ifT (Tr.cmp (Ev.callT (Ev.builtin 4 rfl F.b_type boot_type (by decide)) (.cons (Ev.local 1 rfl rfl) .nil) OpS.typeStr) (Ev.builtin 5 rfl F.b_str boot_str (by decide)) Op2.isType)
        (Exs.cons (Ex.assign 3 rfl (.inl rfl) hv) <| Exs.cons (Ex.ite (ys := []) (d := false) (Tr.of (Ev.meth (Ev.local 3 rfl rfl) (.cons (Ev.local 1 rfl rfl) .nil) (TyB.pat hp) plain_pat slot_search type_search (OpS.search hp hs hz')) Tv.none) (fun q => by cases q) (fun _ => Exs.nil)) <|
          Exs.one (Ex.ret (Ev.local 1 rfl rfl))) Fl.ret_ne⟩
    cases b with
    | true => exact main _ _ F.patN (search_name ht) (Ev.ite (d := true) (Tr.of (Ev.local 2 rfl rfl) Tv.bool) (fun _ => Ev.gval 6 rfl F.g_pn) (fun q => by cases q))
    | false => exact main _ _ F.patV (search_value ht) (Ev.ite (d := false) (Tr.of (Ev.local 2 rfl rfl) Tv.bool) (fun q => by cases q) (fun _ => Ev.gval 7 rfl F.g_pv))
  obtain ⟨vs', σ', body⟩ := body
  exact call_defF (args := [x, .str t, .bool b]) (args' := [x', .str t, .bool b]) (xs := [u, w, .bool b]) (ps := parN (hScope 1) 3) (v₁ := .str t) F.still F.fcst (fun fd h1 h2 h3 => cst_binds h1 h2 h3) rfl rfl (by decide) body (.inl rfl) rfl g R (.cons z (.cons (.same rfl) (.cons (.same rfl) .nil))) (RelVs.cons_iff.mpr ⟨_, _, rfl, r1, RelVs.cons_iff.mpr ⟨_, _, rfl, r2, RelVs.cons_iff.mpr ⟨_, _, rfl, by unfold RelV; rfl, RelVs.nil_iff.mpr rfl⟩⟩⟩) P
/-- the entries of a table, names and texts -/
noncomputable def pairS (q : Str × Str) : Val := .tup [.str q.1, .str q.2]
noncomputable def pairsS (qs : List (Str × Str)) : List Val := qs.map pairS
theorem pairsS_noref : ∀ (qs : List (Str × Str)), noRefs (pairsS qs) = true
  | [] => rfl
  | q :: qs => by
    show (noRef (pairS q) && noRefs (pairsS qs)) = true
    rw [pairsS_noref qs]; rfl
theorem Fz.hdrOwn {C : Addr} {j : Nat} {qs : List (Str × Str)} (h : σ[j]? = some (pairsS qs)) : Fz σ (.hdr C (.ref j)) (.hdr C (.list (pairsS qs))) := .hdr (.own h (.same (pairsS_noref qs)))
/-- what the table tells under a name -/
noncomputable def look (nm : Str) : List (Str × Str) → Option Str
  | [] => none
  | q :: qs => if (Txt.lower q.1 == nm) = true then some q.2 else look nm qs
noncomputable def optS : Option Str → Val
  | some x => .str x
  | none => .none
structure FGet (B : Wd) (d : Hd) (T : Addr) : Prop extends FCst B d where
  get : HM B.K d.C d.get "get"
  fget : FnOK B.K d.get (hPar 8) (hBody 8) (hScope 8) (.ref T) .none
  dflt : ∃ o n, B.K.lookup T = some o ∧ o.data = .seq #[.none] n
theorem get_binds {T : Addr} (F : FGet B d T) {μ ρ : Addrs} {s : Shared} (R : Rep B μ ρ σ s.heap) {fd : FuncData} {x y : Value} (h1 : fd.params = hPar 8) (h2 : fd.defaults = .ref T) (h3 : fd.kwdefaults = .none) : BindsTo s fd ⟨[x, y], []⟩ ((parN (hScope 8) 3).zip [x, y, .none]) := by
  obtain ⟨o, m, e1, e2⟩ := F.dflt
  cases fd
  simp only at h1 h2 h3
  subst h1; subst h2; subst h3
  exact binds_K R.inK rfl e1 e2 rfl rfl
theorem get_lp {T : Addr} (F : FGet B d T) (nm : Str) (x : Option Val) (hn : nm.length ≤ 1000000) : ∀ (qs : List (Str × Str)), (∀ q ∈ qs, q.1.length ≤ 1000000) → ∀ (u w : Option Val), ∃ f vs', Lp B n (hScope 8) (forTg (nth (hBody 8) 1)) (levInner (nth (hBody 8) 1)) (pairsS qs) [x, some (.str nm), some .none, u, w] [] f vs' [] ∧
    (match look nm qs with | some v => f = .ret (.str v) | none => f = .next ∧ ∃ u w, vs' = [x, some (.str nm), some .none, u, w])
  | [], _, u, w => ⟨_, _, .nil, rfl, u, w, rfl⟩
  | q :: qs, hq, u, w => by
    have h0 := hq q (by simp)
    unfold look
    have ht : ∀ {u w : Option Val} {d' : Bool}, (Txt.lower q.1 == nm) = d' → Tr B n (hScope 8) [x, some (.str nm), some .none, some (.str q.1), some (.str q.2)] [] (testOf (nth (levInner (nth (hBody 8) 1)) 0)) d' := fun {u w d'} e =>
      (Tr.cmp (Ev.meth (Ev.local 3 rfl rfl) .nil TyB.str PySem.F.plainAttrs_str PySem.F.slot_str_lower PySem.F.type_str_lower (OpS.lower (by omega))) (Ev.local 1 rfl rfl) Op2.seq).eq e
    cases h : (Txt.lower q.1 == nm) with
    | true =>
      rw [if_pos rfl]
      exact ⟨_, _, .stop (As.two 3 4 rfl (.inl rfl) rfl (.inl rfl)) (Exs.one (Ex.ite (ht (u := u) (w := w) h) (fun _ => Exs.one (Ex.ret (Ev.local 4 rfl rfl))) (fun q => by cases q))) (.inr ⟨_, rfl⟩), rfl⟩
    | false =>
      rw [if_neg (by decide)]
      obtain ⟨f, vs', hl, hr⟩ := get_lp F nm x hn qs (fun z hz => hq z (List.mem_cons_of_mem _ hz)) (some (.str q.1)) (some (.str q.2))
      exact ⟨f, vs', .next (As.two 3 4 rfl (.inl rfl) rfl (.inl rfl)) (Exs.one (Ex.ite (ht (u := u) (w := w) h) (fun q => by cases q) (fun _ => Exs.nil))) hl, hr⟩
theorem get_op {T : Addr} (F : FGet B d T) {x : Val} {qs : List (Str × Str)} (z : Fz σ x (.hdr d.C (.list (pairsS qs)))) (t : Str) (ht : Printable (Txt.lower t)) (hz : t.length ≤ 100000) (hz2 : (Txt.lower t).length ≤ 1000000) (hq : ∀ q ∈ qs, q.1.length ≤ 1000000) (hql : qs.length ≤ 100000) :
    OpS B (n + 2) σ [x, .str t] (fun xs => call (.ref d.get) xs) (optS (look (Txt.lower t) qs)) := fun A μ ρ s xs Q g R r P => by
  obtain ⟨u, w, rfl, r1, r2⟩ := RelVs.two r
  have sl := sizeLine_eq
  have body : ∃ vs' σ', Exs B (n + 1) (hScope 8) [some (.hdr d.C (.list (pairsS qs))), some (.str t), some .none, none, none] [] (hBody 8) (.ret (optS (look (Txt.lower t) qs))) vs' σ' := by
    obtain ⟨f, vs', hl, hr⟩ := get_lp (n := n + 1) F (Txt.lower t) (some (.hdr d.C (.list (pairsS qs)))) hz2 qs hq none none
    have first : Ex B (n + 1) (hScope 8) [some (.hdr d.C (.list (pairsS qs))), some (.str t), some .none, none, none] [] (nth (hBody 8) 0) .next [some (.hdr d.C (.list (pairsS qs))), some (.str (Txt.lower t)), some .none, none, none] [] :=
      Ex.assign 1 rfl (.inl rfl) (Ev.methKW F.cls F.cst (Ev.local 0 rfl rfl) (Ev.meth (Ev.local 1 rfl rfl) .nil TyB.str PySem.F.plainAttrs_str PySem.F.slot_str_lower PySem.F.type_str_lower (OpS.lower (by omega))) (cst_op F.toFCst (.same (by show noRefs _ = true; exact pairsS_noref qs)) (Txt.lower t) true ht hz2))
    have it : Itr true B (n + 1) (hScope 8) [some (.hdr d.C (.list (pairsS qs))), some (.str (Txt.lower t)), some .none, none, none] [] (forIt (nth (hBody 8) 1)) (pairsS qs) := Itr.list (Ev.attrH F.cls (Ev.local 0 rfl rfl) .fr) (by unfold pairsS; simp; omega)
    cases h : look (Txt.lower t) qs with
    | some v =>
      rw [h] at hr
      obtain rfl := hr
      exact ⟨_, _, Exs.cons first (Exs.stop (Ex.forL it hl (fun q => by cases q) (fun q => by cases q) (fun v q => by cases q; exact ⟨rfl, rfl, rfl⟩)) Fl.ret_ne)⟩
    | none =>
      rw [h] at hr
      obtain ⟨rfl, u', w', rfl⟩ := hr
      exact ⟨_, _, Exs.cons first (Exs.cons (Ex.forL it hl (fun _ => Exs.nil) (fun q => by cases q) (fun v q => by cases q)) (Exs.one (Ex.ret (Ev.local 2 rfl rfl))))⟩
  obtain ⟨vs', σ', body⟩ := body
  exact call_defF (args := [x, .str t, .none]) (args' := [.hdr d.C (.list (pairsS qs)), .str t, .none]) (xs := [u, w, .none]) (ps := parN (hScope 8) 3) (v₁ := optS (look (Txt.lower t) qs)) F.still F.fget (fun fd h1 h2 h3 => get_binds F R h1 h2 h3) rfl rfl (by decide) body (.inl rfl) (by cases look (Txt.lower t) qs <;> rfl) g R (.cons z (.cons (.same rfl) (.cons (.same rfl) .nil))) (RelVs.cons_iff.mpr ⟨_, _, rfl, r1, RelVs.cons_iff.mpr ⟨_, _, rfl, r2, RelVs.cons_iff.mpr ⟨_, _, rfl, by unfold RelV; rfl, RelVs.nil_iff.mpr rfl⟩⟩⟩) P
end
end Mine
namespace Mine
open PySem PySem.Spec PySem.Calls PyProof.Rows PySem.W
-- setdefault, keys
structure FTab (B : Wd) (d : Hd) (T sd ks : Addr) : Prop extends FGet B d T where
  setd : HM B.K d.C sd "setdefault"
  fsetd : FnOK B.K sd (hPar 15) (hBody 15) (hScope 15) .none .none
  keys : HM B.K d.C ks "keys"
  fkeys : FnOK B.K ks (hPar 9) (hBody 9) (hScope 9) .none .none
theorem setd_pos : ByPos (hPar 15) .none .none (parN (hScope 15) 3) := fun s fd xs h1 h2 h3 hl => by
  obtain ⟨x, y, z, rfl⟩ := three_of hl
  exact BindsTo.of_eq (by cases fd; simp only at h1 h2 h3; subst h1; subst h2; subst h3; rfl)
theorem keys_pos : ByPos (hPar 9) .none .none (parN (hScope 9) 1) := fun s fd xs h1 h2 h3 hl => by
  obtain ⟨x, rfl⟩ := one_of hl
  exact BindsTo.of_eq (by cases fd; simp only at h1 h2 h3; subst h1; subst h2; subst h3; rfl)
/-- what setdefault leaves and tells -/
noncomputable def setD (nm v : Str) (qs : List (Str × Str)) : List (Str × Str) × Str := match look (Txt.lower nm) qs with
  | some r => (qs, r)
  | none => (qs ++ [(nm, v)], v)
noncomputable def els : Stmt → List Stmt
  | .If _ _ ys _ => ys
  | _ => []
section
variable {B : Wd} {d : Hd} {T sd ks : Addr} {n : Nat} {σ : Store}
theorem setd_op (F : FTab B d T sd ks) {j : Nat} {qs : List (Str × Str)} (hσ : σ[j]? = some (pairsS qs)) (hr : ∀ xs ∈ σ, noRefs xs = true) (nm v : Str) (h1 : Printable nm) (h2 : Printable (Txt.lower nm)) (h3 : Printable v) (z1 : nm.length ≤ 100000) (z2 : (Txt.lower nm).length ≤ 1000000) (z3 : v.length ≤ 1000000)
    (hq : ∀ q ∈ qs, q.1.length ≤ 1000000) (hql : qs.length ≤ 100000) : OpE B (n + 3) σ [.hdr d.C (.ref j), .str nm, .str v] (fun xs => call (.ref sd) xs) (.str (setD nm v qs).2) (σ.set j (pairsS (setD nm v qs).1)) := fun A μ ρ s xs Q g R r P => by
  have sl := sizeLine_eq
  have hz := Fz.hdrOwn (C := d.C) hσ
  have hlt : j < σ.length := (List.getElem?_eq_some_iff.mp hσ).1
  have hset : σ.set j (pairsS qs) = σ := by
    rw [List.getElem?_eq_some_iff] at hσ
    obtain ⟨_, e⟩ := hσ
    rw [← e, List.set_getElem_self]
  have body : ∃ vs', Exs B (n + 2) (hScope 15) [some (.hdr d.C (.ref j)), some (.str nm), some (.str v), none] σ (hBody 15) (.ret (.str (setD nm v qs).2)) vs' (σ.set j (pairsS (setD nm v qs).1)) := by
    have first : Ex B (n + 2) (hScope 15) [some (.hdr d.C (.ref j)), some (.str nm), some (.str v), none] σ (nth (hBody 15) 0) .next [some (.hdr d.C (.ref j)), some (.str nm), some (.str v), some (optS (look (Txt.lower nm) qs))] σ :=
      Ex.assign 3 rfl (.inl rfl) (Ev.methH F.cls F.get (Ev.local 0 rfl rfl) (.cons (Ev.local 1 rfl rfl) .nil) (get_op F.toFGet hz nm h2 z1 z2 hq hql))
    unfold setD
    cases h : look (Txt.lower nm) qs with
    | some w =>
      rw [h] at first
      simp only
      rw [hset]
      exact ⟨_, Exs.cons first (Exs.one (Ex.ite (ys := els (nth (hBody 15) 1)) ((Tr.cmp (Ev.local 3 rfl rfl) Ev.cnone Op2.isNone).eq (d' := false) rfl) (fun q => by cases q) (fun _ => Exs.one (Ex.ret (Ev.local 3 rfl rfl)))))⟩
    | none =>
      rw [h] at first
      simp only
      have m := OpM.append (B := B) (n := n + 2) (i := j) (a := pairS (nm, v)) hσ (by unfold pairsS; simp; omega)
      have e : pairsS qs ++ [pairS (nm, v)] = pairsS (qs ++ [(nm, v)]) := by unfold pairsS; simp
      rw [e] at m
      exact ⟨_, Exs.cons first (Exs.one (Ex.ite (ys := els (nth (hBody 15) 1)) ((Tr.cmp (Ev.local 3 rfl rfl) Ev.cnone Op2.isNone).eq (d' := true) rfl) (fun _ =>
        Exs.cons (Ex.methA (Ev.attrH F.cls (Ev.local 0 rfl rfl) (.own hσ)) (.cons (Ev.tuple (.cons (Ev.methKW F.cls F.cst (Ev.local 0 rfl rfl) (Ev.local 1 rfl rfl) (cst_op F.toFCst hz nm true h1 (by omega))) (.cons (Ev.methKW F.cls F.cst (Ev.local 0 rfl rfl) (Ev.local 2 rfl rfl) (cst_op F.toFCst hz v false h3 z3)) .nil))) .nil) PySem.F.slot_list_append PySem.F.type_list_append m) <|
        Exs.one (Ex.ret (Ev.local 2 rfl rfl))) (fun q => by cases q)))⟩
  obtain ⟨vs', body⟩ := body
  refine call_defS (τ := []) F.still F.fsetd (fun fd h1 h2 h3 => setd_pos s fd xs h1 h2 h3 (RelVs.length r)) rfl rfl (by decide) (by rw [List.append_nil]; exact body) (.inl rfl) rfl (by rw [List.length_set]) (fun ys hy => ?_) g R r fun x h' tk X R' r' => P x ρ h' tk X.any R' r'
  rcases List.mem_or_eq_of_mem_set hy with m | rfl
  · exact hr ys m
  · exact pairsS_noref _
noncomputable def retE : Stmt → Expr
  | .Return (some e) _ => e
  | _ => .Constant .none 0 ⟨0, 0, 0, 0⟩
noncomputable def compIt : Expr → Expr
  | .ListComp _ (⟨_, e, _, _⟩ :: _) _ _ => e
  | _ => .Constant .none 0 ⟨0, 0, 0, 0⟩
theorem keys_op (F : FTab B d T sd ks) {x : Val} {l : Val} {qs : List (Str × Str)} (hx : x = .hdr d.C l) (L : Lst σ l (pairsS qs)) (hql : qs.length ≤ 100000) : OpN B (n + 1) σ [x] (fun xs => call (.ref ks) xs) (strsV (qs.map (·.1))) := fun A μ ρ s xs Q g R r P => by
  subst hx
  have sl := sizeLine_eq
  have hb : EvN B n (hScope 9) (atCall (hScope 9).names [.hdr d.C l]) σ (retE (nth (hBody 9) 0)) (strsV (qs.map (·.1))) := by
    obtain ⟨fr, it⟩ := Itr.of (B := B) (n := n) (sc := hScope 9) (vs := atCall (hScope 9).names [.hdr d.C l]) (e := compIt (retE (nth (hBody 9) 0))) (Ev.attrH F.cls (Ev.local 0 rfl rfl) L) L (by unfold pairsS; simp; omega)
    have e : pairsS qs = qs.map fun q => .tup [.str q.1, .str q.2] := rfl
    have e2 : strsV (qs.map (·.1)) = qs.map fun q => .str q.1 := by unfold strsV; rw [List.map_map]; rfl
    rw [e2]
    rw [e] at it
    exact EvN.comp (vc := [none, none, none]) it ⟨rfl, by decide, by decide⟩ (Sees.by [] [false, false, false] rfl rfl trivial) (Cp.map2 (fun q : Str × Str => .str q.1) (fun q => .str q.2) (fun q => .str q.1) 1 2 rfl rfl qs _ fun vc' hl a _ => by
      match vc', hl with
      | [u, v, w], _ => exact (Ev.local 1 rfl rfl))
  refine call_retN (B := B) (rp := (nth (hBody 9) 0).pos) F.fkeys (fun fd h1 h2 h3 => keys_pos s fd xs h1 h2 h3 (RelVs.length r)) rfl rfl (by decide) hb g R r P
end
end Mine
namespace Mine
open PySem PySem.Spec PySem.Calls PyProof.Rows PySem.W
-- Headers()
structure FInit (B : Wd) (d : Hd) (T₀ : Addr) : Prop extends FCst B d where
  makes : makesIn B.K d.C = true
  keepC : keepIn B.K (.ref d.C) = true
  init : HM B.K d.C d.init "__init__"
  finit : FnOK B.K d.init (hPar 0) (hBody 0) (hScope 0) (.ref T₀) .none
  dflt0 : ∃ o n, B.K.lookup T₀ = some o ∧ o.data = .seq #[.none] n
  set : FSet B.K d.C
  b_list : nsIn B.K mainGlobals "list" = some none
section
variable {B : Wd} {d : Hd} {T₀ : Addr} {n : Nat} {σ : Store}
theorem init_binds0 (F : FInit B d T₀) {μ ρ : Addrs} {s : Shared} (R : Rep B μ ρ σ s.heap) {fd : FuncData} {x : Value} (h1 : fd.params = hPar 0) (h2 : fd.defaults = .ref T₀) (h3 : fd.kwdefaults = .none) : BindsTo s fd ⟨[x], []⟩ ((parN (hScope 0) 2).zip [x, .none]) := by
  obtain ⟨o, m, e1, e2⟩ := F.dflt0
  cases fd
  simp only at h1 h2 h3
  subst h1; subst h2; subst h3
  exact binds_K R.inK rfl e1 e2 rfl rfl
noncomputable def hvs (x : Addr) (h : Val) : List (Option Val) := [some (.glob (.ref x)), some h, none, none, none, none, none, none]
theorem init_head (F : FInit B d T₀) (x : Addr) : Pre B n (hScope 0) (hvs x .none) σ (hBody 0) ((hBody 0).drop 2) (hvs x (.ref σ.length)) (σ ++ [[]]) :=
  Pre.cons (Ex.assignN 1 rfl (.inl rfl) (EvN.ite (d := false) ((Tr.cmp (Ev.local 1 rfl rfl) Ev.cnone Op2.isNotNone).eq (by rfl)) (fun q => by cases q) (fun _ => EvN.display .nil))) <|
  Pre.cons (Ex.ite (ys := []) (d := false) (Tr.cmp (Ev.callT (Ev.builtin 4 rfl F.b_type boot_type (by decide)) (.cons (Ev.local 1 rfl rfl) .nil) (OpS.typeList (Lst.own (xs := []) (by simp)))) (Ev.builtin 5 rfl F.b_list boot_list (by decide)) Op2.isNotType) (fun q => by cases q) (fun _ => Exs.nil)) Pre.nil
/-- a new table -/
theorem hdr_new (F : FInit B d T₀) : OpE B (n + 2) σ [] (fun xs => call (.ref d.C) xs) (.hdr d.C (.ref σ.length)) (σ ++ [[]]) := fun A μ ρ s xs Q g R r P => by
  rw [RelVs.nil_iff] at r; subst r
  obtain ⟨hh, gs, dr, tk, os⟩ := s
  have sl := sizeLine_eq
  have hx0 : ∀ b, hh.objs.size ≤ b → hh.get? b = none := fun b hb => Heap.get?_none_of_le hb
  refine wpAny_call (make_core (makes_of R.inK F.makes) (looks_findIn R.inK F.init.find) (fun self => bind_fn R.inK self F.init.typ) (.inl rfl) ?_)
  have kk0 : Keeps hh ((hh.push emptyDict).push (instObj d.C hh.objs.size)) := (Keeps.push _).trans (Keeps.push _)
  have gx : ((hh.push emptyDict).push (instObj d.C hh.objs.size)).get? (hh.objs.size + 1) = some (instObj d.C hh.objs.size) := by
    have := Heap.get?_push_size (h := hh.push emptyDict) (o := instObj d.C hh.objs.size) rfl
    rwa [Heap.size_push] at this
  have gd : ((hh.push emptyDict).push (instObj d.C hh.objs.size)).get? hh.objs.size = some emptyDict := Heap.get?_push_of_some _ (Heap.get?_push_size _ rfl)
  generalize hH0 : (hh.push emptyDict).push (instObj d.C hh.objs.size) = H0 at *
  have hxn := hx0 (hh.objs.size + 1) (Nat.le_succ _)
  have hdn := hx0 hh.objs.size (Nat.le_refl _)
  have hne : hh.objs.size + 1 ≠ hh.objs.size := Nat.succ_ne_self _
  generalize hX : hh.objs.size + 1 = x at *
  generalize hD : hh.objs.size = dx at *
  have R₀ : Rep B ([x, dx] ++ μ) ρ σ H0 := R.addMus kk0 (fun a m => by
    rcases List.mem_cons.mp m with rfl | m
    · exact hxn
    · rw [List.mem_singleton.mp m]; exact hdn) (fun a m => by
    rcases List.mem_cons.mp m with rfl | m
    · exact ⟨_, gx⟩
    · rw [List.mem_singleton.mp m]; exact ⟨_, gd⟩)
  refine call_genC (args := [.glob (.ref x), .none]) (xs := [.ref x, .none]) (ps := parN (hScope 0) 2) F.finit (fun fd h1 h2 h3 => init_binds0 (s := ⟨H0, gs, dr, tk, os⟩) F R₀ h1 h2 h3) rfl rfl (by decide) (Good.under (n := n + 1) g [] []) R₀ (RelVs.cons_iff.mpr ⟨_, _, rfl, by unfold RelV; rfl, RelVs.cons_iff.mpr ⟨_, _, rfl, by unfold RelV; rfl, RelVs.nil_iff.mpr rfl⟩⟩) fun pl env h₁ tk₁ hpl hk g' hs R' F' w hc => ?_
  have hpl' : ∀ a ∈ pl, H0.get? a = none := hpl
  have hown : ∀ b, Own B env b → b ∈ pl := fun b q => (w b q).elim (fun z => z) fun z => (still F.still z).elim
  have hxl : x ∉ pl := fun m => by have := hpl' x m; rw [gx] at this; cases this
  have hdl : dx ∉ pl := fun m => by have := hpl' dx m; rw [gd] at this; cases this
  refine init_head F x (A.under _ |>.deeper env) _ ρ env ⟨h₁, gs, dr, tk₁, os⟩ _ g' hs R' F' fun ρ₁ h₂ tk₂ X₂ R₂ F₂ => ?_
  have hxρ : x ∉ ρ := fun m => R₀.apart x m (by simp)
  have hdρ : dx ∉ ρ := fun m => R₀.apart dx m (by simp)
  have off : ∀ b o, H0.get? b = some o → ¬ Own B env b := fun b o e q => by
    have := hpl' b (hown b q); rw [e] at this; cases this
  have gx₂ : h₂.get? x = some (instObj d.C dx) := X₂.keep x _ hxρ (off _ _ gx) (hk _ _ gx)
  have gd₂ : h₂.get? dx = some emptyDict := X₂.keep dx _ hdρ (off _ _ gd) (hk _ _ gd)
  show wpAny _ _ (execs [nth (hBody 0) 2, nth (hBody 0) 3] env) _ NoE _
  refine wpAny_execs_cons (plainObj_wpAny_Assign_Attribute ((Ev.local (vs := hvs x (.ref σ.length)) (sc := hScope 0) 1 rfl rfl) _ _ ρ₁ env ⟨h₂, gs, dr, tk₂, os⟩ _ g' hs R₂ F₂ fun lv h₃ t₃ k₃ r₃ => ?_))
  refine (Ev.local (vs := hvs x (.ref σ.length)) (sc := hScope 0) 0 rfl rfl) _ _ ρ₁ env ⟨h₃, gs, dr, t₃, os⟩ _ g' hs (R₂.keeps k₃) (F₂.keeps R₂ k₃) fun xv h₄ t₄ k₄ r₄ => ?_
  unfold RelV at r₃ r₄
  subst r₄
  obtain ⟨l, hl, rfl⟩ := r₃
  have R₄ := (R₂.keeps k₃).keeps k₄
  have F₄ := (F₂.keeps R₂ k₃).keeps (R₂.keeps k₃) k₄
  have gx₄ := k₄ _ _ (k₃ _ _ gx₂)
  have gd₄ := k₄ _ _ (k₃ _ _ gd₂)
  refine set_hdr (s := ⟨h₄, gs, dr, t₄, os⟩) R₄.inK F.cls F.set gx₄ gd₄ fun h₅ t₅ hsh t m b₅ hdx => ?_
  show wpAny _ _ (execs [nth (hBody 0) 3] env) _ NoE ⟨h₅, gs, dr, t₅, os⟩
  have hdm : dx ∈ pl ++ ([x, dx] ++ μ) := by simp
  have hxm : x ∈ pl ++ ([x, dx] ++ μ) := by simp
  have R₅ := R₄.butI hdm b₅ ⟨_, hdx⟩
  have nocell : ∀ y ∈ (hScope 0).names, y.2 ≠ .cell ∧ y.2 ≠ .free := by decide
  have F₅ := F₄.butI hdm b₅ (fun q => hdl (q ▸ hown _ (.inl rfl))) fun i y kd c e1 e2 _ => by
    rw [hs] at e1
    obtain ⟨n1, n2⟩ := nocell _ (List.mem_of_getElem? e1)
    rcases e2 with rfl | rfl
    · exact absurd rfl n1
    · exact absurd rfl n2
  have gx₅ := b₅ _ _ hne gx₄
  have tst : Tr B n (hScope 0) (hvs x (.list [])) [] (testOf (nth (hBody 0) 3)) true := Tr.of (e := testOf (nth (hBody 0) 3)) (Ev.debug (pos := (testOf (nth (hBody 0) 3)).pos)) Tv.bool
  have last : Exs B n (hScope 0) (hvs x (.list [])) [] [nth (hBody 0) 3] .next (hvs x (.list [])) [] :=
    Exs.one (Ex.ite (ys := []) (d := true) tst (fun _ => Exs.one (Ex.forL (f := .next) (Itr.list (Ev.local 1 rfl rfl) (Nat.zero_le _)) .nil (fun _ => Exs.nil) (fun q => by cases q) (fun v q => by cases q))) (fun q => by cases q))
  have e0 : (σ ++ [[]])[σ.length]? = some [] := by simp
  refine last _ _ [] env ⟨h₅, gs, dr, t₅, os⟩ _ g' hs R₅.none (F₅.frz R₅ fun i v' hv => ?_) fun ρ₆ f₆ h₆ t₆ X₆ R₆ F₆ r₆ => ?_
  · match i, hv with
    | 0, hv => cases hv; exact ⟨_, rfl, .same rfl⟩
    | 1, hv => cases hv; exact ⟨_, rfl, .own e0 .nil⟩
    | 2, hv => cases hv
    | 3, hv => cases hv
    | 4, hv => cases hv
    | 5, hv => cases hv
    | 6, hv => cases hv
    | 7, hv => cases hv
    | k + 8, hv => cases hv
  unfold RelF at r₆; subst r₆
  have k₆ : ∀ b o, ¬ Own B env b → h₅.get? b = some o → h₆.get? b = some o := fun b o nb e => X₆.keep b o (by simp) nb e
  have R₇ : Rep B (pl ++ ([x, dx] ++ μ)) ρ₁ (σ ++ [[]]) h₆ := R₅.keptBut k₆ (fun b q => List.mem_append_left _ (hown b q)) R₆.held
  refine ⟨rfl, ?_⟩
  obtain ⟨t', rfl, ht'⟩ := X₂.pre
  have hh₁ : ∀ b o, hh.get? b = some o → h₁.get? b = some o := fun b o e => hk b o (kk0 b o e)
  refine P (.ref x) _ h₆ t₆ ⟨⟨t', rfl, fun a m => ?_⟩, fun b o nb nG e => ?_⟩ (R₇.lessMu fun a m => List.mem_append_right _ (List.mem_append_right _ m)) ?_
  · cases q : hh.get? a with
    | none => rfl
    | some o => have := ht' a m; rw [hh₁ a o q] at this; cases this
  · have nO := off _ _ (kk0 b o e)
    refine k₆ b o nO (b₅ b o ?_ (k₄ b o (k₃ b o (X₂.keep b o nb nO (hh₁ b o e)))))
    rintro rfl
    rw [hdn] at e; cases e
  · have h1 : ∀ a, a ∈ [x, dx] → a ∉ μ := fun a m q => by
      obtain ⟨o, e⟩ := R.held a q
      rcases List.mem_cons.mp m with rfl | m
      · rw [hxn] at e; cases e
      · rw [List.mem_singleton.mp m, hdn] at e; cases e
    have h2 : ∀ a, a ∈ [x, dx] → a ∉ ρ ++ t' := fun a m q => R₇.apart a q (List.mem_append_right _ (List.mem_append_left _ m))
    unfold RelV
    refine ⟨x, dx, .ref l, rfl, h1 x (by simp), h2 x (by simp), h1 dx (by simp), h2 dx (by simp), ⟨k₆ _ _ (off _ _ gx) gx₅, hsh, t, m, k₆ _ _ (off _ _ gd) hdx⟩, ?_⟩
    unfold RelV
    exact ⟨l, hl, rfl⟩
end
end Mine
namespace Mine
open PySem PySem.Spec PySem.Calls PyProof.Rows PySem.W
-- _law_roads
noncomputable def roadsStmt := nth top 24
noncomputable def roadsBody := fBody roadsStmt
noncomputable def roadsScope := fScope roadsStmt
noncomputable def roadsPar := fPar roadsStmt
theorem roads_pos : ByPos roadsPar .none .none (parN roadsScope 1) := fun s fd xs h1 h2 h3 hl => by
  obtain ⟨x, rfl⟩ := one_of hl
  exact BindsTo.of_eq (by cases fd; simp only at h1 h2 h3; subst h1; subst h2; subst h3; rfl)
noncomputable def nearOk (ws : List Int) (roads : List (Int × Int)) (town : Nat) (near : List Int) (other : Int) : Bool :=
  (Builtin.bitAnd ((ws.getD (town - 1) 0).fdiv (2 ^ other.toNat)) 1 != 0) && (decide ((near.length : Int) < 2) && (decide ((near.filter fun one => !roads.contains (one, other)) = []) && true))
noncomputable def nearStep (ws : List Int) (roads : List (Int × Int)) (town : Nat) (near : List Int) (other : Int) : List Int := if nearOk ws roads town near other then near ++ [other] else near
noncomputable def nearOf (ws : List Int) (roads : List (Int × Int)) (town : Nat) : List Int := (rng 0 town).foldl (nearStep ws roads town) []
noncomputable def roadStep (ws : List Int) (roads : List (Int × Int)) (town : Int) : List (Int × Int) := roads ++ (nearOf ws roads town.toNat).map fun other => (other, town)
noncomputable def roadsOf (ws : List Int) : List (Int × Int) := (rng 1 (ws.length + 1)).foldl (roadStep ws) []
structure FRoads (B : Wd) (ra : Addr) : Prop where
  still : B.grows = false
  froads : FnOK B.K ra roadsPar roadsBody roadsScope .none .none
  b_range : nsIn B.K mainGlobals "range" = some none
  b_len : nsIn B.K mainGlobals "len" = some none
section
variable {B : Wd} {ra : Addr} {n : Nat}
noncomputable def rv (ws : List Int) (town near other apart : Option Val) : List (Option Val) := [some (.list (intsV ws)), some (.ref 0), town, near, other, apart, none, none]
noncomputable def pairsI (ps : List (Int × Int)) : List Val := ps.map pairV
theorem rng_mem {lo hi x : Int} (h : x ∈ rng lo hi) : lo ≤ x ∧ x < hi := by
  unfold rng at h
  obtain ⟨i, hi', rfl⟩ := List.mem_map.mp h
  have := List.mem_range.mp hi'
  omega
theorem near_turn (F : FRoads B ra) (ws : List Int) (roads : List (Int × Int)) (town : Nat) (ht : 1 ≤ town) (ht2 : town ≤ ws.length) (hl : ws.length ≤ 60) (near : List Int) (hn : near.length ≤ 60) (other : Int) (h0 : 0 ≤ other) (w : Option Val) :
    Exs B (n + 1) roadsScope (rv ws (some (.int (town : Int))) (some (.ref 1)) (some (.int other)) w) [pairsI roads, intsV near] (levInner (nth (levInner (nth roadsBody 1)) 1)) .next (rv ws (some (.int (town : Int))) (some (.ref 1)) none none) [pairsI roads, intsV (nearStep ws roads town near other)] := by
  have sl := sizeLine_eq
  have il : ∀ ns : List Int, (intsV ns).length = ns.length := fun ns => by unfold intsV; simp
  have h0' : Ex B (n + 1) roadsScope (rv ws (some (.int (town : Int))) (some (.ref 1)) (some (.int other)) w) [pairsI roads, intsV near] (nth (levInner (nth (levInner (nth roadsBody 1)) 1)) 0) .next (rv ws (some (.int (town : Int))) (some (.ref 1)) (some (.int other)) (some (.list (intsV (near.filter fun one => !roads.contains (one, other)))))) [pairsI roads, intsV near] :=
    Ex.assignC 5 rfl (.inl rfl) (Itr.own (Ev.local 3 rfl rfl) rfl (by rw [il]; omega)) ⟨rfl, by decide, by decide⟩ (Sees.by (vc := [none, none, some (.int other), some (.ref 0)]) [(2, 4), (3, 1)] [false, false, true, true] rfl rfl ⟨rfl, rfl, trivial⟩)
      (Cp.filter (α := Int) .int .int (fun one => !roads.contains (one, other)) 1 rfl near _ (fun one _ => Tr.cmp (Ev.tuple (.cons (Ev.local 1 rfl rfl) (.cons (Ev.var 2 (.inr rfl) rfl) .nil))) (Ev.var 3 (.inr rfl) rfl) (Op2.notInPairs (x := (one, other)) (Lst.own rfl))) (fun one _ _ => (Ev.local 1 rfl rfl)))
  have hget : (intsV ws)[town - 1]? = some (.int (ws.getD (town - 1) 0)) := by
    unfold intsV
    rw [List.getElem?_map, List.getElem?_eq_getElem (by omega)]
    simp [List.getD_eq_getElem?_getD, List.getElem?_eq_getElem (show town - 1 < ws.length by omega)]
  have eqn : PyData.eqv (.list ((near.filter fun one => !roads.contains (one, other)).map .int)) (.list []) = decide ((near.filter fun one => !roads.contains (one, other)) = []) := eqv_ints _ []
  have ht' : Tr B (n + 1) roadsScope (rv ws (some (.int (town : Int))) (some (.ref 1)) (some (.int other)) (some (.list (intsV (near.filter fun one => !roads.contains (one, other)))))) [pairsI roads, intsV near] (testOf (nth (levInner (nth (levInner (nth roadsBody 1)) 1)) 1)) (nearOk ws roads town near other) := by
    refine Tr.ands (Tr.of (Ev.bin (Ev.bin (Ev.sub (Ev.local 0 rfl rfl) (Ev.bin (Ev.cell 2 rfl rfl) Ev.cint Op2.sub) (Itm.list (town - 1) .fr hget (by omega) (by omega))) (Ev.cell 4 rfl rfl) (Op2.shr h0)) Ev.cint Op2.band) Tv.int) ?_
    refine Tr.ands ((Tr.cmp (Ev.callB (Ev.builtin 7 rfl F.b_len boot_len (by decide)) (.cons (Ev.local 3 rfl rfl) .nil) (OpS.lenL (.own rfl) (by rw [il]; omega))) Ev.cint Op2.lt).eq (by rw [il])) ?_
    refine Tr.ands (Tr.cmp (Ev.local 5 rfl rfl) (EvN.ev (EvN.display .nil)) ?_) Tr.andNil
    rw [← eqn]
    exact Op2.eqR (.list .ints) (.list .nil) (ke_shaped_ints _) rfl (by omega)
  refine Exs.cons h0' (Exs.weak (vs₁ := rv ws (some (.int (town : Int))) (some (.ref 1)) (some (.int other)) (some (.list (intsV (near.filter fun one => !roads.contains (one, other)))))) ?_ ?_)
  · unfold nearStep
    cases hd : nearOk ws roads town near other with
    | true =>
      rw [hd] at ht'
      rw [if_pos rfl]
      have m := OpM.append (B := B) (n := n + 1) (σ := [pairsI roads, intsV near]) (i := 1) (a := .int other) (xs := intsV near) rfl (by rw [il]; omega)
      have e : ([pairsI roads, intsV near] : Store).set 1 (intsV near ++ [.int other]) = [pairsI roads, intsV (near ++ [other])] := by unfold intsV; simp
      rw [e] at m
      exact Exs.one (Ex.ite (ys := []) ht' (fun _ => Exs.one (Ex.meth (Ev.local 3 rfl rfl) (.cons (Ev.cell 4 rfl rfl) .nil) PySem.F.slot_list_append PySem.F.type_list_append m)) (fun q => by cases q))
    | false =>
      rw [hd] at ht'
      rw [if_neg (by decide)]
      exact Exs.one (Ex.ite (ys := []) ht' (fun q => by cases q) (fun _ => Exs.nil))
  · unfold rv
    repeat (first | exact Weak.refl _ | apply Weak.keep | apply Weak.forget)
theorem near_len (ws : List Int) (roads : List (Int × Int)) (town : Nat) : ∀ (L : List Int) (near : List Int), (L.foldl (nearStep ws roads town) near).length ≤ near.length + L.length
  | [], near => Nat.le_refl _
  | x :: L, near => by
    rw [List.foldl_cons]
    refine Nat.le_trans (near_len ws roads town L _) ?_
    have : (nearStep ws roads town near x).length ≤ near.length + 1 := by
      unfold nearStep; split
      · simp
      · omega
    simp; omega
theorem rng_len (n : Nat) : (rng 0 n).length = n := by unfold rng; simp
theorem near_loop (F : FRoads B ra) (ws : List Int) (roads : List (Int × Int)) (town : Nat) (ht : 1 ≤ town) (ht2 : town ≤ ws.length) (hl : ws.length ≤ 60) :
    Ex B (n + 1) roadsScope (rv ws (some (.int (town : Int))) (some (.ref 1)) none none) [pairsI roads, intsV []] (nth (levInner (nth roadsBody 1)) 1) .next (rv ws (some (.int (town : Int))) (some (.ref 1)) none none) [pairsI roads, intsV (nearOf ws roads town)] := by
  have sl := sizeLine_eq
  have hlp := Lp.fold (B := B) (n := n + 1) (sc := roadsScope) (tg := forTg (nth (levInner (nth roadsBody 1)) 1)) (body := levInner (nth (levInner (nth roadsBody 1)) 1)) (α := Int) (S := List Int) .int (fun _ => rv ws (some (.int (town : Int))) (some (.ref 1)) none none) (fun s => [pairsI roads, intsV s]) (nearStep ws roads town)
    (fun d _ => (rv ws (some (.int (town : Int))) (some (.ref 1)) none none).set 4 (some (.int d))) (fun d s => As.name 4 rfl (.inr rfl)) (rng 0 town) (fun j s => s.length ≤ j ∧ j ≤ town) (fun j d s hd hs => by
      have hj := (List.getElem?_eq_some_iff.mp hd).1
      rw [rng_len] at hj
      refine ⟨?_, hj⟩
      unfold nearStep; split
      · simp; omega
      · omega) (fun j d s hd hs => by
      have hm := rng_mem (List.mem_of_getElem? hd)
      exact near_turn F ws roads town ht ht2 hl s (by omega) d hm.1 none) [] ⟨Nat.le_refl _, Nat.zero_le _⟩
  exact Ex.forL (f := .next) (Itr.range1 (Ev.builtin 6 rfl F.b_range boot_range (by decide)) (Ev.cell 2 rfl rfl) (by omega) (by rw [rng_len]; omega)) hlp (fun _ => Exs.nil) (fun q => by cases q) (fun v q => by cases q)
theorem lowRefs_of {k : Nat} : ∀ (ps : List (Int × Int)), lowRefs k (pairsI ps) = true
  | [] => rfl
  | p :: ps => by
    show (lowRef k (pairV p) && lowRefs k (pairsI ps)) = true
    rw [lowRefs_of ps]; rfl
theorem lowRefs_ints {k : Nat} : ∀ (ps : List Int), lowRefs k (intsV ps) = true
  | [] => rfl
  | p :: ps => by
    show (lowRef k (.int p) && lowRefs k (intsV ps)) = true
    rw [lowRefs_ints ps]; rfl
theorem pairsI_noref : ∀ (ps : List (Int × Int)), noRefs (pairsI ps) = true
  | [] => rfl
  | p :: ps => by
    show (noRef (pairV p) && noRefs (pairsI ps)) = true
    rw [pairsI_noref ps]; rfl
theorem road_turn (F : FRoads B ra) (ws : List Int) (roads : List (Int × Int)) (hr : roads.length ≤ 10000) (town : Nat) (ht : 1 ≤ town) (ht2 : town ≤ ws.length) (hl : ws.length ≤ 60) :
    Exs B (n + 1) roadsScope (rv ws (some (.int (town : Int))) none none none) [pairsI roads] (levInner (nth roadsBody 1)) .next (rv ws none none none none) [pairsI (roadStep ws roads (town : Int))] := by
  have sl := sizeLine_eq
  have pl : ∀ ps : List (Int × Int), (pairsI ps).length = ps.length := fun ps => by unfold pairsI; simp
  have il : ∀ ns : List Int, (intsV ns).length = ns.length := fun ns => by unfold intsV; simp
  have hn : (nearOf ws roads town).length ≤ town := by
    have := near_len ws roads town (rng 0 town) []
    rw [rng_len] at this
    simpa [nearOf] using this
  have hroad : roadStep ws roads (town : Int) = roads ++ (nearOf ws roads town).map fun other => (other, (town : Int)) := by unfold roadStep; rw [Int.toNat_natCast]
  generalize hN : nearOf ws roads town = near at *
  have m := OpM.extend (B := B) (n := n + 1) (σ := [pairsI roads, intsV near]) (i := 0) (xs := pairsI roads) (ys := near.map fun other => pairV (other, (town : Int))) (a := .list (near.map fun other => pairV (other, (town : Int)))) rfl .fr (by rw [pl, List.length_map]; omega)
  have e : ([pairsI roads, intsV near] : Store).set 0 (pairsI roads ++ near.map fun other => pairV (other, (town : Int))) = [pairsI (roadStep ws roads (town : Int))] ++ [intsV near] := by rw [hroad]; unfold pairsI; simp
  rw [e] at m
  have hl1 := near_loop (n := n) F ws roads town ht ht2 hl
  rw [hN] at hl1
  refine Exs.drop (τ := [intsV near]) (vs₁ := rv ws (some (.int (town : Int))) (some (.ref 1)) none none) ?_ rfl ?_ ?_ ?_
  · exact Exs.cons (Ex.assignN 3 rfl (.inl rfl) (EvN.display .nil)) <| Exs.cons hl1 <|
      Exs.one (Ex.meth (Ev.cell 1 rfl rfl) (.cons (EvN.ev (EvN.comp (vc := [none, none, some (.int (town : Int))]) (Itr.own (Ev.local 3 rfl rfl) rfl (by rw [il]; omega)) ⟨rfl, by decide, by decide⟩ (Sees.by [(2, 2)] [false, false, true] rfl rfl ⟨rfl, trivial⟩)
        (Cp.map (α := Int) .int (fun other => pairV (other, (town : Int))) 1 rfl near _ fun other _ => Ev.tuple (.cons (Ev.local 1 rfl rfl) (.cons (Ev.var 2 (.inr rfl) rfl) .nil))))) .nil) PySem.F.slot_list_extend PySem.F.type_list_extend m)
  · intro xs hx
    rw [List.mem_singleton.mp hx]
    exact lowRefs_of _
  · unfold rv
    repeat (first | exact Weak.refl _ | apply Weak.keep | apply Weak.forget)
  · intro v hv
    unfold rv at hv
    simp at hv
    rcases hv with rfl | rfl
    · exact lowRefs_ints ws
    · rfl
theorem nearOf_len (ws : List Int) (roads : List (Int × Int)) (town : Nat) : (nearOf ws roads town).length ≤ town := by
  have := near_len ws roads town (rng 0 town) []
  rw [rng_len] at this
  simpa [nearOf] using this
/-- _law_roads -/
theorem roads_fn (F : FRoads B ra) (ws : List Int) (hl : ws.length ≤ 60) : Fn B (n + 2) ra [.list (intsV ws)] (.list (pairsI (roadsOf ws))) := by
  have sl := sizeLine_eq
  have il : (intsV ws).length = ws.length := by unfold intsV; simp
  have hlen : (rng 1 ((ws.length : Int) + 1)).length = ws.length := by unfold rng; simp
  have hlp := Lp.fold (B := B) (n := n + 1) (sc := roadsScope) (tg := forTg (nth roadsBody 1)) (body := levInner (nth roadsBody 1)) (α := Int) (S := List (Int × Int)) .int (fun _ => rv ws none none none none) (fun s => [pairsI s]) (roadStep ws)
    (fun d _ => (rv ws none none none none).set 2 (some (.int d))) (fun d s => As.name 2 rfl (.inr rfl)) (rng 1 ((ws.length : Int) + 1)) (fun j s => s.length ≤ 60 * j ∧ j ≤ 60) (fun j d s hd hs => by
      have hj := (List.getElem?_eq_some_iff.mp hd).1
      have hm := rng_mem (List.mem_of_getElem? hd)
      rw [hlen] at hj
      refine ⟨?_, by omega⟩
      unfold roadStep
      have := nearOf_len ws s d.toNat
      rw [List.length_append, List.length_map]
      omega) (fun j d s hd hs => by
      have hm := rng_mem (List.mem_of_getElem? hd)
      obtain ⟨town, rfl⟩ := Int.eq_ofNat_of_zero_le (show 0 ≤ d by omega)
      exact road_turn F ws s (by omega) town (by omega) (by omega) hl) [] ⟨Nat.le_refl _, by omega⟩
  have h2 : (rng 1 ((ws.length : Int) + 1)).length ≤ sizeLine := by rw [hlen]; omega
  refine Fn.mk F.still F.froads roads_pos rfl rfl (by decide) (by show (noRefs (intsV ws) && true) = true; rw [intsV_noref]; rfl) ?_
  exact ⟨_, _, _, Exs.cons (Ex.assignN 1 rfl (.inr rfl) (EvN.display .nil)) <|
    Exs.cons (Ex.forL (f := .next) (Itr.range2 (Ev.builtin 6 rfl F.b_range boot_range (by decide)) Ev.cint ((Ev.bin (Ev.callB (Ev.builtin 7 rfl F.b_len boot_len (by decide)) (.cons (Ev.local 0 rfl rfl) .nil) (OpS.lenL .fr (by rw [il]; omega))) Ev.cint Op2.add).eq (by rw [il])) (by decide) (by omega) h2) hlp (fun _ => Exs.nil) (fun q => by cases q) (fun v q => by cases q)) <|
    Exs.one (Ex.ret (Ev.cell 1 rfl rfl)), Out.list rfl (pairsI_noref _)⟩
end
end Mine
namespace Mine
open PySem PySem.Spec PySem.Calls PyProof.Rows PySem.W
-- _law_orders
noncomputable def ordBody := fBody (nth top 25)
noncomputable def ordScope := fScope (nth top 25)
noncomputable def ordPar := fPar (nth top 25)
theorem ord_pos : ByPos ordPar .none .none (parN ordScope 1) := fun s fd xs h1 h2 h3 hl => by
  obtain ⟨x, rfl⟩ := one_of hl
  exact BindsTo.of_eq (by cases fd; simp only at h1 h2 h3; subst h1; subst h2; subst h3; rfl)
theorem slc_intsV (i j : Option Int) (ns : List Int) : slc i j (intsV ns) = intsV (slc i j ns) := by
  unfold slc intsV
  rw [List.length_map, ← List.map_drop, ← List.map_take]
noncomputable def ordOne (town : Int) (o : List Int) : List (List Int) := (rng 0 ((o.length : Int) + 1)).map fun p => slc none (some p) o ++ [town] ++ slc (some p) none o
noncomputable def ordStep (os : List (List Int)) (town : Int) : List (List Int) := os.flatMap (ordOne town)
noncomputable def ordersOf (n : Int) : List (List Int) := (rng 0 n).foldl ordStep [[]]
noncomputable def listsV (os : List (List Int)) : List Val := os.map fun o => .list (intsV o)
structure FOrd (B : Wd) (oa : Addr) : Prop where
  still : B.grows = false
  ford : FnOK B.K oa ordPar ordBody ordScope .none .none
  b_range : nsIn B.K mainGlobals "range" = some none
  b_len : nsIn B.K mainGlobals "len" = some none
section
variable {B : Wd} {oa : Addr} {n : Nat} {sc : Scope} {σ : Store}
theorem CpM.mapEx {α : Type} {x : Str} {p : Pos} {elt : Expr} (inj g : α → Val) (i : Nat) (hi : sc.names[i]? = some (x, .local)) :
    ∀ (L : List α) (vc : List (Option Val)) (u : Option Val), (∀ a ∈ L, Ev B n sc (vc.set i (some (inj a))) σ elt (g a)) → ∃ u', CpM B n sc σ (.Name x p) (emitE elt) (vc.set i u) (L.map inj) (L.map g) (vc.set i u')
  | [], vc, u, _ => ⟨u, .nil⟩
  | a :: L, vc, u, h => by
    obtain ⟨u', h'⟩ := CpM.mapEx (p := p) inj g i hi L vc (some (inj a)) fun b hb => h b (.tail _ hb)
    have t := CpM.turn (B := B) (n := n) (σ := σ) (vc := vc.set i u) (AsL.name (p := p) (v := inj a) i hi) (Em.one (elt := elt) (v := g a) (by rw [List.set_set]; exact h a (.head _))) (by rw [List.set_set]; exact h')
    exact ⟨u', t⟩
/-- the comprehension of _law_orders -/
noncomputable def ordComp : Expr := asgV (nth (levInner (nth ordBody 1)) 0)
noncomputable def cElt : Expr → Expr
  | .ListComp e _ _ _ => e
  | e => e
noncomputable def cGen (i : Nat) : Expr → Comprehension
  | .ListComp _ gs _ _ => gs.getD i ⟨.Constant .none 0 ⟨0, 0, 0, 0⟩, .Constant .none 0 ⟨0, 0, 0, 0⟩, [], 0⟩
  | _ => ⟨.Constant .none 0 ⟨0, 0, 0, 0⟩, .Constant .none 0 ⟨0, 0, 0, 0⟩, [], 0⟩
noncomputable def cScope : Expr → Scope
  | .ListComp _ _ s _ => s
  | _ => default
noncomputable def ov (town : Int) (o p : Option Val) : List (Option Val) := [none, o, p, none, none, some (.int town)]
theorem ord_inner (F : FOrd B oa) (town : Int) (o : List Int) (ho : o.length ≤ 100) (u : Option Val) : ∃ u', CpM B n (relS (cScope ordComp) ordScope) σ (cGen 1 ordComp).target (emitE (cElt ordComp)) (ov town (some (.list (intsV o))) u) (intsV (rng 0 ((o.length : Int) + 1))) (listsV (ordOne town o)) (ov town (some (.list (intsV o))) u') := by
  have sl := sizeLine_eq
  have il : ∀ ns : List Int, (intsV ns).length = ns.length := fun ns => by unfold intsV; simp
  have sz : ∀ (i j : Option Int) (xs : List Int), (slc i j xs).length ≤ xs.length := fun i j xs => by
    unfold slc
    rw [List.length_take, List.length_drop]; omega
  have key : ∀ p ∈ rng 0 ((o.length : Int) + 1), Ev B n (relS (cScope ordComp) ordScope) ((ov town (some (.list (intsV o))) none).set 2 (some (.int p))) σ (cElt ordComp) (.list (intsV (slc none (some p) o ++ [town] ++ slc (some p) none o))) := fun p hp => by
    have e : intsV (slc none (some p) o ++ [town] ++ slc (some p) none o) = (slc none (some p) (intsV o) ++ [.int town]) ++ slc (some p) none (intsV o) := by
      rw [slc_intsV, slc_intsV]; unfold intsV; simp
    rw [e]
    have s1 := sz none (some p) o
    have s2 := sz (some p) none o
    exact EvN.ev (EvN.add (EvN.ev (EvN.add (EvN.ev (EvN.slice (Ev.local 1 rfl rfl) .fr .none (.int (Ev.local 2 rfl rfl)) (by rw [il]; omega))) (EvN.ev (EvN.display (.cons (Ev.var 5 (.inr rfl) rfl) .nil))) .fr .fr (by rw [slc_intsV, il]; simp; omega))) (EvN.ev (EvN.slice (Ev.local 1 rfl rfl) .fr (.int (Ev.local 2 rfl rfl)) .none (by rw [il]; omega))) .fr .fr (by rw [slc_intsV, slc_intsV, List.length_append, il, il]; simp; omega))
  obtain ⟨u', h⟩ := CpM.mapEx (B := B) (n := n) (σ := σ) (sc := relS (cScope ordComp) ordScope) (x := "place") (p := (cGen 1 ordComp).target.pos) (elt := cElt ordComp) (α := Int) .int (fun p => .list (intsV (slc none (some p) o ++ [town] ++ slc (some p) none o))) 2 rfl (rng 0 ((o.length : Int) + 1)) (ov town (some (.list (intsV o))) none) u key
  have e : (ordOne town o).map (fun o => Val.list (intsV o)) = (rng 0 ((o.length : Int) + 1)).map fun p => .list (intsV (slc none (some p) o ++ [town] ++ slc (some p) none o)) := by
    unfold ordOne; rw [List.map_map]; rfl
  refine ⟨u', ?_⟩
  unfold listsV
  rw [e]
  exact h
theorem ord_outer (F : FOrd B oa) (town : Int) : ∀ (os : List (List Int)), (∀ o ∈ os, o.length ≤ 100) → ∀ u w, ∃ u' w', CpM B n (relS (cScope ordComp) ordScope) σ (cGen 0 ordComp).target (emit2 (cElt ordComp) (cGen 0 ordComp).target (cGen 0 ordComp).iter (cGen 1 ordComp).target (cGen 1 ordComp).iter (cScope ordComp) ordComp.pos) (ov town u w) (listsV os) (listsV (os.flatMap (ordOne town))) (ov town u' w')
  | [], _, u, w => ⟨u, w, .nil⟩
  | o :: os, h, u, w => by
    have sl := sizeLine_eq
    have il : ∀ ns : List Int, (intsV ns).length = ns.length := fun ns => by unfold intsV; simp
    have ho := h o (by simp)
    obtain ⟨w₁, hi⟩ := ord_inner (n := n) (σ := σ) F town o ho w
    obtain ⟨u', w', hr⟩ := ord_outer F town os (fun z hz => h z (List.mem_cons_of_mem _ hz)) (some (.list (intsV o))) w₁
    refine ⟨u', w', ?_⟩
    have e : listsV ((o :: os).flatMap (ordOne town)) = listsV (ordOne town o) ++ listsV (os.flatMap (ordOne town)) := by unfold listsV; simp
    rw [e]
    have it : Itr true B n (relS (cScope ordComp) ordScope) (ov town (some (.list (intsV o))) w) σ (cGen 1 ordComp).iter (intsV (rng 0 ((o.length : Int) + 1))) :=
      Itr.range1 (Ev.builtin 3 rfl F.b_range boot_range (by decide)) (Ev.eq (Ev.bin (Ev.callB (Ev.builtin 4 rfl F.b_len boot_len (by decide)) (.cons (Ev.local 1 rfl rfl) .nil) (OpS.lenL .fr (by rw [il]; omega))) Ev.cint Op2.add) (by rw [il])) (by omega) (by unfold rng; simp; omega)
    exact CpM.turn (AsL.name 1 rfl) (Em.two it hi) hr
theorem ordOne_len (town : Int) (o : List Int) : (ordOne town o).length = o.length + 1 ∧ ∀ q ∈ ordOne town o, q.length = o.length + 1 := by
  refine ⟨by unfold ordOne rng; simp, fun q hq => ?_⟩
  unfold ordOne at hq
  obtain ⟨p, hp, rfl⟩ := List.mem_map.mp hq
  obtain ⟨h1, h2⟩ := rng_mem hp
  have e1 : kms_lo (some p) o.length = p.toNat := by unfold kms_lo; simp only; rw [if_neg (by omega)]; omega
  have e2 : kms_hi (some p) o.length = p.toNat := by unfold kms_hi; simp only; rw [if_neg (by omega)]; omega
  unfold slc
  simp only [List.length_append, List.length_take, List.length_drop, e1, e2, kms_lo, kms_hi, List.length_cons, List.length_nil]
  omega
theorem ordStep_len (town : Int) (j c : Nat) (os : List (List Int)) (h : ∀ o ∈ os, o.length = j) (hc : os.length ≤ c) : (∀ o ∈ ordStep os town, o.length = j + 1) ∧ (ordStep os town).length ≤ c * (j + 1) := by
  unfold ordStep
  refine ⟨fun q hq => ?_, ?_⟩
  · obtain ⟨o, ho, hq⟩ := List.mem_flatMap.mp hq
    rw [(ordOne_len town o).2 q hq, h o ho]
  · have key : ∀ os : List (List Int), (∀ o ∈ os, o.length = j) → (os.flatMap (ordOne town)).length = os.length * (j + 1) := by
      intro os
      induction os with
      | nil => intro _; simp
      | cons o os ih =>
        intro h
        rw [List.flatMap_cons, List.length_append, ih fun z hz => h z (List.mem_cons_of_mem _ hz), (ordOne_len town o).1, h o (by simp), List.length_cons, Nat.add_mul]; omega
    rw [key os h]
    exact Nat.mul_le_mul_right _ hc
noncomputable def orv (towns : Int) (os : List (List Int)) (t : Option Val) : List (Option Val) := [some (.int towns), some (.list (listsV os)), t, none]
theorem ord_turn (F : FOrd B oa) (towns town : Int) (os : List (List Int)) (h : ∀ o ∈ os, o.length ≤ 100) (hl : (ordStep os town).length ≤ 100000) (hl2 : os.length ≤ 100000) :
    Exs B n ordScope (orv towns os (some (.int town))) [] (levInner (nth ordBody 1)) .next (orv towns (ordStep os town) none) [] := by
  have sl := sizeLine_eq
  obtain ⟨u', w', hc⟩ := ord_outer (n := n) (σ := []) F town os h none none
  have ll : ∀ os : List (List Int), (listsV os).length = os.length := fun os => by unfold listsV; simp
  refine Exs.weak (Exs.one (Ex.assignC2 (vcE := ov town u' w') (ys := listsV (ordStep os town)) 1 rfl (.inl rfl) (Itr.list (Ev.local 1 rfl rfl) (by rw [ll]; omega)) ⟨rfl, by decide, by decide⟩ (Sees.by [(5, 2)] [false, false, false, false, false, true] rfl rfl ⟨rfl, trivial⟩) hc (by rw [ll]; omega))) ?_
  unfold orv
  repeat (first | exact Weak.refl _ | apply Weak.keep | apply Weak.forget)
theorem listsV_noref : ∀ (os : List (List Int)), noRefs (listsV os) = true
  | [] => rfl
  | o :: os => by
    show (noRefs (intsV o) && noRefs (listsV os)) = true
    rw [listsV_noref os, intsV_noref]; rfl
/-- _law_orders -/
theorem ord_fn (F : FOrd B oa) (towns : Nat) (ht : towns ≤ 4) : Fn B (n + 2) oa [.int (towns : Int)] (.list (listsV (ordersOf (towns : Int)))) := by
  have sl := sizeLine_eq
  have hlp := Lp.fold (B := B) (n := n + 1) (sc := ordScope) (tg := forTg (nth ordBody 1)) (body := levInner (nth ordBody 1)) (α := Int) (S := List (List Int)) .int (fun s => orv (towns : Int) s none) (fun _ => []) ordStep
    (fun d s => (orv (towns : Int) s none).set 2 (some (.int d))) (fun d s => As.name 2 rfl (.inr rfl)) (rng 0 (towns : Int)) (fun j s => (∀ o ∈ s, o.length = j) ∧ s.length ≤ 5 ^ j ∧ j ≤ 4) (fun j d s hd hs => by
      have hj := (List.getElem?_eq_some_iff.mp hd).1
      rw [rng_len] at hj
      obtain ⟨h1, h2⟩ := ordStep_len d j (5 ^ j) s hs.1 hs.2.1
      refine ⟨h1, Nat.le_trans h2 ?_, by omega⟩
      rw [Nat.pow_succ]
      exact Nat.mul_le_mul_left _ (by omega)) (fun j d s hd hs => by
      have hj := (List.getElem?_eq_some_iff.mp hd).1
      rw [rng_len] at hj
      obtain ⟨h1, h2⟩ := ordStep_len d j (5 ^ j) s hs.1 hs.2.1
      have h5 : 5 ^ j ≤ 5 ^ 4 := Nat.pow_le_pow_right (by decide) hs.2.2
      have h6 : 5 ^ j * (j + 1) ≤ 5 ^ 4 * 5 := Nat.mul_le_mul h5 (by omega)
      exact ord_turn F (towns : Int) d s (fun o ho => by rw [hs.1 o ho]; omega) (by omega) (by omega)) [[]] ⟨by simp, by simp, by omega⟩
  refine Fn.mk F.still F.ford ord_pos rfl rfl (by decide) rfl ?_
  exact ⟨_, _, _, Exs.cons (Ex.assign 1 rfl (.inl rfl) (EvN.ev (EvN.display (.cons (EvN.ev (EvN.display .nil)) .nil)))) <|
    Exs.cons (Ex.forL (f := .next) (Itr.range1 (Ev.builtin 3 rfl F.b_range boot_range (by decide)) (Ev.local 0 rfl rfl) (by omega) (by rw [rng_len]; omega)) hlp (fun _ => Exs.nil) (fun q => by cases q) (fun v q => by cases q)) <|
    Exs.one (Ex.ret (Ev.local 1 rfl rfl)), Out.same (listsV_noref _)⟩
end
end Mine
namespace Mine
open PySem PySem.Spec PySem.Calls PyProof.Rows PySem.W PySem.Builtin PySem.Builtin.Str
-- _law_turned, _law_key
noncomputable def turnBody := fBody (nth top 26)
noncomputable def turnScope := fScope (nth top 26)
noncomputable def turnPar := fPar (nth top 26)
noncomputable def keyBody := fBody (nth top 27)
noncomputable def keyScope := fScope (nth top 27)
noncomputable def keyPar := fPar (nth top 27)
theorem turn_pos : ByPos turnPar .none .none (parN turnScope 2) := fun s fd xs h1 h2 h3 hl => by
  obtain ⟨x, y, rfl⟩ := two_of hl
  exact BindsTo.of_eq (by cases fd; simp only at h1 h2 h3; subst h1; subst h2; subst h3; rfl)
theorem key_pos : ByPos keyPar .none .none (parN keyScope 2) := fun s fd xs h1 h2 h3 hl => by
  obtain ⟨x, y, rfl⟩ := two_of hl
  exact BindsTo.of_eq (by cases fd; simp only at h1 h2 h3; subst h1; subst h2; subst h3; rfl)
noncomputable def turnedAt (o : List Int) (rs : List (Int × Int)) (k : Int) : Bool := decide (((o.idxOf (rs.getD k.toNat (0, 0)).1 : Nat) : Int) < ((o.idxOf (rs.getD k.toNat (0, 0)).2 : Nat) : Int))
noncomputable def turnedOf (o : List Int) (rs : List (Int × Int)) : Int := (((rng 0 (rs.length : Int)).filter (turnedAt o rs)).map fun k => 1 * 2 ^ k.toNat).sum
structure FTurn (B : Wd) (ta : Addr) : Prop where
  still : B.grows = false
  fturn : FnOK B.K ta turnPar turnBody turnScope .none .none
  b_range : nsIn B.K mainGlobals "range" = some none
  b_len : nsIn B.K mainGlobals "len" = some none
  b_sum : nsIn B.K mainGlobals "sum" = some none
section
variable {B : Wd} {ta : Addr} {n : Nat} {sc : Scope} {σ : Store}
noncomputable def callArg (i : Nat) : Expr → Expr
  | .Call _ es _ _ => es.getD i (.Constant .none 0 ⟨0, 0, 0, 0⟩)
  | e => e
noncomputable def retOf : Stmt → Expr
  | .Return (some e) _ => e
  | _ => .Constant .none 0 ⟨0, 0, 0, 0⟩
/-- _law_turned -/
theorem turn_fn (F : FTurn B ta) (o : List Int) (rs : List (Int × Int)) (ho : PyData.layable0 (.list (o.map .int)) = true) (hin : ∀ r ∈ rs, r.1 ∈ o ∧ r.2 ∈ o) (hrs : rs.length ≤ 60) : Fn B (n + 1) ta [.list (intsV o), .list (pairsI rs)] (.int (turnedOf o rs)) := by
  have sl := sizeLine_eq
  have pl : (pairsI rs).length = rs.length := by unfold pairsI; simp
  have at_ : ∀ k ∈ rng 0 (rs.length : Int), k.toNat < rs.length ∧ 0 ≤ k := fun k hk => by
    have := rng_mem hk; omega
  have hget : ∀ k ∈ rng 0 (rs.length : Int), (pairsI rs)[k.toNat]? = some (pairV (rs.getD k.toNat (0, 0))) ∧ rs.getD k.toNat (0, 0) ∈ rs := fun k hk => by
    have h := (at_ k hk).1
    unfold pairsI
    rw [List.getElem?_map, List.getElem?_eq_getElem h, List.getD_eq_getElem?_getD, List.getElem?_eq_getElem h]
    exact ⟨rfl, List.getElem_mem h⟩
  have comp : EvN B n turnScope [some (.list (intsV o)), some (.list (pairsI rs)), none, none, none] [] (callArg 0 (retOf (nth turnBody 0))) (intsV (((rng 0 (rs.length : Int)).filter (turnedAt o rs)).map fun k => 1 * 2 ^ k.toNat)) := by
    have e : intsV (((rng 0 (rs.length : Int)).filter (turnedAt o rs)).map fun k => 1 * 2 ^ k.toNat) = ((rng 0 (rs.length : Int)).filter (turnedAt o rs)).map fun k => Val.int (1 * 2 ^ k.toNat) := by unfold intsV; rw [List.map_map]; rfl
    rw [e]
    refine EvN.comp (vc := [none, none, some (.list (intsV o)), some (.list (pairsI rs))]) (Itr.range1 (Ev.builtin 3 rfl F.b_range boot_range (by decide)) (Ev.eq (Ev.callB (Ev.builtin 4 rfl F.b_len boot_len (by decide)) (.cons (Ev.cell 1 rfl rfl) .nil) (OpS.lenL .fr (by rw [pl]; omega))) (by rw [pl])) (by omega) (by rw [rng_len]; omega)) ⟨rfl, by decide, by decide⟩ (Sees.by [(2, 0), (3, 1)] [false, false, true, true] rfl rfl ⟨rfl, rfl, trivial⟩)
      (Cp.filter (α := Int) .int (fun k => .int (1 * 2 ^ k.toNat)) (turnedAt o rs) 1 rfl (rng 0 (rs.length : Int)) _ (fun k hk => ?_) (fun k hk _ => ?_))
    · obtain ⟨h1, h2⟩ := hget k hk
      obtain ⟨h3, h4⟩ := hin _ h2
      obtain ⟨h5, h6⟩ := at_ k hk
      exact Tr.cmp (Ev.meth (Ev.var 2 (.inr rfl) rfl) (.cons (Ev.sub (Ev.sub (Ev.var 3 (.inr rfl) rfl) (Ev.local 1 rfl rfl) (Itm.list k.toNat .fr h1 (by omega) (by omega))) Ev.cint (Itm.tup 0 rfl rfl (by omega))) .nil) (TyB.lst .fr) PySem.F.plainAttrs_list PySem.F.slot_list_index PySem.F.type_list_index (OpS.indexI .fr h3 ho))
        (Ev.meth (Ev.var 2 (.inr rfl) rfl) (.cons (Ev.sub (Ev.sub (Ev.var 3 (.inr rfl) rfl) (Ev.local 1 rfl rfl) (Itm.list k.toNat .fr h1 (by omega) (by omega))) Ev.cint (Itm.tup 1 rfl rfl (by omega))) .nil) (TyB.lst .fr) PySem.F.plainAttrs_list PySem.F.slot_list_index PySem.F.type_list_index (OpS.indexI .fr h4 ho)) Op2.lt
    · obtain ⟨h5, h6⟩ := at_ k hk
      exact Ev.bin Ev.cint (Ev.local 1 rfl rfl) (Op2.shl h6 (by rw [show Builtin.Int.intBits 1 = 1 by decide]; omega))
  refine Fn.mk F.still F.fturn turn_pos rfl rfl (by decide) ?_ ?_
  · show (noRefs (intsV o) && (noRefs (pairsI rs) && true)) = true
    rw [intsV_noref, pairsI_noref]; rfl
  · exact ⟨_, _, _, Exs.one (Ex.ret (Ev.callB (Ev.builtin 2 rfl F.b_sum boot_sum (by decide)) (.cons (EvN.ev comp) .nil) (OpS.sum .fr))), Out.same rfl⟩
noncomputable def keyParts (t : Int) : List Str := Txt.split (pfText t) ", "
noncomputable def keyText (t : Int) : Str := Txt.join "" ((keyParts t).map fun w => Txt.slice w (some 3) (some 4))
noncomputable def keyOf (o0 t : Int) : Str := if (o0.fmod 2 != 0) = true then Txt.lower (keyText t) else keyText t
noncomputable def keyFits (t : Int) : Bool := pfFits t && (decide ((pfText t).length ≤ 1000000) && (decide ((partsBetween (pfText t) (occurrences (pfText t) ", " 0 (pfText t).length ((pfText t).length + 1)) (", " : Str).length).length ≤ 1000000) &&
  (decide ((keyParts t).length ≤ 1000) && ((keyParts t).all (fun w => decide (w.length ≤ 1000)) && (decide (((((keyParts t).map fun w => Txt.slice w (some 3) (some 4))).map (·.length)).sum ≤ 100000) && decide ((keyText t).length ≤ 100000))))))
structure FKey (B : Wd) (a : Ad) (fl ka : Addr) : Prop extends FPf B a fl where
  fkey : FnOK B.K ka keyPar keyBody keyScope .none .none
variable {a : Ad} {fl ka : Addr}
theorem key_comp (F : FKey B a fl ka) (o : List Int) (t : Int) (T : Str) (parts : List Str) (hp : FnP B (n + 1) a.pretty [.int t] (.str T)) (hT : Txt.split T ", " = parts) (f2 : T.length ≤ 1000000) (f3 : (partsBetween T (occurrences T ", " 0 T.length (T.length + 1)) (", " : Str).length).length ≤ 1000000) (f4 : parts.length ≤ 1000) (f5 : ∀ w ∈ parts, w.length ≤ 1000) :
    EvN B (n + 1) keyScope [some (.list (intsV o)), some (.int t), none, none] [] (callArg 0 (asgV (nth keyBody 0))) (strsV (parts.map fun w => Txt.slice w (some 3) (some 4))) := by
  have sl := sizeLine_eq
  have e : strsV (parts.map fun w => Txt.slice w (some 3) (some 4)) = parts.map fun w => Val.str (Txt.slice w (some 3) (some 4)) := by unfold strsV; rw [List.map_map]; rfl
  rw [e]
  have sp := OpN.split (B := B) (n := n + 1) (σ := []) (x := T) (y := ", ") rfl f2 f3
  rw [hT] at sp
  exact EvN.comp (vc := [none, none]) (Itr.list (EvN.ev (EvN.meth (Ev.callD (Ev.gval 3 rfl F.pretty) F.fpretty.isFn (.cons (Ev.local 1 rfl rfl) .nil) (hp.fn rfl _)) (.cons Ev.cstr .nil) TyB.str PySem.F.plainAttrs_str PySem.F.slot_str_split PySem.F.type_str_split sp)) (by unfold strsV; rw [List.length_map]; omega)) ⟨rfl, by decide, by decide⟩ (Sees.by [] [false, false] rfl rfl trivial)
    (Cp.map (α := Str) .str (fun w => .str (Txt.slice w (some 3) (some 4))) 1 rfl parts _ fun w hw => EvN.slices (Ev.local 1 rfl rfl) (.int Ev.cint) (.int Ev.cint) (by have := f5 w hw; omega))
set_option maxHeartbeats 1000000 in
theorem key_body (o : List Int) (o0 : Int) (h0 : o[0]? = some o0) (t : Int) (bits : List Str) (K : Str) (hK : Txt.join "" bits = K) (comp : EvN B (n + 1) keyScope [some (.list (intsV o)), some (.int t), none, none] [] (callArg 0 (asgV (nth keyBody 0))) (strsV bits)) (f6 : (bits.map (·.length)).sum ≤ 100000) (f7 : K.length ≤ 100000) :
    Exs B (n + 1) keyScope [some (.list (intsV o)), some (.int t), none, none] [] keyBody (.ret (.str (if (o0.fmod 2 != 0) = true then Txt.lower K else K))) [some (.list (intsV o)), some (.int t), some (.str K), none] [] := by
  have sl := sizeLine_eq
  have hq : (intsV o)[0]? = some (.int o0) := by unfold intsV; rw [List.getElem?_map, h0]; rfl
  have jn := OpS.join (B := B) (n := n + 1) (σ := []) (x := "") (ys := bits) .fr (by rw [show ("" : Str).length = 0 from rfl]; omega)
  rw [hK] at jn
  have join : Ev B (n + 1) keyScope [some (.list (intsV o)), some (.int t), none, none] [] (asgV (nth keyBody 0)) (.str K) :=
    Ev.meth Ev.cstr (.cons (EvN.ev comp) .nil) TyB.str PySem.F.plainAttrs_str PySem.F.slot_str_join PySem.F.type_str_join jn
  have last : Ev B (n + 1) keyScope [some (.list (intsV o)), some (.int t), some (.str K), none] [] (retOf (nth keyBody 1)) (.str (if (o0.fmod 2 != 0) = true then Txt.lower K else K)) := by
    cases hd : (o0.fmod 2 != 0) with
    | true =>
      rw [if_pos rfl]
      exact Ev.ite (d := true) ((Tr.of (Ev.bin (Ev.sub (Ev.local 0 rfl rfl) Ev.cint (Itm.list 0 .fr hq rfl (by omega))) Ev.cint (Op2.mod (by decide))) Tv.int).eq hd) (fun _ => Ev.meth (Ev.local 2 rfl rfl) .nil TyB.str PySem.F.plainAttrs_str PySem.F.slot_str_lower PySem.F.type_str_lower (OpS.lower (by omega))) (fun q => by cases q)
    | false =>
      rw [if_neg (by decide)]
      exact Ev.ite (d := false) ((Tr.of (Ev.bin (Ev.sub (Ev.local 0 rfl rfl) Ev.cint (Itm.list 0 .fr hq rfl (by omega))) Ev.cint (Op2.mod (by decide))) Tv.int).eq hd) (fun q => by cases q) (fun _ => (Ev.local 2 rfl rfl))
  exact Exs.cons (Ex.assign 2 rfl (.inl rfl) join) <| Exs.one (Ex.ret last)
/-- _law_key -/
theorem key_fn (F : FKey B a fl ka) (o : List Int) (o0 : Int) (h0 : o[0]? = some o0) (t : Int) (hf : keyFits t = true) : Fn B (n + 2) ka [.list (intsV o), .int t] (.str (keyOf o0 t)) := by
  unfold keyFits at hf
  simp only [Bool.and_eq_true, decide_eq_true_eq, List.all_eq_true] at hf
  obtain ⟨f1, f2, f3, f4, f5, f6, f7⟩ := hf
  have hp : FnP B (n + 1) a.pretty [.int t] (.str (pfText t)) := pf_fn F.toFPf t f1
  have comp := key_comp F o t (pfText t) (keyParts t) hp rfl f2 f3 f4 f5
  have body := key_body o o0 h0 t _ (keyText t) rfl comp f6 f7
  refine Fn.mk F.still F.fkey key_pos rfl rfl (by decide) ?_ ⟨_, _, _, body, Out.same rfl⟩
  show (noRefs (intsV o) && (true && true)) = true
  rw [intsV_noref]; rfl
end
theorem key_fits_all : (List.range 32).all (fun k => keyFits (k : Int)) = true := by kernel_rfl
theorem key_fits (k : Nat) (h : k < 32) : keyFits (k : Int) = true := List.all_eq_true.mp key_fits_all k (List.mem_range.mpr h)
end Mine
namespace Mine
open PySem PySem.Spec PySem.Calls PyProof.Rows PySem.W
-- law
noncomputable def lawBody := fBody (nth top 28)
noncomputable def lawScope := fScope (nth top 28)
noncomputable def lawPar := fPar (nth top 28)
/-- the names of the law's frame -/
structure Lw where
  script : Option Val := none
  wishes : Option Val := none
  towns : Option Val := none
  roads : Option Val := none
  total : Option Val := none
  width : Option Val := none
  z : Option Val := none
  table : Option Val := none
  seen : Option Val := none
  firsts : Option Val := none
  order : Option Val := none
  turned : Option Val := none
  text : Option Val := none
  letters : Option Val := none
  start : Option Val := none
  far : Option Val := none
  name : Option Val := none
  spelled : Option Val := none
  product : Option Val := none
  colours : Option Val := none
  latest : Option Val := none
  ties : Option Val := none
  quotient : Option Val := none
  rest : Option Val := none
noncomputable def Lw.l (s : Lw) : List (Option Val) := [s.script, s.wishes, s.towns, s.roads, s.total, s.width, s.z, s.table, s.seen, s.firsts, s.order, s.turned, s.text, s.letters, s.start, s.far, s.name, s.spelled, s.product, s.colours, s.latest, s.ties, s.quotient, s.rest, none, none, none, none, none, none, none, none, none, none, none]
/-- where the law's own defs lie -/
structure La where
  law : Addr
  roads : Addr
  orders : Addr
  turned : Addr
  key : Addr
structure FLaw (B : Wd) (a : Ad) (d : Hd) (q : La) (fl ci Pi cd Pd T T₀ sd ks : Addr) : Prop where
  flaw : FnOK B.K q.law lawPar lawBody lawScope .none .none
  div : FDiv B a ci Pi cd Pd
  lev : FLev B a
  tab : FTab B d T sd ks
  ini : FInit B d T₀
  roads : FRoads B q.roads
  orders : FOrd B q.orders
  turned : FTurn B q.turned
  key : FKey B a fl q.key
  g_roads : nsIn B.K mainGlobals "_law_roads" = some (some (.ref q.roads))
  g_orders : nsIn B.K mainGlobals "_law_orders" = some (some (.ref q.orders))
  g_turned : nsIn B.K mainGlobals "_law_turned" = some (some (.ref q.turned))
  g_key : nsIn B.K mainGlobals "_law_key" = some (some (.ref q.key))
  g_hdr : nsIn B.K mainGlobals "Headers" = some (some (.ref d.C))
  b_len : nsIn B.K mainGlobals "len" = some none
  b_sum : nsIn B.K mainGlobals "sum" = some none
  b_range : nsIn B.K mainGlobals "range" = some none
  b_str : nsIn B.K mainGlobals "str" = some none
section
variable {B : Wd} {a : Ad} {d : Hd} {q : La} {fl ci Pi cd Pd T T₀ sd ks : Addr} {n : Nat}
noncomputable abbrev N : Nat := 120
noncomputable def wishesOf (sc : List Int) : List Int := (slc none (some 3) sc).map (fun v => v.fmod 8) ++ slc (some (sc.length : Int)) none [1, 3]
noncomputable def binL : Expr → Expr
  | .BinOp l _ _ _ => l
  | e => e
noncomputable def binR : Expr → Expr
  | .BinOp _ _ r _ => r
  | e => e
theorem il (ns : List Int) : (intsV ns).length = ns.length := by unfold intsV; simp
theorem law_0 (F : FLaw B a d q fl ci Pi cd Pd T T₀ sd ks) {sa : Addr} (sc : List Int) (G : Giv B.up sa sc) (hs : sc.length ≤ 100) :
    Ex B.up N lawScope ({ script := some (.glob (.ref sa)) } : Lw).l [] (nth lawBody 0) .next ({ script := some (.glob (.ref sa)), wishes := some (.list (intsV (wishesOf sc))) } : Lw).l [] := by
  have sl := sizeLine_eq
  have e : intsV (wishesOf sc) = (slc none (some 3) sc).map (fun v => .int (v.fmod 8)) ++ slc (some (sc.length : Int)) none (intsV [1, 3]) := by
    unfold wishesOf
    rw [slc_intsV]; unfold intsV; simp
  have sz : ∀ (i j : Option Int) (xs : List Int), (slc i j xs).length ≤ xs.length := fun i j xs => by
    unfold slc
    rw [List.length_take, List.length_drop]; omega
  rw [e]
  have it : Itr true B.up N lawScope ({ script := some (.glob (.ref sa)) } : Lw).l [] (compIt (binL (asgV (nth lawBody 0)))) (intsV (slc none (some 3) sc)) := by
    rw [← slc_intsV]
    exact Itr.list (EvN.ev (EvN.sliceG (Ev.local 0 rfl rfl) G .none (.int Ev.cint) (by omega))) (by rw [slc_intsV, il]; have := sz none (some 3) sc; omega)
  have s1 := sz none (some 3) sc
  have s2 := sz (some (sc.length : Int)) none [1, 3]
  have l : EvN B.up N lawScope ({ script := some (.glob (.ref sa)) } : Lw).l [] (binL (asgV (nth lawBody 0))) ((slc none (some 3) sc).map (fun v => .int (v.fmod 8))) :=
    EvN.comp (vc := [none, none]) it ⟨rfl, by decide, by decide⟩ (Sees.by [] [false, false] rfl rfl trivial) (Cp.map (α := Int) .int (fun v => .int (v.fmod 8)) 1 rfl (slc none (some 3) sc) _ fun v _ => Ev.bin (Ev.local 1 rfl rfl) Ev.cint (Op2.mod (by decide)))
  have r : EvN B.up N lawScope ({ script := some (.glob (.ref sa)) } : Lw).l [] (binR (asgV (nth lawBody 0))) (slc (some (sc.length : Int)) none (intsV [1, 3])) :=
    EvN.slice (EvN.ev (EvN.display (.cons Ev.cint (.cons Ev.cint .nil)))) .fr (.int (Ev.eq (Ev.callB (Ev.builtin 24 rfl F.b_len boot_len (by decide)) (.cons (Ev.local 0 rfl rfl) .nil) (OpS.lenG G (by omega))) rfl)) .none (by decide)
  exact Ex.assign 1 rfl (.inl rfl) (EvN.ev (EvN.add l.ev r.ev .fr .fr (by rw [List.length_map, slc_intsV, il]; simp at s2; omega)))
noncomputable def totalOf (sc : List Int) : Int := (slc none (some 60) sc).sum
noncomputable def widthOf (t : Int) : Int := 5 + t.fmod 4
noncomputable def zOf (t : Int) : Int := 1 * 2 ^ (widthOf t).toNat
theorem width_le (t : Int) : 5 ≤ widthOf t ∧ widthOf t ≤ 8 := by
  unfold widthOf
  have h1 := Int.fmod_nonneg_of_pos t (show (0 : Int) < 4 by decide)
  have h2 := Int.fmod_lt_of_pos t (show (0 : Int) < 4 by decide)
  omega
/-- the frame ahead of the loop -/
noncomputable def st1 (sa : Addr) (sc : List Int) : Lw := { script := some (.glob (.ref sa)), wishes := some (.list (intsV (wishesOf sc))), towns := some (.int (((wishesOf sc).length : Int) + 1)), roads := some (.list (pairsI (roadsOf (wishesOf sc)))), total := some (.int (totalOf sc)), width := some (.int (widthOf (totalOf sc))), z := some (.int (zOf (totalOf sc))) }
noncomputable def st2 (d : Hd) (sa : Addr) (sc : List Int) : Lw := { st1 sa sc with table := some (.hdr d.C (.ref 0)), seen := some (.ref 1), firsts := some (.ref 2) }
theorem law_1 (F : FLaw B a d q fl ci Pi cd Pd T T₀ sd ks) {sa : Addr} (sc : List Int) (G : Giv B.up sa sc) (hw : (wishesOf sc).length ≤ 60) (hs : sc.length ≤ 100) :
    Pre B.up N lawScope ({ script := some (.glob (.ref sa)), wishes := some (.list (intsV (wishesOf sc))) } : Lw).l [] (lawBody.drop 1) (lawBody.drop 6) (st1 sa sc).l [] := by
  have sl := sizeLine_eq
  have sz : ∀ (i j : Option Int) (xs : List Int), (slc i j xs).length ≤ xs.length := fun i j xs => by
    unfold slc
    rw [List.length_take, List.length_drop]; omega
  obtain ⟨w1, w2⟩ := width_le (totalOf sc)
  have hroads : Fn B N q.roads [.list (intsV (wishesOf sc))] (.list (pairsI (roadsOf (wishesOf sc)))) := (roads_fn (n := 0) F.roads (wishesOf sc) hw).le (by decide)
  have hsl := slc_intsV none (some 60) sc
  have s1 := sz none (some 60) sc
  have b1 : Builtin.Int.intBits 1 = 1 := by decide
  refine Pre.cons (Ex.assign 2 rfl (.inl rfl) (Ev.bin (Ev.eq (Ev.callB (Ev.builtin 24 rfl F.b_len boot_len (by decide)) (.cons (Ev.local 1 rfl rfl) .nil) (OpS.lenL .fr (by rw [il]; omega))) (by rw [il])) Ev.cint Op2.add)) ?_
  refine Pre.cons (Ex.assign 3 rfl (.inr rfl) (Ev.callD (Ev.gval 25 rfl F.g_roads) F.roads.froads.isFn (.cons (Ev.local 1 rfl rfl) .nil) (OpS.up (hroads _)))) ?_
  refine Pre.cons (Ex.assign 4 rfl (.inr rfl) (Ev.callB (Ev.builtin 26 rfl F.b_sum boot_sum (by decide)) (.cons (EvN.ev (EvN.sliceG (Ev.local 0 rfl rfl) G .none (.int Ev.cint) (by omega))) .nil) (OpS.sum (ns := slc none (some 60) sc) (by rw [hsl]; exact .fr)))) ?_
  refine Pre.cons (Ex.assign 5 rfl (.inl rfl) (Ev.bin Ev.cint (Ev.bin (Ev.cell 4 rfl rfl) Ev.cint (Op2.mod (by decide))) Op2.add)) ?_
  refine Pre.cons (Ex.assign 6 rfl (.inl rfl) (Ev.bin Ev.cint (Ev.local 5 rfl rfl) (Op2.shl (by show 0 ≤ widthOf (totalOf sc); omega) (by rw [b1]; show (1 : Int) + widthOf (totalOf sc) ≤ _; omega)))) ?_
  exact Pre.nil
end
end Mine
namespace Mine
open PySem PySem.Spec PySem.Calls PyProof.Rows PySem.W
-- the names that _law_key gives
noncomputable def lowN (t : Nat) : List Nat := (List.range 5).filterMap fun k => if t.testBit k then some ([105, 108, 97, 107, 116].getD k 0) else none
noncomputable def upN (t : Nat) : List Nat := (List.range 5).filterMap fun k => if t.testBit k then some ([73, 76, 65, 75, 84].getD k 0) else none
theorem names_1 : (List.range 32).all (fun t => keyText (t : Int) == S (upN t)) = true := by kernel_rfl
theorem names_2 : (List.range 32).all (fun t => Txt.lower (S (upN t)) == S (lowN t) && (Txt.lower (S (lowN t)) == S (lowN t) && (Txt.upper (S (upN t)) == S (upN t) && Txt.upper (S (lowN t)) == S (upN t)))) = true := by kernel_rfl
theorem names_3 : (List.range 32).all (fun t => (List.range 32).all fun u => t == u || !(lowN t == lowN u)) = true := by decide +kernel
theorem names_4 : (List.range 32).all (fun t => (lowN t).all (fun c => decide (32 ≤ c ∧ c < 127)) && ((upN t).all (fun c => decide (32 ≤ c ∧ c < 127)) && (decide ((lowN t).length ≤ 5) && decide ((upN t).length ≤ 5)))) = true := by decide +kernel
theorem key_is (o0 : Int) (t : Nat) (h : t < 32) : keyOf o0 (t : Int) = S (if (o0.fmod 2 != 0) = true then lowN t else upN t) := by
  have h1 := List.all_eq_true.mp names_1 t (List.mem_range.mpr h)
  have h2 := List.all_eq_true.mp names_2 t (List.mem_range.mpr h)
  simp only [Bool.and_eq_true, beq_iff_eq] at h1 h2
  unfold keyOf
  rw [h1]
  split
  · rw [h2.1]
  · rfl
theorem key_low (o0 : Int) (t : Nat) (h : t < 32) : Txt.lower (keyOf o0 (t : Int)) = S (lowN t) := by
  have h2 := List.all_eq_true.mp names_2 t (List.mem_range.mpr h)
  simp only [Bool.and_eq_true, beq_iff_eq] at h2
  rw [key_is o0 t h]
  split
  · exact h2.2.1
  · exact h2.1
theorem key_up (o0 : Int) (t : Nat) (h : t < 32) : Txt.upper (keyOf o0 (t : Int)) = S (upN t) := by
  have h2 := List.all_eq_true.mp names_2 t (List.mem_range.mpr h)
  simp only [Bool.and_eq_true, beq_iff_eq] at h2
  rw [key_is o0 t h]
  split
  · exact h2.2.2.2
  · exact h2.2.2.1
theorem low_inj {t u : Nat} (ht : t < 32) (hu : u < 32) (h : lowN t = lowN u) : t = u := by
  have h1 := List.all_eq_true.mp (List.all_eq_true.mp names_3 t (List.mem_range.mpr ht)) u (List.mem_range.mpr hu)
  simp only [Bool.or_eq_true, beq_iff_eq, Bool.not_eq_true', beq_eq_false_iff_ne] at h1
  rcases h1 with h1 | h1
  · exact h1
  · exact absurd h h1
theorem prt_S {L : List Nat} (h : L.all (fun c => decide (32 ≤ c ∧ c < 127)) = true) : Printable (S L) := fun c hc => by
  have := List.all_eq_true.mp h c (by simpa [S] using hc)
  simpa using this
theorem key_prt (o0 : Int) (t : Nat) (h : t < 32) : Printable (keyOf o0 (t : Int)) ∧ Printable (Txt.lower (keyOf o0 (t : Int))) ∧ (keyOf o0 (t : Int)).length ≤ 5 ∧ (Txt.lower (keyOf o0 (t : Int))).length ≤ 5 := by
  have h4 := List.all_eq_true.mp names_4 t (List.mem_range.mpr h)
  rw [Bool.and_eq_true, Bool.and_eq_true, Bool.and_eq_true, decide_eq_true_eq, decide_eq_true_eq] at h4
  obtain ⟨a1, a2, a3, a4⟩ := h4
  rw [key_low o0 t h, key_is o0 t h, S_len, S_len]
  refine ⟨?_, prt_S a1, ?_, a3⟩
  · split
    · exact prt_S a1
    · exact prt_S a2
  · split
    · exact a3
    · exact a4
/-- what the law's loop gathers: turnings, first towns, texts -/
noncomputable abbrev Ent := Int × Int × Str
noncomputable def seenOf (E : List Ent) : List Int := E.map (·.1)
noncomputable def firstsOf (E : List Ent) : List Str := E.map (·.2.2)
noncomputable def qsOf (E : List Ent) : List (Str × Str) := E.map fun e => (keyOf e.2.1 e.1, e.2.2)
noncomputable def entStep (E : List Ent) (e : Ent) : List Ent := if (seenOf E).contains e.1 then E else E ++ [e]
noncomputable def EntOK (E : List Ent) : Prop := ∀ e ∈ E, ∃ t : Nat, e.1 = (t : Int) ∧ t < 32
theorem look_at {t : Nat} (ht : t < 32) : ∀ (E : List Ent), EntOK E → look (S (lowN t)) (qsOf E) = (E.find? (fun e => e.1 == (t : Int))).map (·.2.2)
  | [], _ => rfl
  | e :: E, h => by
    obtain ⟨u, hu, hu2⟩ := h e (by simp)
    have ih := look_at ht E fun z hz => h z (List.mem_cons_of_mem _ hz)
    obtain ⟨e1, e2, e3⟩ := e
    simp only at hu
    subst hu
    have hl := key_low e2 u hu2
    show (if (Txt.lower (keyOf e2 (u : Int)) == S (lowN t)) = true then some e3 else look (S (lowN t)) (qsOf E)) = _
    rw [hl, S_beq, List.find?_cons]
    by_cases q : u = t
    · subst q; simp
    · have : (lowN u == lowN t) = false := by
        rw [beq_eq_false_iff_ne]
        exact fun z => q (low_inj hu2 ht z)
      rw [this]
      have : (((u : Int)) == (t : Int)) = false := by rw [beq_eq_false_iff_ne]; omega
      simp only [this, Bool.false_eq_true, if_false]
      exact ih
theorem find_idx (t : Int) : ∀ (E : List Ent) (e : Ent), E.find? (fun e => e.1 == t) = some e → (firstsOf E)[(seenOf E).idxOf t]? = some e.2.2 ∧ (seenOf E).contains t = true
  | [], e, h => by cases h
  | x :: E, e, h => by
    rw [List.find?_cons] at h
    unfold seenOf firstsOf
    rw [List.map_cons, List.map_cons, List.idxOf_cons, List.contains_cons]
    cases hx : (x.1 == t) with
    | true =>
      rw [hx] at h
      cases h
      have ex : x.1 = t := by simpa using hx
      simp [ex]
    | false =>
      rw [hx] at h
      obtain ⟨h1, h2⟩ := find_idx t E e h
      have hne : (t == x.1) = false := by
        rw [beq_eq_false_iff_ne] at hx ⊢
        exact fun q => hx q.symm
      refine ⟨?_, ?_⟩
      · simp only [cond_false]
        rw [List.getElem?_cons_succ]
        exact h1
      · rw [hne, Bool.false_or]; exact h2
theorem find_no (t : Int) (E : List Ent) (h : E.find? (fun e => e.1 == t) = none) : (seenOf E).contains t = false := by
  rw [List.find?_eq_none] at h
  rw [Bool.eq_false_iff]
  intro q
  rw [List.contains_iff_mem] at q
  unfold seenOf at q
  obtain ⟨e, he, q⟩ := List.mem_map.mp q
  exact h e he (by simp [q])
theorem idx_app {L : List Int} {x : Int} (h : x ∉ L) : (L ++ [x]).idxOf x = L.length := by
  induction L with
  | nil => simp
  | cons y L ih =>
    rw [List.mem_cons, not_or] at h
    have : (y == x) = false := by rw [beq_eq_false_iff_ne]; exact fun q => h.1 q.symm
    rw [List.cons_append, List.idxOf_cons, this, List.length_cons, cond_false, ih h.2]
/-- setdefault tells the first text, and the table goes on as what was gathered does -/
theorem setD_sync (E : List Ent) (h : EntOK E) (t : Nat) (ht : t < 32) (o0 : Int) (x : Str) :
    (setD (keyOf o0 (t : Int)) x (qsOf E)).1 = qsOf (entStep E ((t : Int), o0, x)) ∧ (firstsOf (entStep E ((t : Int), o0, x)))[(seenOf (entStep E ((t : Int), o0, x))).idxOf (t : Int)]? = some (setD (keyOf o0 (t : Int)) x (qsOf E)).2 := by
  unfold setD
  rw [key_low o0 t ht, look_at ht E h]
  cases hf : E.find? (fun e => e.1 == (t : Int)) with
  | some e =>
    obtain ⟨h1, h2⟩ := find_idx (t : Int) E e hf
    unfold entStep
    simp only [h2, if_true, Option.map_some]
    exact ⟨trivial, h1⟩
  | none =>
    have h2 := find_no (t : Int) E hf
    unfold entStep
    simp only [h2, Bool.false_eq_true, if_false, Option.map_none]
    refine ⟨by unfold qsOf; simp, ?_⟩
    have hn : (t : Int) ∉ seenOf E := fun m => by
      rw [← List.contains_iff_mem, h2] at m; cases m
    have e1 : seenOf (E ++ [((t : Int), o0, x)]) = seenOf E ++ [(t : Int)] := by unfold seenOf; simp
    have e2 : firstsOf (E ++ [((t : Int), o0, x)]) = firstsOf E ++ [x] := by unfold firstsOf; simp
    rw [e1, e2, idx_app hn]
    have e3 : (seenOf E).length = (firstsOf E).length := by unfold seenOf firstsOf; simp
    simp [e3]
end Mine
namespace Mine
open PySem PySem.Spec PySem.Calls PyProof.Rows PySem.W
-- law: the loop over the orders
noncomputable def cmpL : Expr → Expr
  | .Compare l _ _ _ => l
  | e => e
noncomputable def cmpR : Expr → Expr
  | .Compare _ _ (r :: _) _ => r
  | e => e
noncomputable def textOf (o : List Int) : Str := Txt.join "" (o.map fun t => (toString t : Str))
/-- what is known of an order and the roads -/
structure OrdOK (rs : List (Int × Int)) (o : List Int) : Prop where
  lay : PyData.layable0 (.list (o.map .int)) = true
  mem : ∀ r ∈ rs, r.1 ∈ o ∧ r.2 ∈ o
  hd : o[0]? = some (o.headD 0)
  small : ∀ x ∈ o, 0 ≤ x ∧ x < 10
  len : o.length ≤ 10
  rng : ∃ t : Nat, turnedOf o rs = (t : Int) ∧ t < 32
  prt : Printable (textOf o)
  tl : (textOf o).length ≤ 1000
  js : ((o.map fun t => (toString t : Str)).map (·.length)).sum ≤ 1000
noncomputable def entOf (rs : List (Int × Int)) (o : List Int) : Ent := (turnedOf o rs, o.headD 0, textOf o)
noncomputable def store (E : List Ent) : Store := [pairsS (qsOf E), intsV (seenOf E), strsV (firstsOf E)]
noncomputable def stRun (d : Hd) (sa : Addr) (sc : List Int) (order turned text : Option Val) : Lw := { st2 d sa sc with order := order, turned := turned, text := text }
section
variable {B : Wd} {a : Ad} {d : Hd} {q : La} {fl ci Pi cd Pd T T₀ sd ks : Addr} {n : Nat}
theorem strsV_noref : ∀ (xs : List Str), noRefs (strsV xs) = true
  | [] => rfl
  | x :: xs => by
    show (noRef (.str x) && noRefs (strsV xs)) = true
    rw [strsV_noref xs]; rfl
theorem law_2 (F : FLaw B a d q fl ci Pi cd Pd T T₀ sd ks) {sa : Addr} (sc : List Int) :
    Pre B.up N lawScope (st1 sa sc).l [] (lawBody.drop 6) (lawBody.drop 9) (st2 d sa sc).l (store []) := by
  refine Pre.cons (Ex.assignE 7 rfl (.inl rfl) (EvE.callC (Ev.gval 27 rfl F.g_hdr) F.ini.keepC ((hdr_new (n := 0) (σ := []) F.ini).le (n := N) (by decide)).up)) ?_
  refine Pre.cons (Ex.assignN 8 rfl (.inl rfl) (EvN.display .nil)) ?_
  refine Pre.cons (Ex.assignN 9 rfl (.inl rfl) (EvN.display .nil)) ?_
  exact Pre.nil
theorem turn_a (F : FLaw B a d q fl ci Pi cd Pd T T₀ sd ks) {sa : Addr} (sc : List Int) (E : List Ent) (o : List Int) (ok : OrdOK (roadsOf (wishesOf sc)) o) (hrs : (roadsOf (wishesOf sc)).length ≤ 60) :
    Ex B.up N lawScope (stRun d sa sc (some (.list (intsV o))) none none).l (store E) (nth (levInner (nth lawBody 9)) 0) .next (stRun d sa sc (some (.list (intsV o))) (some (.int (turnedOf o (roadsOf (wishesOf sc))))) none).l (store E) := by
  have h : Fn B N q.turned [.list (intsV o), .list (pairsI (roadsOf (wishesOf sc)))] (.int (turnedOf o (roadsOf (wishesOf sc)))) := (turn_fn (n := 0) F.turned o _ ok.lay ok.mem hrs).le (by decide)
  exact Ex.assign 11 rfl (.inl rfl) (Ev.callD (Ev.gval 29 rfl F.g_turned) F.turned.fturn.isFn (.cons (Ev.local 10 rfl rfl) (.cons (Ev.cell 3 rfl rfl) .nil)) (OpS.up (h _)))
theorem turn_b (F : FLaw B a d q fl ci Pi cd Pd T T₀ sd ks) {sa : Addr} (sc : List Int) (E : List Ent) (o : List Int) (t : Int) (hs : ∀ x ∈ o, 0 ≤ x ∧ x < 10) (hl : o.length ≤ 10) (hj : ((o.map fun t => (toString t : Str)).map (·.length)).sum ≤ 1000) :
    Ex B.up N lawScope (stRun d sa sc (some (.list (intsV o))) (some (.int t)) none).l (store E) (nth (levInner (nth lawBody 9)) 1) .next (stRun d sa sc (some (.list (intsV o))) (some (.int t)) (some (.str (textOf o)))).l (store E) := by
  have sl := sizeLine_eq
  have comp : EvN B.up N lawScope (stRun d sa sc (some (.list (intsV o))) (some (.int t)) none).l (store E) (callArg 0 (asgV (nth (levInner (nth lawBody 9)) 1))) (strsV (o.map fun t => (toString t : Str))) := by
    have e : strsV (o.map fun t => (toString t : Str)) = o.map fun t => Val.str (toString t : Str) := by unfold strsV; rw [List.map_map]; rfl
    rw [e]
    refine EvN.comp (vc := [none, none, none]) (Itr.list (Ev.local 10 rfl rfl) (by rw [il]; omega)) ⟨rfl, by decide, by decide⟩ (Sees.by [] [false, false, false] rfl rfl trivial) (Cp.map (α := Int) .int (fun t => .str (toString t : Str)) 1 rfl o _ fun x hx => ?_)
    have hx' := hs x hx
    exact Ev.callT (Ev.builtin 2 rfl F.b_str boot_str (by decide)) (.cons (Ev.local 1 rfl rfl) .nil) (OpS.strInt (by
      obtain ⟨y, rfl⟩ := Int.eq_ofNat_of_zero_le hx'.1
      rw [Int.natAbs_natCast]
      have := Nat.log2_self_le (n := y)
      by_cases h0 : y = 0
      · subst h0; decide
      · have h1 := this h0
        have h2 : y.log2 < 2 ^ y.log2 := Nat.lt_two_pow_self
        omega))
  have jn := OpS.join (B := B.up) (n := N) (σ := store E) (x := "") (ys := o.map fun t => (toString t : Str)) .fr (by rw [show ("" : Str).length = 0 from rfl]; omega)
  rw [show Txt.join "" (o.map fun t => (toString t : Str)) = textOf o from rfl] at jn
  generalize textOf o = X at *
  exact Ex.assign 12 rfl (.inl rfl) (Ev.meth Ev.cstr (.cons (EvN.ev comp) .nil) TyB.str PySem.F.plainAttrs_str PySem.F.slot_str_join PySem.F.type_str_join jn)
noncomputable def store' (E E' : List Ent) : Store := [pairsS (qsOf E), intsV (seenOf E'), strsV (firstsOf E')]
theorem turn_c (F : FLaw B a d q fl ci Pi cd Pd T T₀ sd ks) {sa : Addr} (sc : List Int) (E : List Ent) (hE : E.length ≤ 1000) (o : Option Val) (e : Ent) :
    Ex B.up N lawScope (stRun d sa sc o (some (.int e.1)) (some (.str e.2.2))).l (store E) (nth (levInner (nth lawBody 9)) 2) .next (stRun d sa sc o (some (.int e.1)) (some (.str e.2.2))).l (store' E (entStep E e)) := by
  have l1 : (seenOf E).length = E.length := by unfold seenOf; simp
  have l2 : (firstsOf E).length = E.length := by unfold firstsOf; simp
  have sll : ∀ xs : List Str, (strsV xs).length = xs.length := fun xs => by unfold strsV; simp
  unfold entStep
  cases hc : (seenOf E).contains e.1 with
  | true =>
    rw [if_pos rfl]
    exact Ex.ite (ys := []) ((Tr.cmp (Ev.local 11 rfl rfl) (Ev.local 8 rfl rfl) (Op2.notInInts (Lst.own rfl))).eq (d' := false) (by rw [hc]; rfl)) (fun q => by cases q) (fun _ => Exs.nil)
  | false =>
    rw [if_neg (by decide)]
    have m1 := OpM.append (B := B.up) (n := N) (σ := store E) (i := 1) (a := .int e.1) (xs := intsV (seenOf E)) rfl (by rw [il]; omega)
    have m2 := OpM.append (B := B.up) (n := N) (σ := (store E).set 1 (intsV (seenOf E) ++ [.int e.1])) (i := 2) (a := .str e.2.2) (xs := strsV (firstsOf E)) rfl (by rw [sll]; omega)
    have eq : ((store E).set 1 (intsV (seenOf E) ++ [.int e.1])).set 2 (strsV (firstsOf E) ++ [.str e.2.2]) = store' E (E ++ [e]) := by
      unfold store' store seenOf firstsOf intsV strsV; simp
    rw [eq] at m2
    exact Ex.ite (ys := []) ((Tr.cmp (Ev.local 11 rfl rfl) (Ev.local 8 rfl rfl) (Op2.notInInts (Lst.own rfl))).eq (d' := true) (by rw [hc]; rfl)) (fun _ => Exs.cons (Ex.meth (Ev.local 8 rfl rfl) (.cons (Ev.local 11 rfl rfl) .nil) PySem.F.slot_list_append PySem.F.type_list_append m1) (Exs.one (Ex.meth (Ev.local 9 rfl rfl) (.cons (Ev.local 12 rfl rfl) .nil) PySem.F.slot_list_append PySem.F.type_list_append m2))) (fun q => by cases q)
theorem weight_ints : ∀ (ns : List Int), (∀ x ∈ ns, 0 ≤ x ∧ x < 32) → PyData.weightAll (ns.map PyData.int) ≤ 6 * ns.length
  | [], _ => by simp [PyData.weightAll]
  | x :: ns, h => by
    have ih := weight_ints ns fun z hz => h z (List.mem_cons_of_mem _ hz)
    obtain ⟨h0, h1⟩ := h x (by simp)
    rw [List.map_cons]
    unfold PyData.weightAll PyData.weight
    have : (if (x == 0) = true then 0 else x.natAbs.log2 + 1) ≤ 5 := by
      obtain ⟨y, rfl⟩ := Int.eq_ofNat_of_zero_le h0
      split
      · omega
      · rename_i hne
        have hy : y ≠ 0 := by rintro rfl; simp at hne
        rw [Int.natAbs_natCast]
        have : y.log2 < 5 := (Nat.log2_lt hy).mpr (by omega)
        omega
    rw [List.length_cons]
    omega
theorem lay_small (ns : List Int) (h : ∀ x ∈ ns, 0 ≤ x ∧ x < 32) (hl : ns.length ≤ 1000) : PyData.layable0 (.list (ns.map .int)) = true := by
  have h1 := ke_shaped_ints ns
  have h2 := weight_ints ns h
  unfold SeqAt.shaped at h1
  unfold PyData.layable0
  rw [h1, Bool.true_and, decide_eq_true_eq]
  show PyData.weight (.list (ns.map PyData.int)) ≤ _
  unfold PyData.weight
  omega
theorem ent_ok {E : List Ent} (h : EntOK E) {e : Ent} (he : ∃ t : Nat, e.1 = (t : Int) ∧ t < 32) : EntOK (entStep E e) := fun x hx => by
  unfold entStep at hx
  split at hx
  · exact h x hx
  · rcases List.mem_append.mp hx with m | m
    · exact h x m
    · rw [List.mem_singleton.mp m]; exact he
theorem ent_len (E : List Ent) (e : Ent) : (entStep E e).length ≤ E.length + 1 := by
  unfold entStep; split
  · omega
  · simp
theorem seen_mem (E : List Ent) (e : Ent) : e.1 ∈ seenOf (entStep E e) := by
  unfold entStep
  split
  · rename_i h; exact List.contains_iff_mem.mp h
  · unfold seenOf; simp
theorem turn_d (F : FLaw B a d q fl ci Pi cd Pd T T₀ sd ks) {sa : Addr} (sc : List Int) (E : List Ent) (hE : E.length ≤ 900) (hok : EntOK E) (o : List Int) (o0 : Int) (h0 : o[0]? = some o0) (t : Nat) (ht : t < 32) (x : Str) (hx : Printable x) (hxl : x.length ≤ 1000) :
    Ex B.up N lawScope (stRun d sa sc (some (.list (intsV o))) (some (.int (t : Int))) (some (.str x))).l (store' E (entStep E ((t : Int), o0, x))) (nth (levInner (nth lawBody 9)) 3) .next (stRun d sa sc (some (.list (intsV o))) (some (.int (t : Int))) (some (.str x))).l (store (entStep E ((t : Int), o0, x))) := by
  have sl := sizeLine_eq
  obtain ⟨p1, p2, p3, p4⟩ := key_prt o0 t ht
  obtain ⟨s1, s2⟩ := setD_sync E hok t ht o0 x
  have hok' := ent_ok hok (e := ((t : Int), o0, x)) ⟨t, rfl, ht⟩
  have hlen := ent_len E ((t : Int), o0, x)
  have hmem := seen_mem E ((t : Int), o0, x)
  have hq : ∀ z ∈ qsOf E, z.1.length ≤ 1000000 := fun z hz => by
    unfold qsOf at hz
    obtain ⟨e, he, rfl⟩ := List.mem_map.mp hz
    obtain ⟨u, hu, hu2⟩ := hok e he
    have := (key_prt e.2.1 u hu2).2.2.1
    rw [← hu] at this
    show (keyOf e.2.1 e.1).length ≤ _
    omega
  have hkey : Fn B N q.key [.list (intsV o), .int (t : Int)] (.str (keyOf o0 (t : Int))) := (key_fn (n := 0) F.key o o0 h0 (t : Int) (key_fits t ht)).le (by decide)
  generalize hE' : entStep E ((t : Int), o0, x) = E' at *
  have hr : ∀ xs ∈ store' E E', noRefs xs = true := fun xs hxs => by
    unfold store' at hxs
    simp only [List.mem_cons, List.not_mem_nil, or_false] at hxs
    rcases hxs with rfl | rfl | rfl
    · exact pairsS_noref _
    · exact intsV_noref _
    · exact strsV_noref _
  have hql : (qsOf E).length ≤ 100000 := by unfold qsOf; rw [List.length_map]; omega
  have op := ((setd_op (n := 0) F.tab (j := 0) (σ := store' E E') (qs := qsOf E) rfl hr (keyOf o0 (t : Int)) x p1 p2 hx (by omega) (by omega) (by omega) hq hql).le (n := N) (by decide)).up
  rw [s1] at op
  generalize (setD (keyOf o0 (t : Int)) x (qsOf E)).2 = y at *
  generalize keyOf o0 (t : Int) = nm at *
  have hst : (store' E E').set 0 (pairsS (qsOf E')) = store E' := rfl
  rw [hst] at op
  have hlay : PyData.layable0 (.list ((seenOf E').map .int)) = true := lay_small _ (fun z hz => by
    unfold seenOf at hz
    obtain ⟨e, he, rfl⟩ := List.mem_map.mp hz
    obtain ⟨u, hu, hu2⟩ := hok' e he
    rw [hu]; omega) (by unfold seenOf; rw [List.length_map]; omega)
  have hget : (strsV (firstsOf E'))[(seenOf E').idxOf (t : Int)]? = some (.str y) := by
    unfold strsV; rw [List.getElem?_map, s2]; rfl
  have hidx : (seenOf E').idxOf (t : Int) ≤ sizeLine := by
    have h1 : (seenOf E').idxOf (t : Int) ≤ (seenOf E').length := List.idxOf_le_length
    have h2 : (seenOf E').length = E'.length := by unfold seenOf; simp
    omega
  have ev : EvE B.up N lawScope (stRun d sa sc (some (.list (intsV o))) (some (.int (t : Int))) (some (.str x))).l (store' E E') (cmpL (testOf (nth (levInner (nth lawBody 9)) 3))) (.str y) (store E') :=
    EvE.methH F.tab.cls F.tab.setd (Ev.local 7 rfl rfl) (.cons (Ev.callD (Ev.gval 30 rfl F.g_key) F.key.fkey.isFn (.cons (Ev.local 10 rfl rfl) (.cons (Ev.local 11 rfl rfl) .nil)) (OpS.up (hkey _))) (.cons (Ev.local 12 rfl rfl) .nil)) op
  have rh : Ev B.up N lawScope (stRun d sa sc (some (.list (intsV o))) (some (.int (t : Int))) (some (.str x))).l (store E') (cmpR (testOf (nth (levInner (nth lawBody 9)) 3))) (.str y) :=
    Ev.sub (Ev.local 9 rfl rfl) (Ev.meth (Ev.local 8 rfl rfl) (.cons (Ev.local 11 rfl rfl) .nil) (TyB.lst (Lst.own (xs := intsV (seenOf E')) rfl)) PySem.F.plainAttrs_list PySem.F.slot_list_index PySem.F.type_list_index (OpS.indexI (Lst.own rfl) hmem hlay)) (Itm.list _ (Lst.own rfl) hget rfl hidx)
  have tst : TrE B.up N lawScope (stRun d sa sc (some (.list (intsV o))) (some (.int (t : Int))) (some (.str x))).l (store' E E') (testOf (nth (levInner (nth lawBody 9)) 3)) false (store E') :=
    TrE.eq (TrE.cmp ev rh Op2.sne) (by simp)
  exact Ex.iteE (ys := []) tst (fun q => by cases q) (fun _ => Exs.nil)
end
end Mine
namespace Mine
open PySem PySem.Spec PySem.Calls PyProof.Rows PySem.W
section
variable {B : Wd} {a : Ad} {d : Hd} {q : La} {fl ci Pi cd Pd T T₀ sd ks : Addr} {n : Nat}
noncomputable def gather (rs : List (Int × Int)) (os : List (List Int)) : List Ent := os.foldl (fun E o => entStep E (entOf rs o)) []
theorem law_turn (F : FLaw B a d q fl ci Pi cd Pd T T₀ sd ks) {sa : Addr} (sc : List Int) (E : List Ent) (hE : E.length ≤ 900) (hok : EntOK E) (o : List Int) (ok : OrdOK (roadsOf (wishesOf sc)) o) (hrs : (roadsOf (wishesOf sc)).length ≤ 60) :
    Exs B.up N lawScope (stRun d sa sc (some (.list (intsV o))) none none).l (store E) (levInner (nth lawBody 9)) .next (st2 d sa sc).l (store (entStep E (entOf (roadsOf (wishesOf sc)) o))) := by
  obtain ⟨t, ht, ht2⟩ := ok.rng
  have ha := turn_a F (sa := sa) sc E o ok hrs
  have hb := turn_b F (sa := sa) sc E o (turnedOf o (roadsOf (wishesOf sc))) ok.small ok.len ok.js
  have hc := turn_c F (sa := sa) sc E (by omega) (some (.list (intsV o))) (entOf (roadsOf (wishesOf sc)) o)
  have hd := turn_d F (sa := sa) sc E hE hok o (o.headD 0) ok.hd t ht2 (textOf o) ok.prt ok.tl
  unfold entOf at hc ⊢
  rw [ht] at ha hb hc ⊢
  refine Exs.weak (Exs.cons ha (Exs.cons hb (Exs.cons hc (Exs.one hd)))) ?_
  unfold stRun Lw.l
  repeat (first | exact Weak.refl _ | apply Weak.keep | apply Weak.forget)
theorem law_3 (F : FLaw B a d q fl ci Pi cd Pd T T₀ sd ks) {sa : Addr} (sc : List Int) (hw : (wishesOf sc).length ≤ 3) (hall : ∀ o ∈ ordersOf (((wishesOf sc).length : Int) + 1), OrdOK (roadsOf (wishesOf sc)) o) (hol : (ordersOf (((wishesOf sc).length : Int) + 1)).length ≤ 800) (hrs : (roadsOf (wishesOf sc)).length ≤ 60) :
    Ex B.up N lawScope (st2 d sa sc).l (store []) (nth lawBody 9) .next (st2 d sa sc).l (store (gather (roadsOf (wishesOf sc)) (ordersOf (((wishesOf sc).length : Int) + 1)))) := by
  have sl := sizeLine_eq
  have e1 : (((wishesOf sc).length : Int) + 1) = (((wishesOf sc).length + 1 : Nat) : Int) := by omega
  have ho : Fn B N q.orders [.int (((wishesOf sc).length : Int) + 1)] (.list (listsV (ordersOf (((wishesOf sc).length : Int) + 1)))) := by
    rw [e1]
    exact (ord_fn (n := 0) F.orders ((wishesOf sc).length + 1) (by omega)).le (by decide)
  generalize hos : ordersOf (((wishesOf sc).length : Int) + 1) = os at *
  have hlp := Lp.fold (B := B.up) (n := N) (sc := lawScope) (tg := forTg (nth lawBody 9)) (body := levInner (nth lawBody 9)) (α := List Int) (S := List Ent) (fun o => .list (intsV o)) (fun _ => (st2 d sa sc).l) store (fun E o => entStep E (entOf (roadsOf (wishesOf sc)) o))
    (fun o _ => ((st2 d sa sc).l).set 10 (some (.list (intsV o)))) (fun o s => As.name 10 rfl (.inl rfl)) os (fun j E => EntOK E ∧ E.length ≤ j ∧ j ≤ 800) (fun j o E hd hs => by
      have hj := (List.getElem?_eq_some_iff.mp hd).1
      have ok := hall o (List.mem_of_getElem? hd)
      refine ⟨ent_ok hs.1 ok.rng, ?_, by omega⟩
      have := ent_len E (entOf (roadsOf (wishesOf sc)) o)
      omega) (fun j o E hd hs => by
      have ok := hall o (List.mem_of_getElem? hd)
      exact law_turn F sc E (by omega) hs.1 o ok hrs) [] ⟨fun _ h => (nomatch h), Nat.le_refl _, by omega⟩
  exact Ex.forL (f := .next) (Itr.list (Ev.callD (Ev.gval 28 rfl F.g_orders) F.orders.ford.isFn (.cons (Ev.local 2 rfl rfl) .nil) (OpS.up (ho _))) (by unfold listsV; rw [List.length_map]; omega)) hlp (fun _ => Exs.nil) (fun q => by cases q) (fun v q => by cases q)
end
end Mine
namespace Mine
open PySem PySem.Spec PySem.Calls PyProof.Rows PySem.W PySem.Builtin.Str
-- words of letters
noncomputable def upL (k : Nat) : Nat := [73, 76, 65, 75, 84].getD k 0
noncomputable def loL (k : Nat) : Nat := [105, 108, 97, 107, 116].getD k 0
noncomputable def wordN (m : Nat) (b : Nat → Bool) : List Nat := (List.range m).map fun k => if b k then upL k else loL k
theorem join_fold : ∀ (cs : List Nat) (acc : Array Nat), (cs.map fun c => (⟨#[c]⟩ : Str)).foldl (fun acc p => acc ++ (Str.ofString "").cps ++ p.cps) acc = acc ++ cs.toArray
  | [], acc => by simp
  | c :: cs, acc => by
    rw [List.map_cons, List.foldl_cons, join_fold cs]
    have : (Str.ofString "").cps = #[] := rfl
    rw [this]; simp
theorem join_chars (cs : List Nat) : Txt.join "" (cs.map fun c => (⟨#[c]⟩ : Str)) = S cs := by
  cases cs with
  | nil => rfl
  | cons c cs =>
    show (⟨(((c :: cs).map fun c => (⟨#[c]⟩ : Str)).drop 1).foldl (fun acc p => acc ++ (Str.ofString "").cps ++ p.cps) ((((c :: cs).map fun c => (⟨#[c]⟩ : Str))).headD Str.empty).cps⟩ : Str) = S (c :: cs)
    rw [List.map_cons, List.drop_one, List.tail_cons, List.headD_cons, join_fold]
    unfold S; simp
theorem letters_slice : ∀ m : Nat, m ≤ 5 → Txt.slice "ILAKT" none (some (m : Int)) = S ([73, 76, 65, 75, 84].take m) := fun m h => by
  match m, h with
  | 0, _ => rfl
  | 1, _ => rfl
  | 2, _ => rfl
  | 3, _ => rfl
  | 4, _ => rfl
  | 5, _ => rfl
theorem letter_low : ∀ k : Nat, k < 5 → Txt.lower ⟨#[upL k]⟩ = (⟨#[loL k]⟩ : Str) := fun k h => by
  match k, h with
  | 0, _ => kernel_rfl
  | 1, _ => kernel_rfl
  | 2, _ => kernel_rfl
  | 3, _ => kernel_rfl
  | 4, _ => kernel_rfl
theorem sign_in_all : (List.range 32).all (fun t => (List.range 5).all fun k => Txt.contains (S (upN t)) ⟨#[upL k]⟩ == t.testBit k) = true := by kernel_rfl
theorem sign_in (t k : Nat) (ht : t < 32) (hk : k < 5) : Txt.contains (S (upN t)) ⟨#[upL k]⟩ = t.testBit k := by
  have := List.all_eq_true.mp (List.all_eq_true.mp sign_in_all t (List.mem_range.mpr ht)) k (List.mem_range.mpr hk)
  simpa using this
noncomputable def iteT : Expr → Expr
  | .IfExp t _ _ _ => t
  | e => e
noncomputable def startB (T : Int) (rs : List (Int × Int)) (k : Nat) : Bool := Builtin.bitAnd ((T.fdiv 4).fdiv (2 ^ (rs.getD k (0, 0)).2.toNat)) 1 != 0
noncomputable def capsN (m : Nat) : List Nat := [73, 76, 65, 75, 84].take m
/-- the frame with the words -/
noncomputable def st3 (d : Hd) (sa : Addr) (sc : List Int) : Lw := { st2 d sa sc with letters := some (.str (S (capsN (roadsOf (wishesOf sc)).length))), start := some (.str (S (wordN (roadsOf (wishesOf sc)).length (startB (totalOf sc) (roadsOf (wishesOf sc)))))) }
noncomputable def st4 (d : Hd) (sa : Addr) (sc : List Int) : Lw := { st3 d sa sc with far := some (.ref 3) }
section
variable {B : Wd} {a : Ad} {d : Hd} {q : La} {fl ci Pi cd Pd T T₀ sd ks : Addr} {n : Nat}
theorem caps_at {m k : Nat} (hm : m ≤ 5) (hk : k < m) : (capsN m)[k]? = some (upL k) := by
  unfold capsN upL
  rw [List.getElem?_take, if_pos hk, List.getD_eq_getElem?_getD]
  match k, hk with
  | 0, _ => rfl
  | 1, _ => rfl
  | 2, _ => rfl
  | 3, _ => rfl
  | 4, _ => rfl
  | k + 5, h => omega
theorem rng_range (m : Nat) : rng 0 (m : Int) = (List.range m).map fun (i : Nat) => (i : Int) := by
  unfold rng; simp
theorem start_comp {sa : Addr} (sc : List Int) (F : FLaw B a d q fl ci Pi cd Pd T T₀ sd ks) (σ : Store) (rs : List (Int × Int)) (hrs : roadsOf (wishesOf sc) = rs) (hl : rs.length ≤ 5) (hpos : ∀ r ∈ rs, 0 ≤ r.2) (u : Option Val) :
    EvN B.up N lawScope ({ st2 d sa sc with letters := some (.str (S (capsN rs.length))), start := u } : Lw).l σ (callArg 0 (asgV (nth lawBody 11))) (strsV ((wordN rs.length (startB (totalOf sc) rs)).map fun c => ⟨#[c]⟩)) := by
  have sl := sizeLine_eq
  have pl : (pairsI rs).length = rs.length := by unfold pairsI; simp
  have e : strsV ((wordN rs.length (startB (totalOf sc) rs)).map fun c => ⟨#[c]⟩) = (List.range rs.length).map fun k => Val.str ⟨#[if startB (totalOf sc) rs k then upL k else loL k]⟩ := by
    unfold strsV wordN; rw [List.map_map, List.map_map]; rfl
  rw [e]
  have it : Itr true B.up N lawScope ({ st2 d sa sc with letters := some (.str (S (capsN rs.length))), start := u } : Lw).l σ (compIt (callArg 0 (asgV (nth lawBody 11)))) ((List.range rs.length).map fun (i : Nat) => Val.int (i : Int)) := by
    have e2 : ((List.range rs.length).map fun (i : Nat) => Val.int (i : Int)) = intsV (rng 0 (rs.length : Int)) := by rw [rng_range]; unfold intsV; rw [List.map_map]; rfl
    rw [e2]
    refine Itr.range1 (Ev.builtin 31 rfl F.b_range boot_range (by decide)) (Ev.eq (Ev.callB (Ev.builtin 24 rfl F.b_len boot_len (by decide)) (.cons (Ev.cell (v := .list (pairsI rs)) 3 rfl (by rw [← hrs]; rfl)) .nil) (OpS.lenL .fr (by rw [pl]; omega))) (by rw [pl])) (by omega) (by rw [rng_len]; omega)
  refine EvN.comp (vc := [none, none, some (.str (S (capsN rs.length))), some (.list (pairsI rs)), some (.int (totalOf sc))]) it ⟨rfl, by decide, by decide⟩ (Sees.by [(2, 13), (3, 3), (4, 4)] [false, false, true, true, true] rfl rfl ⟨rfl, by rw [← hrs]; rfl, rfl, trivial⟩)
    (Cp.map (α := Nat) (fun (i : Nat) => .int (i : Int)) (fun k => .str ⟨#[if startB (totalOf sc) rs k then upL k else loL k]⟩) 1 rfl (List.range rs.length) _ fun k hk => ?_)
  have hk := List.mem_range.mp hk
  have hget : (pairsI rs)[k]? = some (pairV (rs.getD k (0, 0))) := by
    unfold pairsI
    rw [List.getElem?_map, List.getElem?_eq_getElem hk, List.getD_eq_getElem?_getD, List.getElem?_eq_getElem hk]; rfl
  have hmem : rs.getD k (0, 0) ∈ rs := by
    rw [List.getD_eq_getElem?_getD, List.getElem?_eq_getElem hk]; exact List.getElem_mem hk
  have hp := hpos _ hmem
  have ha := S_at (caps_at hl hk)
  have tst : Tr B.up N (relS (cScope (callArg 0 (asgV (nth lawBody 11)))) lawScope) [none, some (.int (k : Int)), some (.str (S (capsN rs.length))), some (.list (pairsI rs)), some (.int (totalOf sc))] σ (iteT (cElt (callArg 0 (asgV (nth lawBody 11))))) (startB (totalOf sc) rs k) :=
    Tr.of (Ev.bin (Ev.bin (Ev.bin (Ev.var 4 (.inr rfl) rfl) Ev.cint (Op2.fdiv (by decide) (PyProof.noPylong_small (by decide)))) (Ev.sub (Ev.sub (Ev.var 3 (.inr rfl) rfl) (Ev.local 1 rfl rfl) (Itm.list k .fr hget rfl (by omega))) Ev.cint (Itm.tup 1 rfl rfl (by omega))) (Op2.shr hp)) Ev.cint Op2.band) Tv.int
  show Ev B.up N _ [none, some (.int (k : Int)), some (.str (S (capsN rs.length))), some (.list (pairsI rs)), some (.int (totalOf sc))] σ (cElt (callArg 0 (asgV (nth lawBody 11)))) _
  cases hb : startB (totalOf sc) rs k with
  | true =>
    rw [hb] at tst
    rw [if_pos rfl]
    exact Ev.ite tst (fun _ => Ev.sub (Ev.var 2 (.inr rfl) rfl) (Ev.local 1 rfl rfl) (Itm.str ha (by omega))) (fun q => by cases q)
  | false =>
    rw [hb] at tst
    rw [if_neg (by decide)]
    refine Ev.ite tst (fun q => by cases q) (fun _ => Ev.eq (Ev.meth (Ev.sub (Ev.var 2 (.inr rfl) rfl) (Ev.local 1 rfl rfl) (Itm.str ha (by omega))) .nil TyB.str PySem.F.plainAttrs_str PySem.F.slot_str_lower PySem.F.type_str_lower (OpS.lower ?_)) (by rw [letter_low k (by omega)]))
    show 1 ≤ 1000000
    omega
end
end Mine
namespace Mine
open PySem PySem.Spec PySem.Calls PyProof.Rows PySem.W PySem.Builtin.Str
section
variable {B : Wd} {a : Ad} {d : Hd} {q : La} {fl ci Pi cd Pd T T₀ sd ks : Addr} {n : Nat}
theorem word_len (m : Nat) (b : Nat → Bool) : (wordN m b).length = m := by unfold wordN; simp
set_option maxHeartbeats 2000000 in
theorem law_4 (F : FLaw B a d q fl ci Pi cd Pd T T₀ sd ks) {sa : Addr} (sc : List Int) (E : List Ent) (hl : (roadsOf (wishesOf sc)).length ≤ 5) (hpos : ∀ r ∈ roadsOf (wishesOf sc), 0 ≤ r.2) :
    Pre B.up N lawScope (st2 d sa sc).l (store E) (lawBody.drop 10) (lawBody.drop 13) (st4 d sa sc).l (store E ++ [intsV []]) := by
  have sl := sizeLine_eq
  have pl : (pairsI (roadsOf (wishesOf sc))).length = (roadsOf (wishesOf sc)).length := by unfold pairsI; simp
  have c1 := start_comp (sa := sa) sc F (store E) (roadsOf (wishesOf sc)) rfl hl hpos none
  have jn := OpS.join (B := B.up) (n := N) (σ := store E) (x := "") (ys := (wordN (roadsOf (wishesOf sc)).length (startB (totalOf sc) (roadsOf (wishesOf sc)))).map fun c => ⟨#[c]⟩) .fr (by
    have : ∀ L : List Nat, ((L.map fun c => (⟨#[c]⟩ : Str)).map (·.length)).sum = L.length := fun L => by
      induction L with
      | nil => rfl
      | cons c L ih => rw [List.map_cons, List.map_cons, List.sum_cons, ih, List.length_cons]; show 1 + _ = _; omega
    rw [this, List.length_map, word_len, show ("" : Str).length = 0 from rfl]; omega)
  rw [join_chars] at jn
  have s0 : Ex B.up N lawScope (st2 d sa sc).l (store E) (nth lawBody 10) .next ({ st2 d sa sc with letters := some (.str (S (capsN (roadsOf (wishesOf sc)).length))) } : Lw).l (store E) :=
    Ex.assign 13 rfl (.inr rfl) (Ev.eq (EvN.slices Ev.cstr .none (.int (Ev.eq (Ev.callB (Ev.builtin 24 rfl F.b_len boot_len (by decide)) (.cons (Ev.cell 3 rfl rfl) .nil) (OpS.lenL .fr (by rw [pl]; omega))) (by rw [pl]))) (by decide)) (by rw [letters_slice _ hl]; rfl))
  have s1 : Ex B.up N lawScope ({ st2 d sa sc with letters := some (.str (S (capsN (roadsOf (wishesOf sc)).length))) } : Lw).l (store E) (nth lawBody 11) .next (st3 d sa sc).l (store E) :=
    Ex.assign 14 rfl (.inl rfl) (Ev.meth Ev.cstr (.cons (EvN.ev c1) .nil) TyB.str PySem.F.plainAttrs_str PySem.F.slot_str_join PySem.F.type_str_join jn)
  refine Pre.cons s0 (Pre.cons s1 (Pre.cons (Ex.assignN 15 rfl (.inr rfl) (EvN.display .nil)) Pre.nil))
/-- how far a turning's word lies -/
noncomputable def farOf (m : Nat) (b : Nat → Bool) (e : Ent) : Int := lev (wordN m b) (wordN m fun k => e.1.toNat.testBit k) (m : Int)
noncomputable def st5 (d : Hd) (sa : Addr) (sc : List Int) (name spelled : Option Val) : Lw := { st4 d sa sc with name := name, spelled := spelled }
theorem chars_caps {m : Nat} (hm : m ≤ 5) : chars (S (capsN m)) = (List.range m).map fun k => Val.str ⟨#[upL k]⟩ := by
  match m, hm with
  | 0, _ => rfl
  | 1, _ => rfl
  | 2, _ => rfl
  | 3, _ => rfl
  | 4, _ => rfl
  | 5, _ => rfl
theorem name_comp (F : FLaw B a d q fl ci Pi cd Pd T T₀ sd ks) {sa : Addr} (sc : List Int) (σ : Store) (m : Nat) (hm : (roadsOf (wishesOf sc)).length = m) (hl : m ≤ 5) (o0 : Int) (t : Nat) (ht : t < 32) :
    EvN B.up N lawScope (st5 d sa sc (some (.str (keyOf o0 (t : Int)))) none).l σ (callArg 0 (asgV (nth (levInner (nth lawBody 13)) 0))) (strsV ((wordN m fun k => t.testBit k).map fun c => ⟨#[c]⟩)) := by
  have sl := sizeLine_eq
  have e : strsV ((wordN m fun k => t.testBit k).map fun c => ⟨#[c]⟩) = (List.range m).map fun k => Val.str ⟨#[if t.testBit k then upL k else loL k]⟩ := by
    unfold strsV wordN; rw [List.map_map, List.map_map]; rfl
  rw [e]
  have it : Itr true B.up N lawScope (st5 d sa sc (some (.str (keyOf o0 (t : Int)))) none).l σ (compIt (callArg 0 (asgV (nth (levInner (nth lawBody 13)) 0)))) ((List.range m).map fun k => Val.str ⟨#[upL k]⟩) := by
    rw [← chars_caps hl]
    refine Itr.str (Ev.cell (v := .str (S (capsN m))) 13 rfl (by rw [← hm]; rfl)) ?_
    rw [S_len]; unfold capsN; rw [List.length_take]; omega
  have up := key_up o0 t ht
  have kl := (key_prt o0 t ht).2.2.1
  generalize keyOf o0 (t : Int) = nm at *
  refine EvN.comp (vc := [none, none, some (.str nm)]) it ⟨rfl, by decide, by decide⟩ (Sees.by [(2, 16)] [false, false, true] rfl rfl ⟨rfl, trivial⟩)
    (Cp.map (α := Nat) (fun k => .str ⟨#[upL k]⟩) (fun k => .str ⟨#[if t.testBit k then upL k else loL k]⟩) 1 rfl (List.range m) _ fun k hk => ?_)
  have hk := List.mem_range.mp hk
  have si := sign_in t k ht (by omega)
  have tst : Tr B.up N (relS (cScope (callArg 0 (asgV (nth (levInner (nth lawBody 13)) 0)))) lawScope) [none, some (.str ⟨#[upL k]⟩), some (.str nm)] σ (iteT (cElt (callArg 0 (asgV (nth (levInner (nth lawBody 13)) 0))))) (t.testBit k) :=
    (Tr.cmp (Ev.local 1 rfl rfl) (Ev.meth (Ev.var 2 (.inr rfl) rfl) .nil TyB.str PySem.F.plainAttrs_str PySem.F.slot_str_upper PySem.F.type_str_upper (OpS.upper (by omega))) Op2.inStr).eq (by rw [up]; exact si)
  show Ev B.up N _ [none, some (.str ⟨#[upL k]⟩), some (.str nm)] σ (cElt (callArg 0 (asgV (nth (levInner (nth lawBody 13)) 0)))) _
  cases hb : t.testBit k with
  | true =>
    rw [hb] at tst
    rw [if_pos rfl]
    exact Ev.ite tst (fun _ => (Ev.local 1 rfl rfl)) (fun q => by cases q)
  | false =>
    rw [hb] at tst
    rw [if_neg (by decide)]
    refine Ev.ite tst (fun q => by cases q) (fun _ => Ev.eq (Ev.meth (Ev.local 1 rfl rfl) .nil TyB.str PySem.F.plainAttrs_str PySem.F.slot_str_lower PySem.F.type_str_lower (OpS.lower ?_)) (by rw [letter_low k (by omega)]))
    show 1 ≤ 1000000
    omega
set_option maxHeartbeats 2000000 in
theorem name_turn (F : FLaw B a d q fl ci Pi cd Pd T T₀ sd ks) {sa : Addr} (sc : List Int) (E : List Ent) (m : Nat) (hm : (roadsOf (wishesOf sc)).length = m) (hl : m ≤ 5) (e : Ent) (he : ∃ t : Nat, e.1 = (t : Int) ∧ t < 32) (far : List Int) (hf : far.length ≤ 1000) :
    Exs B.up N lawScope (st5 d sa sc (some (.str (keyOf e.2.1 e.1))) none).l (store E ++ [intsV far]) (levInner (nth lawBody 13)) .next (st4 d sa sc).l (store E ++ [intsV (far ++ [farOf m (startB (totalOf sc) (roadsOf (wishesOf sc))) e])]) := by
  have sl := sizeLine_eq
  obtain ⟨t, ht, ht2⟩ := he
  obtain ⟨e1, e2, e3⟩ := e
  simp only at ht
  subst ht
  have c1 := name_comp F (sa := sa) sc (store E ++ [intsV far]) m hm hl e2 t ht2
  have jn := OpS.join (B := B.up) (n := N) (σ := store E ++ [intsV far]) (x := "") (ys := (wordN m fun k => t.testBit k).map fun c => ⟨#[c]⟩) .fr (by
    have : ∀ L : List Nat, ((L.map fun c => (⟨#[c]⟩ : Str)).map (·.length)).sum = L.length := fun L => by
      induction L with
      | nil => rfl
      | cons c L ih => rw [List.map_cons, List.map_cons, List.sum_cons, ih, List.length_cons]; show 1 + _ = _; omega
    rw [this, List.length_map, word_len, show ("" : Str).length = 0 from rfl]; omega)
  rw [join_chars] at jn
  have pl : (pairsI (roadsOf (wishesOf sc))).length = m := by unfold pairsI; simp [hm]
  have hlev : FnP B N a.lev [.str (S (wordN m (startB (totalOf sc) (roadsOf (wishesOf sc))))), .str (S (wordN m fun k => t.testBit k)), .int (m : Int)] (.int (farOf m (startB (totalOf sc) (roadsOf (wishesOf sc))) ((t : Int), e2, e3))) := by
    have := (lev_fn (n := 0) F.lev (wordN m (startB (totalOf sc) (roadsOf (wishesOf sc)))) (wordN m fun k => t.testBit k) (m : Int) (by rw [word_len]; omega) (by rw [word_len, word_len]) (by omega)).le (n := N) (by decide)
    unfold farOf
    rw [Int.toNat_natCast]
    exact this
  have m1 := OpM.append (B := B.up) (n := N) (σ := store E ++ [intsV far]) (i := 3) (a := .int (farOf m (startB (totalOf sc) (roadsOf (wishesOf sc))) ((t : Int), e2, e3))) (xs := intsV far) rfl (by rw [il]; omega)
  have eq : (store E ++ [intsV far]).set 3 (intsV far ++ [.int (farOf m (startB (totalOf sc) (roadsOf (wishesOf sc))) ((t : Int), e2, e3))]) = store E ++ [intsV (far ++ [farOf m (startB (totalOf sc) (roadsOf (wishesOf sc))) ((t : Int), e2, e3)])] := by
    unfold store intsV; simp
  rw [eq] at m1
  generalize farOf m (startB (totalOf sc) (roadsOf (wishesOf sc))) ((t : Int), e2, e3) = dist at *
  have hst : (st5 d sa sc (some (.str (keyOf e2 (t : Int)))) (some (.str (S (wordN m fun k => t.testBit k))))).l[14]? = some (some (.str (S (wordN m (startB (totalOf sc) (roadsOf (wishesOf sc))))))) := by rw [← hm]; rfl
  have s0 : Ex B.up N lawScope (st5 d sa sc (some (.str (keyOf e2 (t : Int)))) none).l (store E ++ [intsV far]) (nth (levInner (nth lawBody 13)) 0) .next (st5 d sa sc (some (.str (keyOf e2 (t : Int)))) (some (.str (S (wordN m fun k => t.testBit k))))).l (store E ++ [intsV far]) :=
    Ex.assign 17 rfl (.inl rfl) (Ev.meth Ev.cstr (.cons (EvN.ev c1) .nil) TyB.str PySem.F.plainAttrs_str PySem.F.slot_str_join PySem.F.type_str_join jn)
  have s1 : Ex B.up N lawScope (st5 d sa sc (some (.str (keyOf e2 (t : Int)))) (some (.str (S (wordN m fun k => t.testBit k))))).l (store E ++ [intsV far]) (nth (levInner (nth lawBody 13)) 1) .next (st5 d sa sc (some (.str (keyOf e2 (t : Int)))) (some (.str (S (wordN m fun k => t.testBit k))))).l (store E ++ [intsV (far ++ [dist])]) :=
    Ex.meth (Ev.cell 15 rfl rfl) (.cons (Ev.callD (Ev.gval 32 rfl F.lev.lev) F.lev.flev.isFn (.cons (Ev.local 14 rfl hst) (.cons (Ev.local 17 rfl rfl) (.cons (Ev.eq (Ev.callB (Ev.builtin 24 rfl F.b_len boot_len (by decide)) (.cons (Ev.cell 3 rfl rfl) .nil) (OpS.lenL .fr (by rw [pl]; omega))) (by rw [pl])) .nil))) (OpS.up ((hlev.fn rfl) _))) .nil) PySem.F.slot_list_append PySem.F.type_list_append m1
  refine Exs.weak (Exs.cons s0 (Exs.one s1)) ?_
  unfold st5 Lw.l
  repeat (first | exact Weak.refl _ | apply Weak.keep | apply Weak.forget)
end
end Mine
namespace Mine
open PySem PySem.Spec PySem.Calls PyProof.Rows PySem.W PySem.Builtin.Str
section
variable {B : Wd} {a : Ad} {d : Hd} {q : La} {fl ci Pi cd Pd T T₀ sd ks : Addr} {n : Nat}
theorem foldl_snoc {α : Type} (f : α → Int) : ∀ (L : List α) (acc : List Int), L.foldl (fun far e => far ++ [f e]) acc = acc ++ L.map f
  | [], acc => by simp
  | x :: L, acc => by rw [List.foldl_cons, foldl_snoc f L]; simp
noncomputable def farsOf (sc : List Int) (E : List Ent) : List Int := E.map (farOf (roadsOf (wishesOf sc)).length (startB (totalOf sc) (roadsOf (wishesOf sc))))
theorem law_5 (F : FLaw B a d q fl ci Pi cd Pd T T₀ sd ks) {sa : Addr} (sc : List Int) (E : List Ent) (hE : E.length ≤ 900) (hok : EntOK E) (hl : (roadsOf (wishesOf sc)).length ≤ 5) :
    Ex B.up N lawScope (st4 d sa sc).l (store E ++ [intsV []]) (nth lawBody 13) .next (st4 d sa sc).l (store E ++ [intsV (farsOf sc E)]) := by
  have sl := sizeLine_eq
  have hlp := Lp.fold (B := B.up) (n := N) (sc := lawScope) (tg := forTg (nth lawBody 13)) (body := levInner (nth lawBody 13)) (α := Ent) (S := List Int) (fun e => .str (keyOf e.2.1 e.1)) (fun _ => (st4 d sa sc).l) (fun far => store E ++ [intsV far]) (fun far e => far ++ [farOf (roadsOf (wishesOf sc)).length (startB (totalOf sc) (roadsOf (wishesOf sc))) e])
    (fun e _ => ((st4 d sa sc).l).set 16 (some (.str (keyOf e.2.1 e.1)))) (fun e s => As.name 16 rfl (.inr rfl)) E (fun j far => far.length ≤ j ∧ j ≤ 900) (fun j e far hd hs => by
      have hj := (List.getElem?_eq_some_iff.mp hd).1
      refine ⟨?_, by omega⟩
      simp; omega) (fun j e far hd hs => name_turn F sc E _ rfl hl e (hok e (List.mem_of_getElem? hd)) far (by omega)) [] ⟨Nat.le_refl _, by omega⟩
  rw [foldl_snoc, List.nil_append] at hlp
  have hql : (qsOf E).length ≤ 100000 := by unfold qsOf; rw [List.length_map]; omega
  have op := (OpN.le (n := N) (keys_op (n := 0) F.tab (σ := store E ++ [intsV []]) (x := .hdr d.C (.ref 0)) (l := .ref 0) (qs := qsOf E) rfl (Lst.own rfl) hql) (by decide)).up
  have e1 : strsV ((qsOf E).map (·.1)) = E.map fun e => Val.str (keyOf e.2.1 e.1) := by unfold strsV qsOf; rw [List.map_map, List.map_map]; rfl
  rw [e1] at op
  exact Ex.forL (f := .next) (Itr.list (EvN.ev (EvN.methH F.tab.cls F.tab.keys (Ev.local 7 rfl rfl) .nil op)) (by rw [List.length_map]; omega)) hlp (fun _ => Exs.nil) (fun q => by cases q) (fun v q => by cases q)
noncomputable def tiesOf (rs : List (Int × Int)) (latest : Int) : Int := ((rs.filter fun r => r.2 == latest).length : Nat)
noncomputable def prodStep (rs : List (Int × Int)) (z : Int) (p : Int × Int) (latest : Int) : Int × Int := (p.1 * (z ^ (tiesOf rs latest + 1).toNat - 1), p.2 * (z - tiesOf rs latest))
noncomputable def st6 (d : Hd) (sa : Addr) (sc : List Int) (product colours latest ties : Option Val) : Lw := { st4 d sa sc with product := product, colours := colours, latest := latest, ties := ties }
noncomputable def towOf (sc : List Int) : Int := ((wishesOf sc).length : Int) + 1
theorem z_le (t : Int) : 32 ≤ zOf t ∧ zOf t ≤ 256 := by
  obtain ⟨w1, w2⟩ := width_le t
  unfold zOf
  generalize widthOf t = w at *
  obtain ⟨k, rfl⟩ := Int.eq_ofNat_of_zero_le (show 0 ≤ w by omega)
  rw [Int.toNat_natCast]
  have hk : k = 5 ∨ k = 6 ∨ k = 7 ∨ k = 8 := by omega
  rcases hk with rfl | rfl | rfl | rfl <;> decide
theorem ties_turn (F : FLaw B a d q fl ci Pi cd Pd T T₀ sd ks) {sa : Addr} (sc : List Int) (σ : Store) (rs : List (Int × Int)) (hrs : roadsOf (wishesOf sc) = rs) (hl : rs.length ≤ 5) (p : Int × Int) (latest : Int) :
    Exs B.up N lawScope (st6 d sa sc (some (.int p.1)) (some (.int p.2)) (some (.int latest)) none).l σ (levInner (nth lawBody 16)) .next (st6 d sa sc (some (.int (prodStep rs (zOf (totalOf sc)) p latest).1)) (some (.int (prodStep rs (zOf (totalOf sc)) p latest).2)) none none).l σ := by
  have sl := sizeLine_eq
  have ep : prodStep rs (zOf (totalOf sc)) p latest = (p.1 * (zOf (totalOf sc) ^ (tiesOf rs latest + 1).toNat - 1), p.2 * (zOf (totalOf sc) - tiesOf rs latest)) := rfl
  rw [ep]
  have hz := z_le (totalOf sc)
  have pl : (pairsI rs).length = rs.length := by unfold pairsI; simp
  have comp : EvN B.up N lawScope (st6 d sa sc (some (.int p.1)) (some (.int p.2)) (some (.int latest)) none).l σ (callArg 0 (asgV (nth (levInner (nth lawBody 16)) 0))) (pairsI (rs.filter fun r => r.2 == latest)) := by
    refine EvN.comp (vc := [none, none, some (.int latest)]) (xs := rs.map pairV) (Itr.list (Ev.cell (v := .list (pairsI rs)) 3 rfl (by rw [← hrs]; rfl)) (by rw [List.length_map]; omega)) ⟨rfl, by decide, by decide⟩ (Sees.by [(2, 20)] [false, false, true] rfl rfl ⟨rfl, trivial⟩)
      (Cp.filter (α := Int × Int) pairV pairV (fun r => r.2 == latest) 1 rfl rs _ (fun r _ => Tr.cmp (Ev.sub (Ev.local 1 rfl rfl) Ev.cint (Itm.tup 1 rfl rfl (by omega))) (Ev.var 2 (.inr rfl) rfl) Op2.eq) (fun r _ _ => (Ev.local 1 rfl rfl)))
  have tl : 0 ≤ tiesOf rs latest ∧ tiesOf rs latest ≤ 5 := by
    unfold tiesOf
    have := List.length_filter_le (fun r : Int × Int => r.2 == latest) rs
    omega
  have tlen : ((pairsI (rs.filter fun r => r.2 == latest)).length : Int) = tiesOf rs latest := by unfold pairsI tiesOf; rw [List.length_map]
  have tsz : (pairsI (rs.filter fun r => r.2 == latest)).length ≤ sizeLine := by
    unfold pairsI; rw [List.length_map]
    have := List.length_filter_le (fun r : Int × Int => r.2 == latest) rs
    omega
  have zb : Builtin.Int.intBits (zOf (totalOf sc)) ≤ 9 := by
    obtain ⟨k, hk⟩ := Int.eq_ofNat_of_zero_le (show 0 ≤ zOf (totalOf sc) by omega)
    rw [hk] at hz ⊢
    exact bits_le (by omega)
  have zp : -(2 ^ 62) ≤ zOf (totalOf sc) ^ (tiesOf rs latest + 1).toNat - 1 ∧ zOf (totalOf sc) ^ (tiesOf rs latest + 1).toNat - 1 ≤ 2 ^ 62 := by
    obtain ⟨k, hk⟩ := Int.eq_ofNat_of_zero_le (show 0 ≤ zOf (totalOf sc) by omega)
    rw [hk] at hz ⊢
    have h1 : k ^ (tiesOf rs latest + 1).toNat ≤ 256 ^ 6 := Nat.le_trans (Nat.pow_le_pow_left (by omega) _) (Nat.pow_le_pow_right (by decide) (by omega))
    have h2 : ((k : Int) ^ (tiesOf rs latest + 1).toNat) = ((k ^ (tiesOf rs latest + 1).toNat : Nat) : Int) := by simp
    rw [h2]
    have : (256 : Nat) ^ 6 = 281474976710656 := by decide
    omega
  generalize tiesOf rs latest = ti at *
  generalize hzz : zOf (totalOf sc) = z at *
  have hzi : (st6 d sa sc (some (.int p.1)) (some (.int p.2)) (some (.int latest)) (some (.int ti))).l[6]? = some (some (.int z)) := by rw [← hzz]; rfl
  have hzi2 : (st6 d sa sc (some (.int (p.1 * (z ^ (ti + 1).toNat - 1)))) (some (.int p.2)) (some (.int latest)) (some (.int ti))).l[6]? = some (some (.int z)) := by rw [← hzz]; rfl
  have s0 : Ex B.up N lawScope (st6 d sa sc (some (.int p.1)) (some (.int p.2)) (some (.int latest)) none).l σ (nth (levInner (nth lawBody 16)) 0) .next (st6 d sa sc (some (.int p.1)) (some (.int p.2)) (some (.int latest)) (some (.int ti))).l σ :=
    Ex.assign 21 rfl (.inl rfl) (Ev.eq (Ev.callB (Ev.builtin 24 rfl F.b_len boot_len (by decide)) (.cons (EvN.ev comp) .nil) (OpS.lenL .fr tsz)) (by rw [tlen]))
  have h3 : (Builtin.Int.intBits z : Int) * (ti + 1) ≤ 2 ^ 27 := by
    have : (Builtin.Int.intBits z : Int) * (ti + 1) ≤ 9 * 6 := Int.mul_le_mul (by omega) (by omega) (by omega) (by omega)
    omega
  have s1 : Ex B.up N lawScope (st6 d sa sc (some (.int p.1)) (some (.int p.2)) (some (.int latest)) (some (.int ti))).l σ (nth (levInner (nth lawBody 16)) 1) .next (st6 d sa sc (some (.int (p.1 * (z ^ (ti + 1).toNat - 1)))) (some (.int p.2)) (some (.int latest)) (some (.int ti))).l σ :=
    Ex.aug 18 rfl (.inl rfl) rfl (Ev.bin (Ev.bin (Ev.local 6 rfl hzi) (Ev.bin (Ev.local 21 rfl rfl) Ev.cint Op2.add) (Op2.pow (by omega) h3)) Ev.cint Op2.sub) (Op2.imul (IntMulOk.of_right (intBits_le_64 (by omega) (by omega))))
  have s2 : Ex B.up N lawScope (st6 d sa sc (some (.int (p.1 * (z ^ (ti + 1).toNat - 1)))) (some (.int p.2)) (some (.int latest)) (some (.int ti))).l σ (nth (levInner (nth lawBody 16)) 2) .next (st6 d sa sc (some (.int (p.1 * (z ^ (ti + 1).toNat - 1)))) (some (.int (p.2 * (z - ti)))) (some (.int latest)) (some (.int ti))).l σ :=
    Ex.aug 19 rfl (.inl rfl) rfl (Ev.bin (Ev.local 6 rfl hzi2) (Ev.local 21 rfl rfl) Op2.sub) (Op2.imul (IntMulOk.of_right (intBits_le_64 (by omega) (by omega))))
  refine Exs.weak (Exs.cons s0 (Exs.cons s1 (Exs.one s2))) ?_
  unfold st6 Lw.l
  repeat (first | exact Weak.refl _ | apply Weak.keep | apply Weak.forget)
end
end Mine
namespace Mine
open PySem PySem.Spec PySem.Calls PyProof.Rows PySem.W PySem.Builtin.Str
noncomputable def pcOf (sc : List Int) : Int × Int := (rng 0 (towOf sc)).foldl (prodStep (roadsOf (wishesOf sc)) (zOf (totalOf sc))) (1, (-1) ^ (towOf sc).toNat)
noncomputable def denOf (sc : List Int) : Int := (zOf (totalOf sc) - 1) ^ (towOf sc).toNat
noncomputable def quoOf (sc : List Int) : Int := (pcOf sc).1.fdiv (denOf sc)
noncomputable def remOf (sc : List Int) : Int := (pcOf sc).1.fmod (denOf sc)
noncomputable def cntsOf (sc : List Int) (E : List Ent) : List Int := (rng 0 (((roadsOf (wishesOf sc)).length : Int) + 1)).map fun s => (((farsOf sc E).count s : Nat) : Int)
/-- what the law's last lines ask -/
structure LawOK (sc : List Int) (E : List Ent) : Prop where
  den0 : denOf sc ≠ 0
  denb : Builtin.Int.intBits ((denOf sc).natAbs : Int) ≤ 1000
  prodb : Builtin.Int.intBits ((pcOf sc).1.natAbs : Int) ≤ Builtin.Int.intBits ((denOf sc).natAbs : Int) * 100
  quo : ∃ Q m : Nat, quoOf sc = (Q : Int) ∧ (Builtin.Int.intBits (Q : Int) + (widthOf (totalOf sc)).toNat - 1) / (widthOf (totalOf sc)).toNat = m ∧ m ≤ 100 ∧ dg (widthOf (totalOf sc)).toNat m Q = cntsOf sc E
  rem : remOf sc = 0
  colb : Builtin.Int.intBits ((pcOf sc).2.natAbs : Int) ≤ Builtin.Int.intBits ((zOf (totalOf sc) + 1).natAbs : Int) * 100
  col : (pcOf sc).2.fmod (zOf (totalOf sc) + 1) = ((farsOf sc E).length : Int)
section
variable {B : Wd} {a : Ad} {d : Hd} {q : La} {fl ci Pi cd Pd T T₀ sd ks : Addr} {n : Nat}
theorem tow_pos (sc : List Int) (hw : (wishesOf sc).length ≤ 3) : 1 ≤ towOf sc ∧ towOf sc ≤ 4 := by unfold towOf; omega
theorem law_6 (F : FLaw B a d q fl ci Pi cd Pd T T₀ sd ks) {sa : Addr} (sc : List Int) (σ : Store) (hw : (wishesOf sc).length ≤ 3) (hl : (roadsOf (wishesOf sc)).length ≤ 5) :
    Pre B.up N lawScope (st4 d sa sc).l σ (lawBody.drop 14) (lawBody.drop 17) (st6 d sa sc (some (.int (pcOf sc).1)) (some (.int (pcOf sc).2)) none none).l σ := by
  have sl := sizeLine_eq
  obtain ⟨t1, t2⟩ := tow_pos sc hw
  have b1 : Builtin.Int.intBits (-1) = 1 := by decide
  have hlp := Lp.fold (B := B.up) (n := N) (sc := lawScope) (tg := forTg (nth lawBody 16)) (body := levInner (nth lawBody 16)) (α := Int) (S := Int × Int) .int (fun s => (st6 d sa sc (some (.int s.1)) (some (.int s.2)) none none).l) (fun _ => σ) (prodStep (roadsOf (wishesOf sc)) (zOf (totalOf sc)))
    (fun l s => ((st6 d sa sc (some (.int s.1)) (some (.int s.2)) none none).l).set 20 (some (.int l))) (fun l s => As.name 20 rfl (.inr rfl)) (rng 0 (towOf sc)) (fun _ _ => True) (fun _ _ _ _ _ => trivial) (fun j l s hd hs => ties_turn F sc σ _ rfl hl s l) (1, (-1) ^ (towOf sc).toNat) trivial
  refine Pre.cons (Ex.assign 18 rfl (.inl rfl) Ev.cint) ?_
  refine Pre.cons (Ex.assign 19 rfl (.inl rfl) (Ev.bin (Ev.un Ev.cint Op1.neg) (Ev.local (v := .int (towOf sc)) 2 rfl rfl) (Op2.pow (by omega) (by show ((Builtin.Int.intBits (-1) : Nat) : Int) * towOf sc ≤ _; rw [b1]; omega)))) ?_
  refine Pre.cons (Ex.forL (f := .next) (Itr.range1 (Ev.builtin 31 rfl F.b_range boot_range (by decide)) (Ev.local (v := .int (towOf sc)) 2 rfl rfl) (by omega) (by
    have : (rng 0 (towOf sc)).length = (towOf sc).toNat := by unfold rng; simp
    rw [this]; omega)) hlp (fun _ => Exs.nil) (fun q => by cases q) (fun v q => by cases q)) ?_
  exact Pre.nil
noncomputable def st7 (d : Hd) (sa : Addr) (sc : List Int) : Lw := { st4 d sa sc with product := some (.int (pcOf sc).1), colours := some (.int (pcOf sc).2), quotient := some (.int (quoOf sc)), rest := some (.int (remOf sc)) }
theorem law_7 (F : FLaw B a d q fl ci Pi cd Pd T T₀ sd ks) {sa : Addr} (sc : List Int) (E : List Ent) (σ : Store) (hw : (wishesOf sc).length ≤ 3) (ok : LawOK sc E) :
    Ex B.up N lawScope (st6 d sa sc (some (.int (pcOf sc).1)) (some (.int (pcOf sc).2)) none none).l σ (nth lawBody 17) .next (st7 d sa sc).l σ := by
  have sl := sizeLine_eq
  obtain ⟨t1, t2⟩ := tow_pos sc hw
  have hz : 32 ≤ zOf (totalOf sc) ∧ zOf (totalOf sc) ≤ 256 := z_le _
  have zb : Builtin.Int.intBits (zOf (totalOf sc) - 1) ≤ 9 := by
    obtain ⟨k, hk⟩ := Int.eq_ofNat_of_zero_le (show 0 ≤ zOf (totalOf sc) - 1 by omega)
    rw [hk]
    exact bits_le (by omega)
  have h3 : (Builtin.Int.intBits (zOf (totalOf sc) - 1) : Int) * towOf sc ≤ 2 ^ 27 := by
    have : (Builtin.Int.intBits (zOf (totalOf sc) - 1) : Int) * towOf sc ≤ 9 * 4 := Int.mul_le_mul (by omega) (by omega) (by omega) (by omega)
    omega
  have hI := (idm_fn F.div (pcOf sc).1 (denOf sc) 100 ok.den0 ok.denb (by decide) ok.prodb).le (n := N) (by decide)
  exact Ex.assignTE (EvE.callD (Ev.gval 33 rfl F.div.g_idm) F.div.fidm.isFn (.cons (Ev.local 18 rfl rfl) (.cons (Ev.bin (Ev.bin (Ev.local (v := .int (zOf (totalOf sc))) 6 rfl rfl) Ev.cint Op2.sub) (Ev.local (v := .int (towOf sc)) 2 rfl rfl) (Op2.pow (by omega) h3)) .nil)) (hI _)) (As.two 22 23 rfl (.inl rfl) rfl (.inl rfl))
end
end Mine
namespace Mine
open PySem PySem.Spec PySem.Calls PyProof.Rows PySem.W PySem.Builtin.Str
noncomputable def tupI (i : Nat) : Expr → Expr
  | .Tuple es _ _ => es.getD i (.Constant .none 0 ⟨0, 0, 0, 0⟩)
  | e => e
theorem shaped_pair (ns : List Int) (r : Int) : SeqAt.shaped (.tuple [.list (ns.map PyData.int), .int r]) = true := by
  have h1 := canLayAll0_ints ns
  have h2 := ke_depthAll ns
  unfold SeqAt.shaped
  simp [PyData.canLay0, PyData.canLayAll0, PyData.depth, PyData.depthAll, h1, h2]
theorem eqv_pair (ns : List Int) (r : Int) : PyData.eqv (.tuple [.list (ns.map PyData.int), .int r]) (.tuple [.list (ns.map PyData.int), .int r]) = true := by
  have h1 : PyData.eqvAll (ns.map PyData.int) (ns.map PyData.int) = true := by rw [eqv_ints]; simp
  simp [PyData.eqv, PyData.eqvAll, h1]
theorem bits_cover {b n m : Nat} (hn : 1 ≤ n) (hm : (b + n - 1) / n = m) : b ≤ n * m := by
  have h1 := Nat.lt_div_mul_add (a := b + n - 1) (b := n) (by omega)
  rw [hm, Nat.mul_comm] at h1; omega
section
variable {B : Wd} {a : Ad} {d : Hd} {q : La} {fl ci Pi cd Pd T T₀ sd ks : Addr} {n : Nat}
theorem count_comp (F : FLaw B a d q fl ci Pi cd Pd T T₀ sd ks) {sa : Addr} (sc : List Int) (E : List Ent) (hl : (roadsOf (wishesOf sc)).length ≤ 5) :
    EvN B.up N lawScope (st7 d sa sc).l (store E ++ [intsV (farsOf sc E)]) (tupI 0 (cmpR (testOf (nth lawBody 18)))) (intsV (cntsOf sc E)) := by
  have sl := sizeLine_eq
  have pl : (pairsI (roadsOf (wishesOf sc))).length = (roadsOf (wishesOf sc)).length := by unfold pairsI; simp
  have e : intsV (cntsOf sc E) = (rng 0 (((roadsOf (wishesOf sc)).length : Int) + 1)).map fun s => Val.int (((farsOf sc E).count s : Nat) : Int) := by unfold intsV cntsOf; rw [List.map_map]; rfl
  rw [e]
  exact EvN.comp (vc := [none, none, some (.ref 3)]) (Itr.range1 (Ev.builtin 31 rfl F.b_range boot_range (by decide)) (Ev.bin (Ev.eq (Ev.callB (Ev.builtin 24 rfl F.b_len boot_len (by decide)) (.cons (Ev.cell 3 rfl rfl) .nil) (OpS.lenL .fr (by rw [pl]; omega))) (by rw [pl])) Ev.cint Op2.add) (by omega) (by unfold rng; simp; omega)) ⟨rfl, by decide, by decide⟩ (Sees.by [(2, 15)] [false, false, true] rfl rfl ⟨rfl, trivial⟩)
    (Cp.map (α := Int) .int (fun s => .int (((farsOf sc E).count s : Nat) : Int)) 1 rfl _ _ fun s _ => Ev.meth (Ev.var 2 (.inr rfl) rfl) (.cons (Ev.local 1 rfl rfl) .nil) (TyB.lst (Lst.own (xs := intsV (farsOf sc E)) rfl)) PySem.F.plainAttrs_list PySem.F.slot_list_count PySem.F.type_list_count (OpS.countI (Lst.own rfl)))
theorem law_8 (F : FLaw B a d q fl ci Pi cd Pd T T₀ sd ks) {sa : Addr} (sc : List Int) (E : List Ent) (hl : (roadsOf (wishesOf sc)).length ≤ 5) (ok : LawOK sc E) :
    Ex B.up N lawScope (st7 d sa sc).l (store E ++ [intsV (farsOf sc E)]) (nth lawBody 18) .next (st7 d sa sc).l (store E ++ [intsV (farsOf sc E)]) := by
  obtain ⟨Q, m, q1, q2, q3, q4⟩ := ok.quo
  obtain ⟨w1, w2⟩ := width_le (totalOf sc)
  have hw : widthOf (totalOf sc) = (((widthOf (totalOf sc)).toNat : Nat) : Int) := by omega
  have hm8 : (widthOf (totalOf sc)).toNat * m ≤ 100000 := Nat.le_trans (Nat.mul_le_mul (show (widthOf (totalOf sc)).toNat ≤ 8 by omega) q3) (by decide)
  have hx : Q < 2 ^ ((widthOf (totalOf sc)).toNat * m) := Nat.lt_of_lt_of_le (lt_bits Q) (Nat.pow_le_pow_right (by decide) (bits_cover (by omega) q2))
  have hI := (i2d_fn F.div.toI Q (widthOf (totalOf sc)).toNat m (by omega) q2 hm8 (by omega) hx).le (n := N) (by show m + 3 ≤ 120; omega)
  rw [q4, ← hw, ← q1] at hI
  have hc := count_comp F (sa := sa) sc E hl
  have l : EvE B.up N lawScope (st7 d sa sc).l (store E ++ [intsV (farsOf sc E)]) (cmpL (testOf (nth lawBody 18))) (.tup [.list (intsV (cntsOf sc E)), .int (remOf sc)]) (store E ++ [intsV (farsOf sc E)]) :=
    EvE.tuple (EvE.callD (Ev.gval 34 rfl F.div.g_i2d) F.div.toI.fi2d.isFn (.cons (Ev.local (v := .int (quoOf sc)) 22 rfl rfl) (.cons (Ev.local (v := .int (widthOf (totalOf sc))) 5 rfl rfl) .nil)) (hI _)) (.cons (Ev.local (v := .int (remOf sc)) 23 rfl rfl) .nil)
  have r : Ev B.up N lawScope (st7 d sa sc).l (store E ++ [intsV (farsOf sc E)]) (cmpR (testOf (nth lawBody 18))) (.tup [.list (intsV (cntsOf sc E)), .int 0]) :=
    Ev.tuple (.cons (EvN.ev hc) (.cons Ev.cint .nil))
  have hr := ok.rem
  rw [hr] at l
  generalize cntsOf sc E = cs at *
  have tst : TrE B.up N lawScope (st7 d sa sc).l (store E ++ [intsV (farsOf sc E)]) (testOf (nth lawBody 18)) false (store E ++ [intsV (farsOf sc E)]) :=
    TrE.eq (TrE.cmp l r (Op2.neR (.tup (.cons (.list .ints) (.cons (.int _) .nil))) (.tup (.cons (.list .ints) (.cons (.int _) .nil))) (shaped_pair cs 0) (shaped_pair cs 0) (by decide))) (by rw [eqv_pair]; rfl)
  exact Ex.iteE (ys := []) tst (fun q => by cases q) (fun _ => Exs.nil)
theorem law_9 (F : FLaw B a d q fl ci Pi cd Pd T T₀ sd ks) {sa : Addr} (sc : List Int) (E : List Ent) (hE : E.length ≤ 900) (ok : LawOK sc E) :
    Ex B.up N lawScope (st7 d sa sc).l (store E ++ [intsV (farsOf sc E)]) (nth lawBody 19) (.ret (.bool true)) (st7 d sa sc).l (store E ++ [intsV (farsOf sc E)]) := by
  have sl := sizeLine_eq
  have hz := z_le (totalOf sc)
  have hI := (idm_fn F.div (pcOf sc).2 (zOf (totalOf sc) + 1) 100 (by omega) (by
    obtain ⟨k, hk⟩ := Int.eq_ofNat_of_zero_le (show 0 ≤ zOf (totalOf sc) + 1 by omega)
    rw [hk, Int.natAbs_natCast]
    exact Nat.le_trans (bits_le (m := 9) (by omega)) (by decide)) (by decide) ok.colb).le (n := N) (by decide)
  rw [ok.col] at hI
  have fl' : (intsV (farsOf sc E)).length = (farsOf sc E).length := il _
  have fl2 : (farsOf sc E).length = E.length := by unfold farsOf; simp
  exact Ex.retE (EvE.eq (EvE.cmp (EvE.sub (EvE.callD (Ev.gval 33 rfl F.div.g_idm) F.div.fidm.isFn (.cons (Ev.local (v := .int (pcOf sc).2) 19 rfl rfl) (.cons (Ev.bin (Ev.local (v := .int (zOf (totalOf sc))) 6 rfl rfl) Ev.cint Op2.add) .nil)) (hI _)) Ev.cint (Itm.tup 1 rfl rfl (by omega)))
    (Ev.callB (Ev.builtin 24 rfl F.b_len boot_len (by decide)) (.cons (Ev.cell 15 rfl rfl) .nil) (OpS.lenL (Lst.own (xs := intsV (farsOf sc E)) rfl) (by rw [fl', fl2]; omega))) Op2.eq) (by rw [fl']; simp))
end
end Mine
namespace Mine
open PySem PySem.Spec PySem.Calls PyProof.Rows PySem.W PySem.Builtin.Str
theorem Pre.exs {B : Wd} {n : Nat} {sc : Scope} {vs vs₁ vs₂ : List (Option Val)} {σ σ₁ σ₂ : Store} {ss rest : List Stmt} {f : Fl} (h : Pre B n sc vs σ ss rest vs₁ σ₁) (h2 : Exs B n sc vs₁ σ₁ rest f vs₂ σ₂) : Exs B n sc vs σ ss f vs₂ σ₂ := fun A μ ρ env s Q g hs R F P =>
  h A μ ρ env s Q g hs R F fun ρ' h' tk X R' F' => h2 A μ ρ' env _ Q g hs R' F' (P.step X R' F.own)
/-- all that the law's walk asks of plain numbers -/
structure LawPlain (sc : List Int) : Prop where
  sl : sc.length ≤ 100
  wl : (wishesOf sc).length ≤ 3
  rl : (roadsOf (wishesOf sc)).length ≤ 5
  rpos : ∀ r ∈ roadsOf (wishesOf sc), 0 ≤ r.2
  ord : ∀ o ∈ ordersOf (towOf sc), OrdOK (roadsOf (wishesOf sc)) o
  ol : (ordersOf (towOf sc)).length ≤ 800
  ok : LawOK sc (gather (roadsOf (wishesOf sc)) (ordersOf (towOf sc)))
theorem gather_ok (rs : List (Int × Int)) : ∀ (os : List (List Int)) (E : List Ent), (∀ o ∈ os, OrdOK rs o) → EntOK E → EntOK (os.foldl (fun E o => entStep E (entOf rs o)) E) ∧ (os.foldl (fun E o => entStep E (entOf rs o)) E).length ≤ E.length + os.length
  | [], E, _, h => ⟨h, Nat.le_refl _⟩
  | o :: os, E, ho, h => by
    rw [List.foldl_cons]
    obtain ⟨h1, h2⟩ := gather_ok rs os (entStep E (entOf rs o)) (fun z hz => ho z (List.mem_cons_of_mem _ hz)) (ent_ok h (ho o (by simp)).rng)
    refine ⟨h1, ?_⟩
    have := ent_len E (entOf rs o)
    rw [List.length_cons]; omega
theorem law_pos : ByPos lawPar .none .none (parN lawScope 1) := fun s fd xs h1 h2 h3 hl => by
  obtain ⟨x, rfl⟩ := one_of hl
  exact BindsTo.of_eq (by cases fd; simp only at h1 h2 h3; subst h1; subst h2; subst h3; rfl)
section
variable {B : Wd} {a : Ad} {d : Hd} {q : La} {fl ci Pi cd Pd T T₀ sd ks : Addr} {n : Nat}
theorem law_exs (F : FLaw B a d q fl ci Pi cd Pd T T₀ sd ks) {sa : Addr} (sc : List Int) (G : Giv B.up sa sc) (P : LawPlain sc) :
    Exs B.up N lawScope ({ script := some (.glob (.ref sa)) } : Lw).l [] lawBody (.ret (.bool true)) (st7 d sa sc).l (store (gather (roadsOf (wishesOf sc)) (ordersOf (towOf sc))) ++ [intsV (farsOf sc (gather (roadsOf (wishesOf sc)) (ordersOf (towOf sc))))]) := by
  obtain ⟨hok, hlen⟩ := gather_ok (roadsOf (wishesOf sc)) (ordersOf (towOf sc)) [] P.ord (fun _ h => (nomatch h))
  have hE : (gather (roadsOf (wishesOf sc)) (ordersOf (towOf sc))).length ≤ 900 := by
    have := P.ol
    unfold gather
    simp at hlen
    omega
  have hok : EntOK (gather (roadsOf (wishesOf sc)) (ordersOf (towOf sc))) := hok
  have s0 := law_0 F sc G P.sl
  have s1 := law_1 F sc G (by have := P.wl; omega) P.sl
  have s2 := law_2 F (sa := sa) sc
  have s3 := law_3 F (sa := sa) sc P.wl P.ord P.ol (by have := P.rl; omega)
  have s4 := law_4 F (sa := sa) sc (gather (roadsOf (wishesOf sc)) (ordersOf (towOf sc))) P.rl P.rpos
  have s5 := law_5 F (sa := sa) sc _ hE hok P.rl
  have s6 := law_6 F (sa := sa) sc (store (gather (roadsOf (wishesOf sc)) (ordersOf (towOf sc))) ++ [intsV (farsOf sc (gather (roadsOf (wishesOf sc)) (ordersOf (towOf sc))))]) P.wl P.rl
  have s7 := law_7 F (sa := sa) sc (gather (roadsOf (wishesOf sc)) (ordersOf (towOf sc))) (store (gather (roadsOf (wishesOf sc)) (ordersOf (towOf sc))) ++ [intsV (farsOf sc (gather (roadsOf (wishesOf sc)) (ordersOf (towOf sc))))]) P.wl P.ok
  have s8 := law_8 F (sa := sa) sc _ P.rl P.ok
  have s9 := law_9 F (sa := sa) sc _ hE P.ok
  exact Exs.cons s0 (s1.exs (s2.exs (Exs.cons s3 (s4.exs (Exs.cons s5 (s6.exs (Exs.cons s7 (Exs.cons s8 (Exs.one s9)))))))))
/-- the law answers True -/
theorem law_fn (F : FLaw B a d q fl ci Pi cd Pd T T₀ sd ks) {sa : Addr} (sc : List Int) (G : Giv B.up sa sc) (P : LawPlain sc) : FnG B.up (N + 1) q.law [.glob (.ref sa)] (.bool true) :=
  FnG.mk F.div.hid F.flaw law_pos rfl rfl (by decide) rfl ⟨_, _, _, Exs.toC (law_exs F sc G P), Out.same rfl⟩
end
end Mine
namespace Mine
open PySem PySem.Spec PySem.Calls PyProof.Rows PySem.W
-- the distance of two words of letters is the number of places where they differ
noncomputable def lowC (c : Nat) : Nat := if 65 ≤ c ∧ c ≤ 90 then c + 32 else c
noncomputable def subN (x y : Nat) : Int := if x == y then 0 else if lowC x == lowC y then 1 else 2
noncomputable def letsN : List Nat := [73, 76, 65, 75, 84, 105, 108, 97, 107, 116]
theorem subC_all : letsN.all (fun x => letsN.all fun y => subC (sgn x) (sgn y) == subN x y) = true := by kernel_rfl
theorem subC_N {x y : Nat} (hx : x ∈ letsN) (hy : y ∈ letsN) : subC (sgn x) (sgn y) = subN x y := by
  have := List.all_eq_true.mp (List.all_eq_true.mp subC_all x hx) y hy
  simpa using this
noncomputable def lstepN (A : List Nat) (bc : Nat) (s : LSt) (i : Int) : LSt :=
  let sub := s.dist + subN bc (A.getD i.toNat 0)
  let d := s.row.getD i.toNat 0
  let ins := (if d < s.res then d else s.res) + 2
  let r := if sub < ins then sub else ins
  ⟨d, r, if r < s.mn then r else s.mn, s.row.set i.toNat r⟩
noncomputable def lrowN (A : List Nat) (bc : Nat) (bi : Int) (row : List Int) : LSt := (rng 0 A.length).foldl (lstepN A bc) ⟨bi * 2, bi * 2, 9223372036854775807, row⟩
theorem fold_same {α β : Type} {f g : α → β → α} : ∀ (L : List β) (a : α), (∀ a, ∀ b ∈ L, f a b = g a b) → L.foldl f a = L.foldl g a
  | [], _, _ => rfl
  | b :: L, a, h => by
    rw [List.foldl_cons, List.foldl_cons, h a b (by simp)]
    exact fold_same L _ fun a b hb => h a b (List.mem_cons_of_mem _ hb)
theorem lrow_N (A : List Nat) (hA : ∀ c ∈ A, c ∈ letsN) (bc : Nat) (hb : bc ∈ letsN) (bi : Int) (row : List Int) : lrow A bc bi row = lrowN A bc bi row := by
  unfold lrow lrowN
  refine fold_same _ _ fun s i hi => ?_
  have h := rng_mem hi
  have hl : i.toNat < A.length := by omega
  have hm : A.getD i.toNat 0 ∈ A := by
    rw [List.getD_eq_getElem?_getD, List.getElem?_eq_getElem hl]; exact List.getElem_mem hl
  unfold lstep lstepN
  rw [subC_N hb (hA _ hm)]
noncomputable def lrowsN (A : List Nat) (mc : Int) : List Nat → Int → List Int → Int → Int
  | [], _, _, res => res
  | c :: cs, bi, row, res => let s := lrowN A c bi row; if s.mn > mc then mc + 1 else lrowsN A mc cs (bi + 1) s.row s.res
theorem lrows_N (A : List Nat) (hA : ∀ c ∈ A, c ∈ letsN) (mc : Int) : ∀ (cs : List Nat) (bi : Int) (row : List Int) (res : Int), (∀ c ∈ cs, c ∈ letsN) → lrows A mc cs bi row res = lrowsN A mc cs bi row res
  | [], _, _, _, _ => rfl
  | c :: cs, bi, row, res, h => by
    unfold lrows lrowsN
    rw [lrow_N A hA c (h c (by simp))]
    simp only
    rw [lrows_N A hA mc cs _ _ _ fun z hz => h z (List.mem_cons_of_mem _ hz)]
noncomputable def levN (A Bs : List Nat) (mc : Int) : Int :=
  if A = Bs then 0 else
    let p := together A Bs
    let P := A.drop p
    let R := Bs.drop p
    let q := together P.reverse R.reverse
    let P' := P.take (P.length - q)
    let R' := R.take (R.length - q)
    if P' = [] then 0 else lrowsN P' mc R' 0 (row0 P'.length) 0
theorem lev_N (A Bs : List Nat) (mc : Int) (hA : ∀ c ∈ A, c ∈ letsN) (hB : ∀ c ∈ Bs, c ∈ letsN) : lev A Bs mc = levN A Bs mc := by
  unfold lev levN
  simp only
  rw [lrows_N _ (fun c hc => hA c (List.mem_of_mem_drop (List.mem_of_mem_take hc))) mc _ _ _ _ (fun c hc => hB c (List.mem_of_mem_drop (List.mem_of_mem_take hc)))]
theorem word_lets (m : Nat) (hm : m ≤ 5) (b : Nat → Bool) : ∀ c ∈ wordN m b, c ∈ letsN := fun c hc => by
  unfold wordN at hc
  obtain ⟨k, hk, rfl⟩ := List.mem_map.mp hc
  have hk := List.mem_range.mp hk
  have key : ∀ k : Nat, k < 5 → upL k ∈ letsN ∧ loL k ∈ letsN := by decide
  have h := key k (by omega)
  split
  · exact h.1
  · exact h.2
noncomputable def popc (m s t : Nat) : Nat := ((List.range m).filter fun k => s.testBit k != t.testBit k).length
noncomputable def levOK (m : Nat) : Bool := (List.range (2 ^ m)).all fun s => (List.range (2 ^ m)).all fun t => levN (wordN m fun k => s.testBit k) (wordN m fun k => t.testBit k) (m : Int) == (popc m s t : Int)
theorem lev_0 : levOK 0 = true := by kernel_rfl
theorem lev_1 : levOK 1 = true := by kernel_rfl
theorem lev_2 : levOK 2 = true := by kernel_rfl
theorem lev_3 : levOK 3 = true := by kernel_rfl
theorem lev_4 : levOK 4 = true := by kernel_rfl
theorem lev_5 : levOK 5 = true := by kernel_rfl
end Mine
namespace Mine
open PySem PySem.Spec PySem.Calls PyProof.Rows PySem.W
-- the plain law
noncomputable def RL3 : List (List (Int × Int)) := [[], [(0, 2)], [(1, 2)], [(0, 1)], [(0, 1), (0, 2)], [(0, 1), (1, 2)], [(0, 1), (0, 2), (1, 2)]]
noncomputable def RL4 : List (List (Int × Int)) := [[], [(0, 3)], [(1, 3)], [(2, 3)], [(0, 2)], [(0, 2), (0, 3)], [(0, 2), (1, 3)], [(0, 2), (2, 3)], [(0, 2), (0, 3), (2, 3)], [(1, 2)], [(1, 2), (0, 3)], [(1, 2), (1, 3)], [(1, 2), (2, 3)], [(1, 2), (1, 3), (2, 3)], [(0, 1)], [(0, 1), (0, 3)], [(0, 1), (1, 3)], [(0, 1), (0, 3), (1, 3)], [(0, 1), (2, 3)], [(0, 1), (0, 2)], [(0, 1), (0, 2), (0, 3)], [(0, 1), (0, 2), (1, 3)], [(0, 1), (0, 2), (0, 3), (1, 3)], [(0, 1), (0, 2), (2, 3)], [(0, 1), (0, 2), (0, 3), (2, 3)], [(0, 1), (1, 2)], [(0, 1), (1, 2), (0, 3)], [(0, 1), (1, 2), (1, 3)], [(0, 1), (1, 2), (0, 3), (1, 3)], [(0, 1), (1, 2), (2, 3)], [(0, 1), (1, 2), (1, 3), (2, 3)], [(0, 1), (0, 2), (1, 2)], [(0, 1), (0, 2), (1, 2), (0, 3)], [(0, 1), (0, 2), (1, 2), (1, 3)], [(0, 1), (0, 2), (1, 2), (0, 3), (1, 3)], [(0, 1), (0, 2), (1, 2), (2, 3)], [(0, 1), (0, 2), (1, 2), (0, 3), (2, 3)], [(0, 1), (0, 2), (1, 2), (1, 3), (2, 3)]]
theorem roads_3 : (List.range 8).all (fun a => (List.range 8).all fun b => RL3.contains (roadsOf [(a : Int), (b : Int)])) = true := by kernel_rfl
noncomputable def roads4 (a : Nat) : Bool := (List.range 8).all fun b => (List.range 8).all fun c => RL4.contains (roadsOf [(a : Int), (b : Int), (c : Int)])
theorem roads_4 : (List.range 8).all roads4 = true := by kernel_rfl
noncomputable def printB (t : Str) : Bool := t.cps.toList.all fun c => decide (32 ≤ c ∧ c < 127)
noncomputable def ordA (o : List Int) : Bool := o[0]? == some (o.headD 0) && (o.all (fun x => decide (0 ≤ x ∧ x < 10)) && (decide (o.length ≤ 10) && (printB (textOf o) && (decide ((textOf o).length ≤ 1000) && decide (((o.map fun t => (toString t : Str)).map (·.length)).sum ≤ 1000)))))
theorem ordA_3 : (ordersOf 3).all ordA = true := by kernel_rfl
theorem ordA_4 : (ordersOf 4).all ordA = true := by kernel_rfl
end Mine
namespace Mine
open PySem PySem.Spec PySem.Calls PyProof.Rows PySem.W
noncomputable def ordB (rs : List (Int × Int)) (o : List Int) : Bool := rs.all (fun r => o.contains r.1 && o.contains r.2)
noncomputable def tsOf (rs : List (Int × Int)) (os : List (List Int)) : List Int := os.foldl (fun s o => if s.contains (turnedOf o rs) then s else s ++ [turnedOf o rs]) []
noncomputable def selB (x y z : Bool) (j : Int) : Bool := if j == 1 then x else if j == 2 then y else z
noncomputable def maskN (rs : List (Int × Int)) (x y z : Bool) : Nat := (((List.range rs.length).filter fun k => selB x y z (rs.getD k (0, 0)).2).map fun k => 2 ^ k).sum
noncomputable def maskOK (rs : List (Int × Int)) (x y z : Bool) : Bool := decide (maskN rs x y z < 2 ^ rs.length) && (List.range rs.length).all fun k => (maskN rs x y z).testBit k == selB x y z (rs.getD k (0, 0)).2
noncomputable def hist (m mask : Nat) (ts : List Int) : List Int := (rng 0 ((m : Int) + 1)).map fun s => (((ts.map fun t => (popc m mask t.toNat : Int)).count s : Nat) : Int)
noncomputable def chkA (tow : Int) (rs : List (Int × Int)) : Bool := decide (rs.length ≤ 5) && (rs.all (fun r => decide (1 ≤ r.2 ∧ r.2 ≤ 3)) && ((ordersOf tow).all (ordB rs) && (ordersOf tow).all fun o => decide (0 ≤ turnedOf o rs ∧ turnedOf o rs < 2 ^ rs.length)))
noncomputable def bools : List Bool := [false, true]
noncomputable def chkB (rs : List (Int × Int)) (ts cs : List Int) : Bool := bools.all fun x => bools.all fun y => bools.all fun z => maskOK rs x y z && hist rs.length (maskN rs x y z) ts == cs
noncomputable def arith (rs : List (Int × Int)) (tow : Int) (W : Nat) (cs : List Int) (nts : Nat) : Bool :=
  let pc := (rng 0 tow).foldl (prodStep rs (2 ^ W)) (1, (-1) ^ tow.toNat)
  let den := ((2 : Int) ^ W - 1) ^ tow.toNat
  let qq := pc.1.fdiv den
  let m := (Builtin.Int.intBits (qq.toNat : Int) + W - 1) / W
  decide (den ≠ 0) && (decide (Builtin.Int.intBits (den.natAbs : Int) ≤ 1000) && (decide (Builtin.Int.intBits (pc.1.natAbs : Int) ≤ Builtin.Int.intBits (den.natAbs : Int) * 100) && (decide (0 ≤ qq) && (decide (m ≤ 100) && (dg W m qq.toNat == cs && (decide (pc.1.fmod den = 0) &&
    (decide (Builtin.Int.intBits (pc.2.natAbs : Int) ≤ Builtin.Int.intBits (((2 : Int) ^ W + 1).natAbs : Int) * 100) && decide (pc.2.fmod ((2 : Int) ^ W + 1) = (nts : Int)))))))))
noncomputable def chkC (rs : List (Int × Int)) (tow : Int) (cs : List Int) (nts : Nat) : Bool := arith rs tow 5 cs nts && (arith rs tow 6 cs nts && (arith rs tow 7 cs nts && arith rs tow 8 cs nts))
noncomputable def chk (tow : Int) (rs : List (Int × Int)) : Bool :=
  let ts := tsOf rs (ordersOf tow)
  let cs := hist rs.length 0 ts
  chkA tow rs && (chkB rs ts cs && chkC rs tow cs ts.length)
theorem chk_3 : RL3.all (chk 3) = true := by kernel_rfl
theorem chk_4 : RL4.all (chk 4) = true := by kernel_rfl
end Mine
namespace Mine
open PySem PySem.Spec PySem.Calls PyProof.Rows PySem.W
theorem seen_gather (rs : List (Int × Int)) : ∀ (os : List (List Int)) (E : List Ent), seenOf (os.foldl (fun E o => entStep E (entOf rs o)) E) = os.foldl (fun s o => if s.contains (turnedOf o rs) then s else s ++ [turnedOf o rs]) (seenOf E)
  | [], E => rfl
  | o :: os, E => by
    rw [List.foldl_cons, List.foldl_cons, seen_gather rs os]
    congr 1
    unfold entStep entOf
    simp only
    split
    · rfl
    · unfold seenOf; simp
theorem word_congr {m : Nat} {b b' : Nat → Bool} (h : ∀ k < m, b k = b' k) : wordN m b = wordN m b' := by
  unfold wordN
  refine List.map_congr_left fun k hk => ?_
  rw [h k (List.mem_range.mp hk)]
theorem lev_all : ∀ m : Nat, m ≤ 5 → levOK m = true := fun m h => by
  match m, h with
  | 0, _ => exact lev_0
  | 1, _ => exact lev_1
  | 2, _ => exact lev_2
  | 3, _ => exact lev_3
  | 4, _ => exact lev_4
  | 5, _ => exact lev_5
theorem far_is {m : Nat} (hm : m ≤ 5) {b : Nat → Bool} {mask : Nat} (hk : mask < 2 ^ m) (hb : ∀ k < m, mask.testBit k = b k) (e : Ent) (he : 0 ≤ e.1 ∧ e.1 < 2 ^ m) : farOf m b e = (popc m mask e.1.toNat : Int) := by
  unfold farOf
  rw [word_congr (fun k hk => (hb k hk).symm), lev_N _ _ _ (word_lets m hm _) (word_lets m hm _)]
  have ht : e.1.toNat < 2 ^ m := by
    have h2 : ((2 : Int) ^ m) = ((2 ^ m : Nat) : Int) := by simp
    rw [h2] at he; omega
  have := List.all_eq_true.mp (List.all_eq_true.mp (lev_all m hm) mask (List.mem_range.mpr hk)) e.1.toNat (List.mem_range.mpr ht)
  simpa using this
noncomputable def gB (T : Int) (j : Nat) : Bool := Builtin.bitAnd ((T.fdiv 4).fdiv (2 ^ j)) 1 != 0
theorem start_sel (T : Int) (rs : List (Int × Int)) (k : Nat) (h : 1 ≤ (rs.getD k (0, 0)).2 ∧ (rs.getD k (0, 0)).2 ≤ 3) : startB T rs k = selB (gB T 1) (gB T 2) (gB T 3) (rs.getD k (0, 0)).2 := by
  unfold startB selB
  generalize (rs.getD k (0, 0)).2 = j at *
  have hj : j = 1 ∨ j = 2 ∨ j = 3 := by omega
  rcases hj with rfl | rfl | rfl <;> rfl
theorem bools_mem (x : Bool) : x ∈ bools := by cases x <;> decide
theorem wishes_cases (sc : List Int) : (∃ a b : Int, (0 ≤ a ∧ a < 8) ∧ (0 ≤ b ∧ b < 8) ∧ wishesOf sc = [a, b]) ∨ ∃ a b c : Int, (0 ≤ a ∧ a < 8) ∧ (0 ≤ b ∧ b < 8) ∧ (0 ≤ c ∧ c < 8) ∧ wishesOf sc = [a, b, c] := by
  have md : ∀ v : Int, 0 ≤ v.fmod 8 ∧ v.fmod 8 < 8 := fun v => ⟨Int.fmod_nonneg_of_pos v (by decide), Int.fmod_lt_of_pos v (by decide)⟩
  match sc with
  | [] => exact .inl ⟨1, 3, by decide, by decide, rfl⟩
  | [x] => exact .inl ⟨x.fmod 8, 3, md x, by decide, rfl⟩
  | [x, y] => exact .inl ⟨x.fmod 8, y.fmod 8, md x, md y, rfl⟩
  | x :: y :: z :: r =>
    refine .inr ⟨x.fmod 8, y.fmod 8, z.fmod 8, md x, md y, md z, ?_⟩
    unfold wishesOf slc
    have e1 : kms_hi (some 3) (x :: y :: z :: r).length = 3 := by unfold kms_hi; simp
    have e2 : kms_lo (some ((x :: y :: z :: r).length : Int)) [(1 : Int), 3].length = 2 := by
      unfold kms_lo; simp only; rw [if_neg (by omega), Int.toNat_natCast]; simp
    rw [e1, e2]
    simp [kms_lo, kms_hi]
theorem chk_law (sc : List Int) (hsl : sc.length ≤ 100) (rs : List (Int × Int)) (hrs : roadsOf (wishesOf sc) = rs) (hw : (wishesOf sc).length ≤ 3) (hA : (ordersOf (towOf sc)).all ordA = true) (hol : (ordersOf (towOf sc)).length ≤ 800) (h : chk (towOf sc) rs = true) : LawPlain sc := by
  unfold chk at h
  simp only [Bool.and_eq_true] at h
  obtain ⟨hc, hB, hC⟩ := h
  unfold chkA at hc
  simp only [Bool.and_eq_true, decide_eq_true_eq, List.all_eq_true] at hc
  obtain ⟨c1, c2, c3, c4⟩ := hc
  have ts_rng : ∀ t ∈ tsOf rs (ordersOf (towOf sc)), 0 ≤ t ∧ t < 2 ^ rs.length := by
    have key : ∀ (os : List (List Int)) (s : List Int), (∀ o ∈ os, 0 ≤ turnedOf o rs ∧ turnedOf o rs < 2 ^ rs.length) → (∀ t ∈ s, 0 ≤ t ∧ t < 2 ^ rs.length) → ∀ t ∈ os.foldl (fun s o => if s.contains (turnedOf o rs) then s else s ++ [turnedOf o rs]) s, 0 ≤ t ∧ t < 2 ^ rs.length := by
      intro os
      induction os with
      | nil => intro s _ h; exact h
      | cons o os ih =>
        intro s ho hs
        rw [List.foldl_cons]
        refine ih _ (fun z hz => ho z (List.mem_cons_of_mem _ hz)) ?_
        split
        · exact hs
        · intro t ht
          rcases List.mem_append.mp ht with m | m
          · exact hs t m
          · rw [List.mem_singleton.mp m]; exact ho o (by simp)
    exact key _ [] c4 (fun _ h => (nomatch h))
  have ord : ∀ o ∈ ordersOf (towOf sc), OrdOK rs o := fun o ho => by
    have a := List.all_eq_true.mp hA o ho
    unfold ordA at a
    simp only [Bool.and_eq_true, decide_eq_true_eq, List.all_eq_true, beq_iff_eq] at a
    obtain ⟨a1, a2, a3, a4, a5, a6⟩ := a
    have b := c3 o ho
    unfold ordB at b
    have t := c4 o ho
    have p5 : (2 : Int) ^ rs.length ≤ 32 := by
      have h2 : ((2 : Int) ^ rs.length) = ((2 ^ rs.length : Nat) : Int) := by simp
      have h3 : 2 ^ rs.length ≤ 2 ^ 5 := Nat.pow_le_pow_right (by decide) c1
      rw [h2]; omega
    refine ⟨lay_small o (fun x hx => by have := a2 x hx; omega) (by omega), fun r hr => ?_, a1, a2, a3, ⟨(turnedOf o rs).toNat, by omega, by omega⟩, fun c hc => ?_, a5, a6⟩
    · have := List.all_eq_true.mp b r hr
      simp only [Bool.and_eq_true, List.contains_iff_mem] at this
      exact this
    · have := List.all_eq_true.mp a4 c hc
      simpa using this
  have hE : seenOf (gather rs (ordersOf (towOf sc))) = tsOf rs (ordersOf (towOf sc)) := seen_gather rs _ []
  have hx := List.all_eq_true.mp (List.all_eq_true.mp (List.all_eq_true.mp hB (gB (totalOf sc) 1) (bools_mem _)) (gB (totalOf sc) 2) (bools_mem _)) (gB (totalOf sc) 3) (bools_mem _)
  simp only [Bool.and_eq_true, beq_iff_eq] at hx
  obtain ⟨m1, m2⟩ := hx
  unfold maskOK at m1
  simp only [Bool.and_eq_true, decide_eq_true_eq, List.all_eq_true, beq_iff_eq] at m1
  obtain ⟨m0, m1⟩ := m1
  generalize maskN rs (gB (totalOf sc) 1) (gB (totalOf sc) 2) (gB (totalOf sc) 3) = mask at *
  have hb : ∀ k < rs.length, mask.testBit k = startB (totalOf sc) rs k := fun k hk => by
    rw [start_sel]
    · exact m1 k (List.mem_range.mpr hk)
    · refine c2 _ ?_
      rw [List.getD_eq_getElem?_getD, List.getElem?_eq_getElem hk]; exact List.getElem_mem hk
  have fars : farsOf sc (gather rs (ordersOf (towOf sc))) = (tsOf rs (ordersOf (towOf sc))).map fun t => (popc rs.length mask t.toNat : Int) := by
    rw [← hE]
    unfold farsOf seenOf
    rw [hrs, List.map_map]
    refine List.map_congr_left fun e he => ?_
    refine far_is c1 m0 hb e (ts_rng e.1 ?_)
    rw [← hE]
    exact List.mem_map_of_mem he
  have cnts : cntsOf sc (gather rs (ordersOf (towOf sc))) = hist rs.length 0 (tsOf rs (ordersOf (towOf sc))) := by
    rw [← m2]
    unfold cntsOf hist
    rw [fars, hrs]
  obtain ⟨w1, w2⟩ := width_le (totalOf sc)
  have hW : widthOf (totalOf sc) = 5 ∨ widthOf (totalOf sc) = 6 ∨ widthOf (totalOf sc) = 7 ∨ widthOf (totalOf sc) = 8 := by omega
  have har : arith rs (towOf sc) (widthOf (totalOf sc)).toNat (hist rs.length 0 (tsOf rs (ordersOf (towOf sc)))) (tsOf rs (ordersOf (towOf sc))).length = true := by
    unfold chkC at hC
    simp only [Bool.and_eq_true] at hC
    rcases hW with h | h | h | h <;> rw [h]
    · exact hC.1
    · exact hC.2.1
    · exact hC.2.2.1
    · exact hC.2.2.2
  have hz : zOf (totalOf sc) = 2 ^ (widthOf (totalOf sc)).toNat := by unfold zOf; rw [Int.one_mul]
  have hpc : pcOf sc = (rng 0 (towOf sc)).foldl (prodStep rs (2 ^ (widthOf (totalOf sc)).toNat)) (1, (-1) ^ (towOf sc).toNat) := by unfold pcOf; rw [hrs, hz]
  have hden : denOf sc = ((2 : Int) ^ (widthOf (totalOf sc)).toNat - 1) ^ (towOf sc).toNat := by unfold denOf; rw [hz]
  unfold arith at har
  simp only [Bool.and_eq_true, decide_eq_true_eq, beq_iff_eq] at har
  rw [← hpc, ← hden, ← hz] at har
  obtain ⟨r1, r2, r3, r4, r5, r6, r7, r8, r9⟩ := har
  refine ⟨hsl, hw, by rw [hrs]; exact c1, ?_, ?_, hol, ?_⟩
  · rw [hrs]; intro r hr; have := c2 r hr; omega
  · rw [hrs]; exact ord
  · rw [hrs]
    refine ⟨r1, r2, r3, ⟨((pcOf sc).1.fdiv (denOf sc)).toNat, _, ?_, rfl, r5, ?_⟩, r7, r8, ?_⟩
    · unfold quoOf; omega
    · rw [cnts]; exact r6
    · rw [fars, List.length_map]; exact r9
theorem orders_len : (ordersOf 3).length ≤ 800 ∧ (ordersOf 4).length ≤ 800 := by
  constructor <;> decide +kernel
/-- the law's plain part, for every script -/
theorem plain_all (sc : List Int) (h : sc.length ≤ 100) : LawPlain sc := by
  rcases wishes_cases sc with ⟨x, y, ⟨x0, x1⟩, ⟨y0, y1⟩, e⟩ | ⟨x, y, z, ⟨x0, x1⟩, ⟨y0, y1⟩, ⟨z0, z1⟩, e⟩
  · have ht : towOf sc = 3 := by unfold towOf; rw [e]; rfl
    obtain ⟨xn, rfl⟩ := Int.eq_ofNat_of_zero_le x0
    obtain ⟨yn, rfl⟩ := Int.eq_ofNat_of_zero_le y0
    have hr := List.all_eq_true.mp (List.all_eq_true.mp roads_3 xn (List.mem_range.mpr (by omega))) yn (List.mem_range.mpr (by omega))
    rw [List.contains_iff_mem] at hr
    refine chk_law sc h _ (by rw [e]) (by rw [e]; simp) (by rw [ht]; exact ordA_3) (by rw [ht]; exact orders_len.1) ?_
    rw [ht]
    exact List.all_eq_true.mp chk_3 _ hr
  · have ht : towOf sc = 4 := by unfold towOf; rw [e]; rfl
    obtain ⟨xn, rfl⟩ := Int.eq_ofNat_of_zero_le x0
    obtain ⟨yn, rfl⟩ := Int.eq_ofNat_of_zero_le y0
    obtain ⟨zn, rfl⟩ := Int.eq_ofNat_of_zero_le z0
    have hr := List.all_eq_true.mp (List.all_eq_true.mp (List.all_eq_true.mp roads_4 xn (List.mem_range.mpr (by omega))) yn (List.mem_range.mpr (by omega))) zn (List.mem_range.mpr (by omega))
    rw [List.contains_iff_mem] at hr
    refine chk_law sc h _ (by rw [e]) (by rw [e]; simp) (by rw [ht]; exact ordA_4) (by rw [ht]; exact orders_len.2) ?_
    rw [ht]
    exact List.all_eq_true.mp chk_4 _ hr
end Mine
namespace Mine
open PySem PySem.Spec PySem.Calls PyProof.Rows PySem.W PyProof.V
noncomputable def ad02 : Ad := ⟨232, 239, 225, 182, 196, 203, 210, 217⟩
noncomputable def hd02 : Hd := ⟨171, 63, 70, 118, 43, 48⟩
noncomputable def la02 : La := ⟨264, 244, 249, 254, 259⟩
noncomputable def tq02 : List (Addr × Str) := [(198, "_digits2int.<locals>.inner"), (191, "_int2digits.<locals>.inner")]
noncomputable def flagsN : List (Int × Str) := [(1, "OPTIMIZED"), (2, "NEWLOCALS"), (4, "VARARGS"), (8, "VARKEYWORDS"), (16, "NESTED"), (32, "GENERATOR"), (64, "NOFREE"), (128, "COROUTINE"), (256, "ITERABLE_COROUTINE"), (512, "ASYNC_GENERATOR")]
noncomputable def tc02 : List (Addr × Addr) := [(202, 198), (195, 191)]
noncomputable def view02 : Program := view PySem.Challenge.pw_uq0023_02 [0, 1, 3, 4, 5, 7, 8, 9, 10, 11, 12, 13, 15, 16, 18, 19, 20, 21, 22, 24, 25, 26, 27, 28]
noncomputable def loose02 : List Str := ["_name_disallowed_re", "_value_disallowed_re", "COMPILER_FLAG_NAMES"]
noncomputable def asks02 : Asks where
  C := 171
  ns := ["_int2digits", "_div2n1n", "_digits2int", "_divmod_pos", "int_divmod", "pretty_flags", "_substitution_cost", "_levenshtein_distance", "_law_roads", "_law_orders", "_law_turned", "_law_key", "law", "COMPILER_FLAG_NAMES", "Headers", "_name_disallowed_re", "_value_disallowed_re", "len", "range", "list", "min", "divmod", "reversed", "hex", "type", "str", "sum"]
  fns := [63, 70, 118, 123, 161, 182, 196, 203, 210, 217, 225, 232, 239, 244, 249, 254, 259, 264]
  codes := [196, 203]
  finds := ["__init__", "_convert_string_type", "get", "keys", "setdefault", "_headers", "__setattr__"]
  pats := [43, 48]
  seqs := [111, 56]
  nums := ["_DIV_LIMIT", "_MOVE_COST", "_CASE_COST", "_MAX_STRING_SIZE"]
  dict := 218
  names := flagsN
  heads := tc02
noncomputable def told02 : Told :=
  ([some (some (.ref 196)), some (some (.ref 182)), some (some (.ref 203)), some (some (.ref 210)), some (some (.ref 217)), some (some (.ref 225)), some (some (.ref 232)), some (some (.ref 239)), some (some (.ref 244)), some (some (.ref 249)), some (some (.ref 254)), some (some (.ref 259)), some (some (.ref 264)), some (some (.ref 218)), some (some (.ref 171)), some (some (.ref 43)), some (some (.ref 48)), some none, some none, some none, some none, some none, some none, some none, some none, some none, some none],
   [fnV (hPar 0) (hBody 0) (hScope 0) (.ref 56), fnV (hPar 1) (hBody 1) (hScope 1) .none, fnV (hPar 8) (hBody 8) (hScope 8) (.ref 111), fnV (hPar 9) (hBody 9) (hScope 9) .none, fnV (hPar 15) (hBody 15) (hScope 15) .none, fnV div2Par div2Body div2Scope .none, fnV i2dPar i2dBody i2dScope .none, fnV d2iPar d2iBody d2iScope .none, fnV dposPar dposBody dposScope .none, fnV idmPar idmBody idmScope .none, fnV pfPar pfBody pfScope .none, fnV subPar subBody subScope .none, fnV levPar levBody levScope .none, fnV roadsPar roadsBody roadsScope .none, fnV ordPar ordBody ordScope .none, fnV turnPar turnBody turnScope .none, fnV keyPar keyBody keyScope .none, fnV lawPar lawBody lawScope .none],
   [some (.ref 195, "_int2digits"), some (.ref 202, "_digits2int")],
   [some (some (.ref 63)), some (some (.ref 70)), some (some (.ref 118)), some (some (.ref 123)), some (some (.ref 161)), some none, some (some (.builtin "object.__setattr__"))],
   [some (.type "function"), some (.type "function"), some (.type "function"), some (.type "function"), some (.type "function"), some (.type "function"), some (.type "function"), some (.type "function"), some (.type "function"), some (.type "function"), some (.type "function"), some (.type "function"), some (.type "function"), some (.type "function"), some (.type "function"), some (.type "function"), some (.type "function"), some (.type "function")],
   [some (true, nameCode), some (true, valueCode)],
   [some [.none], some [.none]],
   [some 4000, some 2, some 1, some 40], some none, [true, true, true, true, true, true, true, true, true])
noncomputable def hook02 : Hook := asking asks02 [2, 3, 171, 170, 63, 62, 70, 69, 118, 117, 123, 122, 161, 160, 182, 181, 196, 195, 203, 202, 210, 209, 217, 216, 218, 225, 224, 232, 231, 239, 238, 244, 243, 249, 248, 254, 253, 259, 258, 264, 263, 43, 42, 48, 47, 111, 56] told02
noncomputable abbrev xt02 (s : Shared) : Bool := xlAt view02 [] s && recOk [] s
theorem leftF02 : ∀ w : World, (openEnds treeTable PySem.Challenge.pw_uq0023_02 (w.withFollow "special-get-raises" false) 3262).map (fun s => (openSeen view02 loose02 (importedModules (PySem.Challenge.pw_uq0023_02).main.body) xt02 true s, hook02.obs s)) = some (openGood view02 loose02, hook02.val (w.withFollow "special-get-raises" false)) := by
  intro w
  unfold openEnds fencedOpening topFrom
  rw [PySem.W.Fast.te14364793385576792824, PySem.W.Fast.te4187177175401517315, PySem.W.Fast.te14082659384304107361, PySem.W.Fast.te10274390034422433532, PySem.W.Fast.te1435165496053646825]
  kernel_rfl
theorem leftT02 : ∀ w : World, (openEnds treeTable PySem.Challenge.pw_uq0023_02 (w.withFollow "special-get-raises" true) 3262).map (fun s => (openSeen view02 loose02 (importedModules (PySem.Challenge.pw_uq0023_02).main.body) xt02 true s, hook02.obs s)) = some (openGood view02 loose02, hook02.val (w.withFollow "special-get-raises" true)) := by
  intro w
  unfold openEnds fencedOpening topFrom
  rw [PySem.W.Fast.te14364793385576792824, PySem.W.Fast.te4187177175401517315, PySem.W.Fast.te14082659384304107361, PySem.W.Fast.te10274390034422433532, PySem.W.Fast.te1435165496053646825]
  kernel_rfl
theorem left02 : LeftO PySem.Challenge.pw_uq0023_02 view02 loose02 xt02 hook02.obs hook02.val 3262 := byRow2 "special-get-raises" leftF02 leftT02
theorem facts02 {prog : Program} {w : World} {h₁ : Heap} {K : Frag} {p : Program} {loose : List Str} {mean : ExcName → Option Value} {mg mb : Str → Option Value} (Bs : Base h₁ K tc02) (T : Top p loose mean mg mb h₁) (e : told asks02 K = told02) : FLaw (wdOf prog w Bs T tq02) ad02 hd02 la02 218 195 191 202 198 111 56 161 123 := by
  have eN := congrArg (fun x : Told => x.1) e
  have eF := congrArg (fun x : Told => x.2.1) e
  have eC := congrArg (fun x : Told => x.2.2.1) e
  have eD := congrArg (fun x : Told => x.2.2.2.1) e
  have eY := congrArg (fun x : Told => x.2.2.2.2.1) e
  have eP := congrArg (fun x : Told => x.2.2.2.2.2.1) e
  have eS := congrArg (fun x : Told => x.2.2.2.2.2.2.1) e
  have eI := congrArg (fun x : Told => x.2.2.2.2.2.2.2.1) e
  have eT : takerIn K asks02.C "_headers" = some none := congrArg (fun x : Told => x.2.2.2.2.2.2.2.2.1) e
  have eB := congrArg (fun x : Told => x.2.2.2.2.2.2.2.2.2) e
  clear e
  have fI2d : FI2d (wdOf prog w Bs T tq02) ad02 195 191 := { still := rfl, fi2d := FnOK.at (at_of eF 6 rfl rfl) rfl rfl rfl (by decide) (by decide), code := codeAt_of (at_of eC 0 rfl rfl), nest := nest0 rfl (by decide) (by decide) (by decide), hid := hid0 rfl, b_len := at_of eN 17 rfl rfl }
  have fD2i : FD2i (wdOf prog w Bs T tq02) ad02 202 198 := { still := rfl, fd2i := FnOK.at (at_of eF 7 rfl rfl) rfl rfl rfl (by decide) (by decide), code := codeAt_of (at_of eC 1 rfl rfl), nest := nest0 rfl (by decide) (by decide) (by decide), b_len := at_of eN 17 rfl rfl }
  have fDiv : FDiv (wdOf prog w Bs T tq02) ad02 195 191 202 198 := { still := rfl, hid := hid0 rfl, toI := fI2d, toD := fD2i, fdiv2 := FnOK.at (at_of eF 5 rfl rfl) rfl rfl rfl (by decide) (by decide), fdpos := FnOK.at (at_of eF 8 rfl rfl) rfl rfl rfl (by decide) (by decide), fidm := FnOK.at (at_of eF 9 rfl rfl) rfl rfl rfl (by decide) (by decide), g_i2d := at_of eN 0 rfl rfl, g_div2 := at_of eN 1 rfl rfl, g_d2i := at_of eN 2 rfl rfl, g_dpos := at_of eN 3 rfl rfl, g_idm := at_of eN 4 rfl rfl, g_lim := int_ex (at_of eI 0 rfl rfl), b_divmod := at_of eN 21 rfl rfl, b_reversed := at_of eN 22 rfl rfl }
  have fLev : FLev (wdOf prog w Bs T tq02) ad02 := { still := rfl, move := int_ex (at_of eI 1 rfl rfl), case_ := int_ex (at_of eI 2 rfl rfl), sub := at_of eN 6 rfl rfl, fsub := FnOK.at (at_of eF 11 rfl rfl) rfl rfl rfl (by decide) (by decide), maxs := int_ex (at_of eI 3 rfl rfl), lev := at_of eN 7 rfl rfl, flev := FnOK.at (at_of eF 12 rfl rfl) rfl rfl rfl (by decide) (by decide), b_len := at_of eN 17 rfl rfl, b_range := at_of eN 18 rfl rfl, b_list := at_of eN 19 rfl rfl, b_min := at_of eN 20 rfl rfl }
  have fPf : FPf (wdOf prog w Bs T tq02) ad02 218 := { still := rfl, flags := at_of eN 13 rfl rfl, tab := tabAt_of (D := flagsN) (at_b eB 6 rfl rfl) (by decide) (by decide), pretty := at_of eN 5 rfl rfl, fpretty := FnOK.at (at_of eF 10 rfl rfl) rfl rfl rfl (by decide) (by decide), b_range := at_of eN 18 rfl rfl, b_hex := at_of eN 23 rfl rfl }
  have fCst : FCst (wdOf prog w Bs T tq02) hd02 := { still := rfl, cls := ⟨at_b eB 1 rfl rfl, at_b eB 2 rfl rfl, at_of eD 5 rfl rfl⟩, cst := HM.at (at_of eF 1 rfl rfl) (at_of eD 1 rfl rfl) (at_of eY 1 rfl rfl) (by decide), fcst := FnOK.at (at_of eF 1 rfl rfl) rfl rfl rfl (by decide) (by decide), b_type := at_of eN 24 rfl rfl, b_str := at_of eN 25 rfl rfl, g_pn := at_of eN 15 rfl rfl, g_pv := at_of eN 16 rfl rfl, patN := PatAt.at (at_of eP 0 rfl rfl), patV := PatAt.at (at_of eP 1 rfl rfl) }
  have fIni : FInit (wdOf prog w Bs T tq02) hd02 56 := { toFCst := fCst, makes := at_b eB 4 rfl rfl, keepC := at_b eB 5 rfl rfl, init := HM.at (at_of eF 0 rfl rfl) (at_of eD 0 rfl rfl) (at_of eY 0 rfl rfl) (by decide), finit := FnOK.at (at_of eF 0 rfl rfl) rfl rfl rfl (by decide) (by decide), dflt0 := seq_ex (at_of eS 1 rfl rfl), set := ⟨at_of eD 6 rfl rfl, at_b eB 3 rfl rfl, eT⟩, b_list := at_of eN 19 rfl rfl }
  have fTab : FTab (wdOf prog w Bs T tq02) hd02 111 161 123 := { toFCst := fCst, get := HM.at (at_of eF 2 rfl rfl) (at_of eD 2 rfl rfl) (at_of eY 2 rfl rfl) (by decide), fget := FnOK.at (at_of eF 2 rfl rfl) rfl rfl rfl (by decide) (by decide), dflt := seq_ex (at_of eS 0 rfl rfl), setd := HM.at (at_of eF 4 rfl rfl) (at_of eD 4 rfl rfl) (at_of eY 4 rfl rfl) (by decide), fsetd := FnOK.at (at_of eF 4 rfl rfl) rfl rfl rfl (by decide) (by decide), keys := HM.at (at_of eF 3 rfl rfl) (at_of eD 3 rfl rfl) (at_of eY 3 rfl rfl) (by decide), fkeys := FnOK.at (at_of eF 3 rfl rfl) rfl rfl rfl (by decide) (by decide) }
  exact { flaw := FnOK.at (at_of eF 17 rfl rfl) rfl rfl rfl (by decide) (by decide), div := fDiv, lev := fLev, tab := fTab, ini := fIni, roads := { still := rfl, froads := FnOK.at (at_of eF 13 rfl rfl) rfl rfl rfl (by decide) (by decide), b_range := at_of eN 18 rfl rfl, b_len := at_of eN 17 rfl rfl }, orders := { still := rfl, ford := FnOK.at (at_of eF 14 rfl rfl) rfl rfl rfl (by decide) (by decide), b_range := at_of eN 18 rfl rfl, b_len := at_of eN 17 rfl rfl }, turned := { still := rfl, fturn := FnOK.at (at_of eF 15 rfl rfl) rfl rfl rfl (by decide) (by decide), b_range := at_of eN 18 rfl rfl, b_len := at_of eN 17 rfl rfl, b_sum := at_of eN 26 rfl rfl }, key := { toFPf := fPf, fkey := FnOK.at (at_of eF 16 rfl rfl) rfl rfl rfl (by decide) (by decide) }, g_roads := at_of eN 8 rfl rfl, g_orders := at_of eN 9 rfl rfl, g_turned := at_of eN 10 rfl rfl, g_key := at_of eN 11 rfl rfl, g_hdr := at_of eN 14 rfl rfl, b_len := at_of eN 17 rfl rfl, b_sum := at_of eN 26 rfl rfl, b_range := at_of eN 18 rfl rfl, b_str := at_of eN 25 rfl rfl }
theorem said02 : PySem.Challenge.rw_uq0023_02.wellSaid = true := by
  rw [PySem.W.Fast.te9446332074065402090]
  kernel_rfl
end Mine
open PySem PySem.W PyProof.Rows PySem.Spec PySem.Calls Mine
set_option maxRecDepth 100000 in
set_option maxHeartbeats 8000000 in
theorem PySem.Challenge.cw_uq0023_02_holds : PySem.Challenge.rw_uq0023_02.Holds := by
  w_on
  refine holds_law said02 fun said => ?_
  refine holds_open (q := view02) (loose := loose02) (Xt := xt02) (XP := XL view02 []) (Yf := hook02.obs) (Ya := hook02.val) (YP := hook02.says) (N := 3262) left02 hook02.of hook02.keeps (fun s e => xl_of s (Bool.and_eq_true_iff.mp e).1) XL.keeps (by rfl) (by rfl) (by rfl) (fun s e => recFacts_of (Bool.and_eq_true_iff.mp e).2) (by rfl) (by first | assumption | decide +kernel) (by decide +kernel) ⟨rfl, rfl, rfl, rfl, rfl, by decide +kernel⟩ ?hw ?hc
  case hw => w_witness2
  intro w s₀ s₁ mg mb G Y fa o pm cd doc dV kV ho hd hcd hD hmg hg args vals as hpre hlay hrd hwl hlo
  obtain ⟨K, KX, KE, KT⟩ := Y
  have eN := congrArg (fun x : Told => x.1) KE
  have eB := congrArg (fun x : Told => x.2.2.2.2.2.2.2.2.2) KE
  have Bs : Base s₁.heap K tc02 := ⟨KX, fun q hq => by
    rcases List.mem_cons.mp hq with rfl | hq
    · exact ⟨codeHd_of_K KX (at_b eB 7 rfl rfl), KT _ (by decide)⟩
    · rw [List.mem_singleton.mp hq]
      exact ⟨codeHd_of_K KX (at_b eB 8 rfl rfl), KT _ (by decide)⟩, at_b eB 0 rfl rfl⟩
  have hfa : fa = 264 := by
    have h1 := mg_of (n := "law") (v := .ref 264) KX G.T.g (at_of eN 12 rfl rfl)
    have h2 : mg "law" = some (.ref fa) := hmg
    rw [h1] at h2; cases h2; rfl
  subst hfa
  have TT := G.T
  clear hd hcd hD ho G hmg eN eB
  wrow_args hpre hlay hrd hwl hlo
  rename_i sc _ _ _ _ _ _ _ sa wsv _ hL _ _ _ hI _ hlen _
  exact good_end (tq := tq02) (Bs := Bs) (T := TT) rfl hg (fun _ => rfl) (by kernel_rfl) (law_fn (facts02 Bs TT KE) sc (giv0 hL hI) (plain_all sc (by omega))) ⟨rfl, by decide, by decide⟩
