import PyProof.Rows.All
import Wide.All
import OpenK.AllK
import Wide.FinOn
import Flt.RightMore
import PySem.Challenge.RW_rw0119_01
set_option Elab.async false

section
set_option autoImplicit false
namespace Mine
open PySem PySem.Calls PyProof.Rows

theorem n3 : ∀ k : Nat, k < 3 → (k = 0 ∨ k = 1 ∨ k = 2) := by decide
theorem n6 : ∀ k : Nat, k < 6 → (k = 0 ∨ k = 1 ∨ k = 2 ∨ k = 3 ∨ k = 4 ∨ k = 5) := by decide
theorem toNat_lt {i : Int} {n : Nat} (h0 : 0 ≤ i) (h : i < n) : i.toNat < n := (Int.toNat_lt h0).mpr h
theorem iLt6 {i : Int} (h0 : 0 ≤ i) (h : i < 6) : i = 0 ∨ i = 1 ∨ i = 2 ∨ i = 3 ∨ i = 4 ∨ i = 5 := by
  have e := Int.toNat_of_nonneg h0
  rcases n6 _ (toNat_lt h0 h) with h | h | h | h | h | h <;> rw [h] at e
  · exact .inl e.symm
  · exact .inr (.inl e.symm)
  · exact .inr (.inr (.inl e.symm))
  · exact .inr (.inr (.inr (.inl e.symm)))
  · exact .inr (.inr (.inr (.inr (.inl e.symm))))
  · exact .inr (.inr (.inr (.inr (.inr e.symm))))

/-- plain data -/
inductive T where
  | none
  | bool (b : Bool)
  | int (i : Int)
  | float (x : UInt64)
  | str (s : Str)
  | tup (l : List T)
  | list (l : List T)
  deriving Inhabited

mutual
/-- the value v means the datum t in the heap h; no list or tuple of it lies at an address of M -/
noncomputable def Den (w : World) (M : List Addr) (h : Heap) : T → Value → Prop
  | .none, v => v = .none
  | .bool b, v => v = .bool b
  | .int i, v => ∃ t, v = .int i t
  | .float x, v => ∃ t, t ≠ 0 ∧ v = .float x t
  | .str s, v => ∃ t, v = .str s t
  | .tup l, v => ∃ a vs, v = .ref a ∧ a ∉ M ∧ h.IsTuple a vs ∧ DenL w M h l vs.toList
  | .list l, v => ∃ a vs, v = .ref a ∧ a ∉ M ∧ h.PlainList a vs ∧ DenL w M h l vs.toList
noncomputable def DenL (w : World) (M : List Addr) (h : Heap) : List T → List Value → Prop
  | [], vs => vs = []
  | t :: ts, vs => ∃ v r, vs = v :: r ∧ Den w M h t v ∧ DenL w M h ts r
end

/-- as Den, but the top's own address may lie in M -/
noncomputable def DenB (w : World) (M : List Addr) (h : Heap) : T → Value → Prop
  | .list l, v => ∃ a vs, v = .ref a ∧ h.PlainList a vs ∧ DenL w M h l vs.toList
  | t, v => Den w M h t v

theorem Heap.isTuple_keep {h h' : Heap} {a : Addr} {vs : Array Value} (x : h.IsTuple a vs) (k : ∀ o, h.get? a = some o → h'.get? a = some o) : h'.IsTuple a vs :=
  let ⟨o, e, r⟩ := x; ⟨o, k o e, r⟩

mutual
theorem Den.mono {w : World} {M M' : List Addr} {h h' : Heap} (hM : ∀ a, a ∉ M → a ∉ M') (hk : ∀ b o, b ∉ M → h.get? b = some o → h'.get? b = some o) :
    ∀ (t : T) (v : Value), Den w M h t v → Den w M' h' t v
  | .none, v, x => by simpa [Den] using x
  | .bool b, v, x => by simpa [Den] using x
  | .int i, v, x => by simpa [Den] using x
  | .float i, v, x => by simpa [Den] using x
  | .str i, v, x => by simpa [Den] using x
  | .tup l, v, x => by
    simp only [Den] at x ⊢
    obtain ⟨a, vs, h1, h2, h3, h4⟩ := x
    exact ⟨a, vs, h1, hM a h2, Heap.isTuple_keep h3 (fun o => hk a o h2), DenL.mono hM hk l _ h4⟩
  | .list l, v, x => by
    simp only [Den] at x ⊢
    obtain ⟨a, vs, h1, h2, h3, h4⟩ := x
    exact ⟨a, vs, h1, hM a h2, h3.at (fun o => hk a o h2), DenL.mono hM hk l _ h4⟩
theorem DenL.mono {w : World} {M M' : List Addr} {h h' : Heap} (hM : ∀ a, a ∉ M → a ∉ M') (hk : ∀ b o, b ∉ M → h.get? b = some o → h'.get? b = some o) :
    ∀ (ts : List T) (vs : List Value), DenL w M h ts vs → DenL w M' h' ts vs
  | [], vs, x => by simpa [DenL] using x
  | t :: ts, vs, x => by
    simp only [DenL] at x ⊢
    obtain ⟨v, r, h1, h2, h3⟩ := x
    exact ⟨v, r, h1, Den.mono hM hk t v h2, DenL.mono hM hk ts r h3⟩
end

theorem Den.keep {w : World} {M : List Addr} {h h' : Heap} {t : T} {v : Value} (x : Den w M h t v) (hk : ∀ b o, h.get? b = some o → h'.get? b = some o) : Den w M h' t v :=
  Den.mono (fun _ e => e) (fun b o _ e => hk b o e) t v x
theorem DenL.keep {w : World} {M : List Addr} {h h' : Heap} {ts : List T} {vs : List Value} (x : DenL w M h ts vs) (hk : ∀ b o, h.get? b = some o → h'.get? b = some o) : DenL w M h' ts vs :=
  DenL.mono (fun _ e => e) (fun b o _ e => hk b o e) ts vs x
theorem DenB.keep {w : World} {M : List Addr} {h h' : Heap} {t : T} {v : Value} (x : DenB w M h t v) (hk : ∀ b o, h.get? b = some o → h'.get? b = some o) : DenB w M h' t v := by
  cases t <;> try exact Den.keep x hk
  case list l =>
    obtain ⟨a, vs, h1, h2, h3⟩ := x
    exact ⟨a, vs, h1, h2.at (fun o => hk a o), h3.keep hk⟩
theorem Den.borrow {w : World} {M : List Addr} {h : Heap} {t : T} {v : Value} (x : Den w M h t v) : DenB w M h t v := by
  cases t <;> try exact x
  case list l =>
    simp only [Den] at x
    obtain ⟨a, vs, h1, _, h2, h3⟩ := x
    exact ⟨a, vs, h1, h2, h3⟩

theorem DenL.length {w : World} {M : List Addr} {h : Heap} : ∀ {ts : List T} {vs : List Value}, DenL w M h ts vs → ts.length = vs.length
  | [], vs, x => by simp only [DenL] at x; subst x; rfl
  | t :: ts, vs, x => by
    simp only [DenL] at x
    obtain ⟨v, r, rfl, _, h3⟩ := x
    simp [DenL.length h3]
theorem DenL.nil {w : World} {M : List Addr} {h : Heap} : DenL w M h [] [] := by simp [DenL]
theorem DenL.cons {w : World} {M : List Addr} {h : Heap} {t : T} {ts : List T} {v : Value} {vs : List Value} (x : Den w M h t v) (y : DenL w M h ts vs) : DenL w M h (t :: ts) (v :: vs) := by
  simp only [DenL]; exact ⟨v, vs, rfl, x, y⟩
theorem DenL.app {w : World} {M : List Addr} {h : Heap} : ∀ {ts : List T} {vs : List Value} {ts' : List T} {vs' : List Value}, DenL w M h ts vs → DenL w M h ts' vs' → DenL w M h (ts ++ ts') (vs ++ vs')
  | [], vs, _, _, x, y => by simp only [DenL] at x; subst x; exact y
  | t :: ts, vs, _, _, x, y => by
    simp only [DenL] at x
    obtain ⟨v, r, rfl, h2, h3⟩ := x
    exact DenL.cons h2 (DenL.app h3 y)
theorem DenL.get {w : World} {M : List Addr} {h : Heap} : ∀ {ts : List T} {vs : List Value} {i : Nat} {t : T}, DenL w M h ts vs → ts[i]? = some t → ∃ v, vs[i]? = some v ∧ Den w M h t v
  | [], vs, i, t, x, e => by simp at e
  | t :: ts, vs, 0, t', x, e => by
    simp only [DenL] at x
    obtain ⟨v, r, rfl, h2, h3⟩ := x
    simp at e; subst e
    exact ⟨v, rfl, h2⟩
  | t :: ts, vs, i + 1, t', x, e => by
    simp only [DenL] at x
    obtain ⟨v, r, rfl, h2, h3⟩ := x
    simpa using DenL.get (i := i) h3 (by simpa using e)
theorem DenL.take {w : World} {M : List Addr} {h : Heap} : ∀ {ts : List T} {vs : List Value} (n : Nat), DenL w M h ts vs → DenL w M h (ts.take n) (vs.take n)
  | [], vs, n, x => by simp only [DenL] at x; subst x; simp [DenL]
  | t :: ts, vs, 0, x => by simp [DenL]
  | t :: ts, vs, n + 1, x => by
    simp only [DenL] at x
    obtain ⟨v, r, rfl, h2, h3⟩ := x
    exact DenL.cons h2 (DenL.take n h3)
theorem DenL.drop {w : World} {M : List Addr} {h : Heap} : ∀ {ts : List T} {vs : List Value} (n : Nat), DenL w M h ts vs → DenL w M h (ts.drop n) (vs.drop n)
  | [], vs, n, x => by simp only [DenL] at x; subst x; simp [DenL]
  | t :: ts, vs, 0, x => by simpa using x
  | t :: ts, vs, n + 1, x => by
    simp only [DenL] at x
    obtain ⟨v, r, rfl, h2, h3⟩ := x
    simpa using DenL.drop n h3
theorem DenL.set {w : World} {M : List Addr} {h : Heap} : ∀ {ts : List T} {vs : List Value} (n : Nat) {t : T} {v : Value}, DenL w M h ts vs → Den w M h t v → DenL w M h (ts.set n t) (vs.set n v)
  | [], vs, n, _, _, x, _ => by simp only [DenL] at x; subst x; simp [DenL]
  | t :: ts, vs, 0, _, _, x, y => by
    simp only [DenL] at x
    obtain ⟨v, r, rfl, h2, h3⟩ := x
    exact DenL.cons y h3
  | t :: ts, vs, n + 1, _, _, x, y => by
    simp only [DenL] at x
    obtain ⟨v, r, rfl, h2, h3⟩ := x
    exact DenL.cons h2 (DenL.set n h3 y)

/-- as it was, but for what lies at an address of N -/
structure Chg (N : List Addr) (s s' : Shared) : Prop where
  heap : ∀ b o, b ∉ N → s.heap.get? b = some o → s'.heap.get? b = some o
  size : s.heap.objs.size ≤ s'.heap.objs.size
  gens : ∀ (i : Nat) (x : GenState), s.gens[i]? = some x → s'.gens[i]? = some x
  bare : AllBare s.gens → AllBare s'.gens
  os : s'.os = s.os
  toks : s.toks ≤ s'.toks

/-- what stood stands -/
noncomputable abbrev Ext (s s' : Shared) : Prop := Chg [] s s'

theorem Chg.all {s s' : Shared} (x : Ext s s') : ∀ b o, s.heap.get? b = some o → s'.heap.get? b = some o := fun b o e => x.heap b o (by simp) e
theorem Chg.refl {N : List Addr} (s : Shared) : Chg N s s := ⟨fun _ _ _ e => e, Nat.le_refl _, fun _ _ e => e, id, rfl, Nat.le_refl _⟩
theorem Chg.mono {N N' : List Addr} {s s' : Shared} (x : Chg N s s') (h : ∀ a ∈ N, a ∈ N' ∨ s.heap.objs.size ≤ a) : Chg N' s s' :=
  ⟨fun b o hb e => x.heap b o (fun m => (h b m).elim hb fun q => absurd (Heap.lt_size e) (Nat.not_lt.mpr q)) e, x.size, x.gens, x.bare, x.os, x.toks⟩
theorem Chg.trans {N N' : List Addr} {s s' s'' : Shared} (x : Chg N s s') (y : Chg N' s' s'') (h : ∀ a ∈ N', a ∈ N ∨ s.heap.objs.size ≤ a) : Chg N s s'' :=
  ⟨fun b o hb e => y.heap b o (fun m => (h b m).elim hb fun q => absurd (Heap.lt_size e) (Nat.not_lt.mpr q)) (x.heap b o hb e), Nat.le_trans x.size y.size,
    fun i g e => y.gens i g (x.gens i g e), fun b => y.bare (x.bare b), y.os.trans x.os, Nat.le_trans x.toks y.toks⟩
theorem Ext.trans {s s' s'' : Shared} (x : Ext s s') (y : Ext s' s'') : Ext s s'' := Chg.trans x y (by simp)
theorem Ext.chg {s s' : Shared} {N : List Addr} (x : Ext s s') : Chg N s s' := x.mono (by simp)
theorem Ext.tok (s : Shared) : Ext s { s with toks := s.toks + 1 } := ⟨fun _ _ _ e => e, Nat.le_refl _, fun _ _ e => e, id, rfl, Nat.le_succ _⟩
theorem Ext.toks {s : Shared} {n : Nat} (h : s.toks ≤ n) : Ext s { s with toks := n } := ⟨fun _ _ _ e => e, Nat.le_refl _, fun _ _ e => e, id, rfl, h⟩
theorem Ext.of_heap {s : Shared} {h' : Heap} {n : Nat} (hk : ∀ b o, s.heap.get? b = some o → h'.get? b = some o) (hs : s.heap.objs.size ≤ h'.objs.size) (hn : s.toks ≤ n) : Ext s { s with heap := h', toks := n } :=
  ⟨fun b o _ e => hk b o e, hs, fun _ _ e => e, id, rfl, hn⟩
theorem Ext.push (s : Shared) (o : Obj) : Ext s { s with heap := s.heap.push o } :=
  ⟨fun _ _ _ e => Heap.get?_push_of_some _ e, by rw [Heap.size_push]; lia, fun _ _ e => e, id, rfl, Nat.le_refl _⟩

mutual
theorem Den.more {w : World} {M M' : List Addr} {h : Heap} (hM : ∀ a, a ∉ M → a < h.objs.size → a ∉ M') : ∀ (t : T) (v : Value), Den w M h t v → Den w M' h t v
  | .none, v, x => by simpa [Den] using x
  | .bool b, v, x => by simpa [Den] using x
  | .int i, v, x => by simpa [Den] using x
  | .float i, v, x => by simpa [Den] using x
  | .str i, v, x => by simpa [Den] using x
  | .tup l, v, x => by
    simp only [Den] at x ⊢
    obtain ⟨a, vs, h1, h2, h3, h4⟩ := x
    exact ⟨a, vs, h1, hM a h2 (let ⟨_, e, _⟩ := h3; Heap.lt_size e), h3, DenL.more hM l _ h4⟩
  | .list l, v, x => by
    simp only [Den] at x ⊢
    obtain ⟨a, vs, h1, h2, h3, h4⟩ := x
    exact ⟨a, vs, h1, hM a h2 (let ⟨_, e⟩ := h3; Heap.lt_size e), h3, DenL.more hM l _ h4⟩
theorem DenL.more {w : World} {M M' : List Addr} {h : Heap} (hM : ∀ a, a ∉ M → a < h.objs.size → a ∉ M') : ∀ (ts : List T) (vs : List Value), DenL w M h ts vs → DenL w M' h ts vs
  | [], vs, x => by simpa [DenL] using x
  | t :: ts, vs, x => by
    simp only [DenL] at x ⊢
    obtain ⟨v, r, h1, h2, h3⟩ := x
    exact ⟨v, r, h1, Den.more hM t v h2, DenL.more hM ts r h3⟩
end


theorem DenL.newer {w : World} {M : List Addr} {h : Heap} {ts : List T} {vs : List Value} {a : Addr} (x : DenL w M h ts vs) (ha : h.objs.size ≤ a) : DenL w (a :: M) h ts vs :=
  DenL.more (fun b hb hl hm => by
    rcases List.mem_cons.mp hm with rfl | hm
    · exact absurd hl (Nat.not_lt.mpr ha)
    · exact hb hm) ts vs x
theorem DenL.less {w : World} {M : List Addr} {h : Heap} {ts : List T} {vs : List Value} {a : Addr} (x : DenL w (a :: M) h ts vs) : DenL w M h ts vs :=
  DenL.mono (fun b hb hm => hb (List.mem_cons_of_mem _ hm)) (fun _ _ _ e => e) ts vs x
end Mine
end

section
set_option autoImplicit false
namespace Mine
open PySem PySem.Calls PyProof.Rows

theorem size_upd (h : Heap) (a : Addr) (f : Obj → Obj) : (h.update a f).objs.size = h.objs.size := by cases h; simp [Heap.update]

theorem runs_size {M : Model} {Γ : Ctx} {p : Pos} {t : Sem Fin} {fs : List Frame} {s s' : Shared} {e : End} (h : Runs M Γ p t fs s e s') : s.heap.objs.size ≤ s'.heap.objs.size := by
  induction h <;> (try simp only [Shared.setGen, Heap.size_push, size_upd] at *) <;> lia

theorem returns_size {M : Model} {Γ : Ctx} {p : Pos} {s s' : Shared} {r : Result} (h : Returns M Γ p s r s') : s.heap.objs.size ≤ s'.heap.objs.size := runs_size h

theorem wakes_size {M : Model} {Γ : Ctx} {p : Pos} {g : Nat} {r : Resume} {s s' : Shared} {res : GenResult} (h : Wakes M Γ p g r s res s') : s.heap.objs.size ≤ s'.heap.objs.size := by
  unfold Wakes at h
  split at h
  · exact h.elim
  · split at h
    · obtain ⟨e₁, s₁, hr, _, _, rfl⟩ := h; exact (runs_size hr : (s.setGen g .running).heap.objs.size ≤ s₁.heap.objs.size)
    · rw [h.2]; exact Nat.le_refl _
    · rw [h.2]; exact Nat.le_refl _
  · obtain ⟨e₁, s₁, hr, _, _, rfl⟩ := h; exact (runs_size hr : (s.setGen g .running).heap.objs.size ≤ s₁.heap.objs.size)
  · rw [h.2]; exact Nat.le_refl _
  · rw [h.2]; exact Nat.le_refl _

theorem wp_size {α : Type} (M : Model) (Γ : Ctx) (n : Nat) (t : Sem α) : ∀ (Q : α → Pos → Shared → Prop) (E : Value → Pos → Shared → Prop) (p : Pos) (s : Shared), n ≤ s.heap.objs.size → Sem.wp M Γ t Q E p s →
    Sem.wp M Γ t (fun a p' s' => n ≤ s'.heap.objs.size ∧ Q a p' s') (fun e p' s' => n ≤ s'.heap.objs.size ∧ E e p' s') p s := by
  induction t with
  | pure a => intro Q E p s hn h; exact ⟨hn, h⟩
  | raise e => intro Q E p s hn h; exact ⟨hn, h⟩
  | unsupported _ => intro Q E p s _ h; exact h
  | finish _ => intro Q E p s _ h; exact h
  | rule _ k ih => intro Q E p s hn h; exact ih () Q E p s hn h
  | «at» p' k ih => intro Q E p s hn h; exact ih () Q E p' s hn h
  | load a _ k ih => intro Q E p s hn h; obtain ⟨o, ho, h⟩ := h; exact ⟨o, ho, ih o Q E p s hn h⟩
  | update a _ f k ih => intro Q E p s hn h; exact ⟨h.1, ih () Q E p _ (by rw [size_upd]; exact hn) h.2⟩
  | loadIfAlive a k ih => intro Q E p s hn h; exact ih _ Q E p s hn h
  | point _ k ih => intro Q E p s hn h; exact ih () Q E p s hn h
  | register _ _ => intro Q E p s _ h; exact h
  | alloc o k ih => intro Q E p s hn h; exact ih _ Q E p _ (by rw [Heap.size_push]; lia) h
  | fresh k ih => intro Q E p s hn h; exact ih _ Q E p _ hn h
  | ask k ih => intro Q E p s hn h; exact ih _ Q E p s hn h
  | choose src m k ih => intro Q E p s hn h; exact ⟨h.1, ih _ Q E p _ hn h.2⟩
  | os q _ k ih => intro Q E p s hn h; exact ih _ Q E p _ hn h
  | call c hd _ _ k ih => intro Q E p s hn h; obtain ⟨r, s', hr, h⟩ := h; exact ⟨r, s', hr, ih r Q E p s' (Nat.le_trans hn (returns_size hr)) h⟩
  | handled own k ih => intro Q E p s hn h; exact ih _ Q E p s hn h
  | genState g k ih => intro Q E p s hn h; obtain ⟨st, hs, h⟩ := h; exact ⟨st, hs, ih _ Q E p s hn h⟩
  | newGen c k ih => intro Q E p s hn h; exact ih _ Q E p _ hn h
  | resume g r _ k ih => intro Q E p s hn h; obtain ⟨res, s', hw, h⟩ := h; exact ⟨res, s', hw, ih res Q E p s' (Nat.le_trans hn (wakes_size hw)) h⟩
  | yield _ _ _ _ => intro Q E p s _ h; exact h
  | stack k ih => intro Q E p s hn h; exact ih _ Q E p s hn h
  | fork _ _ => intro Q E p s _ h; exact h
  | thread k ih => intro Q E p s hn h; exact ih _ Q E p s hn h
  | await _ _ _ _ _ => intro Q E p s _ h; exact h

theorem wpAny_size_of {α : Type} {M : Model} {A : Around} {s : Shared} {t : Sem α} {Q : α → Shared → Prop} {E : Value → Shared → Prop} {n : Nat} (hn : n ≤ s.heap.objs.size) (h : wpAny M A t Q E s) :
    wpAny M A t (fun a s' => n ≤ s'.heap.objs.size ∧ Q a s') (fun e s' => n ≤ s'.heap.objs.size ∧ E e s') s :=
  fun Γ p hΓ => wp_size M Γ n t _ _ p s hn (h Γ p hΓ)

/-- what a rule's end may take for granted: sizes and tokens have grown -/
theorem wp_grow {α : Type} {M : Model} {A : Around} {s : Shared} {t : Sem α} {Q : α → Shared → Prop} {E : Value → Shared → Prop}
    (h : wpAny M A t (fun a s' => s.heap.objs.size ≤ s'.heap.objs.size → s.toks ≤ s'.toks → Q a s') E s) : wpAny M A t Q E s :=
  wpAny_mono (wpAny_size_of (Nat.le_refl _) (wpAny_toks_of (Nat.le_refl _) h)) (fun _ _ x => x.2.2 x.1 x.2.1) fun _ _ x => x.2.2
end Mine
end

section
set_option autoImplicit false
namespace Mine
open PySem PySem.Calls PyProof.Rows

/-- what a judgement is said of: the text, the world, the heap at the law's call, the block's names, the names whose cells are the block's own -/
structure Cx where
  prog : Program
  w : World
  H : Heap
  ns : List (Str × NameKind)
  cel : List Str

noncomputable def Room (A : Around) (k : Nat) : Prop := A.handled = none ∧ A.depth + k < 800 ∧ A.units + 8 * k < 9000
inductive Var where
  | sh (t : T)
  | own (l : List T)
  deriving Inhabited

noncomputable abbrev Rho := List (Str × Var)

structure Bas (c : Cx) (s : Shared) : Prop where
  heap : ∀ b o, c.H.get? b = some o → s.heap.get? b = some o
  size : c.H.objs.size ≤ s.heap.objs.size
  toks : 0 < s.toks
  lim : ∃ m, c.H.Ns cStatics m ∧ m "sys.recursionlimit" = none ∧ m sharingNotToldKey = none

theorem Bas.keep {c : Cx} {s s' : Shared} {N : List Addr} (B : Bas c s) (x : Chg N s s') (h : ∀ a ∈ N, c.H.objs.size ≤ a) : Bas c s' :=
  ⟨fun b o e => x.heap b o (fun m => absurd (Heap.lt_size e) (Nat.not_lt.mpr (h b m))) (B.heap b o e), Nat.le_trans B.size x.size, Nat.lt_of_lt_of_le B.toks x.toks, B.lim⟩
theorem Bas.ext {c : Cx} {s s' : Shared} (B : Bas c s) (x : Ext s s') : Bas c s' := B.keep x (by simp)

noncomputable def ownCells (c : Cx) (env : Env) : List Addr := (env.cells.filter fun p => c.cel.contains p.1).map (·.2)
/-- what the block may change -/
noncomputable def nOf (c : Cx) (env : Env) (O : List (Str × Addr)) : List Addr := env.locals :: (ownCells c env ++ O.map (·.2))

theorem mem_ownCells {c : Cx} {env : Env} {x : Str} {a : Addr} (h : (x, a) ∈ env.cells) (hc : c.cel.contains x = true) : a ∈ ownCells c env :=
  List.mem_map.mpr ⟨(x, a), List.mem_filter.mpr ⟨h, hc⟩, rfl⟩

noncomputable def Loads (env : Env) (h : Heap) (x : Str) (v : Value) : Prop :=
  (env.kindOf x = some .local ∧ ∃ m, h.Ns env.locals m ∧ m x = some v) ∨
  ((env.kindOf x = some .cell ∨ env.kindOf x = some .free) ∧ ∃ c, env.cells.lookup x = some c ∧ h.IsCell c (some v))

noncomputable def VDen (w : World) (M : List Addr) (O : List (Str × Addr)) (h : Heap) (x : Str) : Var → Value → Prop
  | .sh t, v => Den w M h t v
  | .own l, v => ∃ a vs, v = .ref a ∧ O.lookup x = some a ∧ h.PlainList a vs ∧ DenL w M h l vs.toList

/-- the frame of env holds what ρ says -/
structure Rel (c : Cx) (env : Env) (M₀ : List Addr) (O : List (Str × Addr)) (ρ : Rho) (s : Shared) : Prop where
  bas : Bas c s
  names : env.scope.names = c.ns
  kind : env.scope.kind = .function
  glob : env.globals = mainGlobals
  blt : env.builtins = builtinsNs
  nd : (nOf c env O).Nodup
  hi : ∀ a ∈ nOf c env O ++ M₀, c.H.objs.size ≤ a ∧ a < s.heap.objs.size
  dis : ∀ a ∈ nOf c env O, a ∉ M₀
  loc : ∃ m, s.heap.Ns env.locals m
  cells : ∀ x a, (x, a) ∈ env.cells → (∃ v, s.heap.IsCell a v) ∧ (c.cel.contains x = true ∨ a ∈ M₀)
  call : ∀ x, (c.ns.lookup x = some .cell ∨ c.ns.lookup x = some .free) → ∃ a, env.cells.lookup x = some a
  vars : ∀ x u, ρ.lookup x = some u → ∃ v, Loads env s.heap x v ∧ VDen c.w (nOf c env O ++ M₀) O s.heap x u v

noncomputable abbrev NoE : Value → Shared → Prop := fun _ _ => False

structure Ev (c : Cx) (n : Nat) (ρ : Rho) (e : Expr) (t : T) : Prop where
  run : ∀ A s env M₀ O, Room A n → Rel c env M₀ O ρ s → wpAny (model c.prog c.w) A (eval e env) (fun v s' => Ext s s' ∧ Den c.w (nOf c env O ++ M₀) s'.heap t v) NoE s
/-- as Ev, or a list of the block's own, borrowed -/
structure EvB (c : Cx) (n : Nat) (ρ : Rho) (e : Expr) (t : T) : Prop where
  run : ∀ A s env M₀ O, Room A n → Rel c env M₀ O ρ s → wpAny (model c.prog c.w) A (eval e env) (fun v s' => Ext s s' ∧ DenB c.w (nOf c env O ++ M₀) s'.heap t v) NoE s
/-- a list that is new -/
structure EvN (c : Cx) (n : Nat) (ρ : Rho) (e : Expr) (l : List T) : Prop where
  run : ∀ A s env M₀ O, Room A n → Rel c env M₀ O ρ s → wpAny (model c.prog c.w) A (eval e env)
    (fun v s' => Ext s s' ∧ ∃ a vs, v = .ref a ∧ s.heap.objs.size ≤ a ∧ s'.heap.PlainList a vs ∧ DenL c.w (a :: (nOf c env O ++ M₀)) s'.heap l vs.toList) NoE s
structure EvT (c : Cx) (n : Nat) (ρ : Rho) (e : Expr) (b : Bool) : Prop where
  run : ∀ A s env M₀ O, Room A n → Rel c env M₀ O ρ s → wpAny (model c.prog c.w) A (isTrue e env (eval e env)) (fun r s' => Ext s s' ∧ r = b) NoE s

theorem wpAny_imp {α : Type} {M : Model} {A : Around} {t : Sem α} {Q Q' : α → Shared → Prop} {E : Value → Shared → Prop} {s : Shared} (h : wpAny M A t Q E s)
    (hQ : ∀ a s, Q a s → Q' a s) : wpAny M A t Q' E s := wpAny_mono h hQ fun _ _ e => e
theorem wpAny_no {α : Type} {M : Model} {A : Around} {t : Sem α} {Q : α → Shared → Prop} {E : Value → Shared → Prop} {s : Shared} (h : wpAny M A t Q NoE s) : wpAny M A t Q E s :=
  wpAny_mono h (fun _ _ q => q) fun _ _ e => e.elim

theorem Loads.keep {env : Env} {h h' : Heap} {x : Str} {v : Value} (l : Loads env h x v) (hk : ∀ b o, h.get? b = some o → h'.get? b = some o) : Loads env h' x v := by
  rcases l with ⟨a, m, hn, hm⟩ | ⟨a, c, hc, hv⟩
  · exact .inl ⟨a, m, hn.keeps hk, hm⟩
  · exact .inr ⟨a, c, hc, hv.keeps hk⟩

theorem VDen.mono {w : World} {M M' : List Addr} {O O' : List (Str × Addr)} {h h' : Heap} {x : Str} {u : Var} {v : Value} (d : VDen w M O h x u v) (hM : ∀ a, a ∉ M → a ∉ M')
    (hk : ∀ b o, b ∉ M → h.get? b = some o → h'.get? b = some o) (ho : ∀ a, O.lookup x = some a → O'.lookup x = some a ∧ ∀ o, h.get? a = some o → h'.get? a = some o) : VDen w M' O' h' x u v := by
  cases u with
  | sh t => exact Den.mono hM hk t v d
  | own l =>
    obtain ⟨a, vs, h1, h2, h3, h4⟩ := d
    exact ⟨a, vs, h1, (ho a h2).1, h3.at (ho a h2).2, DenL.mono hM hk l _ h4⟩
theorem VDen.keep {w : World} {M : List Addr} {O : List (Str × Addr)} {h h' : Heap} {x : Str} {u : Var} {v : Value} (d : VDen w M O h x u v) (hk : ∀ b o, h.get? b = some o → h'.get? b = some o) : VDen w M O h' x u v :=
  d.mono (fun _ e => e) (fun b o _ e => hk b o e) fun a e => ⟨e, fun o => hk a o⟩

theorem Rel.ext {c : Cx} {env : Env} {M₀ : List Addr} {O : List (Str × Addr)} {ρ : Rho} {s s' : Shared} (R : Rel c env M₀ O ρ s) (x : Ext s s') : Rel c env M₀ O ρ s' where
  bas := R.bas.ext x
  names := R.names
  kind := R.kind
  glob := R.glob
  blt := R.blt
  nd := R.nd
  hi := fun a ha => ⟨(R.hi a ha).1, Nat.lt_of_lt_of_le (R.hi a ha).2 x.size⟩
  dis := R.dis
  loc := let ⟨m, hm⟩ := R.loc; ⟨m, hm.keeps x.all⟩
  cells := fun y a e => let ⟨⟨v, hv⟩, h2⟩ := R.cells y a e; ⟨⟨v, hv.keeps x.all⟩, h2⟩
  call := R.call
  vars := fun y u e => let ⟨v, h1, h2⟩ := R.vars y u e; ⟨v, h1.keep x.all, h2.keep x.all⟩
theorem Rel.kindOf {c : Cx} {env : Env} {M₀ : List Addr} {O : List (Str × Addr)} {ρ : Rho} {s : Shared} (R : Rel c env M₀ O ρ s) (x : Str) : env.kindOf x = c.ns.lookup x := by
  unfold Env.kindOf; rw [R.names]
theorem Rel.lt {c : Cx} {env : Env} {M₀ : List Addr} {O : List (Str × Addr)} {ρ : Rho} {s : Shared} (R : Rel c env M₀ O ρ s) : ∀ x ∈ nOf c env O ++ M₀, x < s.heap.objs.size := fun x hx => (R.hi x hx).2
theorem Rel.new {c : Cx} {env : Env} {M₀ : List Addr} {O : List (Str × Addr)} {ρ : Rho} {s : Shared} (R : Rel c env M₀ O ρ s) {a : Addr} (h : s.heap.objs.size ≤ a) : a ∉ nOf c env O ++ M₀ :=
  fun hm => absurd (R.lt a hm) (Nat.not_lt.mpr h)

section
variable {c : Cx} {n : Nat} {ρ : Rho} {e : Expr} {t : T} {l : List T} {bb : Bool} {A : Around} {s : Shared} {env : Env} {M₀ : List Addr} {O : List (Str × Addr)}
theorem Ev.b (h : Ev c n ρ e t) : EvB c n ρ e t := .mk fun A s env M₀ N r R => wpAny_imp (h.run A s env M₀ N r R) fun _ _ x => ⟨x.1, x.2.borrow⟩
theorem EvN.ev (h : EvN c n ρ e l) : Ev c n ρ e (.list l) := .mk fun A s env M₀ O r R =>
  wpAny_imp (h.run A s env M₀ O r R) fun v s' ⟨x, a, vs, h1, h2, h3, h4⟩ => ⟨x, by
    simp only [Den]
    exact ⟨a, vs, h1, R.new h2, h3, h4.less⟩⟩
/-- sequencing: eval e, then go on with what it means -/
theorem Ev.go (h : Ev c n ρ e t) (r : Room A n) (R : Rel c env M₀ O ρ s)
    {Q : Value → Shared → Prop} (k : ∀ v s', Ext s s' → Rel c env M₀ O ρ s' → Den c.w (nOf c env O ++ M₀) s'.heap t v → Q v s') : wpAny (model c.prog c.w) A (eval e env) Q NoE s :=
  wpAny_imp (h.run A s env M₀ O r R) fun v s' x => k v s' x.1 (R.ext x.1) x.2
theorem EvB.go (h : EvB c n ρ e t) (r : Room A n) (R : Rel c env M₀ O ρ s)
    {Q : Value → Shared → Prop} (k : ∀ v s', Ext s s' → Rel c env M₀ O ρ s' → DenB c.w (nOf c env O ++ M₀) s'.heap t v → Q v s') : wpAny (model c.prog c.w) A (eval e env) Q NoE s :=
  wpAny_imp (h.run A s env M₀ O r R) fun v s' x => k v s' x.1 (R.ext x.1) x.2
theorem EvT.go (h : EvT c n ρ e bb) (r : Room A n) (R : Rel c env M₀ O ρ s)
    {Q : Bool → Shared → Prop} (k : ∀ s', Ext s s' → Rel c env M₀ O ρ s' → Q bb s') : wpAny (model c.prog c.w) A (isTrue e env (eval e env)) Q NoE s :=
  wpAny_imp (h.run A s env M₀ O r R) fun v s' x => by rw [x.2]; exact k s' x.1 (R.ext x.1)
end

/-! constants and names -/
section
variable {c : Cx} {n : Nat} {ρ : Rho}

theorem Ev.cint {i : Int} {k : Nat} {pos : Pos} : Ev c n ρ (.Constant (.int i) k pos) (.int i) := .mk fun _ _ _ _ _ _ _ => fun _ _ _ => ⟨Ext.tok _, by simp [Den]⟩
theorem Ev.cfloat {x : UInt64} {k : Nat} {pos : Pos} : Ev c n ρ (.Constant (.float x) k pos) (.float x) := .mk fun _ _ _ _ _ _ R => fun _ _ _ => ⟨Ext.tok _, by simp [Den]; exact Nat.ne_of_gt R.bas.toks⟩
theorem Ev.cstr {x : Str} {k : Nat} {pos : Pos} : Ev c n ρ (.Constant (.str x) k pos) (.str x) := .mk fun _ _ _ _ _ _ _ => fun _ _ _ => ⟨Ext.tok _, by simp [Den]⟩
theorem Ev.cbool {b : Bool} {k : Nat} {pos : Pos} : Ev c n ρ (.Constant (.bool b) k pos) (.bool b) := .mk fun _ _ _ _ _ _ _ => fun _ _ _ => ⟨Chg.refl _, by simp [Den]⟩
theorem Ev.cnone {k : Nat} {pos : Pos} : Ev c n ρ (.Constant .none k pos) .none := .mk fun _ _ _ _ _ _ _ => fun _ _ _ => ⟨Chg.refl _, by simp [Den]⟩

theorem wp_loads {A : Around} {env : Env} {M₀ : List Addr} {O : List (Str × Addr)} {s : Shared} {x : Str} {v : Value} {Q : Value → Shared → Prop} (R : Rel c env M₀ O ρ s) (l : Loads env s.heap x v) (h : Q v s)
    (hx : (x == ("__classdict__" : Str)) = false) : wpAny (model c.prog c.w) A (loadName env x) Q NoE s := by
  rcases l with ⟨a, m, hn, hm⟩ | ⟨a | a, q, hc, hv⟩
  · exact wpAny_loadName_local R.kind a hn hm h
  · exact wpAny_loadName_cell R.kind a hc hv h
  · exact wpAny_loadName_free R.kind a hc hv h hx

noncomputable def nameOk (x : Str) : Bool := !(x == ("__debug__" : Str)) && !(x == ("__classdict__" : Str))

theorem Ev.name {x : Str} {pos : Pos} {t : T} (h : ρ.lookup x = some (.sh t)) (hx : nameOk x = true) : Ev c n ρ (.Name x pos) t := .mk fun A s env M₀ O r R => by
  unfold nameOk at hx
  simp only [Bool.and_eq_true, Bool.not_eq_true'] at hx
  obtain ⟨v, h1, h2⟩ := R.vars x _ h
  exact wpAny_Name (wp_loads R h1 ⟨Chg.refl _, h2⟩ hx.2) hx.1
theorem EvB.own {x : Str} {pos : Pos} {l : List T} (h : ρ.lookup x = some (.own l)) (hx : nameOk x = true) : EvB c n ρ (.Name x pos) (.list l) := .mk fun A s env M₀ O r R => by
  unfold nameOk at hx
  simp only [Bool.and_eq_true, Bool.not_eq_true'] at hx
  obtain ⟨v, h1, a, vs, e, _, h3, h4⟩ := R.vars x _ h
  exact wpAny_Name (wp_loads R h1 ⟨Chg.refl _, a, vs, e, h3, h4⟩ hx.2) hx.1

/-- a name of the top or of the built-ins -/
noncomputable def GV (c : Cx) (x : Str) (v : Value) : Prop :=
  (∃ m, c.H.Ns mainGlobals m ∧ m x = some v) ∨ ((∃ m, c.H.Ns mainGlobals m ∧ m x = none) ∧ ∃ m, c.H.Ns builtinsNs m ∧ m x = some v)

theorem wp_global {A : Around} {env : Env} {M₀ : List Addr} {O : List (Str × Addr)} {s : Shared} {x : Str} {v : Value} {Q : Value → Shared → Prop} (R : Rel c env M₀ O ρ s) (hk : c.ns.lookup x = some .globalImplicit) (g : GV c x v) (h : Q v s) :
    wpAny (model c.prog c.w) A (loadName env x) Q NoE s := by
  have hk' : env.kindOf x = some .globalImplicit := (R.kindOf x).trans hk
  unfold loadName
  simp only [Env.blockKind, R.kind, hk', ScopeKind.isAnnotationScope, Bool.false_and, Bool.false_eq_true, if_false]
  unfold loadGlobal
  rcases g with ⟨m, hm, e⟩ | ⟨⟨m, hm, e⟩, m', hm', e'⟩
  · refine wpAny_bind (wpAny_nsGet (by rw [R.glob]; exact hm.keeps R.bas.heap) ?_)
    rw [e]; exact wpAny_pure h
  · refine wpAny_bind (wpAny_nsGet (by rw [R.glob]; exact hm.keeps R.bas.heap) ?_)
    rw [e]
    refine wpAny_bind (wpAny_nsGet (by rw [R.blt]; exact hm'.keeps R.bas.heap) ?_)
    rw [e']; exact wpAny_pure h
theorem wp_gname {A : Around} {env : Env} {M₀ : List Addr} {O : List (Str × Addr)} {s : Shared} {x : Str} {pos : Pos} {v : Value} {Q : Value → Shared → Prop} (R : Rel c env M₀ O ρ s) (hk : c.ns.lookup x = some .globalImplicit) (g : GV c x v) (h : Q v s)
    (hx : nameOk x = true) : wpAny (model c.prog c.w) A (eval (.Name x pos) env) Q NoE s := by
  unfold nameOk at hx
  simp only [Bool.and_eq_true, Bool.not_eq_true'] at hx
  exact wpAny_Name (wp_global R hk g h) hx.1
/-- a float of the top -/
theorem Ev.gfloat {x : Str} {pos : Pos} {f : UInt64} {u : Tok} (hk : c.ns.lookup x = some .globalImplicit) (g : GV c x (.float f u)) (hu : u ≠ 0) (hx : nameOk x = true) : Ev c n ρ (.Name x pos) (.float f) := .mk fun A s env M₀ O r R =>
  wp_gname R hk g ⟨Chg.refl _, by simp [Den, hu]⟩ hx
end
noncomputable def intOf (e : Expr) : Option Int := match e with
  | .Constant v _ _ => (match v with | .int i => some i | _ => none)
  | _ => none
noncomputable def litInts : List Expr → Option (List Int)
  | [] => some []
  | e :: r => match intOf e with
    | some i => (litInts r).map (i :: ·)
    | none => none
theorem intOf_some {e : Expr} {i : Int} (h : intOf e = some i) : ∃ p q, e = .Constant (.int i) p q := by
  unfold intOf at h
  split at h
  · split at h <;> cases h
    exact ⟨_, _, rfl⟩
  · cases h
theorem litInts_cons {e : Expr} {r : List Expr} {ns : List Int} (h : litInts (e :: r) = some ns) : ∃ i p q ms, e = .Constant (.int i) p q ∧ litInts r = some ms ∧ ns = i :: ms := by
  have h' : (match intOf e with | some i => (litInts r).map (i :: ·) | none => none) = some ns := h
  cases hi : intOf e with
  | none => rw [hi] at h'; cases h'
  | some i =>
    rw [hi] at h'
    clear h
    obtain ⟨p, q, rfl⟩ := intOf_some hi
    cases hr : litInts r with
    | none => rw [hr] at h'; cases h'
    | some ms => rw [hr] at h'; cases h'; exact ⟨i, p, q, ms, rfl, rfl, rfl⟩
end Mine
end

section
set_option autoImplicit false
set_option linter.unusedVariables false
set_option linter.unusedSimpArgs false
namespace Mine
open PySem PySem.Calls PyProof.Rows

section
variable {w : World} {M : List Addr} {h : Heap} {v : Value}
theorem DenB.int {i : Int} (x : DenB w M h (.int i) v) : ∃ t, v = .int i t := by simpa [DenB, Den] using x
theorem DenB.float {i : UInt64} (x : DenB w M h (.float i) v) : ∃ t, t ≠ 0 ∧ v = .float i t := by simpa [DenB, Den] using x
theorem DenB.str {i : Str} (x : DenB w M h (.str i) v) : ∃ t, v = .str i t := by simpa [DenB, Den] using x
theorem DenB.bool {i : Bool} (x : DenB w M h (.bool i) v) : v = .bool i := by simpa [DenB, Den] using x
theorem DenB.none (x : DenB w M h .none v) : v = .none := by simpa [DenB, Den] using x
theorem DenB.list {l : List T} (x : DenB w M h (.list l) v) : ∃ a vs, v = .ref a ∧ h.PlainList a vs ∧ DenL w M h l vs.toList := x
theorem DenB.tup {l : List T} (x : DenB w M h (.tup l) v) : ∃ a vs, v = .ref a ∧ a ∉ M ∧ h.IsTuple a vs ∧ DenL w M h l vs.toList := by simpa only [DenB, Den] using x
theorem Den.of_int {i : Int} {t : Tok} : Den w M h (.int i) (.int i t) := by simp [Den]
theorem Den.of_float {i : UInt64} {t : Tok} (ht : t ≠ 0) : Den w M h (.float i) (.float i t) := by simp [Den, ht]
theorem Den.of_str {i : Str} {t : Tok} : Den w M h (.str i) (.str i t) := by simp [Den]
theorem Den.of_bool {i : Bool} : Den w M h (.bool i) (.bool i) := by simp [Den]
theorem Den.of_none : Den w M h .none .none := by simp [Den]
theorem Den.of_list {l : List T} {a : Addr} {vs : Array Value} (h1 : a ∉ M) (h2 : h.PlainList a vs) (h3 : DenL w M h l vs.toList) : Den w M h (.list l) (.ref a) := by
  simp only [Den]; exact ⟨a, vs, rfl, h1, h2, h3⟩
theorem Den.of_tup {l : List T} {a : Addr} {vs : Array Value} (h1 : a ∉ M) (h2 : h.IsTuple a vs) (h3 : DenL w M h l vs.toList) : Den w M h (.tup l) (.ref a) := by
  simp only [Den]; exact ⟨a, vs, rfl, h1, h2, h3⟩
end

/-! two operands -/
noncomputable def BinOk (c : Cx) (op : Operator) (a b t : T) : Prop := ∀ (A : Around) (s : Shared) (M : List Addr) (v v' : Value), Bas c s → (∀ x ∈ M, x < s.heap.objs.size) →
  DenB c.w M s.heap a v → DenB c.w M s.heap b v' → wpAny (model c.prog c.w) A (binaryOp op v v') (fun r s' => Ext s s' ∧ Den c.w M s'.heap t r) NoE s
noncomputable def InOk (c : Cx) (op : Operator) (a b t : T) : Prop := ∀ (A : Around) (s : Shared) (M : List Addr) (v v' : Value), Bas c s → (∀ x ∈ M, x < s.heap.objs.size) →
  DenB c.w M s.heap a v → DenB c.w M s.heap b v' → wpAny (model c.prog c.w) A (inplaceOp op v v') (fun r s' => Ext s s' ∧ Den c.w M s'.heap t r) NoE s

theorem mulOk_small {x : Str} {n : Int} (h1 : x.length ≤ 1000) (h2 : n ≤ 1000) (h3 : -1000 ≤ n) : MulOk x n := by
  refine ⟨?_, fun hn _ => ?_, fun hn _ => ?_⟩
  · simp only [Bool.or_eq_false_iff, decide_eq_false_iff_not]
    lia
  · have hn' : (1 : Int) ≤ n := by lia
    have h5 : (1000 : Int) * n ≤ 2 ^ 63 - 1 := by lia
    have : (1000 : Int) ≤ (2 ^ 63 - 1) / n := (Int.le_ediv_iff_mul_le (by lia)).mpr h5
    lia
  · have : x.length * n.toNat ≤ 1000 * 1000 := Nat.mul_le_mul h1 (by lia)
    exact decide_eq_false (Nat.not_lt.mpr (Nat.le_trans this (by decide)))

section
variable {c : Cx} {a b : Int} {x y : UInt64} {p q : Str}
theorem BinOk.add_int : BinOk c .Add (.int a) (.int b) (.int (a + b)) := fun A s M v v' B _ x y => by
  obtain ⟨t, rfl⟩ := x.int; obtain ⟨u, rfl⟩ := y.int
  exact PyProof.Rows.add_int ⟨Ext.tok _, .of_int⟩
theorem BinOk.sub_int : BinOk c .Sub (.int a) (.int b) (.int (a - b)) := fun A s M v v' B _ x y => by
  obtain ⟨t, rfl⟩ := x.int; obtain ⟨u, rfl⟩ := y.int
  exact PyProof.Rows.sub_int ⟨Ext.tok _, .of_int⟩
theorem BinOk.mul_int (h : a.natAbs < 2 ^ 64) : BinOk c .Mult (.int a) (.int b) (.int (a * b)) := fun A s M v v' B _ x y => by
  obtain ⟨t, rfl⟩ := x.int; obtain ⟨u, rfl⟩ := y.int
  exact PyProof.Rows.mul_int ⟨Ext.tok _, .of_int⟩ (.of_left (intBits_le h))
theorem BinOk.fdiv_int (h : b ≠ 0) (h' : b.natAbs < 1073741824) : BinOk c .FloorDiv (.int a) (.int b) (.int (a.fdiv b)) := fun A s M v v' B _ x y => by
  obtain ⟨t, rfl⟩ := x.int; obtain ⟨u, rfl⟩ := y.int
  exact PyProof.Rows.floordiv_int h ⟨Ext.tok _, .of_int⟩ (.inl (PyProof.noPylong_small h'))
theorem BinOk.div_int (h : 0 < b) (h' : b < 1073741824) : BinOk c .FloorDiv (.int a) (.int b) (.int (a / b)) := by
  have e : a / b = a.fdiv b := (Int.fdiv_eq_ediv_of_nonneg a (by lia)).symm
  rw [e]; exact BinOk.fdiv_int (by lia) (by lia)
theorem BinOk.fmod_int (h : b ≠ 0) : BinOk c .Mod (.int a) (.int b) (.int (a.fmod b)) := fun A s M v v' B _ x y => by
  obtain ⟨t, rfl⟩ := x.int; obtain ⟨u, rfl⟩ := y.int
  exact PyProof.Rows.mod_int h ⟨Ext.tok _, .of_int⟩
theorem BinOk.mod_int (h : 0 < b) : BinOk c .Mod (.int a) (.int b) (.int (a % b)) := by
  have e : a % b = a.fmod b := (Int.fmod_eq_emod_of_nonneg a (by lia)).symm
  rw [e]; exact BinOk.fmod_int (by lia)
theorem BinOk.pow_int (h : 0 ≤ b) (h1 : b ≤ 1000000) (h2 : a.natAbs < 2 ^ 64) : BinOk c .Pow (.int a) (.int b) (.int (a ^ b.toNat)) := fun A s M v v' B _ x y => by
  obtain ⟨t, rfl⟩ := x.int; obtain ⟨u, rfl⟩ := y.int
  exact pow_int_small h h1 h2 ⟨Ext.tok _, .of_int⟩
/-- int / int as a float -/
noncomputable def fdivI (a b : Int) : UInt64 := Float64.ofFrac (decide (a < 0) != decide (b < 0)) a.natAbs b.natAbs
theorem BinOk.tdiv_int (h : b ≠ 0) (h1 : Float64.isInf (fdivI a b) = false) : BinOk c .Div (.int a) (.int b) (.float (fdivI a b)) := fun A s M v v' B _ x y => by
  obtain ⟨t, rfl⟩ := x.int; obtain ⟨u, rfl⟩ := y.int
  exact AutoIntOps.truediv_2 (by simpa using h) (by unfold fdivI at h1; rw [h1]; simp) ⟨Ext.tok _, .of_float (Nat.ne_of_gt B.toks)⟩
theorem BinOk.add_ff : BinOk c .Add (.float x) (.float y) (.float (Float64.add x y)) := fun A s M v v' B _ x y => by
  obtain ⟨t, _, rfl⟩ := x.float; obtain ⟨u, _, rfl⟩ := y.float
  exact add_float ⟨Ext.tok _, .of_float (Nat.ne_of_gt B.toks)⟩
theorem BinOk.sub_ff : BinOk c .Sub (.float x) (.float y) (.float (Float64.sub x y)) := fun A s M v v' B _ x y => by
  obtain ⟨t, _, rfl⟩ := x.float; obtain ⟨u, _, rfl⟩ := y.float
  exact sub_float ⟨Ext.tok _, .of_float (Nat.ne_of_gt B.toks)⟩
theorem BinOk.mul_ff : BinOk c .Mult (.float x) (.float y) (.float (Float64.mul x y)) := fun A s M v v' B _ x y => by
  obtain ⟨t, _, rfl⟩ := x.float; obtain ⟨u, _, rfl⟩ := y.float
  exact mul_float ⟨Ext.tok _, .of_float (Nat.ne_of_gt B.toks)⟩
theorem BinOk.div_ff (h : Float64.isZero y = false) : BinOk c .Div (.float x) (.float y) (.float (Float64.div x y)) := fun A s M v v' B _ x y => by
  obtain ⟨t, _, rfl⟩ := x.float; obtain ⟨u, _, rfl⟩ := y.float
  exact AutoFloatOps.truediv_1 (by rw [h]; simp) ⟨Ext.tok _, .of_float (Nat.ne_of_gt B.toks)⟩
theorem BinOk.mod_ff (h : Float64.isZero y = false) : BinOk c .Mod (.float x) (.float y) (.float (Float64.divmod x y).2) := fun A s M v v' B _ x y => by
  obtain ⟨t, _, rfl⟩ := x.float; obtain ⟨u, _, rfl⟩ := y.float
  exact AutoFloatOps.mod_1 (by rw [h]; simp) ⟨Ext.tok _, .of_float (Nat.ne_of_gt B.toks)⟩
theorem BinOk.sub_fi (h : b.natAbs < 2 ^ 1023) : BinOk c .Sub (.float x) (.int b) (.float (Float64.sub x (Float64.ofInt b))) := fun A s M v v' B _ x y => by
  obtain ⟨t, _, rfl⟩ := x.float; obtain ⟨u, rfl⟩ := y.int
  exact sub_fi_fits h ⟨Ext.tok _, .of_float (Nat.ne_of_gt B.toks)⟩
theorem BinOk.mul_fi (h : b.natAbs < 2 ^ 1023) : BinOk c .Mult (.float x) (.int b) (.float (Float64.mul x (Float64.ofInt b))) := fun A s M v v' B _ x y => by
  obtain ⟨t, _, rfl⟩ := x.float; obtain ⟨u, rfl⟩ := y.int
  exact mul_fi_fits h ⟨Ext.tok _, .of_float (Nat.ne_of_gt B.toks)⟩
theorem BinOk.add_str (h : p.length + q.length ≤ sizeLine) : BinOk c .Add (.str p) (.str q) (.str (p ++ q)) := fun A s M v v' B _ x y => by
  obtain ⟨t, rfl⟩ := x.str; obtain ⟨u, rfl⟩ := y.str
  exact wpAny_with_toks (Nat.le_refl s.toks) (SB.add (fun _ _ q => ⟨Ext.toks q, .of_str⟩) h)
theorem BinOk.mul_str (h : p.length ≤ 1000) (h1 : b ≤ 1000) (h2 : -1000 ≤ b) : BinOk c .Mult (.str p) (.int b) (.str (Txt.mul p b)) := fun A s M v v' B _ x y => by
  obtain ⟨t, rfl⟩ := x.str; obtain ⟨u, rfl⟩ := y.int
  exact wpAny_with_toks (Nat.le_refl s.toks) (SB.mul (mulOk_small h h1 h2) fun _ _ q => ⟨Ext.toks q, .of_str⟩)
theorem InOk.add_int : InOk c .Add (.int a) (.int b) (.int (a + b)) := fun A s M v v' B _ x y => by
  obtain ⟨t, rfl⟩ := x.int; obtain ⟨u, rfl⟩ := y.int
  exact PyProof.Rows.iadd_int ⟨Ext.tok _, .of_int⟩
theorem InOk.sub_int : InOk c .Sub (.int a) (.int b) (.int (a - b)) := fun A s M v v' B _ x y => by
  obtain ⟨t, rfl⟩ := x.int; obtain ⟨u, rfl⟩ := y.int
  exact PyProof.Rows.isub_int ⟨Ext.tok _, .of_int⟩
end

section
variable {c : Cx} {n : Nat} {ρ : Rho}
theorem Ev.bin {l r : Expr} {op : Operator} {pos : Pos} {a b t : T} (hl : EvB c n ρ l a) (hr : EvB c n ρ r b) (h : BinOk c op a b t) : Ev c n ρ (.BinOp l op r pos) t := .mk fun A s env M₀ O rm R =>
  wpAny_BinOp (hl.go rm R fun v s₁ x₁ R₁ d₁ => hr.go rm R₁ fun v' s₂ x₂ R₂ d₂ =>
    wpAny_imp (h A s₂ _ v v' R₂.bas R₂.lt (d₁.keep x₂.all) d₂) fun r s₃ y => ⟨Ext.trans x₁ (Ext.trans x₂ y.1), y.2⟩)

/-! lists joined and repeated: new lists -/
theorem EvN.add {l r : Expr} {pos : Pos} {a b : List T} (hl : EvB c n ρ l (.list a)) (hr : EvB c n ρ r (.list b)) (hz : a.length + b.length ≤ sizeLine) : EvN c n ρ (.BinOp l .Add r pos) (a ++ b) := .mk fun A s env M₀ O rm R =>
  wpAny_BinOp (hl.go rm R fun v s₁ x₁ R₁ d₁ => hr.go rm R₁ fun v' s₂ x₂ R₂ d₂ => by
    obtain ⟨l, vs, rfl, ⟨n, ho⟩, hd⟩ := (d₁.keep x₂.all).list
    obtain ⟨b, ws, rfl, ⟨n2, ho2⟩, hd2⟩ := d₂.list
    refine concat_meets ⟨_, ho, rfl⟩ ⟨_, ho2, rfl⟩ noFill_list_add seq_list_add PySem.F.slot_list_add PySem.F.entry_list_add (PySem.F.args_list_add_2 _ _) (list_addW l b vs ws n n2 _ _ _ _ (by
      have := hd.length; have := hd2.length; simp at *; lia)) ⟨ho, ho2, ?_⟩
    have xe : Ext s₂ { s₂ with heap := s₂.heap.push { cls := Value.type "list", data := Data.seq (vs ++ ws) }, toks := s₂.toks } :=
      Ext.of_heap (fun _ _ e => Heap.get?_push_of_some _ e) (by rw [Heap.size_push]; lia) (Nat.le_refl _)
    refine ⟨Ext.trans x₁ (Ext.trans x₂ xe), s₂.heap.objs.size, vs ++ ws, rfl, Nat.le_trans x₁.size x₂.size, ⟨0, Heap.get?_push_size _ rfl⟩, ?_⟩
    rw [Array.toList_append]
    exact ((hd.app hd2).newer (Nat.le_refl _)).keep xe.all)

theorem DenL.rep {w : World} {M : List Addr} {h : Heap} {t : T} {v : Value} (x : Den w M h t v) : ∀ n, DenL w M h (List.replicate n t) (List.replicate n v)
  | 0 => DenL.nil
  | n + 1 => DenL.cons x (DenL.rep x n)

/-- [x] * n -/
theorem EvN.mul1 {l r : Expr} {pos : Pos} {a : T} {i : Int} (hl : EvB c n ρ l (.list [a])) (hr : EvB c n ρ r (.int i)) (hz : i ≤ 100000) (h0 : -100000 ≤ i) : EvN c n ρ (.BinOp l .Mult r pos) (List.replicate i.toNat a) := .mk fun A s env M₀ O rm R =>
  wpAny_BinOp (hl.go rm R fun v s₁ x₁ R₁ d₁ => hr.go rm R₁ fun v' s₂ x₂ R₂ d₂ => by
    obtain ⟨l, vs, rfl, ⟨k, ho⟩, hd⟩ := (d₁.keep x₂.all).list
    obtain ⟨u, rfl⟩ := d₂.int
    simp only [DenL] at hd
    obtain ⟨v, r, e, hd, rfl⟩ := hd
    obtain rfl : vs = #[v] := by cases vs; simpa using e
    refine wpAny_binaryOp_repeat_ref (T := "list") (U := "int") (by decide) ⟨_, ho, rfl⟩ (fun s' => typeIs_int s' i u) noFill_list_mul PySem.F.fills_int_mul PySem.F.slot_int_rmul repeat_list PySem.F.slot_int_index.lookup
      (call_meets PySem.F.slot_int_rmul (typeIs_int _ i u) PySem.F.entry_int_rmul (PySem.F.args_int_rmul_2 _ _) (int___rmul___int_list i u l #[v] k)
        ⟨ho, rfl, ⟨_, ho, rfl⟩, call_meets PySem.F.slot_list_mul ⟨_, ho, rfl⟩ PySem.F.entry_list_mul (PySem.F.args_list_mul_2 _ _)
          (AutoListH.list___mul___list_int_3 l #[v] k i u (by simp [Builtin.List.listFitsIndex]; lia) (by simp; lia) (by simp [Builtin.List.listTooLong, sizeLine]; lia))
          ⟨ho, ?_⟩⟩)
    have xe : Ext s₂ { s₂ with heap := s₂.heap.push { cls := Value.type "list", data := Data.seq (List.foldl (fun x1 x2 => x1 ++ x2) #[] (List.replicate (if (#[v] : Array Value).isEmpty = true then 0 else i.toNat) #[v])) }, toks := s₂.toks } :=
      Ext.of_heap (fun _ _ e => Heap.get?_push_of_some _ e) (by rw [Heap.size_push]; lia) (Nat.le_refl _)
    refine ⟨Ext.trans x₁ (Ext.trans x₂ xe), s₂.heap.objs.size, _, rfl, Nat.le_trans x₁.size x₂.size, ⟨0, Heap.get?_push_size _ rfl⟩, ?_⟩
    have e : (List.foldl (fun x1 x2 => x1 ++ x2) #[] (List.replicate (if (#[v] : Array Value).isEmpty = true then 0 else i.toNat) #[v])).toList = List.replicate i.toNat v := by
      have : ∀ (k : Nat) (acc : Array Value), (List.foldl (fun x1 x2 => x1 ++ x2) acc (List.replicate k #[v])).toList = acc.toList ++ List.replicate k v := by
        intro k
        induction k with
        | zero => intro acc; simp
        | succ k ih => intro acc; rw [List.replicate_succ, List.foldl_cons, ih]; simp [List.replicate_succ]
      simpa using this i.toNat #[]
    rw [e]
    exact ((DenL.rep hd _).newer (Nat.le_refl _)).keep xe.all)
end
end Mine
end

section
set_option autoImplicit false
set_option linter.unusedVariables false
set_option linter.unusedSimpArgs false
namespace Mine
open PySem PySem.Calls PyProof.Rows PySem.SeqAt

/-! equality -/
noncomputable def eqAll (f : T → T → Option Bool) : List T → List T → Option Bool
  | [], [] => some true
  | x :: xs, y :: ys => match f x y, eqAll f xs ys with
    | some a, some b => some (a && b)
    | _, _ => none
  | _, _ => none
noncomputable def eqF (x y : UInt64) : Bool := Float64.cmp x y == some .eq
noncomputable def eqFI (x : UInt64) (n : Int) : Bool := Float64.cmpInt x n == some .eq

/-- data without parts -/
noncomputable def eqA (t t' : T) : Option Bool := match t with
  | .int a => (match t' with | .int b => some (a == b) | _ => none)
  | .str a => (match t' with | .str b => some (a == b) | _ => none)
  | _ => none
noncomputable def eqv : Nat → T → T → Option Bool
  | 0, t, t' => eqA t t'
  | d + 1, t, t' => match t with
    | .list a => (match t' with | .list b => if a.length == b.length then eqAll (eqv d) a b else some false | _ => none)
    | .tup a => (match t' with | .tup b => if a.length == b.length then eqAll (eqv d) a b else none | _ => none)
    | t => eqA t t'

theorem PlainList_fn {h : Heap} {a : Addr} {vs ws : Array Value} (x : h.PlainList a vs) (y : h.PlainList a ws) : vs = ws := by
  obtain ⟨n, hn⟩ := x; obtain ⟨m, hm⟩ := y
  rw [hn] at hm; injection hm with hm; injection hm with _ _ hm; injection hm
theorem IsTuple_fn {h : Heap} {a : Addr} {vs ws : Array Value} (x : h.IsTuple a vs) (y : h.IsTuple a ws) : vs = ws := by
  obtain ⟨o, e, _, n, hn⟩ := x; obtain ⟨o', e', _, m, hm⟩ := y
  rw [e] at e'; cases e'; rw [hn] at hm; injection hm

theorem eqAll_cons {f : T → T → Option Bool} {x y : T} {xs ys : List T} {r : Bool} (h : eqAll f (x :: xs) (y :: ys) = some r) : ∃ p q, f x y = some p ∧ eqAll f xs ys = some q ∧ r = (p && q) := by
  simp only [eqAll] at h
  cases h1 : f x y with
  | none => simp [h1] at h
  | some p =>
    cases h2 : eqAll f xs ys with
    | none => simp [h1, h2] at h
    | some q => simp only [h1, h2, Option.some.injEq] at h; exact ⟨p, q, rfl, rfl, h.symm⟩

section
variable {w : World} {M M' : List Addr} {h : Heap}
theorem eqAll_same {f : T → T → Option Bool} (hf : ∀ t t' b v, f t t' = some b → Den w M h t v → Den w M' h t' v → b = true) :
    ∀ (a b : List T) (vs : List Value) (r : Bool), eqAll f a b = some r → DenL w M h a vs → DenL w M' h b vs → r = true
  | [], [], _, _, e, _, _ => by simp [eqAll] at e; exact e
  | [], _ :: _, _, _, e, _, _ => by simp [eqAll] at e
  | _ :: _, [], _, _, e, _, _ => by simp [eqAll] at e
  | x :: xs, y :: ys, vs, r, e, d, d' => by
    obtain ⟨p, q, h1, h2, rfl⟩ := eqAll_cons e
    simp only [DenL] at d d'
    obtain ⟨v, s, rfl, k1, k2⟩ := d
    obtain ⟨v', s', e', k1', k2'⟩ := d'
    cases e'
    rw [hf _ _ _ _ h1 k1 k1', eqAll_same hf _ _ _ _ h2 k2 k2']; rfl

theorem eqA_same {t t' : T} {b : Bool} {v : Value} (e : eqA t t' = some b) (x : DenB w M h t v) (y : DenB w M' h t' v) : b = true := by
  cases t <;> try cases e
  case int =>
    obtain ⟨t, rfl⟩ := x.int
    cases t' <;> cases e
    obtain ⟨u, e⟩ := y.int; cases e; exact beq_self_eq_true _
  case str =>
    obtain ⟨t, rfl⟩ := x.str
    cases t' <;> cases e
    obtain ⟨u, e⟩ := y.str; cases e; exact beq_self_eq_true _
theorem eqv_same : ∀ (d : Nat) (t t' : T) (b : Bool) (v : Value), eqv d t t' = some b → DenB w M h t v → DenB w M' h t' v → b = true := by
  intro d
  induction d with
  | zero => exact fun t t' b v e x y => eqA_same e x y
  | succ d ih =>
    intro t t' b v e x y
    cases t
    case list l =>
      cases t' <;> try cases e
      rename_i l'
      have e : (if l.length == l'.length then eqAll (eqv d) l l' else some false) = some b := e
      obtain ⟨a, vs, rfl, h1, h2⟩ := x.list
      obtain ⟨a', ws, e', h1', h2'⟩ := y.list
      cases e'
      cases PlainList_fn h1 h1'
      rw [if_pos (by rw [h2.length, h2'.length]; exact beq_self_eq_true _)] at e
      exact eqAll_same (fun t t' b v e x y => ih t t' b v e x.borrow y.borrow) _ _ _ _ e h2 h2'
    case tup l =>
      cases t' <;> try cases e
      rename_i l'
      have e : (if l.length == l'.length then eqAll (eqv d) l l' else none) = some b := e
      obtain ⟨a, vs, rfl, _, h1, h2⟩ := x.tup
      obtain ⟨a', ws, e', _, h1', h2'⟩ := y.tup
      cases e'
      cases IsTuple_fn h1 h1'
      rw [if_pos (by rw [h2.length, h2'.length]; exact beq_self_eq_true _)] at e
      exact eqAll_same (fun t t' b v e x y => ih t t' b v e x.borrow y.borrow) _ _ _ _ e h2 h2'
    all_goals exact (eqA_same (b := b) · x y) e
end

theorem eqAll_at {f : T → T → Option Bool} {w : World} {M M' : List Addr} {s : Shared} {A : Around}
    (hf : ∀ t t' b v v', f t t' = some b → Den w M s.heap t v → Den w M' s.heap t' v' → EqAt A s v v' b) :
    ∀ (a b : List T) (vs ws : List Value) (r : Bool), eqAll f a b = some r → DenL w M s.heap a vs → DenL w M' s.heap b ws →
      ∃ e : Nat → Bool, (∀ j (h1 : j < vs.length) (h2 : j < ws.length), EqAt A s vs[j] ws[j] (e j)) ∧ (List.range vs.length).all e = r
  | [], [], vs, ws, _, e, d, d' => by
    simp [eqAll] at e; subst e
    simp only [DenL] at d d'; subst d d'
    exact ⟨fun _ => true, fun j h1 => absurd h1 (Nat.not_lt_zero _), rfl⟩
  | [], _ :: _, _, _, _, e, _, _ => by simp [eqAll] at e
  | _ :: _, [], _, _, _, e, _, _ => by simp [eqAll] at e
  | x :: xs, y :: ys, vs, ws, r, e, d, d' => by
    obtain ⟨p, q, h1, h2, rfl⟩ := eqAll_cons e
    simp only [DenL] at d d'
    obtain ⟨v, s, rfl, k1, k2⟩ := d
    obtain ⟨v', s', rfl, k1', k2'⟩ := d'
    obtain ⟨e, g1, g2⟩ := eqAll_at hf xs ys s s' q h2 k2 k2'
    refine ⟨fun j => match j with | 0 => p | j + 1 => e j, fun j h1 h2 => ?_, ?_⟩
    · cases j with
      | zero => exact hf _ _ _ _ _ ‹_› k1 k1'
      | succ j => exact g1 j (Nat.lt_of_succ_lt_succ h1) (Nat.lt_of_succ_lt_succ h2)
    · rw [List.length_cons, List.range_succ_eq_map, List.all_cons, List.all_map]
      show (p && (List.range s.length).all e) = _
      rw [g2]

section
variable {c : Cx} {s : Shared} {M M' : List Addr}
theorem eqA_at (B : Bas c s) {t t' : T} {b : Bool} {A : Around} {v v' : Value} (e : eqA t t' = some b) (x : DenB c.w M s.heap t v) (y : DenB c.w M' s.heap t' v') : EqAt A s v v' b := by
  cases t <;> try cases e
  case int =>
    obtain ⟨t, rfl⟩ := x.int
    cases t' <;> cases e
    obtain ⟨u, rfl⟩ := y.int; exact EqAt.int_int _ _ _ _
  case str =>
    obtain ⟨t, rfl⟩ := x.str
    cases t' <;> cases e
    obtain ⟨u, rfl⟩ := y.str; exact EqAt.str_str _ _ _ _
theorem lists_len {w : World} {M M' : List Addr} {h : Heap} {l l' : List T} {vs ws : Array Value} (x : DenL w M h l vs.toList) (y : DenL w M' h l' ws.toList) : (l.length == l'.length) = (vs.size == ws.size) := by
  rw [x.length, y.length, Array.length_toList, Array.length_toList]
theorem eqv_at (B : Bas c s) : ∀ (d : Nat) (t t' : T) (b : Bool) (A : Around) (v v' : Value), eqv d t t' = some b → A.units + d < cLine → DenB c.w M s.heap t v → DenB c.w M' s.heap t' v' → EqAt A s v v' b := by
  intro d
  induction d with
  | zero => exact fun t t' b A v v' e _ x y => eqA_at B e x y
  | succ d ih =>
    intro t t' b A v v' e hu x y
    have hu' : A.units < cLine := by lia
    have hu2 : A.in1.units + d < cLine := by simp; lia
    cases t
    case list l =>
      cases t' <;> try cases e
      case list l' =>
        by_cases hv : v = v'
        · subst hv
          have := eqv_same (d + 1) (.list l) (.list l') b v e x y
          subst this; exact EqAt.same _
        · have e : (if l.length == l'.length then eqAll (eqv d) l l' else some false) = some b := e
          obtain ⟨a, vs, rfl, h1, h2⟩ := x.list
          obtain ⟨a', ws, rfl, h1', h2'⟩ := y.list
          have hne : a ≠ a' := fun h => hv (by rw [h])
          have hll := lists_len h2 h2'
          split at e
          · rename_i hl
            obtain ⟨f, g1, g2⟩ := eqAll_at (A := A.in1) (fun t t' b v v' e x y => ih t t' b A.in1 v v' e hu2 x.borrow y.borrow) _ _ _ _ _ e h2 h2'
            have := RcAt.lists (A := A) (e := f) h1.isList h1'.isList (beq_iff_eq.mp (hll.symm.trans hl)) hu' fun j j1 j2 => by
              have := g1 j (by simpa using j1) (by simpa using j2)
              simpa using this
            rw [show (List.range vs.size).all f = b by simpa using g2] at this
            exact EqAt.of_refs hne this
          · rename_i hl
            cases e
            have hsz : (vs.size != ws.size) = true := by unfold bne; rw [← hll]; simpa using hl
            exact EqAt.of_refs hne (RcAt.lists_lengths h1.isList h1'.isList hsz hu')
    case tup l =>
      cases t' <;> try cases e
      rename_i l'
      by_cases hv : v = v'
      · subst hv
        have := eqv_same (d + 1) (.tup l) (.tup l') b v e x y
        subst this; exact EqAt.same _
      · have e : (if l.length == l'.length then eqAll (eqv d) l l' else none) = some b := e
        obtain ⟨a, vs, rfl, _, h1, h2⟩ := x.tup
        obtain ⟨a', ws, rfl, _, h1', h2'⟩ := y.tup
        have hne : a ≠ a' := fun h => hv (by rw [h])
        have hll := lists_len h2 h2'
        split at e <;> try cases e
        rename_i hl
        obtain ⟨f, g1, g2⟩ := eqAll_at (A := A.in1) (fun t t' b v v' e x y => ih t t' b A.in1 v v' e hu2 x.borrow y.borrow) _ _ _ _ _ e h2 h2'
        have hsz : vs.size = ws.size := beq_iff_eq.mp (hll.symm.trans hl)
        have := RcAt.tuples (A := A) (e := f) h1 h1' hu' fun j j1 j2 => by
          have := g1 j (by simpa using j1) (by simpa using j2)
          simpa using this
        rw [show ((List.range (min vs.size ws.size)).all f && vs.size == ws.size) = b by rw [← hsz]; simpa using g2] at this
        exact EqAt.of_refs hne this
    all_goals exact (eqA_at (b := b) B · x y) e

/-- what == tells at the top -/
noncomputable def ceq : T → T → Option Bool
  | .float x, .float y => some (eqF x y)
  | .float x, .int n => some (eqFI x n)
  | t, t' => eqv 8 t t'
theorem ceq_list {l : List T} {b : T} : ceq (.list l) b = eqv 8 (.list l) b := rfl
theorem eqv_str : ∀ (n : Nat) (a b : Str), eqv n (.str a) (.str b) = some (a == b)
  | 0, _, _ => rfl
  | _ + 1, _, _ => rfl
theorem eqv_int : ∀ (n : Nat) (a b : Int), eqv n (.int a) (.int b) = some (a == b)
  | 0, _, _ => rfl
  | _ + 1, _, _ => rfl
theorem eqv_list (n : Nat) (a b : List T) : eqv (n + 1) (.list a) (.list b) = if a.length == b.length then eqAll (eqv n) a b else some false := rfl

theorem eqv_rc (B : Bas c s) {t t' : T} {b : Bool} {A : Around} {v v' : Value} (e : ceq t t' = some b) (hu : A.units + 8 < cLine) (x : DenB c.w M s.heap t v) (y : DenB c.w M' s.heap t' v') :
    RcAt A s v v' b ∧ RcNeAt A s v v' (!b) := by
  have hu' : A.units < cLine := by lia
  have hu7 : A.in1.units + 7 < cLine := by simp; lia
  cases t <;> try cases e
  case int =>
    obtain ⟨t, rfl⟩ := x.int
    cases t' <;> cases e
    obtain ⟨u, rfl⟩ := y.int; exact ⟨RcAt.int_int _ _ _ _, RcNeAt.int_int _ _ _ _⟩
  case float =>
    obtain ⟨t, h1, rfl⟩ := x.float
    cases t' <;> cases e
    · obtain ⟨u, rfl⟩ := y.int; exact ⟨fun prog w E Q h => eq_fi (E := E) (A := A) h, fun prog w E Q h => ne_fi (A := A) (E := E) h⟩
    · obtain ⟨u, h2, rfl⟩ := y.float; exact ⟨fun prog w E Q h => AutoFloatOps.eq_0 (A := A) (E := E) h, fun prog w E Q h => AutoFloatOps.ne_0 (A := A) (E := E) h⟩
  case str =>
    obtain ⟨t, rfl⟩ := x.str
    cases t' <;> cases e
    obtain ⟨u, rfl⟩ := y.str; exact ⟨RcAt.str_str _ _ _ _, RcNeAt.str_str _ _ _ _⟩
  case list l =>
    obtain ⟨a, vs, rfl, h1, h2⟩ := x.list
    cases t' <;> try cases e
    case list l' =>
      have e : (if l.length == l'.length then eqAll (eqv 7) l l' else some false) = some b := e
      obtain ⟨a', ws, rfl, h1', h2'⟩ := y.list
      have hll := lists_len h2 h2'
      split at e
      · rename_i hl
        obtain ⟨f, g1, g2⟩ := eqAll_at (A := A.in1) (fun t t' b v v' e x y => eqv_at B 7 t t' b A.in1 v v' e hu7 x.borrow y.borrow) _ _ _ _ _ e h2 h2'
        have hsz : vs.size = ws.size := beq_iff_eq.mp (hll.symm.trans hl)
        have hj : ∀ j (j1 : j < vs.size) (j2 : j < ws.size), EqAt A.in1 s vs[j] ws[j] (f j) := fun j j1 j2 => by
          have := g1 j (by simpa using j1) (by simpa using j2)
          simpa using this
        have r1 := RcAt.lists (A := A) (e := f) h1.isList h1'.isList hsz hu' hj
        have r2 := RcNeAt.lists (A := A) (e := f) h1.isList h1'.isList hsz hu' hj
        rw [show (List.range vs.size).all f = b by simpa using g2] at r1 r2
        exact ⟨r1, r2⟩
      · rename_i hl
        cases e
        have hsz : (vs.size != ws.size) = true := by unfold bne; rw [← hll]; simpa using hl
        exact ⟨RcAt.lists_lengths h1.isList h1'.isList hsz hu', RcNeAt.lists_lengths h1.isList h1'.isList hsz hu'⟩
  case tup l =>
    obtain ⟨a, vs, rfl, _, h1, h2⟩ := x.tup
    cases t' <;> try cases e
    rename_i l'
    have e : (if l.length == l'.length then eqAll (eqv 7) l l' else none) = some b := e
    obtain ⟨a', ws, rfl, _, h1', h2'⟩ := y.tup
    have hll := lists_len h2 h2'
    split at e <;> try cases e
    rename_i hl
    obtain ⟨f, g1, g2⟩ := eqAll_at (A := A.in1) (fun t t' b v v' e x y => eqv_at B 7 t t' b A.in1 v v' e hu7 x.borrow y.borrow) _ _ _ _ _ e h2 h2'
    have hsz : vs.size = ws.size := beq_iff_eq.mp (hll.symm.trans hl)
    have hj : ∀ j (j1 : j < vs.size) (j2 : j < ws.size), EqAt A.in1 s vs[j] ws[j] (f j) := fun j j1 j2 => by
      have := g1 j (by simpa using j1) (by simpa using j2)
      simpa using this
    have r1 := RcAt.tuples (A := A) (e := f) h1 h1' hu' hj
    have r2 := RcNeAt.tuples (A := A) (e := f) h1 h1' hu' hj
    rw [show ((List.range (min vs.size ws.size)).all f && vs.size == ws.size) = b by rw [← hsz]; simpa using g2] at r1 r2
    exact ⟨r1, r2⟩
end

/-! comparisons -/
noncomputable def CmpOk (c : Cx) (op : CmpOp) (a b : T) (r : Bool) : Prop := ∀ (A : Around) (s : Shared) (M : List Addr) (v v' : Value), Bas c s → A.units + 10 < cLine →
  DenB c.w M s.heap a v → DenB c.w M s.heap b v' → wpAny (model c.prog c.w) A (compareOp op v v') (fun r' s' => Ext s s' ∧ r' = .bool r) NoE s


noncomputable def strIn (x y : Str) : Bool := !(Builtin.Str.occurrences x y 0 x.length 1).isEmpty
/-- what a comparison of two data tells -/
noncomputable def ltT (a b : T) : Option Bool := match a with
  | .int a => (match b with | .int b => some (decide (a < b)) | _ => none)
  | .float a => (match b with | .float b => some (Float64.cmp a b == some .lt) | _ => none)
  | _ => none
noncomputable def leT (a b : T) : Option Bool := match a with
  | .float a => (match b with | .float b => some (Float64.cmp a b == some .lt || Float64.cmp a b == some .eq) | _ => none)
  | _ => none
noncomputable def gtT (a b : T) : Option Bool := match a with
  | .int a => (match b with | .int b => some (decide (a > b)) | _ => none)
  | .float a => (match b with | .float b => some (Float64.cmp a b == some .gt) | _ => none)
  | _ => none
noncomputable def notInT (a b : T) : Option Bool := match b with
  | .str x => (match a with | .str y => some (!strIn x y) | _ => none)
  | _ => none
noncomputable def isNo : T → Option Bool
  | .none => some true
  | .bool _ => some false
  | .int _ => some false
  | .str _ => some false
  | .list _ => some false
  | .tup _ => some false
  | _ => none
noncomputable def isT (a b : T) : Option Bool := match b with
  | .none => isNo a
  | .bool b => (match a with | .bool a => some (a == b) | _ => none)
  | _ => none
noncomputable def isNotT (a b : T) : Option Bool := match b with
  | .none => (isNo a).map (!·)
  | .bool b => (match a with | .bool a => some (!(a == b)) | _ => none)
  | _ => none
noncomputable def cmpT (op : CmpOp) (a b : T) : Option Bool := match op with
  | .Eq => ceq a b
  | .NotEq => (ceq a b).map (!·)
  | .Lt => ltT a b
  | .LtE => leT a b
  | .Gt => gtT a b
  | .GtE => none
  | .In => none
  | .NotIn => notInT a b
  | .Is => isT a b
  | .IsNot => isNotT a b
end Mine
end

section
set_option autoImplicit false
set_option linter.unusedVariables false
set_option linter.unusedSimpArgs false
namespace Mine
open PySem PySem.Calls PyProof.Rows PySem.SeqAt

theorem bool_beq (a b : Bool) : (Value.bool a == Value.bool b) = (a == b) := by cases a <;> cases b <;> rfl

section
variable {c : Cx} {a b : T} {r : Bool}
theorem lt_ok (h : ltT a b = some r) : CmpOk c .Lt a b r := fun A s M v v' B hu x y => by
  cases a <;> try cases h
  · cases b <;> cases h
    obtain ⟨t, rfl⟩ := x.int; obtain ⟨u, rfl⟩ := y.int; exact PySem.P.lt_int ⟨Chg.refl _, rfl⟩
  · cases b <;> cases h
    obtain ⟨t, _, rfl⟩ := x.float; obtain ⟨u, _, rfl⟩ := y.float; exact AutoFloatOps.lt_0 ⟨Chg.refl _, rfl⟩
theorem le_ok (h : leT a b = some r) : CmpOk c .LtE a b r := fun A s M v v' B hu x y => by
  cases a <;> try cases h
  · cases b <;> cases h
    obtain ⟨t, _, rfl⟩ := x.float; obtain ⟨u, _, rfl⟩ := y.float; exact AutoFloatOps.le_0 ⟨Chg.refl _, rfl⟩
theorem gt_ok (h : gtT a b = some r) : CmpOk c .Gt a b r := fun A s M v v' B hu x y => by
  cases a <;> try cases h
  · cases b <;> cases h
    obtain ⟨t, rfl⟩ := x.int; obtain ⟨u, rfl⟩ := y.int; exact PySem.P.gt_int ⟨Chg.refl _, rfl⟩
  · cases b <;> cases h
    · obtain ⟨t, _, rfl⟩ := x.float; obtain ⟨u, _, rfl⟩ := y.float; exact AutoFloatOps.gt_0 ⟨Chg.refl _, rfl⟩
theorem notIn_ok (h : notInT a b = some r) : CmpOk c .NotIn a b r := fun A s M v v' B hu x y => by
  cases b <;> try cases h
  cases a <;> cases h
  obtain ⟨t, rfl⟩ := x.str; obtain ⟨u, rfl⟩ := y.str; exact PySem.P.notIn_str ⟨Chg.refl _, rfl⟩
theorem isNo_of {w : World} {M : List Addr} {h : Heap} {v : Value} {q : Bool} (e : isNo a = some q) (x : DenB w M h a v) : (v == Value.none) = q := by
  cases a <;> cases e
  · cases x.none; rfl
  · cases x.bool; rfl
  · obtain ⟨t, rfl⟩ := x.int; rfl
  · obtain ⟨t, rfl⟩ := x.str; rfl
  · obtain ⟨a, vs, rfl, _⟩ := x.tup; rfl
  · obtain ⟨a, vs, rfl, _⟩ := x.list; rfl
theorem is_ok (h : isT a b = some r) : CmpOk c .Is a b r := fun A s M v v' B hu x y => by
  cases b <;> try cases h
  · cases y.none
    have e := isNo_of h x
    exact PyProof.Rows.is_none_gen ⟨Chg.refl _, congrArg Value.bool e⟩
  · cases a <;> cases h
    cases x.bool; cases y.bool; exact is_bool ⟨Chg.refl _, rfl⟩
theorem isNot_ok (h : isNotT a b = some r) : CmpOk c .IsNot a b r := fun A s M v v' B hu x y => by
  cases b <;> try cases h
  · cases y.none
    obtain ⟨q, hq, rfl⟩ := Option.map_eq_some_iff.mp h
    have e := isNo_of hq x
    subst e
    exact PySem.isNot_none ⟨Chg.refl _, rfl⟩
  · cases a <;> cases h
    cases x.bool; cases y.bool; exact wpAny_isNot_plain rfl ⟨Chg.refl _, by rw [bool_beq]⟩
end
theorem cmpT_ok {c : Cx} {op : CmpOp} {a b : T} {r : Bool} (h : cmpT op a b = some r) : CmpOk c op a b r := by
  cases op
  case Eq => exact fun A s M v v' B hu x y => (eqv_rc B h (by lia) x y).1 _ _ _ _ ⟨Chg.refl _, rfl⟩
  case NotEq =>
    obtain ⟨q, hc, rfl⟩ := Option.map_eq_some_iff.mp h
    exact fun A s M v v' B hu x y => (eqv_rc B hc (by lia) x y).2 _ _ _ _ ⟨Chg.refl _, rfl⟩
  case Lt => exact lt_ok h
  case LtE => exact le_ok h
  case Gt => exact gt_ok h
  case GtE => cases h
  case In => cases h
  case NotIn => exact notIn_ok h
  case Is => exact is_ok h
  case IsNot => exact isNot_ok h

/-! comparisons as expressions and as tests -/
noncomputable def notSet : Expr → Bool
  | .Set .. => false
  | _ => true
theorem marks_of {op : CmpOp} {e : Expr} (h : notSet e = true) : behindInMarks op e = false := by
  cases e <;> first | rfl | (exact absurd (show false = true from h) (by decide))

section
variable {c : Cx} {n : Nat} {ρ : Rho}
theorem Room.cl {A : Around} {k : Nat} (r : Room A k) : A.units + 10 < cLine := by have := r.2.2; unfold cLine; lia

theorem Ev.cmp {l r : Expr} {op : CmpOp} {pos : Pos} {a b : T} {q : Bool} (hl : EvB c n ρ l a) (hr : EvB c n ρ r b) (h : cmpT op a b = some q) (hs : notSet r = true) :
    Ev c n ρ (.Compare l [op] [r] pos) (.bool q) := .mk fun A s env M₀ O rm R =>
  wpAny_Compare1 (hl.go rm R fun v s₁ x₁ R₁ d₁ => hr.go rm R₁ fun v' s₂ x₂ R₂ d₂ =>
    wpAny_imp (cmpT_ok h A s₂ _ v v' R₂.bas rm.cl (d₁.keep x₂.all) d₂) fun r s₃ y => ⟨Ext.trans x₁ (Ext.trans x₂ y.1), by rw [y.2]; exact Den.of_bool⟩) (marks_of hs)
theorem EvT.cmp {l r : Expr} {op : CmpOp} {pos : Pos} {a b : T} {q : Bool} (hl : EvB c n ρ l a) (hr : EvB c n ρ r b) (h : cmpT op a b = some q) (hs : notSet r = true) :
    EvT c n ρ (.Compare l [op] [r] pos) q := .mk fun A s env M₀ O rm R =>
  wpAny_isTrue_Compare1 (hl.go rm R fun v s₁ x₁ R₁ d₁ => hr.go rm R₁ fun v' s₂ x₂ R₂ d₂ =>
    wpAny_imp (cmpT_ok h A s₂ _ v v' R₂.bas rm.cl (d₁.keep x₂.all) d₂) fun r s₃ y => by rw [y.2]; exact wpAny_truthy_bool ⟨Ext.trans x₁ (Ext.trans x₂ y.1), rfl⟩) (marks_of hs)

/-! tests -/
theorem EvT.not {x : Expr} {pos : Pos} {b : Bool} (h : EvT c n ρ x b) : EvT c n ρ (.UnaryOp .Not x pos) (!b) := .mk fun A s env M₀ O rm R =>
  wpAny_isTrue_Not (h.go rm R fun s' x R' => ⟨x, rfl⟩)
noncomputable def plainTest : Expr → Bool
  | .UnaryOp .Not _ _ | .BoolOp .. | .IfExp .. | .Compare .. => false
  | _ => true
theorem EvT.val {x : Expr} {b : Bool} (h : Ev c n ρ x (.bool b)) (hp : plainTest x = true) : EvT c n ρ x b := .mk fun A s env M₀ O rm R => by
  refine wpAny_isTrue_value (h.go rm R fun v s' x R' d => ?_) ?_
  · cases d.borrow.bool; exact wpAny_truthy_bool ⟨x, rfl⟩
  · cases x <;> first | rfl | (exact absurd (show false = true from hp) (by decide)) | skip
    rename_i op _ _
    cases op <;> first | rfl | (exact absurd (show false = true from hp) (by decide))

/-- the values of an and, an or -/
inductive Alls (c : Cx) (n : Nat) (ρ : Rho) : BoolOp → List Expr → Bool → Prop
  | andNil : Alls c n ρ .And [] true
  | orNil : Alls c n ρ .Or [] false
  | andF {x : Expr} {r : List Expr} : EvT c n ρ x false → Alls c n ρ .And (x :: r) false
  | orT {x : Expr} {r : List Expr} : EvT c n ρ x true → Alls c n ρ .Or (x :: r) true
  | andT {x : Expr} {r : List Expr} {b : Bool} : EvT c n ρ x true → Alls c n ρ .And r b → Alls c n ρ .And (x :: r) b
  | orF {x : Expr} {r : List Expr} {b : Bool} : EvT c n ρ x false → Alls c n ρ .Or r b → Alls c n ρ .Or (x :: r) b
theorem EvT.boolop {op : BoolOp} {xs : List Expr} {pos : Pos} {b : Bool} (h : Alls c n ρ op xs b) : EvT c n ρ (.BoolOp op xs pos) b := .mk fun A s env M₀ O rm R => by
  refine wpAny_isTrue_BoolOp ?_
  have key : ∀ (s : Shared), Rel c env M₀ O ρ s → wpAny (model c.prog c.w) A (allTrue op xs env) (fun r s' => Ext s s' ∧ r = b) NoE s := by
    induction h with
    | andNil => exact fun s R => wpAny_allTrue_And_nil ⟨Chg.refl _, rfl⟩
    | orNil => exact fun s R => wpAny_allTrue_Or_nil ⟨Chg.refl _, rfl⟩
    | andF h => exact fun s R => wpAny_allTrue_And_cons (h.go rm R fun s' x R' => ⟨x, rfl⟩)
    | orT h => exact fun s R => wpAny_allTrue_Or_cons (h.go rm R fun s' x R' => ⟨x, rfl⟩)
    | andT h _ ih => exact fun s R => wpAny_allTrue_And_cons (h.go rm R fun s' x R' => wpAny_imp (ih s' R') fun r s'' y => ⟨Ext.trans x y.1, y.2⟩)
    | orF h _ ih => exact fun s R => wpAny_allTrue_Or_cons (h.go rm R fun s' x R' => wpAny_imp (ih s' R') fun r s'' y => ⟨Ext.trans x y.1, y.2⟩)
  exact key s R

/-- and, or as values: bools -/
inductive Vals (c : Cx) (n : Nat) (ρ : Rho) : BoolOp → List Expr → Bool → Prop
  | one {op : BoolOp} {x : Expr} {b : Bool} : Ev c n ρ x (.bool b) → Vals c n ρ op [x] b
  | andF {x y : Expr} {r : List Expr} : Ev c n ρ x (.bool false) → Vals c n ρ .And (x :: y :: r) false
  | orT {x y : Expr} {r : List Expr} : Ev c n ρ x (.bool true) → Vals c n ρ .Or (x :: y :: r) true
  | andT {x y : Expr} {r : List Expr} {b : Bool} : Ev c n ρ x (.bool true) → Vals c n ρ .And (y :: r) b → Vals c n ρ .And (x :: y :: r) b
  | orF {x y : Expr} {r : List Expr} {b : Bool} : Ev c n ρ x (.bool false) → Vals c n ρ .Or (y :: r) b → Vals c n ρ .Or (x :: y :: r) b
theorem Ev.boolop {op : BoolOp} {xs : List Expr} {pos : Pos} {b : Bool} (h : Vals c n ρ op xs b) : Ev c n ρ (.BoolOp op xs pos) (.bool b) := .mk fun A s env M₀ O rm R => by
  show wpAny _ _ (boolOp pos op (evalEach xs env)) _ _ _
  have key : ∀ (s : Shared), Rel c env M₀ O ρ s → wpAny (model c.prog c.w) A (boolOp pos op (evalEach xs env)) (fun r s' => Ext s s' ∧ Den c.w (nOf c env O ++ M₀) s'.heap (.bool b) r) NoE s := by
    induction h with
    | one h => exact fun s R => h.run A s env M₀ O rm R
    | andF h =>
      exact fun s R => wpAny_bind (h.go rm R fun v s' x R' d => wpAny_bind (wpAny_standAt (wpAny_bind (wpAny_holding (by
        cases d.borrow.bool; exact wpAny_truthy_bool (wpAny_pure ⟨x, Den.of_bool⟩))))))
    | orT h =>
      exact fun s R => wpAny_bind (h.go rm R fun v s' x R' d => wpAny_bind (wpAny_standAt (wpAny_bind (wpAny_holding (by
        cases d.borrow.bool; exact wpAny_truthy_bool (wpAny_pure ⟨x, Den.of_bool⟩))))))
    | andT h _ ih =>
      exact fun s R => wpAny_bind (h.go rm R fun v s' x R' d => wpAny_bind (wpAny_standAt (wpAny_bind (wpAny_holding (by
        cases d.borrow.bool; exact wpAny_truthy_bool (wpAny_imp (ih s' R') fun r s'' y => ⟨Ext.trans x y.1, y.2⟩))))))
    | orF h _ ih =>
      exact fun s R => wpAny_bind (h.go rm R fun v s' x R' d => wpAny_bind (wpAny_standAt (wpAny_bind (wpAny_holding (by
        cases d.borrow.bool; exact wpAny_truthy_bool (wpAny_imp (ih s' R') fun r s'' y => ⟨Ext.trans x y.1, y.2⟩))))))
  exact key s R
theorem Ev.ifexp {t a b : Expr} {pos : Pos} {q : Bool} {r : T} (h : EvT c n ρ t q) (ha : q = true → Ev c n ρ a r) (hb : q = false → Ev c n ρ b r) : Ev c n ρ (.IfExp t a b pos) r := .mk fun A s env M₀ O rm R =>
  wpAny_IfExp (h.go rm R fun s' x R' => by
    cases q
    · exact (hb rfl).go rm R' fun v s'' x' R'' d => ⟨Ext.trans x x', d⟩
    · exact (ha rfl).go rm R' fun v s'' x' R'' d => ⟨Ext.trans x x', d⟩)
theorem Ev.neg {x : Expr} {pos : Pos} {i : Int} (h : Ev c n ρ x (.int i)) : Ev c n ρ (.UnaryOp .USub x pos) (.int (-i)) := .mk fun A s env M₀ O rm R =>
  wpAny_UnaryOp (h.go rm R fun v s' x R' d => by
    obtain ⟨t, rfl⟩ := d.borrow.int
    exact neg_int ⟨Ext.trans x (Ext.tok _), Den.of_int⟩)
end
end Mine
end

section
set_option autoImplicit false
set_option linter.unusedVariables false
set_option linter.unusedSimpArgs false
namespace Mine
open PySem PySem.Calls PyProof.Rows PySem.SeqAt

theorem Ext.raw {s : Shared} {h' : Heap} {tk : Nat} (hk : ∀ b o, s.heap.get? b = some o → h'.get? b = some o) (hs : s.heap.objs.size ≤ h'.objs.size) (ht : s.toks ≤ tk) : Ext s { s with heap := h', toks := tk } :=
  Ext.of_heap hk hs ht

noncomputable def DenBs (w : World) (M : List Addr) (h : Heap) : List T → List Value → Prop
  | [], vs => vs = []
  | t :: ts, vs => ∃ v r, vs = v :: r ∧ DenB w M h t v ∧ DenBs w M h ts r
noncomputable def notStar : Expr → Bool
  | .Starred .. => false
  | _ => true
theorem starEach_cons {e : Expr} (h : notStar e = true) (r : List Expr) (env : Env) : starEach (e :: r) env = (false, eval e env) :: starEach r env := by
  cases e <;> first | rfl | (exact absurd (show false = true from h) (by decide))
theorem starEach_plain : ∀ (es : List Expr) (env : Env), (∀ e ∈ es, notStar e = true) → starEach es env = es.map fun e => (false, eval e env)
  | [], _, _ => rfl
  | e :: r, env, h => by rw [starEach_cons (h e List.mem_cons_self), starEach_plain r env fun e' he => h e' (List.mem_cons_of_mem _ he)]; rfl

section
variable {c : Cx} {n : Nat} {ρ : Rho}

inductive Each (c : Cx) (n : Nat) (ρ : Rho) : List Expr → List T → Prop
  | nil : Each c n ρ [] []
  | cons {e : Expr} {es : List Expr} {t : T} {ts : List T} : notStar e = true → Ev c n ρ e t → Each c n ρ es ts → Each c n ρ (e :: es) (t :: ts)
inductive EachB (c : Cx) (n : Nat) (ρ : Rho) : List Expr → List T → Prop
  | nil : EachB c n ρ [] []
  | cons {e : Expr} {es : List Expr} {t : T} {ts : List T} : notStar e = true → EvB c n ρ e t → EachB c n ρ es ts → EachB c n ρ (e :: es) (t :: ts)
theorem EachB.plain {es : List Expr} {ts : List T} (h : EachB c n ρ es ts) : ∀ e ∈ es, notStar e = true := by
  induction h with
  | nil => simp
  | cons a _ _ ih => intro e he; rcases List.mem_cons.mp he with rfl | he; exact a; exact ih e he
theorem Each.go {es : List Expr} {ts : List T} (h : Each c n ρ es ts) (pos : Pos) {A : Around} {env : Env} {M₀ : List Addr} {O : List (Str × Addr)} (rm : Room A n) :
    ∀ (s : Shared) (Q : List Value → Shared → Prop), Rel c env M₀ O ρ s → (∀ vs s', Ext s s' → Rel c env M₀ O ρ s' → DenL c.w (nOf c env O ++ M₀) s'.heap ts vs → Q vs s') →
      wpAny (model c.prog c.w) A (spliced (backTo pos (starEach es env))) Q NoE s := by
  induction h with
  | nil => exact fun s Q R k => wpAny_pure (k [] s (Chg.refl _) R DenL.nil)
  | cons hs h _ ih =>
    exact fun s Q R k => wpAny_items_cons (h.go rm R fun v s₁ x₁ R₁ d₁ => ih s₁ _ R₁ fun vs s₂ x₂ R₂ d₂ => k _ s₂ (Ext.trans x₁ x₂) R₂ (DenL.cons (d₁.keep x₂.all) d₂)) (starEach_cons hs _ _)
theorem EachB.go {es : List Expr} {ts : List T} (h : EachB c n ρ es ts) (pos : Pos) {A : Around} {env : Env} {M₀ : List Addr} {O : List (Str × Addr)} (rm : Room A n) :
    ∀ (s : Shared) (Q : List Value → Shared → Prop), Rel c env M₀ O ρ s → (∀ vs s', Ext s s' → Rel c env M₀ O ρ s' → DenBs c.w (nOf c env O ++ M₀) s'.heap ts vs → Q vs s') →
      wpAny (model c.prog c.w) A (spliced (backTo pos (starEach es env))) Q NoE s := by
  induction h with
  | nil => exact fun s Q R k => wpAny_pure (k [] s (Chg.refl _) R rfl)
  | cons hs h _ ih =>
    exact fun s Q R k => wpAny_items_cons (h.go rm R fun v s₁ x₁ R₁ d₁ => ih s₁ _ R₁ fun vs s₂ x₂ R₂ d₂ => k _ s₂ (Ext.trans x₁ x₂) R₂ ⟨_, _, rfl, d₁.keep x₂.all, d₂⟩) (starEach_cons hs _ _)

theorem EvN.list {es : List Expr} {ts : List T} {pos : Pos} (h : Each c n ρ es ts) (hz : ts.length ≤ sizeLine) : EvN c n ρ (.List es pos) ts := .mk fun A s env M₀ O rm R =>
  wpAny_List (h.go pos rm s _ R fun vs s₁ x₁ R₁ d₁ => ⟨by rw [← d₁.length]; exact hz, Ext.trans x₁ (Ext.push _ _), s₁.heap.objs.size, vs.toArray, rfl, x₁.size, ⟨0, Heap.get?_push_size _ rfl⟩, by simpa using (d₁.newer (Nat.le_refl _)).keep (Ext.push s₁ _).all⟩)
theorem Ev.tup {es : List Expr} {ts : List T} {k : Nat} {pos : Pos} (h : Each c n ρ es ts) (hz : ts.length ≤ sizeLine) : Ev c n ρ (.Tuple es k pos) (.tup ts) := .mk fun A s env M₀ O rm R =>
  wpAny_Tuple (h.go pos rm s _ R fun vs s₁ x₁ R₁ d₁ => ⟨by rw [← d₁.length]; exact hz, Ext.trans x₁ (Ext.push _ _), Den.of_tup (vs := vs.toArray) (R₁.new (Nat.le_refl _)) ⟨_, Heap.get?_push_size _ rfl, rfl, 0, rfl⟩ (by simpa using d₁.keep (Ext.push s₁ _).all)⟩)

/-! calls -/
noncomputable def CallOk (c : Cx) (n : Nat) (f : Value) (args : List T) (r : T) : Prop := ∀ (A : Around) (s : Shared) (M : List Addr) (vs : List Value), Room A n → Bas c s → (∀ x ∈ M, x < s.heap.objs.size) →
  DenBs c.w M s.heap args vs → wpAny (model c.prog c.w) A (call f vs) (fun v s' => Ext s s' ∧ Den c.w M s'.heap r v) NoE s
noncomputable def CallNew (c : Cx) (n : Nat) (f : Value) (args : List T) (l : List T) : Prop := ∀ (A : Around) (s : Shared) (M : List Addr) (vs : List Value), Room A n → Bas c s → (∀ x ∈ M, x < s.heap.objs.size) →
  DenBs c.w M s.heap args vs → wpAny (model c.prog c.w) A (call f vs) (fun v s' => Ext s s' ∧ ∃ a ws, v = .ref a ∧ s.heap.objs.size ≤ a ∧ s'.heap.PlainList a ws ∧ DenL c.w (a :: M) s'.heap l ws.toList) NoE s

/-- a thing that is called: a built-in function, a type, a function of the text -/
noncomputable def Callee (c : Cx) : Value → Prop
  | .builtin _ => True
  | .type _ => True
  | .ref a => ∃ o fd, c.H.get? a = some o ∧ o.data = .func fd
  | _ => False

theorem wp_callWith {f : Value} (hf : Callee c f) {pos : Pos} {es : List Expr} {ts : List T} (h : EachB c n ρ es ts) (hne : es ≠ []) {A : Around} {env : Env} {M₀ : List Addr} {O : List (Str × Addr)} (rm : Room A n)
    {s : Shared} {Q : Value → Shared → Prop} (R : Rel c env M₀ O ρ s)
    (k : ∀ vs s', Ext s s' → Rel c env M₀ O ρ s' → DenBs c.w (nOf c env O ++ M₀) s'.heap ts vs → wpAny (model c.prog c.w) A (call f vs) Q NoE s') :
    wpAny (model c.prog c.w) A (callWith pos f [] (backTo pos (starEach es env)) []) Q NoE s := by
  have hp := starEach_plain es env h.plain
  have hb : (backTo pos (starEach es env)).any (·.1) = false := by
    rw [hp]; unfold backTo; simp
  have hargs : wpAny (model c.prog c.w) A (spliced (backTo pos (starEach es env))) (fun vs s' => wpAny (model c.prog c.w) A (call f vs) Q NoE s') NoE s := h.go pos rm s _ R fun vs s' x R' d => k vs s' x R' d
  have hcons : ∃ x r, backTo pos (starEach es env) = (false, x) :: r := by
    rw [hp]
    cases es with
    | nil => exact absurd rfl hne
    | cons e r => exact ⟨_, _, rfl⟩
  obtain ⟨x, r, hx⟩ := hcons
  rw [hx] at hargs hb ⊢
  cases f with
  | builtin id => exact callWith_builtin hb (evalArgs_plain hargs)
  | type T => exact PySem.callWith_type hb (evalArgs_plain hargs)
  | ref a =>
    obtain ⟨o, fd, ho, hd⟩ := hf
    refine callWith_function (o := o) (fd := fd) (evalArgs_plain ?_)
    rw [← hx]
    exact h.go pos rm s _ R fun vs s' x R' d => ⟨⟨R'.bas.heap a o ho, hd⟩, k vs s' x R' d⟩
  | _ => exact hf.elim

theorem Ev.call {f : Str} {p pos : Pos} {es : List Expr} {ts : List T} {v : Value} {r : T} (hk : c.ns.lookup f = some .globalImplicit) (g : GV c f v) (hf : Callee c v) (hx : nameOk f = true)
    (h : EachB c n ρ es ts) (hne : es ≠ []) (hc : CallOk c n v ts r) : Ev c n ρ (.Call (.Name f p) es [] pos) r := .mk fun A s env M₀ O rm R =>
  wpAny_Call_NameR (wp_gname R hk g (wp_callWith hf h hne rm R fun vs s' x R' d => wpAny_imp (hc A s' _ vs rm R'.bas R'.lt d) fun v s'' y => ⟨Ext.trans x y.1, y.2⟩) hx)
end
end Mine
end

section
set_option autoImplicit false
set_option linter.unusedVariables false
set_option linter.unusedSimpArgs false
namespace Mine
open PySem PySem.Calls PyProof.Rows PySem.SeqAt

theorem DenBs.one {w : World} {M : List Addr} {h : Heap} {t : T} {vs : List Value} (x : DenBs w M h [t] vs) : ∃ v, vs = [v] ∧ DenB w M h t v := by
  obtain ⟨v, r, rfl, d, rfl⟩ := x; exact ⟨v, rfl, d⟩
theorem DenBs.two {w : World} {M : List Addr} {h : Heap} {t u : T} {vs : List Value} (x : DenBs w M h [t, u] vs) : ∃ v v', vs = [v, v'] ∧ DenB w M h t v ∧ DenB w M h u v' := by
  obtain ⟨v, r, rfl, d, v', r', rfl, d', rfl⟩ := x; exact ⟨v, v', rfl, d, d'⟩
theorem DenBs.three {w : World} {M : List Addr} {h : Heap} {t u x : T} {vs : List Value} (y : DenBs w M h [t, u, x] vs) : ∃ v v' v'', vs = [v, v', v''] ∧ DenB w M h t v ∧ DenB w M h u v' ∧ DenB w M h x v'' := by
  obtain ⟨v, r, rfl, d, v', r', rfl, d', v'', r'', rfl, d'', rfl⟩ := y; exact ⟨v, v', v'', rfl, d, d', d''⟩

/-! the built-in functions -/
noncomputable def allInts : List T → Option (List Int)
  | [] => some []
  | .int i :: r => (allInts r).map (i :: ·)
  | _ => none
noncomputable def allFloats : List T → Option (List UInt64)
  | [] => some []
  | .float i :: r => (allFloats r).map (i :: ·)
  | _ => none
noncomputable def pick {α : Type} (gt : α → α → Bool) : List α → Option α
  | [] => none
  | x :: r => some (r.foldl (fun b y => if gt y b then y else b) x)
noncomputable def maxT (l : List T) : Option T := match allFloats l with
  | some fs => (pick (fun a b => Float64.cmp a b == some .gt) fs).map .float
  | none => none
noncomputable def minT (l : List T) : Option T := match allInts l with
  | some is => (pick (fun a b => decide (a < b)) is).map .int
  | none => match allFloats l with
    | some fs => (pick (fun a b => Float64.cmp a b == some .lt) fs).map .float
    | none => none
noncomputable def sumT (l : List T) : Option T := (allInts l).map fun is => .int is.sum

noncomputable def one (f : T → Option T) (a : List T) : Option T := match a with
  | [t] => f t
  | _ => none
noncomputable def lenT (t : T) : Option T := match t with
  | .list l => if l.length ≤ 16777216 then some (.int l.length) else none
  | .str x => if x.length ≤ 16777216 then some (.int x.length) else none
  | _ => none
noncomputable def ordT (t : T) : Option T := match t with
  | .str x => if x.length = 1 then some (.int (x.cps.getD 0 0 : Nat)) else none
  | _ => none
noncomputable def chrI (t : T) : Option T := match t with
  | .int i => if 0 ≤ i ∧ i ≤ 1114111 then some (.str ⟨#[i.toNat]⟩) else none
  | _ => none
noncomputable def intT (t : T) : Option T := match t with
  | .float x => (match Float64.decode x with
      | .fin sg m e => some (.int (Float64.truncOf sg m e))
      | _ => none)
  | _ => none
noncomputable def ofList (g : List T → Option T) (t : T) : Option T := match t with
  | .list l => g l
  | _ => none
noncomputable def some1 (g : List T → Option T) (a : List T) : Option T := match a with
  | [x] => ofList g x
  | [x, y] => g [x, y]
  | [x, y, z] => g [x, y, z]
  | _ => none
noncomputable def some3 (g : List T → Option T) (a : List T) : Option T := match a with
  | [x, y, z] => g [x, y, z]
  | _ => none
theorem some3_some {g : List T → Option T} {a : List T} {r : T} (h : some3 g a = some r) : a.length = 3 ∧ g a = some r := by
  unfold some3 at h
  split at h
  · exact ⟨rfl, h⟩
  · cases h
theorem one_some {f : T → Option T} {a : List T} {r : T} (h : one f a = some r) : ∃ t, a = [t] ∧ f t = some r := by
  cases a with
  | nil => cases h
  | cons t a => cases a with
    | nil => exact ⟨t, rfl, h⟩
    | cons _ _ => cases h
theorem ofList_some {g : List T → Option T} {t r : T} (h : ofList g t = some r) : ∃ l, t = .list l ∧ g l = some r := by
  cases t <;> try cases h
  exact ⟨_, rfl, h⟩
theorem some1_some {g : List T → Option T} {a : List T} {r : T} (h : some1 g a = some r) : (∃ l, a = [.list l] ∧ g l = some r) ∨ ((a.length = 2 ∨ a.length = 3) ∧ g a = some r) := by
  cases a with
  | nil => cases h
  | cons x a => cases a with
    | nil => obtain ⟨l, rfl, h⟩ := ofList_some (show ofList g x = some r from h); exact .inl ⟨l, rfl, h⟩
    | cons y a => cases a with
      | nil => exact .inr ⟨.inl rfl, h⟩
      | cons z a => cases a with
        | nil => exact .inr ⟨.inr rfl, h⟩
        | cons _ _ => cases h
noncomputable def bi (f : Str) (a : List T) : Option T :=
  if f == "len" then one lenT a
  else if f == "ord" then one ordT a
  else if f == "chr" then one chrI a
  else if f == "int" then one intT a
  else if f == "sum" then one (ofList sumT) a
  else if f == "max" then some3 maxT a
  else if f == "min" then some1 minT a
  else none
theorem of_if {p : Prop} [Decidable p] {t r : T} (h : (if p then some t else none) = some r) : p ∧ t = r := by
  by_cases hp : p
  · rw [if_pos hp] at h; exact ⟨hp, Option.some.inj h⟩
  · rw [if_neg hp] at h; cases h
theorem bi_len0 (a : List T) : bi "len" a = one lenT a := by rfl
theorem bi_ord0 (a : List T) : bi "ord" a = one ordT a := by rfl
theorem bi_chr0 (a : List T) : bi "chr" a = one chrI a := by rfl
theorem bi_int0 (a : List T) : bi "int" a = one intT a := by rfl
theorem bi_sum0 (a : List T) : bi "sum" a = one (ofList sumT) a := by rfl
theorem bi_min0 (a : List T) : bi "min" a = some1 minT a := by rfl
noncomputable def biV (f : Str) : Value := if f == "int" then .type "int" else .builtin f.toString

theorem allInts_at {w : World} {M : List Addr} {h : Heap} : ∀ {l : List T} {is : List Int} {vs : List Value}, allInts l = some is → DenL w M h l vs → is.length = vs.length ∧ ∀ (i : Nat) (v : Value), vs[i]? = some v → ∃ t, v = .int (is.getD i 0) t
  | [], is, vs, e, d => by simp [allInts] at e; subst e; simp only [DenL] at d; subst d; simp
  | t :: r, is, vs, e, d => by
    cases t <;> simp only [allInts] at e <;> (try cases e)
    rename_i k
    obtain ⟨is', e', rfl⟩ := Option.map_eq_some_iff.mp e
    simp only [DenL, Den] at d
    obtain ⟨v, vs', rfl, ⟨t, rfl⟩, d⟩ := d
    obtain ⟨i1, i2⟩ := allInts_at e' d
    refine ⟨by simp [i1], fun i v hv => ?_⟩
    cases i with
    | zero => simp at hv; subst hv; exact ⟨t, rfl⟩
    | succ i => simpa using i2 i v (by simpa using hv)
theorem allFloats_at {w : World} {M : List Addr} {h : Heap} : ∀ {l : List T} {is : List UInt64} {vs : List Value}, allFloats l = some is → DenL w M h l vs → is.length = vs.length ∧ ∀ (i : Nat) (v : Value), vs[i]? = some v → ∃ t, t ≠ 0 ∧ v = .float (is.getD i 0) t
  | [], is, vs, e, d => by simp [allFloats] at e; subst e; simp only [DenL] at d; subst d; simp
  | t :: r, is, vs, e, d => by
    cases t <;> simp only [allFloats] at e <;> (try cases e)
    rename_i k
    obtain ⟨is', e', rfl⟩ := Option.map_eq_some_iff.mp e
    simp only [DenL, Den] at d
    obtain ⟨v, vs', rfl, ⟨t, ht, rfl⟩, d⟩ := d
    obtain ⟨i1, i2⟩ := allFloats_at e' d
    refine ⟨by simp [i1], fun i v hv => ?_⟩
    cases i with
    | zero => simp at hv; subst hv; exact ⟨t, ht, rfl⟩
    | succ i => simpa using i2 i v (by simpa using hv)

theorem argBest_pick {α : Type} (gt : α → α → Bool) (d : α) : ∀ (l : List α) (x : α), (x :: l).getD (argBest (fun i j => gt ((x :: l).getD i d) ((x :: l).getD j d)) l.length) d = l.foldl (fun b y => if gt y b then y else b) x := by
  have key : ∀ (l : List α) (x : α) (k : Nat), k ≤ l.length → (x :: l).getD (argBest (fun i j => gt ((x :: l).getD i d) ((x :: l).getD j d)) k) d = (l.take k).foldl (fun b y => if gt y b then y else b) x := by
    intro l x k
    induction k with
    | zero => intro _; simp [argBest]
    | succ k ih =>
      intro hk
      have ih := ih (by lia)
      have ht : l.take (k + 1) = l.take k ++ [l.getD k d] := by
        rw [List.take_add_one, List.getElem?_eq_getElem (by lia : k < l.length)]
        simp [List.getD, List.getElem?_eq_getElem (by lia : k < l.length)]
      rw [ht, List.foldl_append, ← ih]
      show (x :: l).getD (if gt ((x :: l).getD (k + 1) d) ((x :: l).getD (argBest _ k) d) then k + 1 else argBest _ k) d = (if gt (l.getD k d) _ then l.getD k d else _)
      have e : (x :: l).getD (k + 1) d = l.getD k d := by simp [List.getD]
      rw [e]
      split <;> simp_all
  intro l x
  simpa using key l x l.length (Nat.le_refl _)

/-- iter of a list that is there: a new iterator -/
theorem wp_iter_list {prog : Program} {w : World} {A : Around} {E : Value → Shared → Prop} {s : Shared} {l : Addr} {items : Array Value} {Q : Value → Shared → Prop} (hl : s.heap.IsList l items)
    (h : ∀ s₂ : Shared, s₂ = { s with heap := s.heap.push { cls := .type "list_iterator", data := .fields #[.ref l, .int 0 0] } } →
      (s₂.heap.IsListIter s.heap.objs.size l 0 ∧ s₂.heap.IsList l items) → (∀ b ∈ [s.heap.objs.size, l], b < s₂.heap.objs.size) → l ≠ s.heap.objs.size → Q (.ref s.heap.objs.size) s₂) :
    wpAny (model prog w) A (pyIter (.ref l)) Q E s := by
  have hlt : l < s.heap.objs.size := by obtain ⟨_, e, _⟩ := hl; exact Heap.lt_size e
  refine wpAny_pyIter_list hl (h _ rfl ⟨⟨_, Heap.get?_push_size _ rfl, rfl, rfl⟩, hl.push _⟩ (fun b hb => ?_) (Nat.ne_of_lt hlt))
  show b < (s.heap.push _).objs.size
  rw [Heap.size_push]
  simp only [List.mem_cons, List.not_mem_nil, or_false] at hb
  rcases hb with rfl | rfl
  · exact Nat.lt_succ_self _
  · exact Nat.lt_succ_of_lt hlt
theorem wp_iter_tuple {prog : Program} {w : World} {A : Around} {E : Value → Shared → Prop} {s : Shared} {l : Addr} {items : Array Value} {Q : Value → Shared → Prop} (hl : s.heap.IsTuple l items)
    (h : ∀ s₂ : Shared, s₂ = { s with heap := s.heap.push { cls := .type "tuple_iterator", data := .fields #[.ref l, .int 0 0] } } →
      (s₂.heap.IsTupleIter s.heap.objs.size l 0 ∧ s₂.heap.IsTuple l items) → (∀ b ∈ [s.heap.objs.size, l], b < s₂.heap.objs.size) → l ≠ s.heap.objs.size → Q (.ref s.heap.objs.size) s₂) :
    wpAny (model prog w) A (pyIter (.ref l)) Q E s := by
  have hlt : l < s.heap.objs.size := by obtain ⟨_, e, _⟩ := hl; exact Heap.lt_size e
  refine wpAny_pyIter_tuple hl (h _ rfl ⟨⟨_, Heap.get?_push_size _ rfl, rfl, rfl⟩, hl.push _⟩ (fun b hb => ?_) (Nat.ne_of_lt hlt))
  show b < (s.heap.push _).objs.size
  rw [Heap.size_push]
  simp only [List.mem_cons, List.not_mem_nil, or_false] at hb
  rcases hb with rfl | rfl
  · exact Nat.lt_succ_self _
  · exact Nat.lt_succ_of_lt hlt
theorem kept1 {h h' : Heap} {o₀ : Obj} (hk : ∀ b o, b ∉ [h.objs.size] → (h.push o₀).get? b = some o → h'.get? b = some o) : ∀ b o, h.get? b = some o → h'.get? b = some o := fun b o e =>
  hk b o (by simp; exact Nat.ne_of_lt (Heap.lt_size e)) (Heap.get?_push_of_some _ e)

section
variable {c : Cx} {k : Nat}
/-- the greatest, the least of numbers -/
theorem best_pick {α : Type} {gt : α → α → Bool} {d : α} {is : List α} {r : α} (h : pick gt is = some r) : is.length ≠ 0 ∧ is.getD (argBest (fun i j => gt (is.getD i d) (is.getD j d)) (is.length - 1)) d = r := by
  cases is with
  | nil => cases h
  | cons x l =>
    refine ⟨by simp, ?_⟩
    have := argBest_pick gt d l x
    simp only [pick, Option.some.injEq] at h
    rw [← h, ← this]; rfl

theorem ltI : ∀ {prog : Program} {w : World} {A : Around} {is : List Int} {vs : List Value}, (∀ (i : Nat) (v : Value), vs[i]? = some v → ∃ t, v = .int (is.getD i 0) t) → CmpOf prog w A .Lt (fun i v => vs[i]? = some v) (fun i j => decide (is.getD i 0 < is.getD j 0)) :=
  fun hi => CmpOf.ints_lt _ hi
theorem gtF : ∀ {prog : Program} {w : World} {A : Around} {is : List UInt64} {vs : List Value}, (∀ (i : Nat) (v : Value), vs[i]? = some v → ∃ t, t ≠ 0 ∧ v = .float (is.getD i 0) t) → CmpOf prog w A .Gt (fun i v => vs[i]? = some v) (fun i j => Float64.cmp (is.getD i 0) (is.getD j 0) == some .gt) :=
  fun hi i j vi vj s Q E h1 h2 hQ => by
    obtain ⟨t, _, rfl⟩ := hi i vi h1; obtain ⟨u, _, rfl⟩ := hi j vj h2
    exact AutoFloatOps.gt_0 (E := E) hQ
theorem ltF : ∀ {prog : Program} {w : World} {A : Around} {is : List UInt64} {vs : List Value}, (∀ (i : Nat) (v : Value), vs[i]? = some v → ∃ t, t ≠ 0 ∧ v = .float (is.getD i 0) t) → CmpOf prog w A .Lt (fun i v => vs[i]? = some v) (fun i j => Float64.cmp (is.getD i 0) (is.getD j 0) == some .lt) :=
  fun hi i j vi vj s Q E h1 h2 hQ => by
    obtain ⟨t, _, rfl⟩ := hi i vi h1; obtain ⟨u, _, rfl⟩ := hi j vj h2
    exact AutoFloatOps.lt_0 (E := E) hQ

/-- what is best among values: an order for CmpOf, and what the place that wins holds -/
theorem bestOf {prog : Program} {w : World} {A : Around} {M : List Addr} {h : Heap} {l : List T} {vs : List Value} {r : T} (e : maxT l = some r) (d : DenL w M h l vs) :
    0 < vs.length ∧ ∃ bt, CmpOf prog w A .Gt (fun i v => vs[i]? = some v) bt ∧ ∀ v h', vs[argBest bt (vs.length - 1)]? = some v → Den w M h' r v := by
  unfold maxT at e
  split at e
  · rename_i is hi
    obtain ⟨i, hp, rfl⟩ := Option.map_eq_some_iff.mp e
    obtain ⟨k1, k2⟩ := allFloats_at hi d
    obtain ⟨k3, k4⟩ := best_pick (d := 0) hp
    refine ⟨by lia, _, gtF k2, fun v h' hv => ?_⟩
    obtain ⟨t, ht, rfl⟩ := k2 _ _ hv
    rw [← k1, k4]; exact Den.of_float ht
  · cases e
theorem leastOf {prog : Program} {w : World} {A : Around} {M : List Addr} {h : Heap} {l : List T} {vs : List Value} {r : T} (e : minT l = some r) (d : DenL w M h l vs) :
    0 < vs.length ∧ ∃ bt, CmpOf prog w A .Lt (fun i v => vs[i]? = some v) bt ∧ ∀ v h', vs[argBest bt (vs.length - 1)]? = some v → Den w M h' r v := by
  unfold minT at e
  split at e
  · rename_i is hi
    obtain ⟨i, hp, rfl⟩ := Option.map_eq_some_iff.mp e
    obtain ⟨k1, k2⟩ := allInts_at hi d
    obtain ⟨k3, k4⟩ := best_pick (d := 0) hp
    refine ⟨by lia, _, ltI k2, fun v h' hv => ?_⟩
    obtain ⟨t, rfl⟩ := k2 _ _ hv
    rw [← k1, k4]; exact Den.of_int
  · split at e
    · rename_i is hi
      obtain ⟨i, hp, rfl⟩ := Option.map_eq_some_iff.mp e
      obtain ⟨k1, k2⟩ := allFloats_at hi d
      obtain ⟨k3, k4⟩ := best_pick (d := 0) hp
      refine ⟨by lia, _, ltF k2, fun v h' hv => ?_⟩
      obtain ⟨t, ht, rfl⟩ := k2 _ _ hv
      rw [← k1, k4]; exact Den.of_float ht
    · cases e

theorem numL {w : World} {M : List Addr} {h : Heap} : ∀ {l : List T} {vs : List Value}, ((allInts l).isSome ∨ (allFloats l).isSome) → DenBs w M h l vs → DenL w M h l vs := by
  have key : ∀ {l : List T} {vs : List Value}, (∀ t ∈ l, ∀ l', t ≠ .list l') → DenBs w M h l vs → DenL w M h l vs := by
    intro l
    induction l with
    | nil => intro vs _ d; simpa [DenL, DenBs] using d
    | cons t r ih =>
      intro vs hn d
      obtain ⟨v, vs', rfl, d1, d2⟩ := d
      refine DenL.cons ?_ (ih (fun t ht => hn t (List.mem_cons_of_mem _ ht)) d2)
      cases t <;> first | exact d1 | exact absurd rfl (hn _ List.mem_cons_self _)
  have hi : ∀ {l : List T} {is : List Int}, allInts l = some is → ∀ t ∈ l, ∀ l', t ≠ .list l' := by
    intro l
    induction l with
    | nil => intro is _ t ht; cases ht
    | cons t r ih =>
      intro is e u hu l'
      cases t <;> simp only [allInts] at e <;> (try cases e)
      obtain ⟨is', e', rfl⟩ := Option.map_eq_some_iff.mp e
      rcases List.mem_cons.mp hu with rfl | hu
      · simp
      · exact ih e' u hu l'
  have hf : ∀ {l : List T} {is : List UInt64}, allFloats l = some is → ∀ t ∈ l, ∀ l', t ≠ .list l' := by
    intro l
    induction l with
    | nil => intro is _ t ht; cases ht
    | cons t r ih =>
      intro is e u hu l'
      cases t <;> simp only [allFloats] at e <;> (try cases e)
      obtain ⟨is', e', rfl⟩ := Option.map_eq_some_iff.mp e
      rcases List.mem_cons.mp hu with rfl | hu
      · simp
      · exact ih e' u hu l'
  intro l vs h d
  rcases h with h | h
  · obtain ⟨is, e⟩ := Option.isSome_iff_exists.mp h; exact key (hi e) d
  · obtain ⟨is, e⟩ := Option.isSome_iff_exists.mp h; exact key (hf e) d
theorem maxT_num {l : List T} {r : T} (e : maxT l = some r) : (allInts l).isSome ∨ (allFloats l).isSome := by
  unfold maxT at e
  split at e
  · rename_i h; simp [h]
  · cases e
theorem minT_num {l : List T} {r : T} (e : minT l = some r) : (allInts l).isSome ∨ (allFloats l).isSome := by
  unfold minT at e
  split at e
  · rename_i h; simp [h]
  · split at e
    · rename_i h; simp [h]
    · cases e

theorem min_list_ok {l : List T} {r : T} (e : minT l = some r) : CallOk c k (.builtin "min") [.list l] r := fun A s M vs rm B hM d => by
  obtain ⟨v, rfl, d1⟩ := d.one
  obtain ⟨a, items, rfl, h1, h2⟩ := d1.list
  refine wp_grow (call_min_walk (wp_iter_list h1.isList fun s₂ e2 st hfp hl => ?_))
  subst e2
  obtain ⟨hn, bt, hc, hr⟩ := leastOf (prog := c.prog) (w := c.w) (A := A.in1) e h2
  refine ⟨_, _, _, _, _, _, bt, rfl, Walks.list (A := A.in1) rm.1 _ a hl items, st, hfp, by simpa using hn, fun i j vi vj s Q E hi hj hQ => hc i j vi vj s Q E (by simpa using hi) (by simpa using hj) hQ, fun v h' tk hP hk hs ht => ?_⟩
  exact ⟨Ext.raw (kept1 hk) hs ht, hr v h' (by simpa using hP)⟩

theorem tup_iter {s : Shared} {M : List Addr} {l : List T} {vs : List Value} {A : Around} {Q : Value → Shared → Prop} {E : Value → Shared → Prop} (items : Array Value) (hi : items.toList = vs)
    (h : ∀ s₂ : Shared, s₂ = { s with heap := (s.heap.push { cls := .type "tuple", data := .seq items }).push { cls := .type "tuple_iterator", data := .fields #[.ref s.heap.objs.size, .int 0 0] } } →
      (s₂.heap.IsTupleIter (s.heap.objs.size + 1) s.heap.objs.size 0 ∧ s₂.heap.IsTuple s.heap.objs.size items) → (∀ b ∈ [s.heap.objs.size + 1, s.heap.objs.size], b < s₂.heap.objs.size) → Q (.ref (s.heap.objs.size + 1)) s₂) :
    wpAny (model c.prog c.w) A (pyIter (.ref s.heap.objs.size)) Q E { s with heap := s.heap.push { cls := .type "tuple", data := .seq items } } := by
  have hT : (s.heap.push { cls := .type "tuple", data := .seq items }).IsTuple s.heap.objs.size items := ⟨_, Heap.get?_push_size _ rfl, rfl, 0, rfl⟩
  have hz : (s.heap.push { cls := .type "tuple", data := .seq items }).objs.size = s.heap.objs.size + 1 := Heap.size_push ..
  refine wp_iter_tuple (s := { s with heap := s.heap.push { cls := .type "tuple", data := .seq items } }) hT fun s₂ e st hfp hl => ?_
  subst e
  dsimp only at st hfp ⊢
  rw [hz] at st hfp ⊢
  exact h _ rfl st hfp
theorem kept2 {h h' : Heap} {o₀ o₁ : Obj} (hk : ∀ b o, b ∉ [h.objs.size + 1] → ((h.push o₀).push o₁).get? b = some o → h'.get? b = some o) : ∀ b o, h.get? b = some o → h'.get? b = some o := fun b o e =>
  hk b o (by simp; exact Nat.ne_of_lt (Nat.lt_succ_of_lt (Heap.lt_size e))) (Heap.get?_push_of_some _ (Heap.get?_push_of_some _ e))

theorem one_of {l : List Value} (h : l.length = 1) : ∃ x, l = [x] := by
  cases l with
  | nil => cases h
  | cons x l => cases l with
    | nil => exact ⟨x, rfl⟩
    | cons _ _ => cases h
theorem two_of {l : List Value} (h : l.length = 2) : ∃ x y, l = [x, y] := by
  cases l with
  | nil => cases h
  | cons x l => cases l with
    | nil => cases h
    | cons y l => cases l with
      | nil => exact ⟨x, y, rfl⟩
      | cons _ _ => cases h
theorem three_of {l : List Value} (h : l.length = 3) : ∃ x y z, l = [x, y, z] := by
  cases l with
  | nil => cases h
  | cons x l =>
    obtain ⟨y, z, rfl⟩ := two_of (Nat.succ.inj h)
    exact ⟨x, y, z, rfl⟩
theorem four_of {l : List Value} (h : l.length = 4) : ∃ x y z u, l = [x, y, z, u] := by
  cases l with
  | nil => cases h
  | cons x l =>
    obtain ⟨y, z, u, rfl⟩ := three_of (Nat.succ.inj h)
    exact ⟨x, y, z, u, rfl⟩
theorem max_some_ok {l : List T} {r : T} (e : maxT l = some r) (h23 : l.length = 2 ∨ l.length = 3) : CallOk c k (.builtin "max") l r := fun A s M vs rm B hM d => by
  have d' := numL (maxT_num e) d
  obtain ⟨hn, bt, hc, hr⟩ := bestOf (prog := c.prog) (w := c.w) (A := A.in1) e d'
  have hlen := d'.length
  have go : ∀ (items : Array Value), items.toList = vs → wpAny (model c.prog c.w) A.in1 (pyIter (.ref s.heap.objs.size)) (fun it s₂ => ∃ I fp wr n P St bt, it = .ref I ∧ Walks c.prog c.w A.in1 I fp wr n P St ∧ St 0 s₂.heap ∧ (∀ b ∈ fp, b < s₂.heap.objs.size) ∧ 0 < n ∧ CmpOf c.prog c.w A.in1 .Gt P bt ∧
      ∀ v h' tk, P (argBest bt (n - 1)) v → (∀ b o, b ∉ wr → s₂.heap.get? b = some o → h'.get? b = some o) → s.heap.objs.size ≤ h'.objs.size → s.toks ≤ tk → Ext s { s₂ with heap := h', toks := tk } ∧ Den c.w M h' r v) NoE
      { s with heap := s.heap.push { cls := .type "tuple", data := .seq items } } := fun items hi => by
    refine tup_iter (c := c) (l := l) (M := M) items hi fun s₂ e2 st hfp => ?_
    subst e2
    refine ⟨_, _, _, _, _, _, bt, rfl, Walks.tuple (A := A.in1) rm.1 _ s.heap.objs.size (Nat.ne_of_lt (Nat.lt_succ_self _)) items, st, hfp, by simpa [← hi] using hn, fun i j vi vj s Q E hi' hj hQ => hc i j vi vj s Q E (by simpa [← hi] using hi') (by simpa [← hi] using hj) hQ, fun v h' tk hP hk hs ht => ?_⟩
    exact ⟨Ext.raw (kept2 hk) hs ht, hr v h' (by simpa [← hi] using hP)⟩
  rcases h23 with h2 | h3
  · obtain ⟨x, y, rfl⟩ := two_of (hlen.symm.trans h2)
    exact wp_grow (call_max_two (go #[x, y] rfl))
  · obtain ⟨x, y, z, rfl⟩ := three_of (hlen.symm.trans h3)
    exact wp_grow (call_max_three (go #[x, y, z] rfl))

theorem min_some_ok {l : List T} {r : T} (e : minT l = some r) (h23 : l.length = 2 ∨ l.length = 3) : CallOk c k (.builtin "min") l r := fun A s M vs rm B hM d => by
  have d' := numL (minT_num e) d
  obtain ⟨hn, bt, hc, hr⟩ := leastOf (prog := c.prog) (w := c.w) (A := A.in1) e d'
  have hlen := d'.length
  have go : ∀ (items : Array Value), items.toList = vs → wpAny (model c.prog c.w) A.in1 (pyIter (.ref s.heap.objs.size)) (fun it s₂ => ∃ I fp wr n P St bt, it = .ref I ∧ Walks c.prog c.w A.in1 I fp wr n P St ∧ St 0 s₂.heap ∧ (∀ b ∈ fp, b < s₂.heap.objs.size) ∧ 0 < n ∧ CmpOf c.prog c.w A.in1 .Lt P bt ∧
      ∀ v h' tk, P (argBest bt (n - 1)) v → (∀ b o, b ∉ wr → s₂.heap.get? b = some o → h'.get? b = some o) → s.heap.objs.size ≤ h'.objs.size → s.toks ≤ tk → Ext s { s₂ with heap := h', toks := tk } ∧ Den c.w M h' r v) NoE
      { s with heap := s.heap.push { cls := .type "tuple", data := .seq items } } := fun items hi => by
    refine tup_iter (c := c) (l := l) (M := M) items hi fun s₂ e2 st hfp => ?_
    subst e2
    refine ⟨_, _, _, _, _, _, bt, rfl, Walks.tuple (A := A.in1) rm.1 _ s.heap.objs.size (Nat.ne_of_lt (Nat.lt_succ_self _)) items, st, hfp, by simpa [← hi] using hn, fun i j vi vj s Q E hi' hj hQ => hc i j vi vj s Q E (by simpa [← hi] using hi') (by simpa [← hi] using hj) hQ, fun v h' tk hP hk hs ht => ?_⟩
    exact ⟨Ext.raw (kept2 hk) hs ht, hr v h' (by simpa [← hi] using hP)⟩
  rcases h23 with h2 | h3
  · obtain ⟨x, y, rfl⟩ := two_of (hlen.symm.trans h2)
    exact wp_grow (call_min_two (go #[x, y] rfl))
  · obtain ⟨x, y, z, rfl⟩ := three_of (hlen.symm.trans h3)
    exact wp_grow (call_min_three (go #[x, y, z] rfl))

theorem preSum_sum (is : List Int) : preSum (fun i => is.getD i 0) is.length = is.sum := by
  have key : ∀ k, k ≤ is.length → preSum (fun i => is.getD i 0) k = (is.take k).sum := by
    intro k
    induction k with
    | zero => intro _; simp [preSum]
    | succ k ih =>
      intro hk
      rw [List.take_add_one, List.sum_append, ← ih (by lia)]
      simp [preSum, List.getElem?_eq_getElem (by lia : k < is.length), List.getD]
  simpa using key is.length (Nat.le_refl _)

theorem sum_ok {l : List T} {r : T} (e : sumT l = some r) : CallOk c k (.builtin "sum") [.list l] r := fun A s M vs rm B hM d => by
  obtain ⟨v, rfl, d1⟩ := d.one
  obtain ⟨a, items, rfl, h1, h2⟩ := d1.list
  obtain ⟨is, hi, rfl⟩ := Option.map_eq_some_iff.mp e
  obtain ⟨k1, k2⟩ := allInts_at hi h2
  refine wp_grow (call_sum_walkAnyS (wp_iter_list h1.isList fun s₂ e2 st hfp hl => ?_))
  subst e2
  refine ⟨_, _, _, _, _, _, _, fun i => is.getD i 0, rfl, (Walks.list (A := A.in1) rm.1 _ a hl items).toS, st, hfp, fun i v hv => k2 i v (by simpa using hv), fun s' t' hm hs ht => ?_⟩
  have hsz : items.size = is.length := by simpa using k1.symm
  refine ⟨⟨fun b o _ e => kept1 hm.heap b o e, hs, fun i x e => ?_, fun h => ?_, hm.os, ht⟩, ?_⟩
  · rw [show s'.gens = s.gens from hm.gens]; exact e
  · rw [show s'.gens = s.gens from hm.gens]; exact h
  · rw [hsz, preSum_sum]; exact Den.of_int

theorem small63 {n : Nat} (h : n ≤ 16777216) : ¬ ((n : Int) ≥ 2 ^ 63) := by lia
theorem one_ok {g : T → Option T} {f : Value} (hg : ∀ t r, g t = some r → CallOk c k f [t] r) {a : List T} {r : T} (h : one g a = some r) : CallOk c k f a r := by
  obtain ⟨t, rfl, h1⟩ := one_some h
  exact hg t r h1
theorem len_ok (t r : T) (h1 : lenT t = some r) : CallOk c k (.builtin "len") [t] r := by
  cases t <;> (try cases h1) <;> rename_i l <;> obtain ⟨hz, rfl⟩ := of_if h1 <;> clear h1 <;> intro A s M vs rm B hM d <;> obtain ⟨v, rfl, d1⟩ := d.one
  · obtain ⟨t, rfl⟩ := d1.str
    exact PyProof.Rows.len_str (small63 hz) ⟨Ext.trans (Ext.tok _) (Ext.tok _), Den.of_int⟩
  · obtain ⟨a, items, rfl, h1, h2⟩ := d1.list
    have hl : l.length = items.size := h2.length
    rw [hl] at hz ⊢
    exact PyProof.Rows.len_list h1.isList (Int.ofNat_lt.mpr (Nat.lt_of_le_of_lt hz (by decide))) ⟨Ext.trans (Ext.tok _) (Ext.tok _), Den.of_int⟩
theorem ord_ok (t r : T) (h1 : ordT t = some r) : CallOk c k (.builtin "ord") [t] r := by
  cases t <;> (try cases h1)
  obtain ⟨hz, rfl⟩ := of_if h1
  intro A s M vs rm B hM d
  obtain ⟨v, rfl, d1⟩ := d.one
  obtain ⟨t, rfl⟩ := d1.str
  exact ord_of_one hz ⟨Ext.tok _, Den.of_int⟩
theorem chr_ok (t r : T) (h1 : chrI t = some r) : CallOk c k (.builtin "chr") [t] r := by
  cases t <;> (try cases h1)
  obtain ⟨hi, rfl⟩ := of_if h1
  intro A s M vs rm B hM d
  obtain ⟨v, rfl, d1⟩ := d.one
  obtain ⟨t, rfl⟩ := d1.int
  exact chr_of_range hi.1 hi.2 ⟨Ext.tok _, Den.of_str⟩
theorem int_ok (t r : T) (h1 : intT t = some r) : CallOk c k (.type "int") [t] r := by
  cases t <;> (try cases h1)
  rename_i x
  have h2 : (match Float64.decode x with
    | .fin sg m e => some (T.int (Float64.truncOf sg m e))
    | _ => none) = some r := h1
  clear h1
  cases hd : Float64.decode x <;> rw [hd] at h2 <;> cases h2
  intro A s M vs rm B hM d
  obtain ⟨v, rfl, d1⟩ := d.one
  obtain ⟨t, _, rfl⟩ := d1.float
  exact call_int_float hd ⟨Ext.tok _, Den.of_int⟩
theorem bi_ok {f : Str} {a : List T} {r : T} (h : bi f a = some r) : CallOk c k (biV f) a r := by
  have go : ∀ {n : Str} {x y : Option T}, (if (f == n) = true then x else y) = some r → (f = n ∧ x = some r) ∨ y = some r := fun {n x y} h => by
    by_cases e : (f == n) = true
    · rw [if_pos e] at h; exact .inl ⟨eq_of_beq e, h⟩
    · rw [if_neg e] at h; exact .inr h
  rcases go h with ⟨rfl, h⟩ | h
  · exact one_ok len_ok h
  rcases go h with ⟨rfl, h⟩ | h
  · exact one_ok ord_ok h
  rcases go h with ⟨rfl, h⟩ | h
  · exact one_ok chr_ok h
  rcases go h with ⟨rfl, h⟩ | h
  · exact one_ok int_ok h
  rcases go h with ⟨rfl, h⟩ | h
  · refine one_ok (g := ofList sumT) (fun t r h => ?_) h
    obtain ⟨l, rfl, h⟩ := ofList_some h
    exact sum_ok h
  rcases go h with ⟨rfl, h⟩ | h
  · obtain ⟨h2, h⟩ := some3_some h
    exact max_some_ok h (.inr h2)
  rcases go h with ⟨rfl, h⟩ | h
  · rcases some1_some h with ⟨l, rfl, h⟩ | ⟨h2, h⟩
    · exact min_list_ok h
    · exact min_some_ok h h2
  · cases h
end
end Mine
end

section
set_option autoImplicit false
set_option linter.unusedVariables false
set_option linter.unusedSimpArgs false
namespace Mine
open PySem PySem.Calls PyProof.Rows PySem.SeqAt

/-! items -/
noncomputable def small62 (i : Int) : Bool := decide (-4611686018427387904 ≤ i) && decide (i < 4611686018427387904)
noncomputable def nth {α : Type} (l : List α) (i : Int) : Option α := if small62 i then (seqIndex? i l.length).bind (l[·]?) else none
noncomputable def ixT : T → T → Option T
  | .list l, .int i => nth l i
  | .tup l, .int i => nth l i
  | .str x, .int i => (nth x.cps.toList i).map fun c => .str ⟨#[c]⟩
  | _, _ => none
noncomputable def notSlice : Expr → Bool
  | .Slice .. => false
  | _ => true
theorem sub_of {e : Expr} (h : notSlice e = true) (o i : Value) : subscripted e false o i = operate [o, i] (getItem o i) := by
  cases e <;> first | rfl | (exact absurd (show false = true from h) (by decide))
theorem small62_le {i : Int} (h : small62 i = true) : -(2 ^ 63) ≤ i ∧ i < 2 ^ 63 := by
  simp only [small62, Bool.and_eq_true, decide_eq_true_eq] at h; lia
theorem nth_some {α : Type} {l : List α} {i : Int} {t : α} (h : nth l i = some t) : small62 i = true ∧ ∃ j, seqIndex? i l.length = some j ∧ l[j]? = some t := by
  unfold nth at h
  split at h
  · rename_i hs
    obtain ⟨j, h1, h2⟩ := Option.bind_eq_some_iff.mp h
    exact ⟨hs, j, h1, h2⟩
  · cases h
theorem seqIndex_cases {i : Int} {n j : Nat} (h : seqIndex? i n = some j) : (0 ≤ i ∧ j = i.toNat) ∨ (i < 0 ∧ -(n : Int) ≤ i ∧ j = (i + n).toNat) := by
  have go : ∀ {k : Int}, (if (decide (0 ≤ k) && decide (k < (n : Int))) = true then some k.toNat else none) = some j → 0 ≤ k ∧ j = k.toNat := fun {k} h => by
    split at h
    · rename_i hc
      exact ⟨of_decide_eq_true (Bool.and_eq_true_iff.mp hc).1, (Option.some.inj h).symm⟩
    · cases h
  unfold seqIndex? at h
  by_cases hi : i < 0
  · simp only [hi, if_true] at h
    obtain ⟨h1, h2⟩ := go h
    exact .inr ⟨hi, Int.neg_le_of_neg_le (by have := h1; clear h2 go h; lia), h2⟩
  · simp only [hi, if_false] at h
    exact .inl (go h)

section
variable {c : Cx} {n : Nat} {ρ : Rho}
theorem wp_getItem {A : Around} {s : Shared} {M : List Addr} {o i r : T} {v v' : Value} (hx : ixT o i = some r) (d : DenB c.w M s.heap o v) (d' : DenB c.w M s.heap i v') :
    wpAny (model c.prog c.w) A (getItem v v') (fun r' s' => Ext s s' ∧ Den c.w M s'.heap r r') NoE s := by
  unfold ixT at hx
  split at hx
  · obtain ⟨a, vs, rfl, h1, h2⟩ := d.list
    obtain ⟨u, rfl⟩ := d'.int
    obtain ⟨hs, j, hj, hr⟩ := nth_some hx
    obtain ⟨x, hx', dx⟩ := h2.get hr
    have hb := small62_le hs
    have hl := h2.length
    rw [hl] at hj
    have hx'' : vs[j]? = some x := by simpa using hx'
    have e : vs.toList.length = vs.size := by simp
    rcases seqIndex_cases hj with ⟨k1, rfl⟩ | ⟨k1, k2, rfl⟩
    · exact wpAny_getItem_list h1.isList k1 hb.2 hx'' ⟨Chg.refl _, dx⟩
    · exact wpAny_getItem_list_neg h1.isList k1 (by lia) hb.1 (by rw [← e]; exact hx'') ⟨Chg.refl _, dx⟩
  · obtain ⟨a, vs, rfl, _, h1, h2⟩ := d.tup
    obtain ⟨u, rfl⟩ := d'.int
    obtain ⟨hs, j, hj, hr⟩ := nth_some hx
    obtain ⟨x, hx', dx⟩ := h2.get hr
    have hb := small62_le hs
    rw [h2.length] at hj
    obtain ⟨o, ho, hc, k, hd⟩ := h1
    exact PyProof.Rows.getItem_tuple ⟨o, ho, hc, k, hd⟩ hb.1 hb.2 (by simpa using hj) (by simpa using hx') ⟨Chg.refl _, dx⟩
  · obtain ⟨q, hq, rfl⟩ := Option.map_eq_some_iff.mp hx
    obtain ⟨t, rfl⟩ := d.str
    obtain ⟨u, rfl⟩ := d'.int
    obtain ⟨hs, j, hj, hr⟩ := nth_some hq
    have hb := small62_le hs
    refine PySem.P.getItem_str (c := q) (by simp; lia) ?_ ⟨Ext.tok _, Den.of_str⟩
    rw [show PySem.Str.length _ = _ from rfl]
    simp only [Array.length_toList] at hj
    show (seqIndex? _ (Array.size _)).bind _ = _
    rw [hj]
    simpa using hr
  · cases hx

theorem ixT_type {s : Shared} {M : List Addr} {o i r : T} {v : Value} {w : World} (hx : ixT o i = some r) (d : DenB w M s.heap o v) : ∃ T id, s.TypeIs v T ∧ typeLookup (.type T) "__getitem__" = pure (some (.builtin id)) := by
  unfold ixT at hx
  split at hx
  · obtain ⟨a, vs, rfl, h1, h2⟩ := d.list; exact ⟨_, _, h1.isList.typeIs, slot_list_getitem.lookup⟩
  · obtain ⟨a, vs, rfl, _, h1, h2⟩ := d.tup; exact ⟨_, _, h1.typeIs, PySem.F.slot_tuple_getitem.lookup⟩
  · obtain ⟨t, rfl⟩ := d.str; exact ⟨_, _, typeIs_str _ _ _, PySem.F.slot_str_getitem.lookup⟩
  · cases hx

theorem Ev.ix {v i : Expr} {pos : Pos} {o k r : T} (hv : EvB c n ρ v o) (hi : Ev c n ρ i k) (hs : notSlice i = true) (hx : ixT o k = some r) : Ev c n ρ (.Subscript v i pos) r := .mk fun A s env M₀ O rm R =>
  Subscript_ (hv.go rm R fun ov s₁ x₁ R₁ d₁ => hi.go rm R₁ fun iv s₂ x₂ R₂ d₂ => by
    have d₁' := d₁.keep x₂.all
    obtain ⟨T, id, hT, hl⟩ := ixT_type hx d₁'
    exact tail_any hT hl (wpAny_imp (wp_getItem hx d₁' d₂.borrow) fun r' s' y => ⟨Ext.trans x₁ (Ext.trans x₂ y.1), y.2⟩) (sub_of hs _ _))

/-! slices -/
inductive Part (c : Cx) (n : Nat) (ρ : Rho) : Option Expr → Option Int → Prop
  | no : Part c n ρ none none
  | yes {e : Expr} {i : Int} : Ev c n ρ e (.int i) → Part c n ρ (some e) (some i)
theorem Part.go {e : Option Expr} {p : Option Int} (h : Part c n ρ e p) {A : Around} {env : Env} {M₀ : List Addr} {O : List (Str × Addr)} (rm : Room A n) {s : Shared} {Q : Value → Shared → Prop} (R : Rel c env M₀ O ρ s)
    (k : ∀ (q : Option (Int × Tok)) s', q.map (·.1) = p → Ext s s' → Rel c env M₀ O ρ s' → Q (PySem.partValue q) s') : wpAny (model c.prog c.w) A (evalPart e env) Q NoE s := by
  cases h with
  | no => exact wpAny_pure (k none s rfl (Chg.refl _) R)
  | yes h =>
    exact h.go rm R fun v s' x R' d => by
      obtain ⟨t, rfl⟩ := d.borrow.int
      exact k (some (_, t)) s' rfl x R'
theorem isPart_of (q : Option (Int × Tok)) : IsPart (PySem.partValue q) (q.map (·.1)) := by
  cases q with
  | none => exact .none
  | some p => exact .int _ _

noncomputable def cut {α : Type} (l : List α) (lo hi : Option Int) : List α := (l.drop (lo.elim 0 (clipAt l.length))).take (hi.elim l.length (clipAt l.length) - lo.elim 0 (clipAt l.length))

theorem EvN.slice {v : Expr} {lo hi : Option Expr} {p pos : Pos} {l : List T} {a b : Option Int} (hv : EvB c n ρ v (.list l)) (ha : Part c n ρ lo a) (hb : Part c n ρ hi b) (hz : l.length ≤ sizeLine) :
    EvN c n ρ (.Subscript v (.Slice lo hi none p) pos) (cut l a b) := .mk fun A s env M₀ O rm R =>
  Subscript_ (hv.go rm R fun ov s₁ x₁ R₁ d₁ => wpAny_Slice (ha.go rm R₁ fun q₂ s₂ e₂ x₂ R₂ => hb.go rm R₂ fun q₃ s₃ e₃ x₃ R₃ => by
    rw [evalPart_none]
    refine wpAny_pure ?_
    obtain ⟨l', vs, rfl, h1, h2⟩ := (d₁.keep (Ext.trans x₂ x₃).all).list
    subst e₂ e₃
    have hlen := h2.length
    have hk := (Ext.push s₃ { cls := .type "slice", data := .fields #[PySem.partValue q₂, PySem.partValue q₃, .none] })
    refine tail_any (Heap.IsList.typeIs (s := { s₃ with heap := _ }) (h1.isList.push _)) slot_list_getitem.lookup
      (wpAny_getItem_list_slice (h1.isList.push _) (Heap.IsSliceOf.new ..) (isPart_of q₂) (isPart_of q₃) .none (by simp) ?_ (by simp at hlen; lia)) (by rfl)
    refine ⟨Ext.trans x₁ (Ext.trans x₂ (Ext.trans x₃ (Ext.trans hk (Ext.push _ _)))), _, _, rfl, ?_, ⟨0, Heap.get?_push_size _ rfl⟩, ?_⟩
    · exact Nat.le_trans x₁.size (Nat.le_trans x₂.size (Nat.le_trans x₃.size hk.size))
    · rw [slicePick_plain]
      simp only [List.toList_toArray]
      have hsz : vs.size = l.length := by simpa using hlen.symm
      unfold cut
      rw [hsz]
      exact ((((h2.drop _).take _).keep hk.all).newer (Nat.le_refl _)).keep (Ext.push _ _).all))

theorem Ev.sliceS {v : Expr} {lo hi : Option Expr} {p pos : Pos} {x : Str} {a b : Option Int} (hv : EvB c n ρ v (.str x)) (ha : Part c n ρ lo a) (hb : Part c n ρ hi b) (hz : x.length ≤ sizeLine) :
    Ev c n ρ (.Subscript v (.Slice lo hi none p) pos) (.str (Txt.slice x a b)) := .mk fun A s env M₀ O rm R =>
  Subscript_ (hv.go rm R fun ov s₁ x₁ R₁ d₁ => wpAny_Slice (ha.go rm R₁ fun q₂ s₂ e₂ x₂ R₂ => hb.go rm R₂ fun q₃ s₃ e₃ x₃ R₃ => by
    rw [evalPart_none]
    refine wpAny_pure ?_
    obtain ⟨t, rfl⟩ := d₁.str
    subst e₂ e₃
    have hk := (Ext.push s₃ { cls := .type "slice", data := .fields #[PySem.partValue q₂, PySem.partValue q₃, .none] })
    refine tail_any (typeIs_str _ _ _) PySem.F.slot_str_getitem.lookup
      (wp_grow (wpAny_getItem_str_slice (l := q₂) (u := q₃) (st := none) ⟨_, Heap.get?_push_size _ rfl, rfl, rfl⟩ rfl
        (post_val_or_str ⟨Nat.le_trans (Txt.slice_le x _ _) hz, fun t' k hs ht => ⟨Ext.trans x₁ (Ext.trans x₂ (Ext.trans x₃ (Ext.trans hk (Ext.toks ht)))), Den.of_str⟩⟩))) (by rfl)))

theorem Ev.sliceT {v e : Expr} {p pos : Pos} {l : List T} {a : Nat} (hv : EvB c n ρ v (.tup l)) (ha : Ev c n ρ e (.int a)) (h1 : 1 ≤ a) (h2 : a ≤ l.length) (hz : l.length ≤ sizeLine) :
    Ev c n ρ (.Subscript v (.Slice (some e) none none p) pos) (.tup (l.drop a)) := .mk fun A s env M₀ O rm R =>
  Subscript_ (hv.go rm R fun ov s₁ x₁ R₁ d₁ => wpAny_Slice (ha.go rm R₁ fun iv s₂ x₂ R₂ d₂ => by
    rw [evalPart_none]
    refine wpAny_pure (wpAny_pure ?_)
    obtain ⟨l', vs, rfl, hM, ht, hd⟩ := (d₁.keep x₂.all).tup
    obtain ⟨t, rfl⟩ := d₂.borrow.int
    have hlen := hd.length
    have hsz : vs.size = l.length := by simpa using hlen.symm
    have hk := (Ext.push s₂ { cls := .type "slice", data := .fields #[.int a t, .none, .none] })
    obtain ⟨o, ho, hc, m, hdt⟩ := ht
    refine tail_any (T := "tuple") ⟨o, Heap.get?_push_of_some _ ho, hc⟩ PySem.F.slot_tuple_getitem.lookup
      (getItem_tuple_from ⟨o, Heap.get?_push_of_some _ ho, hc, m, hdt⟩ (Heap.IsSliceOf.new ..) h1 (by lia) ?_ (by lia)) (by rfl)
    refine ⟨Ext.trans x₁ (Ext.trans x₂ (Ext.trans hk (Ext.push _ _))), Den.of_tup (vs := (vs.toList.drop a).toArray) ?_ ⟨_, Heap.get?_push_size _ rfl, rfl, 0, rfl⟩ ?_⟩
    · exact (R₂.ext hk).new (Nat.le_refl _)
    · simpa using (hd.drop a).keep (Ext.trans hk (Ext.push _ _)).all))

/-! methods that only read -/
noncomputable def strsOf : List T → Option (List Str)
  | [] => some []
  | .str x :: r => (strsOf r).map (x :: ·)
  | _ => none
theorem strsAre {w : World} {M : List Addr} {h : Heap} : ∀ {l : List T} {ys : List Str} {vs : List Value}, strsOf l = some ys → DenL w M h l vs → StrsAre vs ys
  | [], ys, vs, e, d => by simp [strsOf] at e; subst e; simp only [DenL] at d; subst d; exact .nil
  | t :: r, ys, vs, e, d => by
    cases t <;> simp only [strsOf] at e <;> (try cases e)
    obtain ⟨ys', e', rfl⟩ := Option.map_eq_some_iff.mp e
    simp only [DenL, Den] at d
    obtain ⟨v, vs', rfl, ⟨t, rfl⟩, d⟩ := d
    exact .cons _ _ (strsAre e' d)

noncomputable def meth (m : Str) (o a : T) : Option T :=
  if m == "join" then match o, a with
    | .str x, .list l => (match strsOf l with
      | some ys => if (ys.map (·.length)).sum + ys.length * x.length ≤ 16777216 then some (.str (Txt.join x ys)) else none
      | none => none)
    | _, _ => none
  else none

noncomputable def noSuper : Expr → Bool
  | .Call .. => false
  | _ => true
theorem base_of {o : Expr} {m : Str} {env : Env} {whole : Sem Value} (h : noSuper o = true) : attributeBase o m env whole = whole := by
  cases o <;> first | rfl | (exact absurd (show false = true from h) (by decide))

theorem Ev.meth1 {o e : Expr} {m : Str} {apos pos : Pos} {x a r : T} (ho : EvB c n ρ o x) (he : EvB c n ρ e a) (hn : noSuper o = true) (hs : notStar e = true) (hl : (apos.endLine == pos.line) = true) (h : meth m x a = some r) :
    Ev c n ρ (.Call (.Attribute o m apos) [e] [] pos) r := .mk fun A s env M₀ O rm R => by
  refine Call_method1 (base_of hn) (by rw [starEach_cons hs]; rfl) hl (ho.go rm R fun ov s₁ x₁ R₁ d₁ => ?_)
  unfold meth at h
  split at h
  · rename_i hm
    obtain rfl : m = "join" := by simpa using hm
    split at h <;> (try cases h)
    split at h <;> (try cases h)
    split at h <;> cases h
    rename_i ys hy hz
    obtain ⟨t, rfl⟩ := d₁.str
    refine ⟨"str", "str.join", PySem.F.plainAttrs_str, PySem.F.slot_str_join, PySem.F.type_str_join, typeIs_str _ _ _, (fun _ e => nomatch e), ?_⟩
    refine callWith_builtin rfl (evalArgs_plain (spliced_cons (he.go rm R₁ fun v s₂ x₂ R₂ d₂ => spliced_nil ?_)))
    obtain ⟨a, vs, rfl, h1, h2⟩ := d₂.list
    exact wp_grow (join_list h1.isList (strsAre hy h2) hz fun t' k hs ht => ⟨Ext.trans x₁ (Ext.trans x₂ (Ext.toks ht)), Den.of_str⟩)
  · cases h
end
end Mine
end

section
set_option autoImplicit false
set_option linter.unusedVariables false
set_option linter.unusedSimpArgs false
namespace Mine
open PySem PySem.Calls PyProof.Rows PySem.SeqAt

/-- as Chg, the generators apart -/
structure Chh (N : List Addr) (s s' : Shared) : Prop where
  heap : ∀ b o, b ∉ N → s.heap.get? b = some o → s'.heap.get? b = some o
  size : s.heap.objs.size ≤ s'.heap.objs.size
  toks : s.toks ≤ s'.toks
theorem Chg.h {N : List Addr} {s s' : Shared} (x : Chg N s s') : Chh N s s' := ⟨x.heap, x.size, x.toks⟩
theorem Chh.bas {c : Cx} {s s' : Shared} {N : List Addr} (B : Bas c s) (x : Chh N s s') (h : ∀ a ∈ N, c.H.objs.size ≤ a) : Bas c s' :=
  ⟨fun b o e => x.heap b o (fun m => absurd (Heap.lt_size e) (Nat.not_lt.mpr (h b m))) (B.heap b o e), Nat.le_trans B.size x.size, Nat.lt_of_lt_of_le B.toks x.toks, B.lim⟩

mutual
theorem den_re {w : World} {M M' : List Addr} {h h' : Heap} (hM : ∀ a, a ∉ M → a < h.objs.size → a ∉ M') (hk : ∀ b o, b ∉ M → h.get? b = some o → h'.get? b = some o) : ∀ (t : T) (v : Value), Den w M h t v → Den w M' h' t v
  | .none, v, x => by simpa [Den] using x
  | .bool b, v, x => by simpa [Den] using x
  | .int i, v, x => by simpa [Den] using x
  | .float i, v, x => by simpa [Den] using x
  | .str i, v, x => by simpa [Den] using x
  | .tup l, v, x => by
    simp only [Den] at x ⊢
    obtain ⟨a, vs, h1, h2, h3, h4⟩ := x
    exact ⟨a, vs, h1, hM a h2 (let ⟨_, e, _⟩ := h3; Heap.lt_size e), Heap.isTuple_keep h3 (fun o => hk a o h2), denL_re hM hk l _ h4⟩
  | .list l, v, x => by
    simp only [Den] at x ⊢
    obtain ⟨a, vs, h1, h2, h3, h4⟩ := x
    exact ⟨a, vs, h1, hM a h2 (let ⟨_, e⟩ := h3; Heap.lt_size e), h3.at (fun o => hk a o h2), denL_re hM hk l _ h4⟩
theorem denL_re {w : World} {M M' : List Addr} {h h' : Heap} (hM : ∀ a, a ∉ M → a < h.objs.size → a ∉ M') (hk : ∀ b o, b ∉ M → h.get? b = some o → h'.get? b = some o) : ∀ (ts : List T) (vs : List Value), DenL w M h ts vs → DenL w M' h' ts vs
  | [], vs, x => by simpa [DenL] using x
  | t :: ts, vs, x => by
    simp only [DenL] at x ⊢
    obtain ⟨v, r, h1, h2, h3⟩ := x
    exact ⟨v, r, h1, den_re hM hk t v h2, denL_re hM hk ts r h3⟩
end


theorem Ns_fn {h : Heap} {a : Addr} {m m' : Str → Option Value} (x : h.Ns a m) (y : h.Ns a m') : m = m' := by
  obtain ⟨o, es, ep, e, d, r⟩ := x
  obtain ⟨o', es', ep', e', d', r'⟩ := y
  rw [e] at e'; cases e'
  rw [d] at d'; cases d'
  funext n
  rw [← r.2 n, ← r'.2 n]
section
variable {c : Cx} {env : Env} {M₀ : List Addr} {O : List (Str × Addr)} {ρ : Rho} {s s' : Shared}

theorem Loads.mono {h h' : Heap} {x : Str} {v : Value} (l : Loads env h x v) (h1 : ∀ o, h.get? env.locals = some o → h'.get? env.locals = some o)
    (h2 : ∀ a, (x, a) ∈ env.cells → ∀ o, h.get? a = some o → h'.get? a = some o) : Loads env h' x v := by
  rcases l with ⟨a, m, hn, hm⟩ | ⟨a, q, hc, hv⟩
  · exact .inl ⟨a, m, hn.at' h1, hm⟩
  · obtain ⟨o, ho, hd⟩ := hv
    exact .inr ⟨a, q, hc, o, h2 q (mem_of_lookup hc) o ho, hd⟩

theorem Loads.fn {s₀ : Shared} {h : Heap} {x : Str} {v v' : Value} (R : Rel c env M₀ O ρ s₀) (a : Loads env h x v) (b : Loads env h x v') : v = v' := by
  rcases a with ⟨k, m, hn, hm⟩ | ⟨k, q, hc, o, ho, hd⟩ <;> rcases b with ⟨k', m', hn', hm'⟩ | ⟨k', q', hc', o', ho', hd'⟩
  · rw [Ns_fn hn hn', hm'] at hm; cases hm; rfl
  · rw [k] at k'; rcases k' with e | e <;> cases e
  · rw [k'] at k; rcases k with e | e <;> cases e
  · rw [hc] at hc'; cases hc'; rw [ho] at ho'; cases ho'; rw [hd] at hd'; cases hd'; rfl

theorem mem_nOf_cell {x : Str} {a : Addr} (h : (x, a) ∈ env.cells) (hc : c.cel.contains x = true) : a ∈ nOf c env O :=
  List.mem_cons_of_mem _ (List.mem_append_left _ (mem_ownCells h hc))
theorem Rel.cellIn (R : Rel c env M₀ O ρ s) {x : Str} {a : Addr} (h : (x, a) ∈ env.cells) : a ∈ nOf c env O ∨ a ∈ M₀ := by
  rcases (R.cells x a h).2 with q | q
  · exact .inl (mem_nOf_cell h q)
  · exact .inr q
theorem own_mem {x : Str} {a : Addr} (h : O.lookup x = some a) : a ∈ nOf c env O :=
  List.mem_cons_of_mem _ (List.mem_append_right _ (List.mem_map.mpr ⟨(x, a), mem_of_lookup h, rfl⟩))

/-- what changes at places of the block's surroundings that hold nothing of its own: iterators -/
theorem Rel.step {N : List Addr} (R : Rel c env M₀ O ρ s) (x : Chh N s s') (hN : ∀ a ∈ N, a ∈ M₀ ∧ ∀ y, (y, a) ∉ env.cells) : Rel c env M₀ O ρ s' := by
  have hl : env.locals ∉ N := fun h => R.dis _ (List.mem_cons_self) (hN _ h).1
  have hc : ∀ y a, (y, a) ∈ env.cells → a ∉ N := fun y a e h => (hN a h).2 y e
  have hM : ∀ b, b ∉ nOf c env O ++ M₀ → b ∉ N := fun b hb h => hb (List.mem_append_right _ (hN b h).1)
  exact {
    bas := Chh.bas R.bas x fun a h => (R.hi a (List.mem_append_right _ (hN a h).1)).1
    names := R.names
    kind := R.kind
    glob := R.glob
    blt := R.blt
    nd := R.nd
    hi := fun a ha => ⟨(R.hi a ha).1, Nat.lt_of_lt_of_le (R.hi a ha).2 x.size⟩
    dis := R.dis
    loc := let ⟨m, hm⟩ := R.loc; ⟨m, hm.at' fun o e => x.heap _ o hl e⟩
    cells := fun y a e => let ⟨⟨v, o, ho, hv⟩, h2⟩ := R.cells y a e; ⟨⟨v, o, x.heap a o (hc y a e) ho, hv⟩, h2⟩
    call := R.call
    vars := fun y u e => let ⟨v, h1, h2⟩ := R.vars y u e
      ⟨v, h1.mono (fun o => x.heap _ o hl) (fun a m o => x.heap a o (hc y a m)), h2.mono (fun _ e => e) (fun b o hb => x.heap b o (hM b hb)) fun a e => ⟨e, fun o => x.heap a o fun h => R.dis a (own_mem e) (hN a h).1⟩⟩ }

theorem Rel.sub {ρ' : Rho} (R : Rel c env M₀ O ρ s) (h : ∀ x u, ρ'.lookup x = some u → ρ.lookup x = some u) : Rel c env M₀ O ρ' s :=
  { R with vars := fun x u e => R.vars x u (h x u e) }

noncomputable def unset (x : Str) (O : List (Str × Addr)) : List (Str × Addr) := O.filter fun p => !(p.1 == x)
theorem unset_lookup {x y : Str} : ∀ {O : List (Str × Addr)}, y ≠ x → (unset x O).lookup y = O.lookup y
  | [], _ => rfl
  | (z, a) :: r, h => by
    have ih := @unset_lookup x y r h
    unfold unset at ih ⊢
    by_cases hz : z = x
    · subst hz
      rw [List.filter_cons_of_neg (by simp), ih, List.lookup_cons, show (y == z) = false by simpa using h]
    · rw [List.filter_cons_of_pos (by simpa using hz), List.lookup_cons, List.lookup_cons, ih]
theorem unset_sub {x : Str} {a : Addr} (h : a ∈ (unset x O).map (·.2)) : a ∈ O.map (·.2) := by
  obtain ⟨p, hp, rfl⟩ := List.mem_map.mp h
  exact List.mem_map.mpr ⟨p, (List.mem_filter.mp hp).1, rfl⟩

/-- the names' table with x anew -/
noncomputable def put (x : Str) (u : Var) : Rho → Rho
  | [] => [(x, u)]
  | (y, v) :: r => if y == x then (x, u) :: r else (y, v) :: put x u r
theorem put_self (x : Str) (u : Var) : ∀ ρ : Rho, (put x u ρ).lookup x = some u
  | [] => by simp [put]
  | (y, v) :: r => by
    unfold put
    split
    · simp
    · rename_i h
      rw [List.lookup_cons, show (x == y) = false by simp at h; simpa using fun e => h e.symm]
      exact put_self x u r
theorem put_other {x y : Str} (u : Var) (h : y ≠ x) : ∀ ρ : Rho, (put x u ρ).lookup y = ρ.lookup y
  | [] => by simp [put, h]
  | (z, v) :: r => by
    unfold put
    split
    · rename_i hz
      obtain rfl : z = x := by simpa using hz
      rw [List.lookup_cons, List.lookup_cons, show (y == z) = false by simpa using h]
    · rw [List.lookup_cons, List.lookup_cons, put_other u h r]

/-- the block's own addresses behind a store of x -/
noncomputable def ownPut (x : Str) (u : Var) (v : Value) (O : List (Str × Addr)) : List (Str × Addr) := match u, v with
  | .own _, .ref a => (x, a) :: unset x O
  | _, _ => unset x O

/-- a name of the block can be stored -/
noncomputable def canStore (c : Cx) (x : Str) : Bool := c.ns.lookup x == some .local || (c.ns.lookup x == some .cell && c.cel.contains x)

/-- the value that is stored: a datum, or a list of the block's own, new -/
noncomputable def Fit (c : Cx) (env : Env) (M₀ : List Addr) (O : List (Str × Addr)) (lo : Nat) (h : Heap) : Var → Value → Prop
  | .sh t, v => Den c.w (nOf c env O ++ M₀) h t v
  | .own l, v => ∃ a vs, v = .ref a ∧ lo ≤ a ∧ h.PlainList a vs ∧ DenL c.w (a :: (nOf c env O ++ M₀)) h l vs.toList

theorem nOf_unset {x : Str} : ∀ a ∈ nOf c env (unset x O), a ∈ nOf c env O := fun a h => by
  unfold nOf at h ⊢
  rcases List.mem_cons.mp h with rfl | h
  · exact List.mem_cons_self
  · rcases List.mem_append.mp h with h | h
    · exact List.mem_cons_of_mem _ (List.mem_append_left _ h)
    · exact List.mem_cons_of_mem _ (List.mem_append_right _ (unset_sub h))
theorem nd_unset {x : Str} (h : (nOf c env O).Nodup) : (nOf c env (unset x O)).Nodup := by
  refine List.Sublist.nodup ?_ h
  unfold nOf unset
  exact List.Sublist.cons_cons _ (List.Sublist.append (List.Sublist.refl _) ((List.filter_sublist).map _))

theorem nOf_put {x : Str} {u : Var} {v : Value} {lo : Nat} (f : Fit c env M₀ O lo s.heap u v) : ∀ a ∈ nOf c env (ownPut x u v O), a ∈ nOf c env O ∨ (v = .ref a ∧ ∃ l, u = .own l) := fun a h => by
  cases u with
  | sh t => exact .inl (nOf_unset a (by simpa [ownPut] using h))
  | own l =>
    obtain ⟨b, vs, rfl, _⟩ := f
    simp only [ownPut] at h
    unfold nOf at h
    rcases List.mem_cons.mp h with rfl | h
    · exact .inl List.mem_cons_self
    · rcases List.mem_append.mp h with h | h
      · exact .inl (List.mem_cons_of_mem _ (List.mem_append_left _ h))
      · simp only [List.map_cons] at h
        rcases List.mem_cons.mp h with rfl | h
        · exact .inr ⟨rfl, l, rfl⟩
        · exact .inl (List.mem_cons_of_mem _ (List.mem_append_right _ (unset_sub h)))

theorem Rel.put {s₀ : Shared} (R₀ : Rel c env M₀ O ρ s₀) (x₀ : Ext s₀ s) {x : Str} {u : Var} {v : Value} (f : Fit c env M₀ O s₀.heap.objs.size s.heap u v) {h' : Heap} {tk : Nat} {N : List Addr} (hsz : s.heap.objs.size ≤ h'.objs.size) (htk : s.toks ≤ tk)
    (hk : ∀ b o, b ∉ N → s.heap.get? b = some o → h'.get? b = some o) (hN : ∀ a ∈ N, a = env.locals ∨ a ∈ ownCells c env) (hloc : ∃ m, h'.Ns env.locals m) (hcell : ∀ y a, (y, a) ∈ env.cells → ∃ w, h'.IsCell a w)
    (hold : ∀ y w, y ≠ x → Loads env s.heap y w → Loads env h' y w) (hnew : Loads env h' x v) : Rel c env M₀ (ownPut x u v O) (put x u ρ) { s with heap := h', toks := tk } := by
  have R := R₀.ext x₀
  have hNO : ∀ a ∈ N, a ∈ nOf c env O := fun a h => by
    rcases hN a h with rfl | h
    · exact List.mem_cons_self
    · exact List.mem_cons_of_mem _ (List.mem_append_left _ h)
  have hNM : ∀ a ∈ N, a ∈ nOf c env O ++ M₀ := fun a h => List.mem_append_left _ (hNO a h)
  have hown : ∀ a ∈ O.map (·.2), a ∉ N := fun a ha h => by
    have nd := R.nd
    unfold nOf at nd
    rw [List.nodup_cons, List.nodup_append] at nd
    rcases hN a h with rfl | h
    · exact nd.1 (List.mem_append_right _ ha)
    · exact nd.2.2.2 a h a ha rfl
  have hm : ∀ b, b ∉ nOf c env O ++ M₀ → b ∉ N := fun b hb h => hb (hNM b h)
  have hsub : ∀ a ∈ nOf c env (ownPut x u v O) ++ M₀, a ∈ nOf c env O ++ M₀ ∨ (v = .ref a ∧ ∃ l, u = .own l) := fun a ha => by
    rcases List.mem_append.mp ha with ha | ha
    · exact (nOf_put f a ha).imp (fun h => List.mem_append_left _ h) id
    · exact .inl (List.mem_append_right _ ha)
  have hnewA : ∀ a, v = .ref a → (∃ l, u = .own l) → a ∉ nOf c env O ++ M₀ ∧ c.H.objs.size ≤ a ∧ a < s.heap.objs.size := fun a e ⟨l, hu⟩ => by
    subst hu e
    obtain ⟨b, vs, e, h1, ⟨k, h3⟩, _⟩ := f
    cases e
    exact ⟨R₀.new h1, Nat.le_trans R₀.bas.size h1, Heap.lt_size h3⟩
  refine ⟨⟨fun b o e => hk b o (fun h => absurd (Heap.lt_size e) (Nat.not_lt.mpr (R.hi b (hNM b h)).1)) (R.bas.heap b o e), Nat.le_trans R.bas.size hsz, Nat.lt_of_lt_of_le R.bas.toks htk, R.bas.lim⟩,
    R.names, R.kind, R.glob, R.blt, ?_, ?_, ?_, hloc, fun y a e => ⟨hcell y a e, (R.cells y a e).2⟩, R.call, ?_⟩
  · cases u with
    | sh t => simpa [ownPut] using nd_unset R.nd
    | own l =>
      obtain ⟨b, vs, rfl, h1, _⟩ := f
      have nd := nd_unset (x := x) R.nd
      have hb : b ∉ nOf c env (unset x O) := fun h => R₀.new h1 (List.mem_append_left _ (nOf_unset b h))
      simp only [ownPut]
      unfold nOf at nd hb ⊢
      simp only [List.map_cons]
      rw [List.nodup_cons, List.nodup_append] at nd ⊢
      rw [List.mem_cons, List.mem_append, not_or, not_or] at hb
      refine ⟨?_, nd.2.1, List.nodup_cons.mpr ⟨hb.2.2, nd.2.2.1⟩, ?_⟩
      · rw [List.mem_append, List.mem_cons, not_or, not_or]
        rw [List.mem_append, not_or] at nd
        exact ⟨nd.1.1, fun e => hb.1 e.symm, nd.1.2⟩
      · intro p hp q hq
        rcases List.mem_cons.mp hq with rfl | hq
        · exact fun e => hb.2.1 (e ▸ hp)
        · exact nd.2.2.2 p hp q hq
  · intro a ha
    rcases hsub a ha with h | ⟨h1, h2⟩
    · exact ⟨(R.hi a h).1, Nat.lt_of_lt_of_le (R.hi a h).2 hsz⟩
    · have := hnewA a h1 h2; exact ⟨this.2.1, Nat.lt_of_lt_of_le this.2.2 hsz⟩
  · intro a ha hM
    rcases nOf_put f a ha with h | ⟨h1, h2⟩
    · exact R.dis a h hM
    · exact (hnewA a h1 h2).1 (List.mem_append_right _ hM)
  · intro y w e
    by_cases hy : y = x
    · subst hy
      rw [put_self] at e; cases e
      refine ⟨v, hnew, ?_⟩
      cases u with
      | sh t =>
        have hd : Den c.w (nOf c env O ++ M₀) h' t v := Den.mono (fun _ e => e) (fun b o hb => hk b o (hm b hb)) t v f
        refine Den.mono (fun b hb h => ?_) (fun _ _ _ e => e) t v hd
        rcases hsub b h with h | ⟨_, l, h2⟩
        · exact hb h
        · cases h2
      | own l =>
        obtain ⟨b, vs, rfl, h1, h3, h4⟩ := f
        refine ⟨b, vs, rfl, by simp [ownPut], h3.at fun o => hk b o (hm b (R₀.new h1)), ?_⟩
        refine DenL.mono (M := b :: (nOf c env O ++ M₀)) (fun q hq h => hq ?_) (fun p o hp => hk p o (hm p fun h => hp (List.mem_cons_of_mem _ h))) l _ h4
        rcases hsub q h with h | ⟨h, _⟩
        · exact List.mem_cons_of_mem _ h
        · cases h; exact List.mem_cons_self
    · rw [put_other u hy] at e
      obtain ⟨w', g1, g2⟩ := R.vars y w e
      refine ⟨w', hold y w' hy g1, ?_⟩
      have hM' : ∀ b, b ∉ nOf c env O ++ M₀ → b < s₀.heap.objs.size → b ∉ nOf c env (ownPut x u v O) ++ M₀ := fun b hb hlt h => by
        rcases hsub b h with h | ⟨h1, l, h2⟩
        · exact hb h
        · subst h1 h2
          obtain ⟨b', vs, e, h1, _⟩ := f
          cases e
          exact absurd hlt (Nat.not_lt.mpr h1)
      have hkk : ∀ b o, b ∉ nOf c env (ownPut x u v O) ++ M₀ → b ∉ N → s₀.heap.get? b = some o → h'.get? b = some o := fun b o _ hb e => hk b o hb (x₀.all b o e)
      obtain ⟨w'', q1, q2⟩ := R₀.vars y w e
      have hww : w'' = w' := Loads.fn R₀ (q1.keep x₀.all) g1
      subst hww
      cases w with
      | sh t =>
        have q2 : Den c.w (nOf c env O ++ M₀) s₀.heap t w'' := q2
        have hb1 : Den c.w (nOf c env O ++ M₀) s.heap t w'' := q2.keep x₀.all
        have hb2 : Den c.w (nOf c env O ++ M₀) h' t w'' := Den.mono (fun _ e => e) (fun b o hb => hk b o (hm b hb)) t w'' hb1
        exact den_re hM' (fun b o hb => fun e => hk b o (hm b hb) (x₀.all b o e)) t w'' q2
      | own l =>
        obtain ⟨b, vs, rfl, k1, k2, k3⟩ := q2
        have hbO : b ∈ O.map (·.2) := List.mem_map.mpr ⟨(y, b), mem_of_lookup k1, rfl⟩
        refine ⟨b, vs, rfl, ?_, k2.at fun o e => hk b o (hown b hbO) (x₀.all b o e), denL_re hM' (fun b o hb => fun e => hk b o (hm b hb) (x₀.all b o e)) l _ k3⟩
        cases u with
        | sh t => simpa [ownPut] using (unset_lookup hy).trans k1
        | own l' =>
          obtain ⟨b', vs', rfl, _⟩ := f
          simp only [ownPut]
          rw [List.lookup_cons, show (y == x) = false by simpa using hy]
          exact (unset_lookup hy).trans k1

/-- storing a name of the block -/
theorem wp_store {s₀ : Shared} (R₀ : Rel c env M₀ O ρ s₀) (x₀ : Ext s₀ s) {x : Str} {u : Var} {v : Value} (f : Fit c env M₀ O s₀.heap.objs.size s.heap u v) (hc : canStore c x = true) {A : Around} {Q : Unit → Shared → Prop} {E : Value → Shared → Prop}
    (k : ∀ s', Chg (nOf c env O) s s' → Rel c env M₀ (ownPut x u v O) (put x u ρ) s' → Q () s') : wpAny (model c.prog c.w) A (storeName env x v) Q E s := by
  have R := R₀.ext x₀
  obtain ⟨m, hm⟩ := R.loc
  unfold canStore at hc
  simp only [Bool.or_eq_true, Bool.and_eq_true, beq_iff_eq] at hc
  rcases hc with hl | ⟨hl, hcel⟩
  · refine wpAny_storeName_local ((R.kindOf x).trans hl) hm (fun h' hn hs => ?_) (by rw [R.kind]; rfl)
    have hk : ∀ b o, b ≠ env.locals → s.heap.get? b = some o → h'.get? b = some o := fun b o hb e => (hs.2 b hb).trans e
    have hne : ∀ y a, (y, a) ∈ env.cells → a ≠ env.locals := fun y a e h => by
      subst h
      rcases (R.cells y _ e).2 with q | q
      · have nd := R.nd
        unfold nOf at nd
        exact (List.nodup_cons.mp nd).1 (List.mem_append_left _ (mem_ownCells e q))
      · exact R.dis _ List.mem_cons_self q
    refine k _ ⟨fun b o hb e => hk b o (fun h => hb (h ▸ List.mem_cons_self)) e, Nat.le_of_eq hs.1.symm, fun _ _ e => e, id, rfl, Nat.le_succ _⟩ ?_
    refine Rel.put R₀ x₀ f (N := [env.locals]) (Nat.le_of_eq hs.1.symm) (Nat.le_succ _) (fun b o hb e => hk b o (by simpa using hb) e) (fun a h => .inl (by simpa using h)) ⟨_, hn⟩ (fun y a e => ?_) (fun y w hy l => ?_) ?_
    · obtain ⟨⟨w, o, ho, hd⟩, _⟩ := R.cells y a e
      exact ⟨w, o, hk a o (hne y a e) ho, hd⟩
    · rcases l with ⟨a, m', hn', hm'⟩ | ⟨a, q, hq, o, ho, hd⟩
      · have : m' = m := Ns_fn hn' hm
        subst this
        exact .inl ⟨a, _, hn, by simp [hy, hm']⟩
      · exact .inr ⟨a, q, hq, o, hk q o (hne y q (mem_of_lookup hq)) ho, hd⟩
    · exact .inl ⟨(R.kindOf x).trans hl, _, hn, by simp⟩
  · obtain ⟨a, ha⟩ := R.call x (.inl hl)
    obtain ⟨⟨v₀, hv₀⟩, _⟩ := R.cells x a (mem_of_lookup ha)
    have hao : a ∈ ownCells c env := mem_ownCells (mem_of_lookup ha) hcel
    refine wpAny_storeName_cell R.kind ((R.kindOf x).trans hl) ha hv₀ fun h' hn hs => ?_
    have hk : ∀ b o, b ≠ a → s.heap.get? b = some o → h'.get? b = some o := fun b o hb e => (hs.2 b hb).trans e
    have haL : env.locals ≠ a := fun h => by
      have nd := R.nd
      unfold nOf at nd
      exact (List.nodup_cons.mp nd).1 (List.mem_append_left _ (h ▸ hao))
    have hother : ∀ y b, env.cells.lookup y = some b → y ≠ x → b ≠ a := fun y b hy hne h => by
      subst h
      rcases (R.cells y _ (mem_of_lookup hy)).2 with q | q
      · have nd := R.nd
        unfold nOf at nd
        have nd2 := (List.nodup_append.mp (List.nodup_cons.mp nd).2).1
        unfold ownCells at nd2
        have key : ∀ (l : List (Str × Addr)), (l.map (·.2)).Nodup → (y, b) ∈ l → (x, b) ∈ l → y = x := by
          intro l
          induction l with
          | nil => intro _ h; cases h
          | cons p r ih =>
            intro hnd h1 h2
            rw [List.map_cons, List.nodup_cons] at hnd
            rcases List.mem_cons.mp h1 with e1 | h1 <;> rcases List.mem_cons.mp h2 with e2 | h2
            · rw [← e2] at e1; exact (Prod.mk.inj e1).1
            · exact absurd (List.mem_map.mpr ⟨_, h2, by rw [← e1]⟩) hnd.1
            · exact absurd (List.mem_map.mpr ⟨_, h1, by rw [← e2]⟩) hnd.1
            · exact ih hnd.2 h1 h2
        exact hne (key _ nd2 (List.mem_filter.mpr ⟨mem_of_lookup hy, q⟩) (List.mem_filter.mpr ⟨mem_of_lookup ha, hcel⟩))
      · exact R.dis _ (List.mem_cons_of_mem _ (List.mem_append_left _ hao)) q
    have hmem : a ∈ nOf c env O := List.mem_cons_of_mem _ (List.mem_append_left _ hao)
    refine k _ ⟨fun b o hb e => hk b o (fun h => hb (h ▸ hmem)) e, Nat.le_of_eq hs.1.symm, fun _ _ e => e, id, rfl, Nat.le_refl _⟩ ?_
    refine Rel.put R₀ x₀ f (N := [a]) (Nat.le_of_eq hs.1.symm) (Nat.le_refl _) (fun b o hb e => hk b o (by simpa using hb) e) (fun b h => .inr (by simp at h; subst h; exact hao)) ⟨m, hm.at' fun o e => hk _ o haL e⟩ (fun y b e => ?_) (fun y w hy l => ?_) ?_
    · by_cases hb : b = a
      · subst hb; exact ⟨_, hn⟩
      · obtain ⟨⟨w, o, ho, hd⟩, _⟩ := R.cells y b e
        exact ⟨w, o, hk b o hb ho, hd⟩
    · rcases l with ⟨b, m', hn', hm'⟩ | ⟨b, q, hq, o, ho, hd⟩
      · exact .inl ⟨b, m', hn'.at' fun o e => hk _ o haL e, hm'⟩
      · exact .inr ⟨b, q, hq, o, hk q o (hother y q hq hy) ho, hd⟩
    · exact .inr ⟨.inl ((R.kindOf x).trans hl), a, ha, hn⟩
end
end Mine
end

section
set_option autoImplicit false
set_option linter.unusedVariables false
set_option linter.unusedSimpArgs false
namespace Mine
open PySem PySem.Calls PyProof.Rows PySem.SeqAt

/-- an iterator that still has the items l from its place i on -/
structure Walk (c : Cx) (A : Around) (it : Addr) (fp : List Addr) (l : List T) (P : Addr → Prop) (St : Nat → Shared → Prop) : Prop where
  self : it ∈ fp
  frame : ∀ i s s' (N : List Addr), St i s → Chh N s s' → (∀ a ∈ N, P a) → (∀ b ∈ fp, b ∉ N) → St i s'
  item : ∀ i t s (Q : Option Value → Shared → Prop) (E : Value → Shared → Prop), l[i]? = some t → St i s →
    (∀ v s', Chg [it] s s' → St (i + 1) s' → (∀ M', (∀ a ∈ M', P a) → Den c.w M' s'.heap t v) → Q (some v) s') → wpAny (model c.prog c.w) A (pyNext (.ref it)) Q E s
  done : ∀ s (Q : Option Value → Shared → Prop) (E : Value → Shared → Prop), St l.length s → (∀ s', Chg [it] s s' → Q none s') → wpAny (model c.prog c.w) A (pyNext (.ref it)) Q E s
  iter : ∀ i s (Q : Value → Shared → Prop) (E : Value → Shared → Prop), St i s → Q (.ref it) s → wpAny (model c.prog c.w) A (pyIter (.ref it)) Q E s
  owned : ∀ i s target v (Q : Unit → Shared → Prop) (E : Value → Shared → Prop), St i s → Q () s → wpAny (model c.prog c.w) A (letOwnedTupleGo target (.ref it) v) Q E s

theorem wp_owned {c : Cx} {A : Around} {it : Addr} {s : Shared} {o : Obj} {ty : String} {target : Expr} {v : Value} {Q : Unit → Shared → Prop} {E : Value → Shared → Prop} (ho : s.heap.get? it = some o) (hc : o.cls = .type ty)
    (ht : (["enumerate", "zip", "dict_itemiterator", "dict_reverseitemiterator", "odict_iterator", "itertools.zip_longest", "itertools.pairwise"] : List String).contains ty = false) (h : Q () s) :
    wpAny (model c.prog c.w) A (letOwnedTupleGo target (.ref it) v) Q E s := by
  have key : wpAny (model c.prog c.w) A (do
    let (.ref r, .ref a) := (Value.ref it, v) | return
    let o ← load r
    match o.cls, o.data with
    | .type n, .fields vs =>
      if ["enumerate", "zip", "dict_itemiterator", "dict_reverseitemiterator", "odict_iterator", "itertools.zip_longest", "itertools.pairwise"].contains n && vs[0]? == some (rawInt a) then
        rule "for.unpacks-the-owned-tuple"
        updateField r 0 .none
    | _, _ => pure ()) Q E s := by
    cases v <;> (try exact wpAny_pure h)
    refine wpAny_bind (wpAny_load ho ?_)
    rw [hc]
    split
    · rename_i n vs h1 h2
      cases h1
      rw [ht]
      simp only [Bool.false_and, Bool.false_eq_true, if_false]
      exact wpAny_pure h
    · exact wpAny_pure h
  cases target <;> first | exact key | exact wpAny_pure h

theorem sb_chg {it : Addr} {s : Shared} {h' : Heap} {tk : Nat} (hs : Heap.SameBut it s.heap h') (ht : s.toks ≤ tk) : Chg [it] s { s with heap := h', toks := tk } :=
  ⟨fun b o hb e => (hs.2 b (by simpa using hb)).trans e, Nat.le_of_eq hs.1.symm, fun _ _ e => e, id, rfl, ht⟩

/-- what has stood since s₀, but for what P lets change -/
noncomputable def Stood (P : Addr → Prop) (s₀ s : Shared) : Prop := ∀ b o, ¬ P b → s₀.heap.get? b = some o → s.heap.get? b = some o
theorem Stood.step {P : Addr → Prop} {s₀ s s' : Shared} {N : List Addr} (x : Stood P s₀ s) (y : Chh N s s') (h : ∀ a ∈ N, P a) : Stood P s₀ s' := fun b o hb e => y.heap b o (fun m => hb (h b m)) (x b o hb e)

theorem den_stood {w : World} {M : List Addr} {s₀ s : Shared} (x : Stood (fun a => a ∈ M ∨ s₀.heap.objs.size ≤ a) s₀ s) {t : T} {v : Value} (d : Den w M s₀.heap t v) {M' : List Addr} (h : ∀ a ∈ M', a ∈ M ∨ s₀.heap.objs.size ≤ a) : Den w M' s.heap t v :=
  den_re (fun a ha hl hm => (h a hm).elim ha fun q => absurd hl (Nat.not_lt.mpr q)) (fun b o hb e => x b o (fun q => q.elim hb fun q => absurd (Heap.lt_size e) (Nat.not_lt.mpr q)) e) t v d

theorem Walk.list {c : Cx} {A : Around} (hh : A.handled = none) {s₀ : Shared} {M : List Addr} {l : List T} {vs : Array Value} (d : DenL c.w M s₀.heap l vs.toList) {it ax : Addr} (hne : ax ≠ it) (hit : s₀.heap.objs.size ≤ it) :
    Walk c A it [it, ax] l (fun a => a ∈ M ∨ s₀.heap.objs.size ≤ a) (fun i s => s.heap.IsListIter it ax i ∧ s.heap.IsList ax vs ∧ Stood (fun a => a ∈ M ∨ s₀.heap.objs.size ≤ a) s₀ s) where
  self := by simp
  frame := fun i s s' N st x hP hN => ⟨st.1.at fun o e => x.heap _ o (hN it (by simp)) e, st.2.1.at fun o e => x.heap _ o (hN ax (by simp)) e, st.2.2.step x hP⟩
  item := fun i t s Q E hi st k => by
    obtain ⟨v, hv, dv⟩ := d.get hi
    refine wpAny_pyNext_list_item st.1 st.2.1 (x := v) (by simpa using hv) fun h' hit' hs' => ?_
    have x : Chg [it] s { s with heap := h' } := sb_chg hs' (Nat.le_refl _)
    have st' := st.2.2.step x.h (fun a ha => .inr (by simp at ha; subst ha; exact hit))
    exact k v _ x ⟨hit', st.2.1.extBut hs'.extBut hne, st'⟩ fun M' hM' => den_stood st' dv hM'
  done := fun s Q E st k => wp_grow (wpAny_pyNext_list_end hh st.1 st.2.1 (by have := d.length; simp only [Array.length_toList] at this; exact Array.getElem?_eq_none (by rw [this]; exact Nat.le_refl _)) fun h' he' hs ht => k _ ⟨fun b o hb e => he' b o (by simpa using hb) e, hs, fun _ _ e => e, id, rfl, Nat.le_refl _⟩)
  iter := fun i s Q E st k => wpAny_pyIter_listiter st.1 k
  owned := fun i s target v Q E st k => let ⟨o, ho, hc, _⟩ := st.1; wp_owned ho hc (by decide) k

theorem Walk.tuple {c : Cx} {A : Around} (hh : A.handled = none) {s₀ : Shared} {M : List Addr} {l : List T} {vs : Array Value} (d : DenL c.w M s₀.heap l vs.toList) {it ax : Addr} (hne : ax ≠ it) (hit : s₀.heap.objs.size ≤ it) :
    Walk c A it [it, ax] l (fun a => a ∈ M ∨ s₀.heap.objs.size ≤ a) (fun i s => s.heap.IsTupleIter it ax i ∧ s.heap.IsTuple ax vs ∧ Stood (fun a => a ∈ M ∨ s₀.heap.objs.size ≤ a) s₀ s) where
  self := by simp
  frame := fun i s s' N st x hP hN => ⟨st.1.at fun o e => x.heap _ o (hN it (by simp)) e, st.2.1.at fun o e => x.heap _ o (hN ax (by simp)) e, st.2.2.step x hP⟩
  item := fun i t s Q E hi st k => by
    obtain ⟨v, hv, dv⟩ := d.get hi
    refine wpAny_pyNext_tuple_item st.1 st.2.1 (x := v) (by simpa using hv) fun h' hit' hs' => ?_
    have x : Chg [it] s { s with heap := h' } := sb_chg hs' (Nat.le_refl _)
    have st' := st.2.2.step x.h (fun a ha => .inr (by simp at ha; subst ha; exact hit))
    exact k v _ x ⟨hit', st.2.1.extBut hs'.extBut hne, st'⟩ fun M' hM' => den_stood st' dv hM'
  done := fun s Q E st k => wp_grow (wpAny_pyNext_tuple_end hh st.1 st.2.1 (by have := d.length; simp only [Array.length_toList] at this; exact Array.getElem?_eq_none (by rw [this]; exact Nat.le_refl _)) fun h' he' hs ht => k _ ⟨fun b o hb e => he' b o (by simpa using hb) e, hs, fun _ _ e => e, id, rfl, Nat.le_refl _⟩)
  iter := fun i s Q E st k => wpAny_pyIter_tupleiter st.1 k
  owned := fun i s target v Q E st k => let ⟨o, ho, hc, _⟩ := st.1; wp_owned ho hc (by decide) k

noncomputable def rangeL (a step : Int) : Nat → List T
  | 0 => []
  | n + 1 => .int a :: rangeL (a + step) step n
theorem rangeL_len (a st : Int) : ∀ n, (rangeL a st n).length = n
  | 0 => rfl
  | n + 1 => by simp [rangeL, rangeL_len (a + st) st n]
theorem rangeL_get (st : Int) : ∀ (n : Nat) (a : Int) (i : Nat) (t : T), (rangeL a st n)[i]? = some t → t = .int (a + i * st) ∧ i < n
  | 0, a, i, t, h => by simp [rangeL] at h
  | n + 1, a, 0, t, h => by simp [rangeL] at h; simp [h]
  | n + 1, a, i + 1, t, h => by
    simp only [rangeL, List.getElem?_cons_succ] at h
    obtain ⟨h1, h2⟩ := rangeL_get st n (a + st) i t h
    refine ⟨?_, by lia⟩
    rw [h1]; congr 1; push_cast; rw [Int.add_mul]; lia

theorem Walk.range {c : Cx} {A : Around} (hh : A.handled = none) {P : Addr → Prop} {it : Addr} (a st : Int) (n : Nat) :
    Walk c A it [it] (rangeL a st n) P (fun i s => IsRangeIter s.heap it (a + i * st) ((n : Int) - i) st) where
  self := by simp
  frame := fun i s s' N h x hP hN => x.heap _ _ (hN it (by simp)) h
  item := fun i t s Q E hi h k => by
    obtain ⟨rfl, hlt⟩ := rangeL_get st n a i t hi
    refine wpAny_pyNext_range_item h (by lia) fun h' hit' hs' => ?_
    refine k _ _ (sb_chg hs' (Nat.le_succ _)) ?_ fun M' hM' => Den.of_int
    have e1 : a + (i : Int) * st + st = a + ((i + 1 : Nat) : Int) * st := by push_cast; rw [Int.add_mul]; lia
    have e2 : (n : Int) - i - 1 = (n : Int) - ((i + 1 : Nat) : Int) := by push_cast; lia
    rw [e1, e2] at hit'
    exact hit'
  done := fun s Q E h k => by
    rw [rangeL_len] at h
    exact wp_grow (wpAny_pyNext_range_end hh h (by lia) fun h' he' hs ht => k _ ⟨fun b o hb e => he' b o (by simpa using hb) e, hs, fun _ _ e => e, id, rfl, Nat.le_refl _⟩)
  iter := fun i s Q E h k => wpAny_pyIter_rangeiter h k
  owned := fun i s target v Q E h k => wp_owned h rfl (by decide) k

noncomputable def charsL (x : Str) : List T := x.cps.toList.map fun q => .str ⟨#[q]⟩

theorem Walk.ascii {c : Cx} {A : Around} (hh : A.handled = none) {P : Addr → Prop} {it : Addr} (x : Str) (t : Tok) :
    Walk c A it [it] (charsL x) P (fun i s => s.heap.IsStrIter it "str_ascii_iterator" x t i) where
  self := by simp
  frame := fun i s s' N h y hP hN => let ⟨o, ho, r⟩ := h; ⟨o, y.heap _ _ (hN it (by simp)) ho, r⟩
  item := fun i u s Q E hi h k => by
    simp only [charsL, List.getElem?_map, Option.map_eq_some_iff] at hi
    obtain ⟨q, hq, rfl⟩ := hi
    exact wpAny_pyNext_ascii_item h (by simpa using hq) fun h' hit' hs' => k _ _ (sb_chg hs' (Nat.le_succ _)) hit' fun M' hM' => Den.of_str
  done := fun s Q E h k => by
    simp only [charsL, List.length_map, Array.length_toList] at h
    exact wp_grow (wpAny_pyNext_ascii_end hh h (by simp) fun h' he' hs ht => k _ ⟨fun b o hb e => he' b o (by simpa using hb) e, hs, fun _ _ e => e, id, rfl, Nat.le_refl _⟩)
  iter := fun i s Q E h k => wpAny_pyIter_striter_ascii h k
  owned := fun i s target v Q E h k => let ⟨o, ho, hc, _⟩ := h; wp_owned ho hc (by decide) k
theorem Walk.wide {c : Cx} {A : Around} (hh : A.handled = none) {P : Addr → Prop} {it : Addr} (x : Str) (t : Tok) :
    Walk c A it [it] (charsL x) P (fun i s => s.heap.IsStrIter it "str_iterator" x t i) where
  self := by simp
  frame := fun i s s' N h y hP hN => let ⟨o, ho, r⟩ := h; ⟨o, y.heap _ _ (hN it (by simp)) ho, r⟩
  item := fun i u s Q E hi h k => by
    simp only [charsL, List.getElem?_map, Option.map_eq_some_iff] at hi
    obtain ⟨q, hq, rfl⟩ := hi
    exact wpAny_pyNext_wide_item h (by simpa using hq) fun h' hit' hs' => k _ _ (sb_chg hs' (Nat.le_succ _)) hit' fun M' hM' => Den.of_str
  done := fun s Q E h k => by
    simp only [charsL, List.length_map, Array.length_toList] at h
    exact wp_grow (wpAny_pyNext_wide_end hh h (by simp) fun h' he' hs ht => k _ ⟨fun b o hb e => he' b o (by simpa using hb) e, hs, fun _ _ e => e, id, rfl, Nat.le_refl _⟩)
  iter := fun i s Q E h k => wpAny_pyIter_striter_wide h k
  owned := fun i s target v Q E h k => let ⟨o, ho, hc, _⟩ := h; wp_owned ho hc (by decide) k

/-- an iterator at its start, over the items l; fz: what it reads is none of the block's own -/
noncomputable def Iter (c : Cx) (A : Around) (env : Env) (M₀ : List Addr) (O : List (Str × Addr)) (lo : Nat) (fz : Bool) (l : List T) (iv : Value) (s : Shared) : Prop :=
  ∃ it fp k St, iv = .ref it ∧ lo ≤ k ∧ k ≤ it ∧ it < s.heap.objs.size ∧ (∀ b ∈ fp, b < s.heap.objs.size) ∧ (fz = true → ∀ b ∈ fp, b ∉ nOf c env O ++ M₀) ∧
    Walk c A it fp l (fun a => a ∈ nOf c env O ++ M₀ ∨ k ≤ a) St ∧ St 0 s

/-- e yields the items l when it is gone through -/
structure EvI (c : Cx) (n : Nat) (ρ : Rho) (fz : Bool) (e : Expr) (l : List T) : Prop where
  run : ∀ A s env M₀ O, Room A n → Rel c env M₀ O ρ s →
  wpAny (model c.prog c.w) A (eval e env) (fun x s₁ => Ext s s₁ ∧ wpAny (model c.prog c.w) A (pyIter x) (fun iv s₂ => Ext s s₂ ∧ Iter c A env M₀ O s.heap.objs.size fz l iv s₂) NoE s₁) NoE s

section
variable {c : Cx} {n : Nat} {ρ : Rho}
theorem iter_list {A : Around} {s s₁ : Shared} {env : Env} {M₀ : List Addr} {O : List (Str × Addr)} (rm : Room A n) (R : Rel c env M₀ O ρ s) (x : Ext s s₁) {l : List T} {a : Addr} {vs : Array Value} {fz : Bool} (h1 : s₁.heap.PlainList a vs) (h2 : DenL c.w (nOf c env O ++ M₀) s₁.heap l vs.toList)
    (hz : fz = true → a ∉ nOf c env O ++ M₀) : wpAny (model c.prog c.w) A (pyIter (.ref a)) (fun iv s₂ => Ext s s₂ ∧ Iter c A env M₀ O s.heap.objs.size fz l iv s₂) NoE s₁ := by
  refine wp_iter_list h1.isList fun s₂ e st hfp hl => ?_
  subst e
  refine ⟨Ext.trans x (Ext.push _ _), _, [s₁.heap.objs.size, a], s₁.heap.objs.size, _, rfl, x.size, Nat.le_refl _, hfp _ (by simp), hfp, fun hf b hb => ?_, Walk.list rm.1 h2 hl (Nat.le_refl _), st.1, st.2, fun b o _ e => Heap.get?_push_of_some _ e⟩
  simp only [List.mem_cons, List.not_mem_nil, or_false] at hb
  rcases hb with rfl | rfl
  · exact (R.ext x).new (Nat.le_refl _)
  · exact hz hf
theorem EvI.list {e : Expr} {l : List T} (h : EvB c n ρ e (.list l)) : EvI c n ρ false e l := .mk fun A s env M₀ O rm R =>
  h.go rm R fun v s₁ x₁ R₁ d₁ => ⟨x₁, by
    obtain ⟨a, vs, rfl, h1, h2⟩ := d₁.list
    exact iter_list rm R x₁ h1 h2 (by simp)⟩
theorem EvI.listF {e : Expr} {l : List T} (h : Ev c n ρ e (.list l)) : EvI c n ρ true e l := .mk fun A s env M₀ O rm R =>
  h.go rm R fun v s₁ x₁ R₁ d₁ => ⟨x₁, by
    simp only [Den] at d₁
    obtain ⟨a, vs, rfl, h0, h1, h2⟩ := d₁
    exact iter_list rm R x₁ h1 h2 fun _ => h0⟩
theorem EvI.tup {e : Expr} {l : List T} {fz : Bool} (h : EvB c n ρ e (.tup l)) : EvI c n ρ fz e l := .mk fun A s env M₀ O rm R =>
  h.go rm R fun v s₁ x₁ R₁ d₁ => ⟨x₁, by
    obtain ⟨a, vs, rfl, h0, h1, h2⟩ := d₁.tup
    refine wp_iter_tuple h1 fun s₂ e st hfp hl => ?_
    subst e
    refine ⟨Ext.trans x₁ (Ext.push _ _), _, [s₁.heap.objs.size, a], s₁.heap.objs.size, _, rfl, x₁.size, Nat.le_refl _, hfp _ (by simp), hfp, fun hf b hb => ?_, Walk.tuple rm.1 h2 hl (Nat.le_refl _), st.1, st.2, fun b o _ e => Heap.get?_push_of_some _ e⟩
    simp only [List.mem_cons, List.not_mem_nil, or_false] at hb
    rcases hb with rfl | rfl
    · exact R₁.new (Nat.le_refl _)
    · exact h0⟩
theorem EvI.str {e : Expr} {x : Str} {fz : Bool} (h : EvB c n ρ e (.str x)) : EvI c n ρ fz e (charsL x) := .mk fun A s env M₀ O rm R =>
  h.go rm R fun v s₁ x₁ R₁ d₁ => ⟨x₁, by
    obtain ⟨t, rfl⟩ := d₁.str
    have hn : fz = true → ∀ b ∈ [s₁.heap.objs.size], b ∉ nOf c env O ++ M₀ := fun _ b hb => by simp at hb; subst hb; exact R₁.new (Nat.le_refl _)
    have hlt : ∀ o, s₁.heap.objs.size < (s₁.heap.push o).objs.size := fun o => by rw [Heap.size_push]; lia
    cases ha : x.cps.all (· < 128)
    · exact wpAny_pyIter_wide ha ⟨Ext.trans x₁ (Ext.push _ _), _, [s₁.heap.objs.size], s₁.heap.objs.size, _, rfl, x₁.size, Nat.le_refl _, hlt _, (fun b hb => by simp at hb; subst hb; exact hlt _), hn, Walk.wide rm.1 x t, _, Heap.get?_push_size _ rfl, rfl, rfl⟩
    · exact wpAny_pyIter_ascii ha ⟨Ext.trans x₁ (Ext.push _ _), _, [s₁.heap.objs.size], s₁.heap.objs.size, _, rfl, x₁.size, Nat.le_refl _, hlt _, (fun b hb => by simp at hb; subst hb; exact hlt _), hn, Walk.ascii rm.1 x t, _, Heap.get?_push_size _ rfl, rfl, rfl⟩⟩

/-! ranges -/
noncomputable def rangeI (l : List Int) : Option (Int × Int × Int) := match l with
  | [b] => some (0, b, 1)
  | [a, b] => some (a, b, 1)
  | [a, b, c] => if c != 0 && decide (-1000000 ≤ c) && decide (c ≤ 1000000) then some (a, b, c) else none
  | _ => none
noncomputable def rangeT (l : List T) : Option (Int × Int × Int) := match allInts l with
  | some is => rangeI is
  | none => none
theorem of_ifA {α : Type} {p : Prop} [Decidable p] {t r : α} (h : (if p then some t else none) = some r) : p ∧ t = r := by
  by_cases hp : p
  · rw [if_pos hp] at h; exact ⟨hp, Option.some.inj h⟩
  · rw [if_neg hp] at h; cases h
theorem allInts_map : ∀ {l : List T} {is : List Int}, allInts l = some is → l = is.map .int
  | [], _, h => by cases h; rfl
  | t :: r, is, h => by
    cases t <;> try cases h
    rename_i i
    cases hr : allInts r with
    | none => exact absurd (show (allInts r).map (i :: ·) = some is from h) (by rw [hr]; exact fun h => by cases h)
    | some js =>
      have h' : (allInts r).map (i :: ·) = some is := h
      rw [hr] at h'; cases h'
      rw [allInts_map hr]; rfl
noncomputable def rangeN (p : Int × Int × Int) : Option Nat := if Builtin.Range.small p.1 p.2.1 p.2.2 = true ∧ 0 ≤ Builtin.Range.rangeSize p.1 p.2.1 p.2.2 then some (Builtin.Range.rangeSize p.1 p.2.1 p.2.2).toNat else none

theorem wp_range {A : Around} {s : Shared} {M : List Addr} {ts : List T} {vs : List Value} {p : Int × Int × Int} (h : rangeT ts = some p) (d : DenBs c.w M s.heap ts vs) {Q : Value → Shared → Prop} {E : Value → Shared → Prop}
    (k : ∀ s' r t u v, Ext s s' → s.heap.objs.size ≤ r → IsRange s'.heap r p.1 p.2.1 p.2.2 t u v → Q (.ref r) s') : wpAny (model c.prog c.w) A (call (.type "range") vs) Q E s := by
  have h' : (match allInts ts with | some is => rangeI is | none => none) = some p := h
  clear h
  cases hi : allInts ts with
  | none => rw [hi] at h'; cases h'
  | some is =>
  rw [hi] at h'
  obtain rfl := allInts_map hi
  clear hi
  cases is with
  | nil => cases h'
  | cons b is =>
  cases is with
  | nil =>
    cases h'
    obtain ⟨v, rfl, d1⟩ := d.one
    obtain ⟨t, rfl⟩ := d1.int
    exact call_range_1 (k _ _ _ _ _ (Ext.of_heap (fun _ _ e => Heap.get?_push_of_some _ e) (by rw [Heap.size_push]; lia) (by lia)) (Nat.le_refl _) (Heap.get?_push_size _ rfl))
  | cons b' is =>
  cases is with
  | nil =>
    cases h'
    obtain ⟨v, v', rfl, d1, d2⟩ := d.two
    obtain ⟨t, rfl⟩ := d1.int
    obtain ⟨u, rfl⟩ := d2.int
    exact call_range_2 (k _ _ _ _ _ (Ext.of_heap (fun _ _ e => Heap.get?_push_of_some _ e) (by rw [Heap.size_push]; lia) (by lia)) (Nat.le_refl _) (Heap.get?_push_size _ rfl))
  | cons b'' is =>
  cases is with
  | cons _ _ => cases h'
  | nil =>
    obtain ⟨hc, rfl⟩ := of_ifA h'
    obtain ⟨v, v', v'', rfl, d1, d2, d3⟩ := d.three
    obtain ⟨t, rfl⟩ := d1.int
    obtain ⟨u, rfl⟩ := d2.int
    obtain ⟨w, rfl⟩ := d3.int
    simp only [Bool.and_eq_true, bne_iff_ne, ne_eq, decide_eq_true_eq] at hc
    exact call_range_3 hc.1.1 (k _ _ _ _ _ (Ext.of_heap (fun _ _ e => Heap.get?_push_of_some _ e) (by rw [Heap.size_push]; lia) (by lia)) (Nat.le_refl _) (Heap.get?_push_size _ rfl)) (.inl (PyProof.noPylong_small (by lia)))

theorem EvI.range {p pos : Pos} {es : List Expr} {ts : List T} {q : Int × Int × Int} {m : Nat} {fz : Bool} (hk : c.ns.lookup ("range" : Str) = some .globalImplicit) (g : GV c "range" (.type "range")) (h : EachB c n ρ es ts) (hne : es ≠ []) (hr : rangeT ts = some q) (hm : rangeN q = some m) :
    EvI c n ρ fz (.Call (.Name "range" p) es [] pos) (rangeL q.1 q.2.2 m) := .mk fun A s env M₀ O rm R => by
  unfold rangeN at hm
  split at hm <;> cases hm
  rename_i hs
  refine wpAny_Call_NameR (wp_gname R hk g (wp_callWith (f := .type "range") trivial h hne rm R fun vs s' x R' d => wp_range hr d fun s₂ r t u v x₂ hlo hir => ⟨Ext.trans x x₂, ?_⟩) (by decide))
  refine wpAny_pyIter_range hir hs.1 ?_
  have hlt : ∀ o, s₂.heap.objs.size < (s₂.heap.push o).objs.size := fun o => by rw [Heap.size_push]; lia
  have R₂ := R'.ext x₂
  refine ⟨Ext.trans x (Ext.trans x₂ (Ext.push _ _)), _, [s₂.heap.objs.size], s₂.heap.objs.size, _, rfl, Nat.le_trans x.size x₂.size, Nat.le_refl _, hlt _, (fun b hb => by simp at hb; subst hb; exact hlt _), (fun _ b hb => by simp at hb; subst hb; exact R₂.new (Nat.le_refl _)), Walk.range rm.1 q.1 q.2.2 _, ?_⟩
  have e : ((Builtin.Range.rangeSize q.1 q.2.1 q.2.2).toNat : Int) - ((0 : Nat) : Int) = Builtin.Range.rangeSize q.1 q.2.1 q.2.2 := by have := hs.2; lia
  rw [e]
  have : q.1 + ((0 : Nat) : Int) * q.2.2 = q.1 := by simp
  rw [this]
  exact Heap.get?_push_size _ rfl
end
end Mine
end

section
set_option autoImplicit false
set_option linter.unusedVariables false
set_option linter.unusedSimpArgs false
namespace Mine
open PySem PySem.Calls PyProof.Rows PySem.SeqAt

/-! binding a target to a datum -/
noncomputable def putAll : List Str → List T → Rho → Rho
  | x :: xs, t :: ts, ρ => putAll xs ts (put x (.sh t) ρ)
  | _, _, ρ => ρ
noncomputable def nameOf : Expr → Option Str
  | .Name x _ => some x
  | _ => none
noncomputable def namesOf : List Expr → Option (List Str)
  | [] => some []
  | e :: r => match nameOf e, namesOf r with
    | some x, some xs => some (x :: xs)
    | _, _ => none
noncomputable def bindT (c : Cx) : Expr → T → Rho → Option Rho
  | .Name x _, t, ρ => if canStore c x then some (put x (.sh t) ρ) else none
  | .Tuple es _ _, .tup ts, ρ => match namesOf es with
    | some xs => if xs.all (canStore c) && xs.length == ts.length then some (putAll xs ts ρ) else none
    | none => none
  | _, _, _ => none

section
variable {c : Cx} {env : Env} {M₀ : List Addr} {ρ : Rho}

theorem nameOf_some {e : Expr} {x : Str} (h : nameOf e = some x) : ∃ p, e = .Name x p := by
  unfold nameOf at h
  split at h <;> cases h
  exact ⟨_, rfl⟩
theorem namesOf_cons {e : Expr} {es : List Expr} {xs : List Str} (h : namesOf (e :: es) = some xs) : ∃ x p ys, e = .Name x p ∧ namesOf es = some ys ∧ xs = x :: ys := by
  have h' : (match nameOf e, namesOf es with
    | some x, some r => some (x :: r)
    | _, _ => none) = some xs := h
  cases h1 : nameOf e with
  | none => rw [h1] at h'; cases h'
  | some x =>
    cases h2 : namesOf es with
    | none => rw [h1, h2] at h'; cases h'
    | some ys =>
      rw [h1, h2] at h'; cases h'
      obtain ⟨p, rfl⟩ := nameOf_some h1
      exact ⟨x, p, ys, rfl, rfl, rfl⟩
theorem assign_nil {A : Around} {vs : List Value} {Q : Unit → Shared → Prop} {E : Value → Shared → Prop} {s : Shared} (h : wpAny (model c.prog c.w) A (pure ()) Q E s) : wpAny (model c.prog c.w) A (assignInOrder ((assignEach [] env).map (·.2)) vs) Q E s := by
  cases vs <;> exact h
theorem assign_nil' {A : Around} {fs : List (Value → Sem Unit)} {Q : Unit → Shared → Prop} {E : Value → Shared → Prop} {s : Shared} (h : wpAny (model c.prog c.w) A (pure ()) Q E s) : wpAny (model c.prog c.w) A (assignInOrder fs []) Q E s := by
  cases fs <;> exact h
theorem wp_assignNames : ∀ (es : List Expr) (xs : List Str) (ts : List T) (vs : List Value) (s : Shared) (O : List (Str × Addr)) (ρ : Rho) {A : Around} {Q : Unit → Shared → Prop} {E : Value → Shared → Prop},
    namesOf es = some xs → xs.all (canStore c) = true → Rel c env M₀ O ρ s → DenL c.w (nOf c env O ++ M₀) s.heap ts vs →
    (∀ O' s', Chg (nOf c env O) s s' → (∀ a ∈ nOf c env O', a ∈ nOf c env O) → Rel c env M₀ O' (putAll xs ts ρ) s' → Q () s') → wpAny (model c.prog c.w) A (assignInOrder ((assignEach es env).map (·.2)) vs) Q E s
  | [], xs, ts, vs, s, O, ρ, A, Q, E, hx, _, R, d, k => by
    simp only [namesOf, Option.some.injEq] at hx; subst hx
    exact assign_nil (wpAny_pure (k O s (Chg.refl _) (fun _ h => h) (by cases ts <;> exact R)))
  | e :: es, xs, ts, vs, s, O, ρ, A, Q, E, hx, hc, R, d, k => by
    obtain ⟨x, p, ys, rfl, hn, rfl⟩ := namesOf_cons hx
    · clear hx
      simp only [List.all_cons, Bool.and_eq_true] at hc
      cases ts with
      | nil =>
        simp only [DenL] at d; subst d
        exact assign_nil' (wpAny_pure (k O s (Chg.refl _) (fun _ h => h) R))
      | cons t ts =>
        simp only [DenL] at d
        obtain ⟨v, r, rfl, d1, d2⟩ := d
        show wpAny _ A (do holding r (assign (.Name x p) env v); assignInOrder ((assignEach es env).map (·.2)) r) Q E s
        refine wpAny_bind (wpAny_holding (wpAny_assign_Name (wp_store (u := .sh t) R (Chg.refl _) d1 hc.1 fun s' x' R' => ?_)))
        have hO : ownPut x (.sh t) v O = unset x O := by cases v <;> rfl
        rw [hO] at R'
        refine wp_assignNames es ys ts r s' _ _ hn hc.2 R' (DenL.mono (fun a ha h => ha ?_) (fun b o hb => x'.heap b o (fun h => hb (List.mem_append_left _ h))) _ _ d2) fun O' s'' x'' hs R'' => k O' s'' (Chg.trans x' x'' fun a ha => .inl (nOf_unset a ha)) (fun a ha => nOf_unset a (hs a ha)) R''
        rcases List.mem_append.mp h with h | h
        · exact List.mem_append_left _ (nOf_unset a h)
        · exact List.mem_append_right _ h

theorem assignEach_names : ∀ {es : List Expr} {xs : List Str}, namesOf es = some xs → (assignEach es env).length = xs.length ∧ (assignEach es env).findIdx? (·.1) = none
  | [], xs, h => by simp only [namesOf, Option.some.injEq] at h; subst h; exact ⟨rfl, rfl⟩
  | e :: es, xs, h => by
    obtain ⟨x, p, ys, rfl, hn, rfl⟩ := namesOf_cons h
    · obtain ⟨h1, h2⟩ := assignEach_names hn
      show (((false, assign (.Name x p) env)) :: assignEach es env).length = _ ∧ (((false, assign (.Name x p) env)) :: assignEach es env).findIdx? _ = _
      refine ⟨by simp [h1], ?_⟩
      rw [List.findIdx?_cons]
      simp [h2]

/-- the target gets a datum -/
theorem wp_bind {s : Shared} {O : List (Str × Addr)} {A : Around} {Q : Unit → Shared → Prop} {E : Value → Shared → Prop} {target : Expr} {t : T} {v : Value} {ρ' : Rho} (hh : A.handled = none) (R : Rel c env M₀ O ρ s) (d : Den c.w (nOf c env O ++ M₀) s.heap t v)
    (h : bindT c target t ρ = some ρ') (k : ∀ O' s', Chg (nOf c env O) s s' → (∀ a ∈ nOf c env O', a ∈ nOf c env O) → Rel c env M₀ O' ρ' s' → Q () s') : wpAny (model c.prog c.w) A (assign target env v) Q E s := by
  unfold bindT at h
  split at h
  · split at h
    · rename_i hc
      cases h
      refine wpAny_assign_Name (wp_store (u := .sh t) R (Chg.refl _) d hc fun s' x' R' => ?_)
      rw [show ∀ y, ownPut y (.sh t) v O = unset y O from fun y => by cases v <;> rfl] at R'
      exact k _ s' x' (fun a => nOf_unset a) R'
    · cases h
  · split at h
    · rename_i es _ _ ts _ xs hx
      split at h
      · rename_i hc
        cases h
        simp only [Bool.and_eq_true, beq_iff_eq] at hc
        simp only [Den] at d
        obtain ⟨a, vs, rfl, ha, ht, hd⟩ := d
        obtain ⟨h1, h2⟩ := assignEach_names (env := env) hx
        have hlen := hd.length
        have hsz : (assignEach es env).length = vs.size := by rw [h1, hc.2, hlen]; simp
        rw [arm_assign_Tuple]
        refine wpAny_bind (wpAny_standAt ?_)
        unfold unpack
        rw [h2, hsz]
        refine wpAny_bind (wpAny_holding (wp_grow (wpAny_unpackItems_tuple hh ht fun h' he hs htk => ?_)))
        have x : Ext s { s with heap := h' } := ⟨fun b o _ e => he b o (Nat.ne_of_lt (Heap.lt_size e)) e, hs, fun _ _ e => e, id, rfl, Nat.le_refl _⟩
        refine wp_assignNames es xs ts vs.toList { s with heap := h' } O ρ hx hc.1 (R.ext x) (hd.keep x.all) fun O' s' x' hs' R' => k O' s' (Chg.trans x.chg x' fun a ha => .inl ha) hs' R'
      · cases h
    · cases h
  · cases h

/-- as wp_bind, a list unpacked too -/
noncomputable def bindL (c : Cx) : Expr → T → Rho → Option Rho
  | .Tuple es _ _, .list ts, ρ => match namesOf es with
    | some xs => if xs.all (canStore c) && xs.length == ts.length then some (putAll xs ts ρ) else none
    | none => none
  | e, t, ρ => bindT c e t ρ
end

/-! comprehensions: the frame -/
noncomputable def relab (ns : List (Str × NameKind)) (names : List (Str × NameKind)) : List (Str × NameKind) := names.map fun (n, k) => if (k == .free && ns.lookup n == some .cell) then (n, .cell) else (n, k)
noncomputable def cellNames (sc : Scope) : List Str := (sc.names.filter fun p => p.2 == .cell).map (·.1)
noncomputable def compCx (c : Cx) (sc : Scope) : Cx := { c with ns := relab c.ns sc.names, cel := cellNames sc }
noncomputable def scopeOk (c : Cx) (sc : Scope) : Bool :=
  (match sc.kind with | .function => true | _ => false) && (sc.names.all fun p => !(p.2 == .local) || sc.names.lookup p.1 == some .local) &&
  (sc.names.all fun p => !(p.2 == .free) || ((c.ns.lookup p.1 == some .cell || c.ns.lookup p.1 == some .free) && !(cellNames sc).contains p.1)) &&
  (sc.names.all fun p => !(p.2 == .cell) || !(sc.names.any fun q => q.1 == p.1 && q.2 == .free))
noncomputable def capt1 (sc : Scope) (ρ : Rho) (n : Str) : Option (Str × Var) := if sc.names.lookup n == some .free then (match ρ.lookup n with | some (.sh t) => some (n, .sh t) | _ => none) else none
noncomputable def capt (c : Cx) (sc : Scope) (ρ : Rho) : Rho := sc.names.filterMap fun p => capt1 sc ρ p.1
theorem capt_lookup {c : Cx} {sc : Scope} {ρ : Rho} {y : Str} {u : Var} (h : (capt c sc ρ).lookup y = some u) : sc.names.lookup y = some .free ∧ ∃ t, u = .sh t ∧ ρ.lookup y = some (.sh t) := by
  obtain ⟨p, hp, he⟩ := List.mem_filterMap.mp (mem_of_lookup h)
  unfold capt1 at he
  split at he
  · rename_i hf
    split at he
    · rename_i t ht
      simp only [Option.some.injEq, Prod.mk.injEq] at he
      obtain ⟨e1, e2⟩ := he
      subst e1 e2
      exact ⟨by simpa using hf, t, rfl, ht⟩
    · cases he
  · cases he

noncomputable def closL (env : Env) : List (Str × NameKind) → List (Str × Addr) → List (Str × Addr)
  | [], acc => acc
  | (n, k) :: r, acc => if k == .free then closL env r ((n, (env.cells.lookup n).getD 0) :: acc) else closL env r acc

theorem closureFor_of {env : Env} {sc : Scope} (h : ∀ p ∈ sc.names, p.2 = .free → (env.cells.lookup p.1).isSome) : closureFor sc env = pure (closL env sc.names []) := by
  have key : ∀ (names : List (Str × NameKind)) (acc : List (Str × Addr)) (f : Str × NameKind → List (Str × Addr) → Sem (ForInStep (List (Str × Addr)))),
      (∀ n k a, f (n, k) a = if k == .free then (do let q ← cellOf env n; pure (.yield ((n, q) :: a))) else pure (.yield a)) → (∀ p ∈ names, p.2 = .free → (env.cells.lookup p.1).isSome) →
      forIn names acc f = pure (closL env names acc) := by
    intro names
    induction names with
    | nil => intro acc f _ _; rfl
    | cons p r ih =>
      intro acc f hf h
      obtain ⟨n, k⟩ := p
      rw [List.forIn_cons, hf]
      have hr := fun q hq => h q (List.mem_cons_of_mem _ hq)
      by_cases hk : k = .free
      · subst hk
        obtain ⟨a, ha⟩ := Option.isSome_iff_exists.mp (h (n, .free) List.mem_cons_self rfl)
        simp only at ha
        have hc : cellOf env n = pure a := by unfold cellOf; rw [ha]
        simp only [beq_self_eq_true, if_true, hc, pure_bind]
        rw [ih _ f hf hr]
        simp [closL, ha]
      · have : (k == NameKind.free) = false := by simpa using hk
        simp only [this, Bool.false_eq_true, if_false, pure_bind]
        rw [ih _ f hf hr]
        simp [closL, this]
  unfold closureFor
  refine Eq.trans (congrArg (fun t => t >>= fun cs => pure cs) (key sc.names [] _ (fun n k a => ?_) h)) ?_
  · rfl
  · simp

theorem cellsFrom_app : ∀ (names : List (Str × NameKind)) (n : Nat) (acc : List (Str × Addr)), cellsFrom n names acc = cellsFrom n names [] ++ acc
  | [], n, acc => rfl
  | (x, k) :: r, n, acc => by
    unfold cellsFrom
    split
    · rw [cellsFrom_app r (n + 1) ((x, n) :: acc), cellsFrom_app r (n + 1) [(x, n)]]; simp
    · exact cellsFrom_app r n acc
theorem cellsFrom_names : ∀ (names : List (Str × NameKind)) (n : Nat) (acc : List (Str × Addr)) (x : Str) (a : Addr), (x, a) ∈ cellsFrom n names acc → (x, NameKind.cell) ∈ names ∨ (x, a) ∈ acc
  | [], n, acc, x, a, h => .inr h
  | (y, k) :: r, n, acc, x, a, h => by
    unfold cellsFrom at h
    split at h
    · rename_i hk
      obtain rfl : k = .cell := by simpa using hk
      rcases cellsFrom_names r (n + 1) _ x a h with h | h
      · exact .inl (List.mem_cons_of_mem _ h)
      · rcases List.mem_cons.mp h with e | h
        · cases e; exact .inl List.mem_cons_self
        · exact .inr h
    · exact (cellsFrom_names r n acc x a h).imp (List.mem_cons_of_mem _) id
theorem closL_mem {env : Env} : ∀ (names : List (Str × NameKind)) (acc : List (Str × Addr)) (x : Str) (a : Addr), (x, a) ∈ closL env names acc → ((x, NameKind.free) ∈ names ∧ (env.cells.lookup x).getD 0 = a) ∨ (x, a) ∈ acc
  | [], acc, x, a, h => .inr h
  | (y, k) :: r, acc, x, a, h => by
    unfold closL at h
    split at h
    · rename_i hk
      obtain rfl : k = .free := by simpa using hk
      rcases closL_mem r _ x a h with h | h
      · exact .inl ⟨List.mem_cons_of_mem _ h.1, h.2⟩
      · rcases List.mem_cons.mp h with e | h
        · cases e; exact .inl ⟨List.mem_cons_self, rfl⟩
        · exact .inr h
    · exact (closL_mem r acc x a h).imp (fun h => ⟨List.mem_cons_of_mem _ h.1, h.2⟩) id
theorem closL_has {env : Env} : ∀ (names : List (Str × NameKind)) (acc : List (Str × Addr)) (x : Str), ((x, NameKind.free) ∈ names ∨ ∃ a, (x, a) ∈ acc) → ∃ a, (x, a) ∈ closL env names acc
  | [], acc, x, h => by simpa [closL] using h
  | (y, k) :: r, acc, x, h => by
    unfold closL
    split
    · rename_i hk
      obtain rfl : k = .free := by simpa using hk
      refine closL_has r _ x ?_
      rcases h with h | ⟨a, h⟩
      · rcases List.mem_cons.mp h with e | h
        · cases e; exact .inr ⟨_, List.mem_cons_self⟩
        · exact .inl h
      · exact .inr ⟨a, List.mem_cons_of_mem _ h⟩
    · rename_i hk
      refine closL_has r _ x (h.imp (fun h => ?_) id)
      rcases List.mem_cons.mp h with e | h
      · cases e; exact absurd rfl hk
      · exact h
theorem cellsFrom_has : ∀ (names : List (Str × NameKind)) (n : Nat) (acc : List (Str × Addr)) (x : Str), ((x, NameKind.cell) ∈ names ∨ ∃ a, (x, a) ∈ acc) → ∃ a, (x, a) ∈ cellsFrom n names acc
  | [], n, acc, x, h => by simpa [cellsFrom] using h
  | (y, k) :: r, n, acc, x, h => by
    unfold cellsFrom
    split
    · rename_i hk
      obtain rfl : k = .cell := by simpa using hk
      refine cellsFrom_has r _ _ x ?_
      rcases h with h | ⟨a, h⟩
      · rcases List.mem_cons.mp h with e | h
        · cases e; exact .inr ⟨_, List.mem_cons_self⟩
        · exact .inl h
      · exact .inr ⟨a, List.mem_cons_of_mem _ h⟩
    · rename_i hk
      refine cellsFrom_has r _ _ x (h.imp (fun h => ?_) id)
      rcases List.mem_cons.mp h with e | h
      · cases e; exact absurd rfl hk
      · exact h
theorem lookup_of_mem {α : Type} : ∀ {l : List (Str × α)} {x : Str}, (∃ a, (x, a) ∈ l) → ∃ a, l.lookup x = some a
  | [], x, ⟨a, h⟩ => by cases h
  | (y, b) :: r, x, ⟨a, h⟩ => by
    rw [List.lookup_cons]
    by_cases hx : x = y
    · subst hx; simp
    · rw [show (x == y) = false by simpa using hx]
      rcases List.mem_cons.mp h with e | h
      · cases e; exact absurd rfl hx
      · exact lookup_of_mem ⟨a, h⟩
theorem relab_lookup {ns names : List (Str × NameKind)} {x : Str} : (relab ns names).lookup x = (names.lookup x).map fun k => if (k == .free && ns.lookup x == some .cell) then .cell else k := by
  induction names with
  | nil => rfl
  | cons p r ih =>
    obtain ⟨n, k⟩ := p
    unfold relab at ih ⊢
    rw [List.map_cons]
    by_cases hx : x = n
    · subst hx
      by_cases hc : (k == NameKind.free && ns.lookup x == some NameKind.cell) = true
      · show List.lookup x ((if (k == NameKind.free && ns.lookup x == some NameKind.cell) = true then (x, NameKind.cell) else (x, k)) :: _) = _
        rw [if_pos hc, List.lookup_cons, List.lookup_cons, beq_self_eq_true]
        simp only [Option.map_some, if_pos hc]
      · show List.lookup x ((if (k == NameKind.free && ns.lookup x == some NameKind.cell) = true then (x, NameKind.cell) else (x, k)) :: _) = _
        rw [if_neg hc, List.lookup_cons, List.lookup_cons, beq_self_eq_true]
        simp only [Option.map_some, if_neg hc]
    · have : (x == n) = false := by simpa using hx
      by_cases hc : (k == NameKind.free && ns.lookup n == some NameKind.cell) = true
      · simp only [hc, if_true]; rw [List.lookup_cons, List.lookup_cons, this]; exact ih
      · simp only [hc]; rw [if_neg (by simp)]; rw [List.lookup_cons, List.lookup_cons, this]; exact ih

section
variable {c : Cx} {env : Env} {M₀ : List Addr} {O : List (Str × Addr)} {ρ : Rho}

theorem comp_enter {s s₃ : Shared} (R : Rel c env M₀ O ρ s) (x : Ext s s₃) {sc : Scope} (ok : scopeOk c sc = true) {X : List Addr} (hX : ∀ a ∈ X, s.heap.objs.size ≤ a ∧ a < s₃.heap.objs.size) {A : Around} {E : Value → Shared → Prop} {Q : Env → Shared → Prop}
    (k : ∀ (cenv : Env) (s₄ : Shared), Ext s₃ s₄ → s₃.heap.objs.size ≤ cenv.locals → cenv.locals < s₄.heap.objs.size → (∀ a ∈ nOf (compCx c sc) { cenv with scope := relabel sc env } [], s₃.heap.objs.size ≤ a) → (∀ a, ∀ y, (y, a) ∈ cenv.cells → a ∉ X) →
      Rel (compCx c sc) { cenv with scope := relabel sc env } (X ++ (nOf c env O ++ M₀)) [] (capt c sc ρ) s₄ → Q cenv s₄) :
    wpAny (model c.prog c.w) A (newFunctionEnv sc env.globals (closL env sc.names []) [] env.qual none .none (some env)) Q E s₃ := by
  unfold scopeOk at ok
  simp only [Bool.and_eq_true, List.all_eq_true, Bool.or_eq_true, Bool.not_eq_true', beq_eq_false_iff_ne, beq_iff_eq, ne_eq] at ok
  obtain ⟨⟨⟨ok1, ok2⟩, ok3⟩, ok4⟩ := ok
  have R₃ := R.ext x
  have hkind : sc.kind = .function := by revert ok1; cases sc.kind <;> simp
  simp only [newFunctionEnv, Option.isSome_some, if_true]
  refine wpAny_bind (wpAny_alloc ?_)
  refine wpAny_bind (wpAny_layCells _ (fun name kind cells => by cases hkc : kind == NameKind.cell <;> simp [hkc]) _ _ _ _ ?_)
  simp only [List.forIn_nil]
  have hsz : ({ s₃ with heap := s₃.heap.push { cls := .type "dict", data := .dict #[] } } : Shared).heap.objs.size = s₃.heap.objs.size + 1 := Heap.size_push ..
  rw [hsz, cellsFrom_app]
  have okc := cellsFrom_ok sc.names (s₃.heap.push { cls := .type "dict", data := .dict #[] }) (s₃.heap.objs.size + 1) [] ⟨fun _ _ hm => (nomatch hm), List.Pairwise.nil⟩ (by rw [Heap.size_push]; exact Nat.le_refl _)
  rw [Heap.size_push] at okc
  generalize hN : cellsFrom (s₃.heap.objs.size + 1) sc.names [] = N at okc
  generalize hH : pushCells (s₃.heap.push { cls := .type "dict", data := .dict #[] }) sc.names = H at okc
  have keep0 : ∀ b o, (s₃.heap.push { cls := .type "dict", data := .dict #[] }).get? b = some o → H.get? b = some o := by rw [← hH]; exact pushCells_keeps _ _
  have keep : ∀ b o, s₃.heap.get? b = some o → H.get? b = some o := fun b o e => keep0 b o (Heap.get?_push_of_some _ e)
  have hNs : H.Ns s₃.heap.objs.size (fun _ => none) := (Heap.Ns.new s₃.heap (.type "dict")).keeps keep0
  have hHsz : s₃.heap.objs.size < H.objs.size := hNs.lt
  have hE : Ext s₃ { s₃ with heap := H } := Ext.of_heap keep (Nat.le_of_lt hHsz) (Nat.le_refl _)
  have hNmem : ∀ y a, (y, a) ∈ N → (y, NameKind.cell) ∈ sc.names := fun y a h => by
    rcases cellsFrom_names _ _ _ y a (hN ▸ h) with h | h
    · exact h
    · cases h
  have hcel : ∀ y a, (y, a) ∈ N → (cellNames sc).contains y = true := fun y a h => by
    rw [List.contains_iff_mem]
    exact List.mem_map.mpr ⟨(y, .cell), List.mem_filter.mpr ⟨hNmem y a h, by simp⟩, rfl⟩
  have hclo : ∀ y a, (y, a) ∈ closL env sc.names [] → (y, NameKind.free) ∈ sc.names ∧ env.cells.lookup y = some a := fun y a h => by
    rcases closL_mem _ _ y a h with ⟨h1, h2⟩ | h
    · have := (ok3 (y, .free) h1).resolve_left (by simp)
      obtain ⟨q, hq⟩ := R₃.call y (by simpa using this.1)
      rw [hq] at h2; simp at h2; subst h2
      exact ⟨h1, hq⟩
    · cases h
  have hnocel : ∀ y a, (y, a) ∈ closL env sc.names [] → (cellNames sc).contains y = false := fun y a h => by
    have := (ok3 (y, .free) (hclo y a h).1).resolve_left (by simp)
    simpa using this.2
  have hown : ownCells (compCx c sc) { scope := relabel sc env, locals := s₃.heap.objs.size, globals := env.globals, cells := N ++ closL env sc.names [], qual := env.qual, func := none, code := env.code, frame := env.frame, builtins := env.builtins } = N.map (·.2) := by
    unfold ownCells compCx
    simp only [List.filter_append]
    rw [List.filter_eq_self.mpr (fun p hp => hcel p.1 p.2 hp), List.filter_eq_nil_iff.mpr (fun p hp => by simpa using hnocel p.1 p.2 hp)]
    simp
  have hnOf : nOf (compCx c sc) { scope := relabel sc env, locals := s₃.heap.objs.size, globals := env.globals, cells := N ++ closL env sc.names [], qual := env.qual, func := none, code := env.code, frame := env.frame, builtins := env.builtins } [] = s₃.heap.objs.size :: N.map (·.2) := by
    unfold nOf; rw [hown]; simp
  have hNlo : ∀ a ∈ N.map (·.2), s₃.heap.objs.size + 1 ≤ a ∧ a < H.objs.size := fun a h => by
    obtain ⟨p, hp, rfl⟩ := List.mem_map.mp h
    exact ⟨(okc.empty p.1 p.2 hp).2, (okc.empty p.1 p.2 hp).1.lt⟩
  have hbig : ∀ a ∈ s₃.heap.objs.size :: N.map (·.2), s₃.heap.objs.size ≤ a ∧ a < H.objs.size := fun a h => by
    rcases List.mem_cons.mp h with rfl | h
    · exact ⟨Nat.le_refl _, hHsz⟩
    · exact ⟨Nat.le_of_succ_le (hNlo a h).1, (hNlo a h).2⟩
  have hold : ∀ a ∈ X ++ (nOf c env O ++ M₀), c.H.objs.size ≤ a ∧ a < s₃.heap.objs.size := fun a h => by
    rcases List.mem_append.mp h with h | h
    · exact ⟨Nat.le_trans R.bas.size (hX a h).1, (hX a h).2⟩
    · exact R₃.hi a h
  refine wpAny_bind (wpAny_pure (wpAny_pure ?_))
  refine k { scope := sc, locals := s₃.heap.objs.size, globals := env.globals, cells := N ++ closL env sc.names [], qual := env.qual, func := none, code := env.code, frame := env.frame, builtins := env.builtins } { s₃ with heap := H } hE (Nat.le_refl _) hHsz (fun a h => (hbig a (hnOf ▸ h)).1) (fun a y h hXa => ?_) ?_
  · rcases List.mem_append.mp h with h | h
    · have := (hNlo a (List.mem_map.mpr ⟨_, h, rfl⟩)).1
      exact absurd (hX a hXa).2 (Nat.not_lt.mpr (Nat.le_of_succ_le this))
    · have h2 := R.cellIn (mem_of_lookup (hclo y a h).2)
      have : a < s.heap.objs.size := by
        rcases h2 with h2 | h2
        · exact R.lt a (List.mem_append_left _ h2)
        · exact R.lt a (List.mem_append_right _ h2)
      exact absurd (hX a hXa).1 (Nat.not_le.mpr this)
  · refine {
      bas := ⟨(R₃.bas.ext hE).heap, (R₃.bas.ext hE).size, (R₃.bas.ext hE).toks, (R₃.bas.ext hE).lim⟩
      names := ?_
      kind := hkind
      glob := R.glob
      blt := R.blt
      nd := ?_
      hi := ?_
      dis := ?_
      loc := ⟨_, hNs⟩
      cells := ?_
      call := ?_
      vars := ?_ }
    · show (sc.names.map fun (n, k) => if (k == .free && env.scope.kind == .function && env.kindOf n == some .cell) then (n, .cell) else (n, k)) = relab c.ns sc.names
      unfold relab
      rw [R.kind]
      refine List.map_congr_left fun p _ => ?_
      obtain ⟨n, k⟩ := p
      show (if (k == NameKind.free && ScopeKind.function == ScopeKind.function && env.kindOf n == some NameKind.cell) = true then (n, NameKind.cell) else (n, k)) = _
      rw [R.kindOf n]
      simp
    · rw [hnOf, List.nodup_cons]
      refine ⟨fun h => ?_, ?_⟩
      · have := (hNlo _ h).1; omega
      · have := okc.apart
        exact List.pairwise_map.mpr (this.imp fun h => h)
    · intro a ha
      rw [hnOf] at ha
      rcases List.mem_append.mp ha with h | h
      · exact ⟨Nat.le_trans R₃.bas.size (hbig a h).1, (hbig a h).2⟩
      · exact ⟨(hold a h).1, Nat.lt_of_lt_of_le (hold a h).2 hE.size⟩
    · intro a ha h
      rw [hnOf] at ha
      exact absurd (hold a h).2 (Nat.not_lt.mpr (hbig a ha).1)
    · intro y a h
      rcases List.mem_append.mp h with h | h
      · exact ⟨⟨none, (okc.empty y a h).1⟩, .inl (hcel y a h)⟩
      · have h2 := mem_of_lookup (hclo y a h).2
        obtain ⟨⟨v, hv⟩, _⟩ := R₃.cells y a h2
        refine ⟨⟨v, hv.keeps keep⟩, .inr (List.mem_append_right _ ?_)⟩
        exact (R.cellIn h2).elim (List.mem_append_left _) (List.mem_append_right _)
    · intro y h
      rw [show (compCx c sc).ns = relab c.ns sc.names from rfl, relab_lookup] at h
      refine lookup_of_mem ?_
      have : ∃ kk, sc.names.lookup y = some kk ∧ (kk = .cell ∨ kk = .free) := by
        cases hl : sc.names.lookup y with
        | none => rw [hl] at h; simp at h
        | some kk =>
          rw [hl] at h
          refine ⟨kk, rfl, ?_⟩
          cases kk <;> simp at h ⊢
      obtain ⟨kk, h1, h2 | h2⟩ := this
      · subst h2
        obtain ⟨a, ha⟩ := cellsFrom_has sc.names (s₃.heap.objs.size + 1) [] y (.inl (mem_of_lookup h1))
        exact ⟨a, List.mem_append_left _ (hN ▸ ha)⟩
      · subst h2
        obtain ⟨a, ha⟩ := closL_has (env := env) sc.names [] y (.inl (mem_of_lookup h1))
        exact ⟨a, List.mem_append_right _ ha⟩
    · intro y u h
      obtain ⟨hf, t, rfl, ht⟩ := capt_lookup h
      obtain ⟨v, hl, hd⟩ := R.vars y _ ht
      have hy := (ok3 (y, .free) (mem_of_lookup hf)).resolve_left (by simp)
      refine ⟨v, ?_, ?_⟩
      · rcases hl with ⟨hk, _⟩ | ⟨_, a, ha, hc⟩
        · rw [R.kindOf] at hk
          rcases hy.1 with e | e <;> (simp only at e; rw [e] at hk; cases hk)
        · refine .inr ⟨?_, a, ?_, (hc.keeps x.all).keeps keep⟩
          · have e : (relab c.ns sc.names).lookup y = _ := relab_lookup
            rw [hf] at e
            have e2 : Env.kindOf { scope := relabel sc env, locals := s₃.heap.objs.size, globals := env.globals, cells := N ++ closL env sc.names [], qual := env.qual, func := none, code := env.code, frame := env.frame, builtins := env.builtins } y = (relab c.ns sc.names).lookup y := by
              show (sc.names.map fun (n, k) => if (k == .free && env.scope.kind == .function && env.kindOf n == some .cell) then (n, NameKind.cell) else (n, k)).lookup y = _
              unfold relab
              rw [R.kind]
              congr 1
              refine List.map_congr_left fun p _ => ?_
              obtain ⟨n, k⟩ := p
              show (if (k == NameKind.free && ScopeKind.function == ScopeKind.function && env.kindOf n == some NameKind.cell) = true then (n, NameKind.cell) else (n, k)) = _
              rw [R.kindOf n]
              simp
            rw [e2, e]
            simp only [Option.map_some, Option.some.injEq]
            split
            · exact .inl rfl
            · exact .inr rfl
          · show (N ++ closL env sc.names []).lookup y = some a
            obtain ⟨b, hb⟩ := lookup_of_mem (l := N ++ closL env sc.names []) (x := y) (by
              obtain ⟨b, hb⟩ := closL_has (env := env) sc.names [] y (.inl (mem_of_lookup hf))
              exact ⟨b, List.mem_append_right _ hb⟩)
            rw [hb]
            rcases List.mem_append.mp (mem_of_lookup hb) with h1 | h1
            · have := hcel y b h1
              have h2 : (cellNames sc).contains y = false := by simpa using hy.2
              rw [h2] at this; cases this
            · have := (hclo y b h1).2
              rw [ha] at this; exact this.symm
      · refine den_re (fun b hb hlt hm => ?_) (fun b o _ e => keep b o (x.all b o e)) t v hd
        rw [hnOf] at hm
        rcases List.mem_append.mp hm with h | h
        · exact absurd (Nat.lt_of_lt_of_le hlt x.size) (Nat.not_lt.mpr (hbig b h).1)
        · rcases List.mem_append.mp h with h | h
          · exact absurd hlt (Nat.not_lt.mpr (hX b h).1)
          · exact hb h
end
end Mine
end

section
set_option autoImplicit false
set_option linter.unusedVariables false
set_option linter.unusedSimpArgs false
namespace Mine
open PySem PySem.Calls PyProof.Rows PySem.SeqAt

/-- what stands behind a turn's tests: the next part, or the element; then k -/
noncomputable def tailK (elt : Expr) (gens : List Comprehension) (sc : Scope) (pos : Pos) (d : Nat) (acc : Value) (env : Env) (k : Sem Fin) : Sem Fin := do
  match gens[d + 1]? with
  | some g' =>
    let x ← eval g'.iter env
    standAt g'.iter.pos
    let x ← if g'.is_async != 0 then foldedIterable g'.iter x else foldedSetIterable g'.iter env x
    let _ ← runOwn (.compStart (.ListComp elt gens sc pos) (d + 1) (← holding [x] (if g'.is_async != 0 then asyncIter x else pyIter x)) acc env) env
  | none => (do let _ ← call (.builtin "list.append") [acc, ← eval elt env])
  k

noncomputable def ifsTree (ifs : List Expr) (env : Env) : Sem Bool := forIn ifs true fun c r => if r = true then do let ok ← isTrue c env (eval c env); pure (ForInStep.yield ok) else pure (ForInStep.yield r)

theorem compTurn_eq (elt : Expr) (gens : List Comprehension) (sc : Scope) (pos : Pos) (d : Nat) (it acc : Value) (env : Env) (g : Comprehension) (hg : gens[d]? = some g) (ha : g.is_async = 0) :
    compTurn (.ListComp elt gens sc pos) d it acc env = (standAt g.iter.pos >>= fun _ => pyNext it >>= fun r => match r with
      | none => pure (.done .next)
      | some v => letOwnedTupleGo g.target it v >>= fun _ => assign g.target env v >>= fun _ => ifsTree g.ifs env >>= fun ok =>
        if ok = true then tailK elt gens sc pos d acc env (again (.compLoop (.ListComp elt gens sc pos) d it acc env)) else again (.compLoop (.ListComp elt gens sc pos) d it acc env)) := by
  unfold compTurn
  simp only [hg, ha]
  rfl

section
variable {c : Cx} {n : Nat}

/-- the tests of a part -/
inductive Ifs (c : Cx) (n : Nat) (ρ : Rho) : List Expr → Bool → Prop
  | nil : Ifs c n ρ [] true
  | consT {e : Expr} {r : List Expr} {b : Bool} : EvT c n ρ e true → Ifs c n ρ r b → Ifs c n ρ (e :: r) b
  | consF {e : Expr} {r : List Expr} : EvT c n ρ e false → Ifs c n ρ (e :: r) false

theorem forIn_false {env : Env} : ∀ (l : List Expr), (forIn l false fun c r => if r = true then do let ok ← isTrue c env (eval c env); pure (ForInStep.yield ok) else pure (ForInStep.yield r) : Sem Bool) = pure false
  | [] => rfl
  | e :: r => by rw [List.forIn_cons]; simp only [Bool.false_eq_true, if_false, pure_bind]; exact forIn_false r
theorem Ifs.go {ρ : Rho} {ifs : List Expr} {b : Bool} (h : Ifs c n ρ ifs b) {A : Around} {env : Env} {M₀ : List Addr} {O : List (Str × Addr)} (rm : Room A n) :
    ∀ (s : Shared) (Q : Bool → Shared → Prop), Rel c env M₀ O ρ s → (∀ s', Ext s s' → Rel c env M₀ O ρ s' → Q b s') → wpAny (model c.prog c.w) A (ifsTree ifs env) Q NoE s := by
  induction h with
  | nil => exact fun s Q R k => wpAny_pure (k s (Chg.refl _) R)
  | consT h _ ih =>
    intro s Q R k
    unfold ifsTree at ih ⊢
    rw [List.forIn_cons]
    simp only [if_true]
    refine wpAny_bind (wpAny_bind (h.go rm R fun s' x R' => wpAny_pure (ih s' Q R' fun s'' x' R'' => k s'' (Ext.trans x x') R'')))
  | consF h =>
    intro s Q R k
    unfold ifsTree
    rw [List.forIn_cons]
    simp only [if_true]
    refine wpAny_bind (wpAny_bind (h.go rm R fun s' x R' => wpAny_pure ?_))
    show wpAny _ _ (forIn _ false _) _ _ _
    rw [forIn_false]
    exact wpAny_pure (k s' x R')

/-- from ρ on, what is left of a turn lays the items out onto the list that is made at D -/
structure Tail (c : Cx) (n : Nat) (elt : Expr) (gens : List Comprehension) (sc : Scope) (pos : Pos) (d : Nat) (ρ : Rho) (out : List T) : Prop where
  run : ∀ (A : Around) (s : Shared) (env : Env) (M₀ : List Addr) (D : Addr) (ws : Array Value) (acc : List T) (k : Sem Fin) (Q : Fin → Shared → Prop), Room A n → Rel c env M₀ [] ρ s → D ∈ M₀ → (∀ y, (y, D) ∉ env.cells) →
    s.heap.PlainList D ws → DenL c.w (nOf c env [] ++ M₀) s.heap acc ws.toList → acc.length + out.length ≤ sizeLine →
    (∀ s' ws', Chg (D :: nOf c env []) s s' → Rel c env M₀ [] ρ s' → s'.heap.PlainList D ws' → DenL c.w (nOf c env [] ++ M₀) s'.heap (acc ++ out) ws'.toList → wpAny (model c.prog c.w) A k Q NoE s') →
    wpAny (model c.prog c.w) A (tailK elt gens sc pos d (.ref D) env k) Q NoE s

theorem append_list {A : Around} {s : Shared} {env : Env} {M₀ : List Addr} {ρ : Rho} {D : Addr} {ws : Array Value} {acc : List T} {t : T} {v : Value} (R : Rel c env M₀ [] ρ s) (hD : D ∈ M₀) (hDc : ∀ y, (y, D) ∉ env.cells)
    (hl : s.heap.PlainList D ws) (hd : DenL c.w (nOf c env [] ++ M₀) s.heap acc ws.toList) (dv : Den c.w (nOf c env [] ++ M₀) s.heap t v) (hz : acc.length ≤ sizeLine) {Q : Value → Shared → Prop} {E : Value → Shared → Prop}
    (k : ∀ s' ws', Chg [D] s s' → Rel c env M₀ [] ρ s' → s'.heap.PlainList D ws' → DenL c.w (nOf c env [] ++ M₀) s'.heap (acc ++ [t]) ws'.toList → Q .none s') :
    wpAny (model c.prog c.w) A (call (.builtin "list.append") [.ref D, v]) Q E s := by
  have hlen := hd.length
  refine wpAny_list_append_plain hl (fun h' hl' hs => ?_) (by simp at hlen; lia)
  have x : Chg [D] s { s with heap := h' } := sb_chg hs (Nat.le_refl _)
  have hk : ∀ b o, b ∉ nOf c env [] ++ M₀ → s.heap.get? b = some o → h'.get? b = some o := fun b o hb e => x.heap b o (fun h => hb (by simp at h; subst h; exact List.mem_append_right _ hD)) e
  refine k _ _ x (R.step x.h fun a ha => by simp at ha; subst ha; exact ⟨hD, hDc⟩) hl' ?_
  rw [Array.toList_push]
  exact (DenL.mono (fun _ e => e) hk _ _ hd).app (DenL.cons (Den.mono (fun _ e => e) hk _ _ dv) DenL.nil)

theorem Tail.emit {elt : Expr} {gens : List Comprehension} {sc : Scope} {pos : Pos} {d : Nat} {ρ : Rho} {t : T} (hg : gens[d + 1]? = none) (h : Ev c n ρ elt t) : Tail c n elt gens sc pos d ρ [t] :=
  .mk fun A s env M₀ D ws acc k Q rm R hD hDc hl hd hz hk => by
  unfold tailK
  rw [hg]
  refine wpAny_bind (wpAny_bind (h.go rm R fun v s₁ x₁ R₁ d₁ => wpAny_bind (append_list R₁ hD hDc (hl.at fun o => x₁.all D o) (hd.keep x₁.all) d₁ (by simp at hz; lia) fun s₂ ws' x₂ R₂ hl₂ hd₂ => wpAny_pure ?_)))
  exact hk s₂ ws' (Chg.trans x₁.chg x₂ fun a ha => by simp at ha; subst ha; exact .inl List.mem_cons_self) R₂ hl₂ hd₂

/-- the turns of a part over its items -/
inductive Turns (c : Cx) (n : Nat) (elt : Expr) (gens : List Comprehension) (sc : Scope) (pos : Pos) (d : Nat) (g : Comprehension) (ρ : Rho) : List T → List T → Prop
  | nil : Turns c n elt gens sc pos d g ρ [] []
  | yes {t : T} {ts o₁ o₂ : List T} {ρ' : Rho} : bindT c g.target t ρ = some ρ' → (∀ x u, ρ.lookup x = some u → ρ'.lookup x = some u) → Ifs c n ρ' g.ifs true → Tail c n elt gens sc pos d ρ' o₁ →
      Turns c n elt gens sc pos d g ρ ts o₂ → Turns c n elt gens sc pos d g ρ (t :: ts) (o₁ ++ o₂)
  | no {t : T} {ts o₂ : List T} {ρ' : Rho} : bindT c g.target t ρ = some ρ' → (∀ x u, ρ.lookup x = some u → ρ'.lookup x = some u) → Ifs c n ρ' g.ifs false →
      Turns c n elt gens sc pos d g ρ ts o₂ → Turns c n elt gens sc pos d g ρ (t :: ts) o₂

theorem Rel.noOwn {env : Env} {M₀ : List Addr} {O : List (Str × Addr)} {ρ : Rho} {s : Shared} (R : Rel c env M₀ O ρ s) (h : ∀ a ∈ nOf c env O, a ∈ nOf c env []) : O = [] := by
  cases O with
  | nil => rfl
  | cons p r =>
    have nd := R.nd
    have hp : p.2 ∈ nOf c env [] := h _ (List.mem_cons_of_mem _ (List.mem_append_right _ List.mem_cons_self))
    unfold nOf at nd hp
    simp only [List.map_nil, List.append_nil] at hp
    rw [List.nodup_cons, List.nodup_append] at nd
    rcases List.mem_cons.mp hp with e | e
    · exact absurd (List.mem_append_right _ (e ▸ List.mem_cons_self)) nd.1
    · exact absurd rfl (nd.2.2.2 _ e _ List.mem_cons_self)


theorem comp_loop {elt : Expr} {gens : List Comprehension} {sc : Scope} {pos : Pos} {d : Nat} {g : Comprehension} {ρ : Rho} {l : List T} (hg : gens[d]? = some g) (ha : g.is_async = 0)
    {A : Around} (rm : Room A n) {env : Env} {M₀ : List Addr} {D it : Addr} {fp : List Addr} {P : Addr → Prop} {St : Nat → Shared → Prop} (W : Walk c A it fp l P St) (hD : D ∈ M₀) (hDc : ∀ y, (y, D) ∉ env.cells) (hit : it ∈ M₀) (hitc : ∀ y, (y, it) ∉ env.cells) (hDit : D ≠ it)
    (hP : ∀ a ∈ nOf c env [] ++ M₀, P a) (hfp : ∀ b ∈ fp, b ∉ D :: nOf c env []) (R' : Result → Shared → Prop) :
    ∀ (rest done outr : List T) (s : Shared) (ws : Array Value) (acc : List T), done ++ rest = l → Turns c n elt gens sc pos d g ρ rest outr → Rel c env M₀ [] ρ s → St done.length s → s.heap.PlainList D ws → DenL c.w (nOf c env [] ++ M₀) s.heap acc ws.toList → acc.length + outr.length ≤ sizeLine →
      (∀ s' ws', Chg (D :: it :: nOf c env []) s s' → Rel c env M₀ [] ρ s' → s'.heap.PlainList D ws' → DenL c.w (nOf c env [] ++ M₀) s'.heap (acc ++ outr) ws'.toList → R' (.ok .next) s') →
      codeAny (model c.prog c.w) A (.compLoop (.ListComp elt gens sc pos) d (.ref it) (.ref D) env) R' s := by
  intro rest
  induction rest with
  | nil =>
    intro done outr s ws acc hl ht R st hlist hd hz k
    cases ht
    rw [List.append_nil] at hl; subst hl
    refine codeAny_of_tree ?_
    show wpAny _ _ ((compTurn (.ListComp elt gens sc pos) d (.ref it) (.ref D) env).onRaise (fun x => do noteFrame x env; theTreesLotGoes x)) _ _ s
    refine wpAny_noted (wpAny_no ?_)
    rw [compTurn_eq elt gens sc pos d (.ref it) (.ref D) env g hg ha]
    refine wpAny_bind (wpAny_standAt (wpAny_bind (W.done s _ _ st fun s' x => wpAny_pure ?_)))
    have hk : ∀ b o, b ∉ nOf c env [] ++ M₀ → s.heap.get? b = some o → s'.heap.get? b = some o := fun b o hb e => x.heap b o (fun h => hb (by simp at h; subst h; exact List.mem_append_right _ hit)) e
    refine k s' ws (x.mono fun a h => .inl (by simp at h; subst h; simp)) (R.step x.h fun a h => by simp at h; subst h; exact ⟨hit, hitc⟩) (hlist.at fun o => x.heap D o (by simpa using hDit)) ?_
    rw [List.append_nil]
    exact DenL.mono (fun _ e => e) hk _ _ hd
  | cons t ts ih =>
    intro done outr s ws acc hl ht R st hlist hd hz k
    refine codeAny_of_tree ?_
    show wpAny _ _ ((compTurn (.ListComp elt gens sc pos) d (.ref it) (.ref D) env).onRaise (fun x => do noteFrame x env; theTreesLotGoes x)) _ _ s
    refine wpAny_noted (wpAny_no ?_)
    rw [compTurn_eq elt gens sc pos d (.ref it) (.ref D) env g hg ha]
    have hitem : l[done.length]? = some t := by rw [← hl]; simp
    have hdone : (done ++ [t]) ++ ts = l := by rw [← hl]; simp
    refine wpAny_bind (wpAny_standAt (wpAny_bind (W.item done.length t s _ _ hitem st fun v s₁ x₁ st₁ hv => ?_)))
    have hk₁ : ∀ b o, b ∉ nOf c env [] ++ M₀ → s.heap.get? b = some o → s₁.heap.get? b = some o := fun b o hb e => x₁.heap b o (fun h => hb (by simp at h; subst h; exact List.mem_append_right _ hit)) e
    have R₁ : Rel c env M₀ [] ρ s₁ := R.step x₁.h fun a h => by simp at h; subst h; exact ⟨hit, hitc⟩
    have hl₁ : s₁.heap.PlainList D ws := hlist.at fun o => x₁.heap D o (by simpa using hDit)
    have hd₁ := DenL.mono (fun _ e => e) hk₁ _ _ hd
    have hDn : D ∉ nOf c env [] := fun h => R.dis D h hD
    have hnP : ∀ a ∈ nOf c env [], P a := fun a h => hP a (List.mem_append_left _ h)
    refine wpAny_bind (W.owned _ s₁ g.target v _ _ st₁ ?_)
    have main : ∀ (ρ' : Rho), bindT c g.target t ρ = some ρ' → (∀ x u, ρ.lookup x = some u → ρ'.lookup x = some u) → ∀ (b : Bool), Ifs c n ρ' g.ifs b →
        ∀ (Q : Fin → Shared → Prop), (∀ s₃, Chg (nOf c env []) s₁ s₃ → Rel c env M₀ [] ρ' s₃ → St (done.length + 1) s₃ → s₃.heap.PlainList D ws → DenL c.w (nOf c env [] ++ M₀) s₃.heap acc ws.toList →
          wpAny (model c.prog c.w) A (if b = true then tailK elt gens sc pos d (.ref D) env (again (.compLoop (.ListComp elt gens sc pos) d (.ref it) (.ref D) env)) else again (.compLoop (.ListComp elt gens sc pos) d (.ref it) (.ref D) env)) Q NoE s₃) →
        wpAny (model c.prog c.w) A (assign g.target env v >>= fun _ => ifsTree g.ifs env >>= fun ok => if ok = true then tailK elt gens sc pos d (.ref D) env (again (.compLoop (.ListComp elt gens sc pos) d (.ref it) (.ref D) env)) else again (.compLoop (.ListComp elt gens sc pos) d (.ref it) (.ref D) env)) Q NoE s₁ := by
      intro ρ' hb hsub b hi Q kk
      refine wpAny_bind (wp_bind rm.1 R₁ (hv _ hP) hb fun O' s₂ x₂ hO R₂ => ?_)
      obtain rfl := R₂.noOwn hO
      refine wpAny_bind (hi.go rm s₂ _ R₂ fun s₃ x₃ R₃ => ?_)
      have x13 : Chg (nOf c env []) s₁ s₃ := Chg.trans x₂ x₃ (by simp)
      refine kk s₃ x13 R₃ (W.frame _ _ _ _ st₁ x13.h hnP fun b hb h => hfp b hb (List.mem_cons_of_mem _ h)) (hl₁.at fun o => x13.heap D o hDn) ?_
      exact DenL.mono (fun _ e => e) (fun b o hb => x13.heap b o fun h => hb (List.mem_append_left _ h)) _ _ hd₁
    have fin : ∀ {s₃ s₄ : Shared} {ρ' : Rho} {ws' : Array Value} {acc' outr' : List T}, (∀ x u, ρ.lookup x = some u → ρ'.lookup x = some u) → Chg (nOf c env []) s₁ s₃ → Chg (D :: nOf c env []) s₃ s₄ → Rel c env M₀ [] ρ' s₄ → St (done.length + 1) s₃ → s₄.heap.PlainList D ws' → DenL c.w (nOf c env [] ++ M₀) s₄.heap acc' ws'.toList →
        Turns c n elt gens sc pos d g ρ ts outr' → acc' ++ outr' = acc ++ outr → acc'.length + outr'.length ≤ sizeLine → codeAny (model c.prog c.w) A (.compLoop (.ListComp elt gens sc pos) d (.ref it) (.ref D) env) R' s₄ := by
      intro s₃ s₄ ρ' ws' acc' outr' hsub x13 x34 R₄ st₃ hl₄ hd₄ ht' he hz'
      have st₄ : St (done ++ [t]).length s₄ := by
        rw [List.length_append]
        exact W.frame _ _ _ _ st₃ x34.h (fun a h => by
          rcases List.mem_cons.mp h with rfl | h
          · exact hP _ (List.mem_append_right _ hD)
          · exact hnP a h) hfp
      refine ih (done ++ [t]) outr' s₄ ws' acc' hdone ht' (R₄.sub hsub) st₄ hl₄ hd₄ hz' fun s' ws'' x5 R5 hl5 hd5 => k s' ws'' ?_ R5 hl5 (he ▸ hd5)
      have y1 : Chg (D :: it :: nOf c env []) s s₁ := x₁.mono fun a h => .inl (by simp at h; subst h; simp)
      have y2 : Chg (D :: it :: nOf c env []) s₁ s₃ := x13.mono fun a h => .inl (List.mem_cons_of_mem _ (List.mem_cons_of_mem _ h))
      have y3 : Chg (D :: it :: nOf c env []) s₃ s₄ := x34.mono fun a h => .inl (by
        rcases List.mem_cons.mp h with rfl | h
        · exact List.mem_cons_self
        · exact List.mem_cons_of_mem _ (List.mem_cons_of_mem _ h))
      exact Chg.trans (Chg.trans (Chg.trans y1 y2 fun a h => .inl h) y3 fun a h => .inl h) x5 fun a h => .inl h
    cases ht with
    | @yes _ _ o₁ o₂ ρ' hb hsub hi htl ht' =>
      refine main ρ' hb hsub true hi _ fun s₃ x13 R₃ st₃ hl₃ hd₃ => ?_
      simp only [if_true]
      simp only [List.length_append] at hz
      refine htl.run A s₃ env M₀ D ws acc _ _ rm R₃ hD hDc hl₃ hd₃ (by lia) fun s₄ ws' x34 R₄ hl₄ hd₄ => wpAny_pure ⟨rfl, ?_⟩
      exact fin hsub x13 x34 R₄ st₃ hl₄ hd₄ ht' (by simp) (by simp only [List.length_append]; lia)
    | @no _ _ o₂ ρ' hb hsub hi ht' =>
      refine main ρ' hb hsub false hi _ fun s₃ x13 R₃ st₃ hl₃ hd₃ => ?_
      simp only [Bool.false_eq_true, if_false]
      exact wpAny_pure ⟨rfl, fin hsub x13 (Chg.refl _) R₃ st₃ hl₃ hd₃ ht' rfl hz⟩
end
end Mine
end

section
set_option autoImplicit false
set_option linter.unusedVariables false
set_option linter.unusedSimpArgs false
namespace Mine
open PySem PySem.Calls PyProof.Rows PySem.SeqAt

section
variable {c : Cx} {n : Nat} {env : Env} {M₀ : List Addr} {O : List (Str × Addr)} {ρ : Rho}

theorem Rel.addM {s s₂ : Shared} (R : Rel c env M₀ O ρ s) (x : Ext s s₂) {X : List Addr} (hX : ∀ a ∈ X, s.heap.objs.size ≤ a ∧ a < s₂.heap.objs.size) : Rel c env (X ++ M₀) O ρ s₂ := by
  have R₂ := R.ext x
  have hM : ∀ a, a ∉ nOf c env O ++ M₀ → a < s.heap.objs.size → a ∉ nOf c env O ++ (X ++ M₀) := fun a ha hl hm => by
    rcases List.mem_append.mp hm with h | h
    · exact ha (List.mem_append_left _ h)
    · rcases List.mem_append.mp h with h | h
      · exact absurd hl (Nat.not_lt.mpr (hX a h).1)
      · exact ha (List.mem_append_right _ h)
  exact {
    bas := R₂.bas
    names := R.names
    kind := R.kind
    glob := R.glob
    blt := R.blt
    nd := R.nd
    hi := fun a ha => by
      rcases List.mem_append.mp ha with h | h
      · exact R₂.hi a (List.mem_append_left _ h)
      · rcases List.mem_append.mp h with h | h
        · exact ⟨Nat.le_trans R.bas.size (hX a h).1, (hX a h).2⟩
        · exact R₂.hi a (List.mem_append_right _ h)
    dis := fun a ha h => by
      rcases List.mem_append.mp h with h | h
      · exact R.new (hX a h).1 (List.mem_append_left _ ha)
      · exact R.dis a ha h
    loc := R₂.loc
    cells := fun y a e => ⟨(R₂.cells y a e).1, (R.cells y a e).2.imp id (List.mem_append_right _)⟩
    call := R.call
    vars := fun y u e => by
      obtain ⟨v, h1, h2⟩ := R.vars y u e
      refine ⟨v, h1.keep x.all, ?_⟩
      cases u with
      | sh t => exact den_re hM (fun b o _ => x.all b o) t v h2
      | own l =>
        obtain ⟨a, vs, e1, e2, e3, e4⟩ := h2
        exact ⟨a, vs, e1, e2, e3.at fun o => x.all a o, denL_re hM (fun b o _ => x.all b o) l _ e4⟩ }

theorem Rel.dropM {s s₂ : Shared} {X : List Addr} {O' : List (Str × Addr)} {ρ' : Rho} (R : Rel c env M₀ O ρ s) (R₂ : Rel c env (X ++ M₀) O' ρ' s₂) : Rel c env M₀ O' ρ' s₂ := by
  have hsub : ∀ a, a ∉ nOf c env O' ++ (X ++ M₀) → a ∉ nOf c env O' ++ M₀ := fun a ha hm => ha (by
    rcases List.mem_append.mp hm with h | h
    · exact List.mem_append_left _ h
    · exact List.mem_append_right _ (List.mem_append_right _ h))
  exact {
    bas := R₂.bas
    names := R.names
    kind := R.kind
    glob := R.glob
    blt := R.blt
    nd := R₂.nd
    hi := fun a ha => R₂.hi a (by
      rcases List.mem_append.mp ha with h | h
      · exact List.mem_append_left _ h
      · exact List.mem_append_right _ (List.mem_append_right _ h))
    dis := fun a ha h => R₂.dis a ha (List.mem_append_right _ h)
    loc := R₂.loc
    cells := fun y a e => ⟨(R₂.cells y a e).1, (R.cells y a e).2⟩
    call := R.call
    vars := fun y u e => by
      obtain ⟨v, h1, h2⟩ := R₂.vars y u e
      exact ⟨v, h1, h2.mono hsub (fun _ _ _ e => e) fun a e => ⟨e, fun _ e => e⟩⟩ }

theorem codeAny_compStart {A : Around} {elt : Expr} {gens : List Comprehension} {sc : Scope} {pos : Pos} {d : Nat} {g : Comprehension} {it acc : Value} {R' : Result → Shared → Prop} {s : Shared} (hg : gens[d]? = some g) (ha : g.is_async = 0)
    (h0 : codeAny (model c.prog c.w) A (.compLoop (.ListComp elt gens sc pos) d it acc env) R' s)
    (h : wpAny (model c.prog c.w) A (pyIter it) (fun it' s' => codeAny (model c.prog c.w) A (.compLoop (.ListComp elt gens sc pos) d it' acc env) R' s') NoE s) :
    codeAny (model c.prog c.w) A (.compStart (.ListComp elt gens sc pos) d it acc env) R' s := by
  refine codeAny_of_tree ?_
  show wpAny _ _ ((compStart (.ListComp elt gens sc pos) d it acc env).onRaise (fun x => do noteFrame x env; standAt theWindowsPlace)) _ _ s
  refine wpAny_notedAt (wpAny_no ?_)
  have hc : clausesOf (.ListComp elt gens sc pos) = gens := rfl
  have he : ((clausesOf (.ListComp elt gens sc pos))[d]?).elim false (·.is_async != 0) = false := by rw [hc, hg]; simp [ha]
  unfold compStart
  rw [he]
  simp only [Bool.false_eq_true, if_false]
  refine wpAny_bind (wpAny_askSetting (wpAny_ite ?_))
  split
  · first
      | exact wpAny_bind (wpAny_pure (wpAny_pure (And.intro rfl h0)))
      | exact wpAny_pure (And.intro rfl h0)
  · rw [hc, hg]
    refine wpAny_bind (wpAny_rule ?_)
    refine wpAny_bind (wpAny_standAt ?_)
    exact wpAny_bind (wpAny_imp h fun it' s' h' => wpAny_pure (And.intro rfl h'))

theorem foldedSet_of {e : Expr} (h : notSet e = true) (x : Value) : foldedSetIterable e env x = pure x := by
  cases e <;> first | rfl | (exact absurd (show false = true from h) (by decide))

theorem Tail.gen {elt : Expr} {gens : List Comprehension} {sc : Scope} {pos : Pos} {d : Nat} {g : Comprehension} {l out : List T} (hg : gens[d + 1]? = some g) (ha : g.is_async = 0) (hs : notSet g.iter = true) (hi : EvI c n ρ true g.iter l)
    (ht : Turns c n elt gens sc pos (d + 1) g ρ l out) : Tail c n elt gens sc pos d ρ out := .mk fun A s env M₀ D ws acc k Q rm R hD hDc hl hd hz hk => by
  unfold tailK
  rw [hg]
  have hna : (g.is_async != 0) = false := by simp [ha]
  simp only [hna, Bool.false_eq_true, if_false]
  refine wpAny_bind (wpAny_imp (hi.run A s env M₀ [] rm R) fun xv s₁ ⟨x₁, h₁⟩ => wpAny_bind (wpAny_standAt (wpAny_bind (wpAny_of_eq (foldedSet_of hs xv) (wpAny_bind (wpAny_holding (wpAny_imp h₁ fun iv s₂ ⟨x₂, hit⟩ => ?_)))))))
  obtain ⟨it, fp, kk, St, rfl, k1, k2, k3, k4, k5, W, st⟩ := hit
  have R₂ : Rel c env ([it] ++ M₀) [] ρ s₂ := R.addM x₂ fun a h => by simp at h; subst h; exact ⟨Nat.le_trans k1 k2, k3⟩
  have hDlt : D < s.heap.objs.size := R.lt D (List.mem_append_right _ hD)
  have hDit : D ≠ it := fun e => absurd hDlt (Nat.not_lt.mpr (e ▸ Nat.le_trans k1 k2))
  have hitc : ∀ y, (y, it) ∉ env.cells := fun y h => by
    have := (R.cellIn h).elim (fun q => R.lt it (List.mem_append_left _ q)) (fun q => R.lt it (List.mem_append_right _ q))
    exact absurd this (Nat.not_lt.mpr (Nat.le_trans k1 k2))
  have hfp : ∀ b ∈ fp, b ∉ D :: nOf c env [] := fun b hb h => by
    rcases List.mem_cons.mp h with rfl | h
    · exact k5 rfl b hb (List.mem_append_right _ hD)
    · exact k5 rfl b hb (List.mem_append_left _ h)
  have hP : ∀ a ∈ nOf c env [] ++ ([it] ++ M₀), a ∈ nOf c env [] ++ M₀ ∨ kk ≤ a := fun a h => by
    rcases List.mem_append.mp h with h | h
    · exact .inl (List.mem_append_left _ h)
    · rcases List.mem_append.mp h with h | h
      · simp at h; subst h; exact .inr k2
      · exact .inl (List.mem_append_right _ h)
  have hl₂ : s₂.heap.PlainList D ws := hl.at fun o => x₂.all D o
  have hd₂ : DenL c.w (nOf c env [] ++ ([it] ++ M₀)) s₂.heap acc ws.toList := denL_re (fun a ha hlt hm => by
    rcases List.mem_append.mp hm with h | h
    · exact ha (List.mem_append_left _ h)
    · rcases List.mem_append.mp h with h | h
      · simp at h; subst h; exact absurd hlt (Nat.not_lt.mpr (Nat.le_trans k1 k2))
      · exact ha (List.mem_append_right _ h)) (fun b o _ => x₂.all b o) _ _ hd
  refine wpAny_bind (wpAny_runOwn ?_)
  have fin : ∀ s' ws', Chg (D :: it :: nOf c env []) s₂ s' → Rel c env ([it] ++ M₀) [] ρ s' → s'.heap.PlainList D ws' → DenL c.w (nOf c env [] ++ ([it] ++ M₀)) s'.heap (acc ++ out) ws'.toList → wpAny (model c.prog c.w) A k Q NoE s' := fun s' ws' x₃ R₃ hl₃ hd₃ => by
    refine hk s' ws' ?_ (R.dropM R₃) hl₃ (DenL.mono (fun a ha hm => ha ?_) (fun _ _ _ e => e) _ _ hd₃)
    · refine Chg.trans x₂.chg x₃ fun a h => ?_
      rcases List.mem_cons.mp h with rfl | h
      · exact .inl List.mem_cons_self
      · rcases List.mem_cons.mp h with rfl | h
        · exact .inr (Nat.le_trans k1 k2)
        · exact .inl (List.mem_cons_of_mem _ h)
    · rcases List.mem_append.mp hm with h | h
      · exact List.mem_append_left _ h
      · exact List.mem_append_right _ (List.mem_append_right _ h)
  have loop : codeAny (model c.prog c.w) A (.compLoop (.ListComp elt gens sc pos) (d + 1) (.ref it) (.ref D) env) (fun r s' => match r with | .ok f => wpAny (model c.prog c.w) A k Q NoE s' | .error e => NoE e s') s₂ :=
    comp_loop (c := c) (n := n) hg ha rm W (List.mem_append_right _ hD) hDc (List.mem_append_left _ (by simp)) hitc hDit hP hfp _ l [] out s₂ ws acc rfl ht R₂ st hl₂ hd₂ hz fin
  refine codeAny_mono (R := fun r s' => match r with | .ok f => wpAny (model c.prog c.w) A k Q NoE s' | .error e => NoE e s') (codeAny_compStart hg ha loop (W.iter 0 s₂ _ _ st loop)) fun r s' h => ?_
  cases r with
  | ok f => exact h
  | error e => exact h.elim

/-- a comprehension up to its list: the frame's place C is to be cleared yet -/
theorem comp_core {s : Shared} (R : Rel c env M₀ O ρ s) {elt : Expr} {g : Comprehension} {gs : List Comprehension} {sc : Scope} {pos : Pos} {l out : List T} {A : Around} (rm : Room A n) (ok : scopeOk c sc = true) (ha : g.is_async = 0) (hs : notSet g.iter = true)
    (hi : EvI c n ρ false g.iter l) (ht : Turns (compCx c sc) n elt (g :: gs) sc pos 0 g (capt c sc ρ) l out) (hz : out.length ≤ sizeLine) (use : Option (Value → Sem Unit)) {Q : Value → Shared → Prop}
    (k : ∀ (C D : Addr) (s' : Shared) (m : Str → Option Value) (ws : Array Value), Ext s s' → s.heap.objs.size ≤ C → s.heap.objs.size ≤ D → D ≠ C → C < s'.heap.objs.size → s'.heap.Ns C m → s'.heap.PlainList D ws → DenL c.w (C :: D :: (nOf c env O ++ M₀)) s'.heap out ws.toList →
      compPost (model c.prog c.w) A NoE use Q (.ref D) C (.ok .next) s') :
    wpAny (model c.prog c.w) A (comprehension (.ListComp elt (g :: gs) sc pos) sc env (firstIterPos (g :: gs) pos) (newList []) false (eval g.iter env) use) Q NoE s := by
  have ok' := ok
  unfold scopeOk at ok'
  simp only [Bool.and_eq_true, List.all_eq_true, Bool.or_eq_true, Bool.not_eq_true', beq_eq_false_iff_ne, beq_iff_eq, ne_eq] at ok'
  obtain ⟨⟨⟨ok1, ok2⟩, ok3⟩, ok4⟩ := ok'
  have hkind : sc.kind = .function := by revert ok1; cases sc.kind <;> simp
  refine wpAny_comprehension_free (g := g) (gs := gs) (cl := closL env sc.names []) rfl (foldedSet_of hs) (closureFor_of fun p hp hf => ?_) hkind (fun p hp hl => (ok2 p hp).resolve_left (by simp [hl])) ?_
  · have := ((ok3 p hp).resolve_left (by simp [hf])).1
    obtain ⟨a, h⟩ := R.call p.1 this
    rw [h]; rfl
  refine wpAny_imp (hi.run A s env M₀ O rm R) fun xv s₁ ⟨x₁, h₁⟩ => wpAny_imp h₁ fun iv s₂ ⟨x₂, hit⟩ => ?_
  obtain ⟨it, fp, kk, St, rfl, k1, k2, k3, k4, k5, W, st⟩ := hit
  refine wpAny_newObj_type ?_
  have x₃ : Ext s₂ { s₂ with heap := s₂.heap.push { cls := .type "list", data := .seq ([] : List Value).toArray } } := Ext.push _ _
  have h3 : ({ s₂ with heap := s₂.heap.push { cls := .type "list", data := .seq ([] : List Value).toArray } } : Shared).heap.objs.size = s₂.heap.objs.size + 1 := Heap.size_push ..
  have h3l : ({ s₂ with heap := s₂.heap.push { cls := .type "list", data := .seq ([] : List Value).toArray } } : Shared).heap.PlainList s₂.heap.objs.size #[] := ⟨0, Heap.get?_push_size _ rfl⟩
  generalize hs3 : ({ s₂ with heap := s₂.heap.push { cls := .type "list", data := .seq ([] : List Value).toArray } } : Shared) = s₃ at x₃ h3 h3l
  have hD : s.heap.objs.size ≤ s₂.heap.objs.size := x₂.size
  refine comp_enter R (Ext.trans x₂ x₃) ok (X := [s₂.heap.objs.size, it]) (fun a h => ?_) fun cenv s₄ x₄ hC hC' hn hcX R₄ => ?_
  · simp only [List.mem_cons, List.not_mem_nil, or_false] at h
    rcases h with rfl | rfl
    · exact ⟨hD, by rw [h3]; exact Nat.lt_succ_self _⟩
    · exact ⟨Nat.le_trans k1 k2, by rw [h3]; exact Nat.lt_succ_of_lt k3⟩
  have hne : s₂.heap.objs.size ≠ it := Nat.ne_of_gt k3
  have W' : Walk (compCx c sc) A it fp l (fun a => a ∈ nOf c env O ++ M₀ ∨ kk ≤ a) St := ⟨W.self, W.frame, W.item, W.done, W.iter, W.owned⟩
  have st₄ : St 0 s₄ := W.frame _ _ _ [] st (Ext.trans x₃ x₄).h (by simp) (by simp)
  have hP : ∀ a ∈ nOf (compCx c sc) { cenv with scope := relabel sc env } [] ++ ([s₂.heap.objs.size, it] ++ (nOf c env O ++ M₀)), a ∈ nOf c env O ++ M₀ ∨ kk ≤ a := fun a h => by
    rcases List.mem_append.mp h with h | h
    · exact .inr (Nat.le_trans (Nat.le_trans k2 (Nat.le_of_lt k3)) (Nat.le_trans (by rw [h3]; exact Nat.le_succ _) (hn a h)))
    · rcases List.mem_append.mp h with h | h
      · simp only [List.mem_cons, List.not_mem_nil, or_false] at h
        rcases h with rfl | rfl
        · exact .inr (Nat.le_trans k2 (Nat.le_of_lt k3))
        · exact .inr k2
      · exact .inl h
  have hfp : ∀ b ∈ fp, b ∉ s₂.heap.objs.size :: nOf (compCx c sc) { cenv with scope := relabel sc env } [] := fun b hb h => by
    rcases List.mem_cons.mp h with rfl | h
    · exact Nat.lt_irrefl _ (k4 _ hb)
    · have := hn b h
      rw [h3] at this
      exact absurd (k4 b hb) (Nat.not_lt.mpr (Nat.le_of_succ_le this))
  have loop : codeAny (model c.prog c.w) A (.compLoop (.ListComp elt (g :: gs) sc pos) 0 (.ref it) (.ref s₂.heap.objs.size) { cenv with scope := relabel sc env }) (compPost (model c.prog c.w) A NoE use Q (.ref s₂.heap.objs.size) cenv.locals) s₄ := by
    refine comp_loop (c := compCx c sc) (n := n) (env := { cenv with scope := relabel sc env }) (d := 0) (g := g) rfl ha rm W' (M₀ := [s₂.heap.objs.size, it] ++ (nOf c env O ++ M₀)) (by simp) (fun y h => hcX _ y h (by simp)) (by simp) (fun y h => hcX _ y h (by simp)) hne hP hfp _ l [] out s₄ #[] [] rfl ht R₄ st₄
      (h3l.at fun o => x₄.all _ o) DenL.nil (by simpa using hz) fun s' ws' x₅ R₅ hl₅ hd₅ => ?_
    obtain ⟨m, hm⟩ := R₅.loc
    have hnew : ∀ a ∈ s₂.heap.objs.size :: it :: nOf (compCx c sc) { cenv with scope := relabel sc env } [], s.heap.objs.size ≤ a := fun a h => by
      rcases List.mem_cons.mp h with rfl | h
      · exact hD
      · rcases List.mem_cons.mp h with rfl | h
        · exact Nat.le_trans k1 k2
        · exact Nat.le_trans (Nat.le_trans x₂.size x₃.size) (hn a h)
    have x : Ext s s' := Chg.trans (Ext.trans x₂ (Ext.trans x₃ x₄)) x₅ fun a h => .inr (hnew a h)
    refine k cenv.locals s₂.heap.objs.size s' m ws' x (Nat.le_trans (Nat.le_trans x₂.size x₃.size) hC) hD (fun e => ?_) (Nat.lt_of_lt_of_le hC' x₅.size) hm hl₅ ?_
    · rw [← e, h3] at hC; omega
    · refine DenL.mono (fun a ha hm => ha ?_) (fun _ _ _ e => e) _ _ hd₅
      rcases List.mem_cons.mp hm with rfl | hm
      · exact List.mem_append_left _ List.mem_cons_self
      · rcases List.mem_cons.mp hm with rfl | hm
        · exact List.mem_append_right _ (by simp)
        · exact List.mem_append_right _ (List.mem_append_right _ hm)
  exact codeAny_compStart (g := g) rfl ha loop (W.iter 0 s₄ _ _ st₄ loop)

theorem EvN.comp {elt : Expr} {target iter : Expr} {ifs : List Expr} {gs : List Comprehension} {sc : Scope} {pos : Pos} {l out : List T} (ok : scopeOk c sc = true) (hs : notSet iter = true)
    (hi : EvI c n ρ false iter l) (ht : Turns (compCx c sc) n elt (⟨target, iter, ifs, 0⟩ :: gs) sc pos 0 ⟨target, iter, ifs, 0⟩ (capt c sc ρ) l out) (hz : out.length ≤ sizeLine) :
    EvN c n ρ (.ListComp elt (⟨target, iter, ifs, 0⟩ :: gs) sc pos) out := .mk fun A s env M₀ O rm R => by
  rw [eval_ListComp]
  refine comp_core R rm ok rfl hs hi ht hz none fun C D s' m ws x hC hD hDC hCl hm hl hd => ⟨m, hm, fun h' hs' => ?_⟩
  have hk : ∀ b o, b ≠ C → s'.heap.get? b = some o → h'.get? b = some o := fun b o hb e => (hs'.2 b hb).trans e
  refine ⟨⟨fun b o _ e => hk b o (fun h => absurd (Heap.lt_size e) (Nat.not_lt.mpr (h ▸ hC))) (x.all b o e), Nat.le_trans x.size (Nat.le_of_eq hs'.1.symm), x.gens, x.bare, x.os, (Chg.toks x : s.toks ≤ s'.toks)⟩, D, ws, rfl, hD, hl.at fun o => hk D o hDC, ?_⟩
  exact DenL.mono (fun a ha hm => ha (List.mem_cons_of_mem _ hm)) (fun b o hb e => hk b o (fun h => hb (h ▸ List.mem_cons_self)) e) _ _ hd
end
end Mine
end

section
set_option autoImplicit false
set_option linter.unusedVariables false
set_option linter.unusedSimpArgs false
namespace Mine
open PySem PySem.Calls PyProof.Rows PySem.SeqAt

inductive Out where
  | next (ρ : Rho)
  | ret (t : T) (new : Bool)

noncomputable def Post (c : Cx) (env : Env) (M₀ : List Addr) (O : List (Str × Addr)) (lo : Nat) : Out → Flow → Shared → Prop
  | .next ρ', fl, s' => fl = .next ∧ ∃ O', Rel c env M₀ O' ρ' s' ∧ ∀ a ∈ nOf c env O', a ∈ nOf c env O ∨ lo ≤ a
  | .ret t false, fl, s' => ∃ v, fl = .ret v ∧ Den c.w M₀ s'.heap t v
  | .ret t true, fl, s' => ∃ v l a vs, fl = .ret v ∧ t = .list l ∧ v = .ref a ∧ (a ∈ nOf c env O ∨ lo ≤ a) ∧ s'.heap.PlainList a vs ∧ DenL c.w (a :: M₀) s'.heap l vs.toList

/-- a statement, a list of them -/
structure Ex1 (c : Cx) (n : Nat) (ρ : Rho) (st : Stmt) (o : Out) : Prop where
  run : ∀ A s env M₀ O, Room A n → Rel c env M₀ O ρ s →
  wpAny (model c.prog c.w) A (exec st env) (fun fl s' => Chg (nOf c env O) s s' ∧ Post c env M₀ O s.heap.objs.size o fl s') NoE s
structure Ex (c : Cx) (n : Nat) (ρ : Rho) (b : List Stmt) (o : Out) : Prop where
  run : ∀ A s env M₀ O, Room A n → Rel c env M₀ O ρ s →
  wpAny (model c.prog c.w) A (execs b env) (fun fl s' => Chg (nOf c env O) s s' ∧ Post c env M₀ O s.heap.objs.size o fl s') NoE s

section
variable {c : Cx} {n : Nat} {ρ ρ' : Rho}

theorem Post.chain {env : Env} {M₀ : List Addr} {O O' : List (Str × Addr)} {lo lo' : Nat} {o : Out} {fl : Flow} {s : Shared} (h : Post c env M₀ O' lo' o fl s) (hO : ∀ a ∈ nOf c env O', a ∈ nOf c env O ∨ lo ≤ a) (hl : lo ≤ lo') : Post c env M₀ O lo o fl s := by
  cases o with
  | next ρ =>
    obtain ⟨h1, O'', h2, h3⟩ := h
    exact ⟨h1, O'', h2, fun a ha => (h3 a ha).elim (hO a) fun q => .inr (Nat.le_trans hl q)⟩
  | ret t b =>
    cases b with
    | false => exact h
    | true =>
      obtain ⟨v, l, a, vs, h1, h2, h3, h4, h5, h6⟩ := h
      exact ⟨v, l, a, vs, h1, h2, h3, h4.elim (hO a) fun q => .inr (Nat.le_trans hl q), h5, h6⟩

theorem Ex.nil : Ex c n ρ [] (.next ρ) := .mk fun A s env M₀ O rm R => wpAny_execs_nil ⟨Chg.refl _, rfl, O, R, fun a h => .inl h⟩
theorem Ex.cons {st : Stmt} {r : List Stmt} {o : Out} (h : Ex1 c n ρ st (.next ρ')) (hr : Ex c n ρ' r o) : Ex c n ρ (st :: r) o := .mk fun A s env M₀ O rm R => by
  rw [execs_cons]
  refine wpAny_bind (wpAny_imp (h.run A s env M₀ O rm R) fun fl s₁ ⟨x, e, O', R', hO⟩ => ?_)
  subst e
  refine wpAny_imp (hr.run A s₁ env M₀ O' rm R') fun fl s₂ ⟨y, p⟩ => ⟨Chg.trans x y hO, p.chain hO x.size⟩
theorem Ex.ret {st : Stmt} {r : List Stmt} {t : T} {b : Bool} (h : Ex1 c n ρ st (.ret t b)) : Ex c n ρ (st :: r) (.ret t b) := .mk fun A s env M₀ O rm R => by
  rw [execs_cons]
  refine wpAny_bind (wpAny_imp (h.run A s env M₀ O rm R) fun fl s₁ ⟨x, p⟩ => ?_)
  have : ∃ v, fl = .ret v := by
    cases b with
    | false => obtain ⟨v, e, _⟩ := p; exact ⟨v, e⟩
    | true => obtain ⟨v, l, a, vs, e, _⟩ := p; exact ⟨v, e⟩
  obtain ⟨v, e⟩ := this
  subst e
  exact wpAny_pure ⟨x, p⟩

theorem Ex1.ret {e : Expr} {pos : Pos} {t : T} (h : Ev c n ρ e t) : Ex1 c n ρ (.Return (some e) pos) (.ret t false) := .mk fun A s env M₀ O rm R =>
  wpAny_Return_some (h.go rm R fun v s' x R' d => ⟨x.chg, v, rfl, Den.mono (fun a ha hm => ha (List.mem_append_right _ hm)) (fun _ _ _ e => e) t v d⟩)
theorem Ex1.retNew {e : Expr} {pos : Pos} {l : List T} (h : EvN c n ρ e l) : Ex1 c n ρ (.Return (some e) pos) (.ret (.list l) true) := .mk fun A s env M₀ O rm R =>
  wpAny_Return_some (wpAny_imp (h.run A s env M₀ O rm R) fun v s' ⟨x, a, vs, h1, h2, h3, h4⟩ => ⟨x.chg, v, l, a, vs, rfl, rfl, h1, .inr h2, h3, DenL.mono (fun b hb hm => hb (by
    rcases List.mem_cons.mp hm with rfl | hm
    · exact List.mem_cons_self
    · exact List.mem_cons_of_mem _ (List.mem_append_right _ hm))) (fun _ _ _ e => e) _ _ h4⟩)
theorem Ex1.retOwn {x : Str} {p pos : Pos} {l : List T} (h : ρ.lookup x = some (.own l)) (hx : nameOk x = true) : Ex1 c n ρ (.Return (some (.Name x p)) pos) (.ret (.list l) true) := .mk fun A s env M₀ O rm R => by
  unfold nameOk at hx
  simp only [Bool.and_eq_true, Bool.not_eq_true'] at hx
  obtain ⟨v, h1, a, vs, e, h2, h3, h4⟩ := R.vars x _ h
  refine wpAny_Return_some (wpAny_Name (wp_loads R h1 ⟨Chg.refl _, v, l, a, vs, rfl, rfl, e, .inl (own_mem h2), h3, DenL.mono (fun b hb hm => hb ?_) (fun _ _ _ e => e) _ _ h4⟩ hx.2) hx.1)
  rcases List.mem_cons.mp hm with rfl | hm
  · exact List.mem_append_left _ (own_mem h2)
  · exact List.mem_append_right _ hm

theorem Ex1.ite {t : Expr} {a b : List Stmt} {pos : Pos} {q : Bool} {o : Out} (h : EvT c n ρ t q) (ha : q = true → Ex c n ρ a o) (hb : q = false → Ex c n ρ b o) : Ex1 c n ρ (.If t a b pos) o := .mk fun A s env M₀ O rm R => by
  rw [exec_If]
  refine wpAny_bind (wpAny_standAt (wpAny_bind (h.go rm R fun s' x R' => ?_)))
  cases q
  · exact wpAny_imp ((hb rfl).run A s' env M₀ O rm R') fun fl s'' ⟨y, p⟩ => ⟨Chg.trans x.chg y fun a h => .inl h, p.chain (fun a h => .inl h) x.size⟩
  · exact wpAny_imp ((ha rfl).run A s' env M₀ O rm R') fun fl s'' ⟨y, p⟩ => ⟨Chg.trans x.chg y fun a h => .inl h, p.chain (fun a h => .inl h) x.size⟩

/-! assignments -/
noncomputable def notComp : Expr → Bool
  | .ListComp .. | .SetComp .. | .DictComp .. => false
  | _ => true
theorem swaps_of {e : Expr} (h : notComp e = true) (t : Option Expr) (line : Nat) (env : Env) : swapsWith e t line env = pure false := by
  cases e <;> first | rfl | (exact absurd (show false = true from h) (by decide))

theorem ownPut_sh {x : Str} {t : T} {v : Value} {O : List (Str × Addr)} : ownPut x (.sh t) v O = unset x O := by cases v <;> rfl

theorem Ex1.assign {x : Str} {e : Expr} {p pos : Pos} {t : T} (h : Ev c n ρ e t) (hn : notComp e = true) (hc : canStore c x = true) : Ex1 c n ρ (.Assign [.Name x p] e pos) (.next (put x (.sh t) ρ)) := .mk fun A s env M₀ O rm R =>
  wpAny_Assign_Name (h.go rm R fun v s' y R' d => wp_store (u := .sh t) R y d hc fun s'' z R'' => ⟨Chg.trans y.chg z fun a h => .inl h, rfl, _, R'', fun a h => by rw [ownPut_sh] at h; exact .inl (nOf_unset a h)⟩) (swaps_of hn _ _ _)
theorem Ex1.assignOwn {x : Str} {e : Expr} {p pos : Pos} {l : List T} (h : EvN c n ρ e l) (hn : notComp e = true) (hc : canStore c x = true) : Ex1 c n ρ (.Assign [.Name x p] e pos) (.next (put x (.own l) ρ)) := .mk fun A s env M₀ O rm R =>
  wpAny_Assign_Name (wpAny_imp (h.run A s env M₀ O rm R) fun v s' ⟨y, a, vs, h1, h2, h3, h4⟩ => by
    have f : Fit c env M₀ O s.heap.objs.size s'.heap (.own l) v := ⟨a, vs, h1, h2, h3, h4⟩
    exact wp_store (u := .own l) R y f hc fun s'' z R'' => ⟨Chg.trans y.chg z fun a h => .inl h, rfl, _, R'', fun b h => (nOf_put f b h).imp id fun ⟨q, _⟩ => by rw [h1] at q; cases q; exact h2⟩) (swaps_of hn _ _ _)

theorem Ex1.assignComp {x : Str} {p pos : Pos} {elt : Expr} {target iter : Expr} {ifs : List Expr} {gs : List Comprehension} {sc : Scope} {cpos : Pos} {l out : List T} (ok : scopeOk c sc = true) (hs : notSet iter = true)
    (hi : EvI c n ρ false iter l) (ht : Turns (compCx c sc) n elt (⟨target, iter, ifs, 0⟩ :: gs) sc cpos 0 ⟨target, iter, ifs, 0⟩ (capt c sc ρ) l out) (hz : out.length ≤ sizeLine) (hc : canStore c x = true) :
    Ex1 c n ρ (.Assign [.Name x p] (.ListComp elt (⟨target, iter, ifs, 0⟩ :: gs) sc cpos) pos) (.next (put x (.sh (.list out)) ρ)) := .mk fun A s env M₀ O rm R => by
  have hb : ∃ b : Bool, swapsWith (.ListComp elt (⟨target, iter, ifs, 0⟩ :: gs) sc cpos) (some (.Name x p)) pos.line env = pure b := ⟨_, rfl⟩
  obtain ⟨b, hb⟩ := hb
  cases b
  · exact wpAny_Assign_Name ((EvN.comp ok hs hi ht hz).ev.go rm R fun v s' y R' d => wp_store (u := .sh (.list out)) R y d hc fun s'' z R'' => ⟨Chg.trans y.chg z fun a h => .inl h, rfl, _, R'', fun a h => by rw [ownPut_sh] at h; exact .inl (nOf_unset a h)⟩) hb
  · rw [exec_Assign_Name_used _ _ _ _ hb]
    refine wpAny_bind (wpAny_standAt (wpAny_bind ?_))
    show wpAny _ _ (do let _ ← comprehension (.ListComp elt (⟨target, iter, ifs, 0⟩ :: gs) sc cpos) sc env (firstIterPos (⟨target, iter, ifs, 0⟩ :: gs) cpos) (newList []) false (eval iter env) (some (PySem.assign (Expr.Name x p) env))) _ _ _
    refine wpAny_bind (comp_core R rm ok rfl hs hi ht hz (some (PySem.assign (Expr.Name x p) env)) fun C D s' m ws y hC hD hDC hCl hm hl hd => ?_)
    have RC : Rel c env ([C] ++ M₀) O ρ s' := R.addM y fun a h => by simp at h; subst h; exact ⟨hC, hCl⟩
    have dD : Den c.w (nOf c env O ++ ([C] ++ M₀)) s'.heap (.list out) (.ref D) := by
      refine Den.of_list (fun h => ?_) hl (DenL.mono (fun a ha hm => ha ?_) (fun _ _ _ e => e) _ _ hd)
      · rcases List.mem_append.mp h with h | h
        · exact absurd (R.lt D (List.mem_append_left _ h)) (Nat.not_lt.mpr hD)
        · rcases List.mem_append.mp h with h | h
          · simp at h; exact hDC h
          · exact absurd (R.lt D (List.mem_append_right _ h)) (Nat.not_lt.mpr hD)
      · rcases List.mem_append.mp hm with h | h
        · exact List.mem_cons_of_mem _ (List.mem_cons_of_mem _ (List.mem_append_left _ h))
        · rcases List.mem_append.mp h with h | h
          · simp at h; subst h; exact List.mem_cons_self
          · exact List.mem_cons_of_mem _ (List.mem_cons_of_mem _ (List.mem_append_right _ h))
    refine wpAny_assign_Name (wp_store (u := .sh (.list out)) RC (Chg.refl _) dD hc fun s'' z R'' => ?_)
    have hCn : C ∉ nOf c env O := fun h => absurd (R.lt C (List.mem_append_left _ h)) (Nat.not_lt.mpr hC)
    rw [ownPut_sh] at R''
    refine ⟨m, hm.at' fun o e => z.heap C o hCn e, fun h' hs' => wpAny_pure (wpAny_pure ?_)⟩
    have hk : ∀ b o, b ≠ C → s''.heap.get? b = some o → h'.get? b = some o := fun b o hb e => (hs'.2 b hb).trans e
    have zz : Chg [C] s'' { s'' with heap := h' } := ⟨fun b o hb e => hk b o (by simpa using hb) e, Nat.le_of_eq hs'.1.symm, fun _ _ e => e, id, rfl, Nat.le_refl _⟩
    have R3 : Rel c env ([C] ++ M₀) (unset x O) (put x (.sh (.list out)) ρ) { s'' with heap := h' } := R''.step zz.h fun a h => by
      simp at h; subst h
      refine ⟨by simp, fun q hq => ?_⟩
      exact (R.cellIn hq).elim hCn fun h => absurd (R.lt a (List.mem_append_right _ h)) (Nat.not_lt.mpr hC)
    refine ⟨?_, rfl, unset x O, Rel.dropM R R3, fun a h => .inl (nOf_unset a h)⟩
    · exact Chg.trans (Chg.trans y.chg z fun a h => .inl h) zz fun a h => .inr (by simp at h; subst h; exact hC)

/-! x op= e -/
theorem Ex1.aug {x : Str} {e : Expr} {op : Operator} {p pos : Pos} {a b t : T} (hx : ρ.lookup x = some (.sh a)) (hn : nameOk x = true) (h : EvB c n ρ e b) (hi : InOk c op a b t) (hc : canStore c x = true) :
    Ex1 c n ρ (.AugAssign (.Name x p) op e pos) (.next (put x (.sh t) ρ)) := .mk fun A s env M₀ O rm R => by
  unfold nameOk at hn
  simp only [Bool.and_eq_true, Bool.not_eq_true'] at hn
  obtain ⟨v, h1, h2⟩ := R.vars x _ hx
  refine wpAny_AugAssign_Name (wp_loads R h1 (h.go rm R fun w s₁ x₁ R₁ d₁ => wpAny_imp (hi A s₁ _ v w R₁.bas R₁.lt (Den.keep h2 x₁.all).borrow d₁) fun r s₂ ⟨x₂, d₂⟩ => ?_) hn.2)
  exact wp_store (u := .sh t) R (Ext.trans x₁ x₂) d₂ hc fun s₃ z R₃ => ⟨Chg.trans (Ext.trans x₁ x₂).chg z fun a h => .inl h, rfl, _, R₃, fun a h => by rw [ownPut_sh] at h; exact .inl (nOf_unset a h)⟩

/-! tuples of names -/
noncomputable def swapT (ts : List Expr) : Expr → Option (Option (List Str))
  | .Tuple vs _ _ => if (!(ts.length == 2 || ts.length == 3) || vs.length != ts.length) = true then some none else none
  | _ => none
theorem swapped_of {env : Env} {M₀ : List Addr} {O : List (Str × Addr)} {s : Shared} (R : Rel c env M₀ O ρ s) {ts : List Expr} {k : Nat} {tp : Pos} {e : Expr} {r : Option (List Str)} (h : swapT ts e = some r) :
    r = none ∧ swappedStores [.Tuple ts k tp] e env = pure none := by
  have hb : env.blockKind = .function := by unfold Env.blockKind; rw [R.kind]; rfl
  unfold swapT at h
  split at h
  · split at h <;> cases h
    rename_i h1
    refine ⟨rfl, ?_⟩
    unfold swappedStores
    simp only [hb]
    rw [show (ScopeKind.function != ScopeKind.function) = false by decide, Bool.or_false]
    exact if_pos h1
  · cases h

noncomputable def storeT (sw : Option (List Str)) (xs : List Str) (ts : List T) (ρ : Rho) : Rho := match sw with
  | some _ => putAll xs.reverse ts.reverse ρ
  | none => putAll xs ts ρ

theorem Ex1.assignT {es : List Expr} {k : Nat} {e : Expr} {tp pos : Pos} {ts : List T} {xs : List Str} {sw : Option (List Str)} (h : Ev c n ρ e (.tup ts)) (hn : notComp e = true) (hx : namesOf es = some xs) (hc : xs.all (canStore c) = true) (hl : xs.length = ts.length)
    (hsw : swapT es e = some sw) : Ex1 c n ρ (.Assign [.Tuple es k tp] e pos) (.next (storeT sw xs ts ρ)) := .mk fun A s env M₀ O rm R => by
  rw [PySem.exec_Assign_arm]
  refine wpAny_bind (wpAny_standAt ?_)
  rw [show swapsWithSole [.Tuple es k tp] e pos.line env = pure false from (show swapsWith e (some (.Tuple es k tp)) pos.line env = pure false from swaps_of hn _ _ _)]
  refine wpAny_bind (wpAny_pure ?_)
  rw [if_neg (by decide)]
  refine wpAny_bind (h.go rm R fun v s₁ x₁ R₁ d₁ => ?_)
  obtain ⟨rfl, e2⟩ := swapped_of (k := k) (tp := tp) R₁ hsw
  rw [e2]
  refine wpAny_bind (wpAny_pure ?_)
  simp only [Den] at d₁
  obtain ⟨a, vs, rfl, ha, ht, hd⟩ := d₁
  have hlen := hd.length
  have hsz : xs.length = vs.size := by rw [hl, hlen]; simp
  show wpAny _ A (do assignAll (Value.ref a) [PySem.assign (Expr.Tuple es k tp) env]; pure Flow.next) _ _ s₁
  refine wpAny_bind (wp_bind (c := c) (t := .tup ts) rm.1 R₁ (by simp only [Den]; exact ⟨a, vs, rfl, ha, ht, hd⟩) (by simp [bindT, hx, hc, hl]; exact rfl) fun O' s₂ x₂ hO R₂ => wpAny_pure ?_)
  exact ⟨Chg.trans x₁.chg x₂ fun a h => .inl h, rfl, O', R₂, fun a h => .inl (hO a h)⟩
end
end Mine
end

section
set_option autoImplicit false
set_option linter.unusedVariables false
set_option linter.unusedSimpArgs false
namespace Mine
open PySem PySem.Calls PyProof.Rows PySem.SeqAt

section
variable {c : Cx} {n : Nat}

/-- a for statement's turns over its items -/
inductive Loops (c : Cx) (n : Nat) (target : Expr) (body : List Stmt) : Rho → List T → Out → Prop
  | nil {ρ : Rho} : Loops c n target body ρ [] (.next ρ)
  | next {ρ ρ₁ ρ₂ : Rho} {t : T} {ts : List T} {o : Out} : bindT c target t ρ = some ρ₁ → Ex c n ρ₁ body (.next ρ₂) → Loops c n target body ρ₂ ts o → Loops c n target body ρ (t :: ts) o
  | ret {ρ ρ₁ : Rho} {t r : T} {ts : List T} {b : Bool} : bindT c target t ρ = some ρ₁ → Ex c n ρ₁ body (.ret r b) → Loops c n target body ρ (t :: ts) (.ret r b)

noncomputable def forPost (c : Cx) (env : Env) (M₀ : List Addr) (O₀ : List (Str × Addr)) (k : Nat) (s₀ : Shared) (it : Addr) (o : Out) : Result → Shared → Prop
  | .ok fl, s' => Chg (it :: nOf c env O₀) s₀ s' ∧ Post c env ([it] ++ M₀) O₀ k o fl s'
  | .error _, _ => False

theorem for_loop {target : Expr} {body : List Stmt} {l : List T} {A : Around} (rm : Room A n) {env : Env} {M₀ : List Addr} {it : Addr} {fp : List Addr} {O₀ : List (Str × Addr)} {k lo : Nat} {St : Nat → Shared → Prop}
    (W : Walk c A it fp l (fun a => a ∈ nOf c env O₀ ++ M₀ ∨ k ≤ a) St) (hk : k ≤ lo) (hfp : ∀ b ∈ fp, b < lo ∧ b ∉ nOf c env O₀) (hitc : ∀ y, (y, it) ∉ env.cells) (hik : k ≤ it) {o : Out} {R' : Result → Shared → Prop} :
    ∀ (rest done : List T) (ρ : Rho) (s : Shared) (O : List (Str × Addr)), done ++ rest = l → Loops c n target body ρ rest o → Rel c env ([it] ++ M₀) O ρ s → (∀ a ∈ nOf c env O, a ∈ nOf c env O₀ ∨ lo ≤ a) → lo ≤ s.heap.objs.size → St done.length s →
      (∀ fl s', Chg (it :: nOf c env O) s s' → Post c env ([it] ++ M₀) O s.heap.objs.size o fl s' → R' (.ok fl) s') →
      codeAny (model c.prog c.w) A (.forLoop target (.ref it) body [] env) R' s := by
  intro rest
  induction rest with
  | nil =>
    intro done ρ s O hl ht R hO hlo st kk
    cases ht
    rw [List.append_nil] at hl; subst hl
    refine codeAny_of_tree ?_
    show wpAny _ _ ((forTurn target (.ref it) body [] env).onRaise (fun x => do noteFrame x env; theTreesLotGoes x)) _ _ s
    refine wpAny_noted (wpAny_no ?_)
    unfold forTurn
    refine wpAny_bind (wpAny_standAt (wpAny_bind (wpAny_onRaise (wpAny_no (W.done s _ NoE st fun s' x => wpAny_pure ⟨rfl, codeAny_block (wpAny_execs_nil ?_)⟩)))))
    exact kk _ _ (x.mono fun a h => .inl (by simp at h; subst h; simp)) ⟨rfl, O, R.step x.h fun a h => by simp at h; subst h; exact ⟨by simp, hitc⟩, fun a h => .inl h⟩
  | cons t ts ih =>
    intro done ρ s O hl ht R hO hlo st kk
    refine codeAny_of_tree ?_
    show wpAny _ _ ((forTurn target (.ref it) body [] env).onRaise (fun x => do noteFrame x env; theTreesLotGoes x)) _ _ s
    refine wpAny_noted (wpAny_no ?_)
    unfold forTurn
    have hitem : l[done.length]? = some t := by rw [← hl]; simp
    have hdone : (done ++ [t]) ++ ts = l := by rw [← hl]; simp
    refine wpAny_bind (wpAny_standAt (wpAny_bind (wpAny_onRaise (wpAny_no (W.item done.length t s _ NoE hitem st fun v s₁ x₁ st₁ hv => ?_)))))
    have R₁ : Rel c env ([it] ++ M₀) O ρ s₁ := R.step x₁.h fun a h => by simp at h; subst h; exact ⟨by simp, hitc⟩
    have hP : ∀ a ∈ nOf c env O ++ ([it] ++ M₀), a ∈ nOf c env O₀ ++ M₀ ∨ k ≤ a := fun a h => by
      rcases List.mem_append.mp h with h | h
      · exact (hO a h).imp (List.mem_append_left _) fun q => Nat.le_trans hk q
      · rcases List.mem_append.mp h with h | h
        · simp at h; subst h; exact .inr hik
        · exact .inl (List.mem_append_right _ h)
    have hnP : ∀ a ∈ nOf c env O, a ∈ nOf c env O₀ ++ M₀ ∨ k ≤ a := fun a h => hP a (List.mem_append_left _ h)
    have hfpO : ∀ b ∈ fp, b ∉ nOf c env O := fun b hb h => (hO b h).elim (hfp b hb).2 fun q => absurd (hfp b hb).1 (Nat.not_lt.mpr q)
    refine wpAny_bind (W.owned _ s₁ target v _ _ st₁ ?_)
    have y1 : Chg (it :: nOf c env O) s s₁ := x₁.mono fun a h => .inl (by simp at h; subst h; simp)
    cases ht with
    | @next _ ρ₁ ρ₂ _ _ _ hb hbody hrest =>
      refine wpAny_bind (wp_bind rm.1 R₁ (hv _ hP) hb fun O' s₂ x₂ hO' R₂ => ?_)
      refine wpAny_bind (wpAny_imp (hbody.run A s₂ env ([it] ++ M₀) O' rm R₂) fun fl s₃ ⟨x₃, e, O'', R₃, hO''⟩ => ?_)
      subst e
      refine wpAny_pure ⟨rfl, ?_⟩
      have x13 : Chg (nOf c env O) s₁ s₃ := Chg.trans x₂ x₃ fun a h => .inl (hO' a h)
      have st₃ : St (done ++ [t]).length s₃ := by
        rw [List.length_append]
        exact W.frame _ _ _ _ st₁ x13.h hnP hfpO
      have hsz : s.heap.objs.size ≤ s₂.heap.objs.size := Nat.le_trans x₁.size x₂.size
      have hnew : ∀ a ∈ nOf c env O'', a ∈ nOf c env O ∨ s.heap.objs.size ≤ a := fun a h => (hO'' a h).imp (hO' a) fun q => Nat.le_trans hsz q
      have x03 : Chg (it :: nOf c env O) s s₃ := Chg.trans y1 (x13.mono fun a h => .inl (List.mem_cons_of_mem _ h)) fun a h => .inl h
      refine ih (done ++ [t]) ρ₂ s₃ O'' hdone hrest R₃ (fun a h => (hnew a h).elim (hO a) fun q => .inr (Nat.le_trans hlo q)) (Nat.le_trans hlo x03.size) st₃ fun fl s' x p => kk fl s' ?_ ?_
      · exact Chg.trans x03 x fun a h => by
          rcases List.mem_cons.mp h with rfl | h
          · exact .inl List.mem_cons_self
          · exact (hnew a h).imp (List.mem_cons_of_mem _) id
      · exact p.chain hnew x03.size
    | @ret _ ρ₁ _ r _ b hb hbody =>
      refine wpAny_bind (wp_bind rm.1 R₁ (hv _ hP) hb fun O' s₂ x₂ hO' R₂ => ?_)
      refine wpAny_bind (wpAny_imp (hbody.run A s₂ env ([it] ++ M₀) O' rm R₂) fun fl s₃ ⟨x₃, p⟩ => ?_)
      have : ∃ v, fl = .ret v := by
        cases b with
        | false => obtain ⟨v, e, _⟩ := p; exact ⟨v, e⟩
        | true => obtain ⟨v, l, a, vs, e, _⟩ := p; exact ⟨v, e⟩
      obtain ⟨v, e⟩ := this
      subst e
      refine wpAny_pure ?_
      have x13 : Chg (nOf c env O) s₁ s₃ := Chg.trans x₂ x₃ fun a h => .inl (hO' a h)
      refine kk _ _ (Chg.trans y1 (x13.mono fun a h => .inl (List.mem_cons_of_mem _ h)) fun a h => .inl h) ?_
      exact p.chain (fun a h => .inl (hO' a h)) (Nat.le_trans x₁.size x₂.size)

theorem Post.dropM {env : Env} {M₀ : List Addr} {O O₀ : List (Str × Addr)} {it : Addr} {lo : Nat} {o : Out} {fl : Flow} {s s₀ : Shared} {ρ₀ : Rho} (R : Rel c env M₀ O₀ ρ₀ s₀) (h : Post c env ([it] ++ M₀) O lo o fl s) : Post c env M₀ O lo o fl s := by
  cases o with
  | next ρ =>
    obtain ⟨h1, O'', h2, h3⟩ := h
    exact ⟨h1, O'', R.dropM h2, h3⟩
  | ret t b =>
    cases b with
    | false =>
      obtain ⟨v, e, d⟩ := h
      exact ⟨v, e, Den.mono (fun a ha hm => ha (List.mem_append_right _ hm)) (fun _ _ _ e => e) t v d⟩
    | true =>
      obtain ⟨v, l, a, vs, h1, h2, h3, h4, h5, h6⟩ := h
      refine ⟨v, l, a, vs, h1, h2, h3, h4, h5, DenL.mono (fun b hb hm => hb ?_) (fun _ _ _ e => e) _ _ h6⟩
      rcases List.mem_cons.mp hm with rfl | hm
      · exact List.mem_cons_self
      · exact List.mem_cons_of_mem _ (List.mem_append_right _ hm)

theorem Ex1.for {ρ : Rho} {target iter : Expr} {body : List Stmt} {pos : Pos} {l : List T} {o : Out} (hi : EvI c n ρ true iter l) (hs : notSet iter = true) (ht : Loops c n target body ρ l o) : Ex1 c n ρ (.For target iter body [] pos) o := .mk fun A s env M₀ O rm R => by
  rw [exec_For]
  refine wpAny_bind (wpAny_standAt (wpAny_bind (wpAny_imp (hi.run A s env M₀ O rm R) fun xv s₁ ⟨x₁, h₁⟩ => wpAny_bind (wpAny_of_eq (foldedSet_of hs xv) (wpAny_bind (wpAny_standAt (wpAny_bind (wpAny_holding (wpAny_imp h₁ fun iv s₂ ⟨x₂, hit⟩ => ?_)))))))))
  obtain ⟨it, fp, kk, St, rfl, k1, k2, k3, k4, k5, W, st⟩ := hit
  have R₂ : Rel c env ([it] ++ M₀) O ρ s₂ := R.addM x₂ fun a h => by simp at h; subst h; exact ⟨Nat.le_trans k1 k2, k3⟩
  have hitc : ∀ y, (y, it) ∉ env.cells := fun y h => by
    have := (R.cellIn h).elim (fun q => R.lt it (List.mem_append_left _ q)) (fun q => R.lt it (List.mem_append_right _ q))
    exact absurd this (Nat.not_lt.mpr (Nat.le_trans k1 k2))
  refine wpAny_runOwn ?_
  have loop : codeAny (model c.prog c.w) A (.forLoop target (.ref it) body [] env) (fun r s' => match r with | .ok f => Chg (nOf c env O) s s' ∧ Post c env M₀ O s.heap.objs.size o f s' | .error e => NoE e s') s₂ := by
    refine for_loop rm W (Nat.le_trans k2 (Nat.le_of_lt k3)) (fun b hb => ⟨k4 b hb, fun h => k5 rfl b hb (List.mem_append_left _ h)⟩) hitc k2 l [] ρ s₂ O rfl ht R₂ (fun a h => .inl h) (Nat.le_refl _) st fun fl s' x p => ?_
    refine ⟨Chg.trans x₂.chg x fun a h => ?_, (p.dropM R).chain (fun a h => .inl h) x₂.size⟩
    rcases List.mem_cons.mp h with rfl | h
    · exact .inr (Nat.le_trans k1 k2)
    · exact .inl h
  refine codeAny_mono loop fun r s' h => ?_
  cases r with
  | ok f => exact h
  | error e => exact h.elim
end
end Mine
end

section
set_option autoImplicit false
set_option linter.unusedVariables false
set_option linter.unusedSimpArgs false
namespace Mine
open PySem PySem.Calls PyProof.Rows PySem.SeqAt

section
variable {c : Cx} {n : Nat} {env : Env} {M₀ : List Addr} {O : List (Str × Addr)} {ρ : Rho} {s : Shared}

theorem own_inj {M : List Addr} {x y : Str} {a : Addr} (nd : (nOf c env O).Nodup) (h : O.lookup x = some a) (h' : O.lookup y = some a) : x = y := by
  unfold nOf at nd
  have nd2 := (List.nodup_append.mp (List.nodup_cons.mp nd).2).2.1
  have key : ∀ (l : List (Str × Addr)), (l.map (·.2)).Nodup → (y, a) ∈ l → (x, a) ∈ l → x = y := by
    intro l
    induction l with
    | nil => intro _ h; cases h
    | cons p r ih =>
      intro hnd h1 h2
      rw [List.map_cons, List.nodup_cons] at hnd
      rcases List.mem_cons.mp h1 with e1 | h1 <;> rcases List.mem_cons.mp h2 with e2 | h2
      · rw [← e2] at e1; exact (Prod.mk.inj e1).1.symm
      · exact absurd (List.mem_map.mpr ⟨_, h2, by rw [← e1]⟩) hnd.1
      · exact absurd (List.mem_map.mpr ⟨_, h1, by rw [← e2]⟩) hnd.1
      · exact ih hnd.2 h1 h2
  exact key O nd2 (mem_of_lookup h') (mem_of_lookup h)

/-- a list of the block's own changed in its place -/
theorem Rel.mut (R : Rel c env M₀ O ρ s) {x : Str} {a : Addr} {l : List T} {l' : List T} {vs : Array Value} {h' : Heap} (hx : ρ.lookup x = some (.own l)) (ha : O.lookup x = some a) (hl : Loads env s.heap x (.ref a)) (hs : Heap.SameBut a s.heap h') (hp : h'.PlainList a vs) (hd : DenL c.w (nOf c env O ++ M₀) h' l' vs.toList) :
    Rel c env M₀ O (Mine.put x (Var.own l') ρ) { s with heap := h' } := by
  have hk : ∀ b o, b ≠ a → s.heap.get? b = some o → h'.get? b = some o := fun b o hb e => (hs.2 b hb).trans e
  have hmem : a ∈ nOf c env O := own_mem ha
  have hnd := R.nd
  unfold nOf at hnd
  have hnd1 := List.nodup_cons.mp hnd
  have hnd2 := List.nodup_append.mp hnd1.2
  have haO : a ∈ O.map (·.2) := List.mem_map.mpr ⟨(x, a), mem_of_lookup ha, rfl⟩
  have hL : env.locals ≠ a := fun e => hnd1.1 (List.mem_append_right _ (e ▸ haO))
  have hC : ∀ y b, (y, b) ∈ env.cells → b ≠ a := fun y b h e => by
    subst e
    rcases (R.cells y b h).2 with q | q
    · exact hnd2.2.2 _ (mem_ownCells h q) _ haO rfl
    · exact R.dis _ hmem q
  have hld : ∀ {y w}, Loads env s.heap y w → Loads env h' y w := fun l => l.mono (fun o => hk _ o hL) (fun b m o => hk b o (hC _ b m))
  exact {
    bas := ⟨fun b o e => hk b o (fun q => absurd (Heap.lt_size e) (Nat.not_lt.mpr (q ▸ (R.hi a (List.mem_append_left _ hmem)).1))) (R.bas.heap b o e), Nat.le_trans R.bas.size (Nat.le_of_eq hs.1.symm), R.bas.toks, R.bas.lim⟩
    names := R.names
    kind := R.kind
    glob := R.glob
    blt := R.blt
    nd := R.nd
    hi := fun b hb => ⟨(R.hi b hb).1, Nat.lt_of_lt_of_le (R.hi b hb).2 (Nat.le_of_eq hs.1.symm)⟩
    dis := R.dis
    loc := let ⟨m, hm⟩ := R.loc; ⟨m, hm.at' fun o e => hk _ o hL e⟩
    cells := fun y b e => ⟨let ⟨⟨w, o, ho, hd⟩, _⟩ := R.cells y b e; ⟨w, o, hk b o (hC y b e) ho, hd⟩, (R.cells y b e).2⟩
    call := R.call
    vars := fun y u e => by
      by_cases hy : y = x
      · subst hy
        rw [put_self] at e; cases e
        exact ⟨_, hld hl, a, vs, rfl, ha, hp, hd⟩
      · rw [put_other _ hy] at e
        obtain ⟨v, h1, h2⟩ := R.vars y u e
        refine ⟨v, hld h1, ?_⟩
        cases u with
        | sh t => exact Den.mono (fun _ e => e) (fun b o hb => hk b o fun q => hb (q ▸ List.mem_append_left _ hmem)) t v h2
        | own l =>
          obtain ⟨b, ws, e1, e2, e3, e4⟩ := h2
          have hb : b ≠ a := fun q => hy (own_inj (M := M₀) R.nd (q ▸ e2) ha)
          exact ⟨b, ws, e1, e2, e3.at fun o => hk b o hb, DenL.mono (fun _ e => e) (fun b o hb => hk b o fun q => hb (q ▸ List.mem_append_left _ hmem)) l _ e4⟩ }

theorem Ex1.append {x : Str} {e : Expr} {p ap q pos : Pos} {l : List T} {t : T} (hx : ρ.lookup x = some (.own l)) (hn : nameOk x = true) (h : Ev c n ρ e t) (hs : notStar e = true) (hline : (ap.endLine == q.line) = true) (hz : l.length ≤ sizeLine) :
    Ex1 c n ρ (.Expr (.Call (.Attribute (.Name x p) "append" ap) [e] [] q) pos) (.next (put x (.own (l ++ [t])) ρ)) := .mk fun A s env M₀ O rm R => by
  unfold nameOk at hn
  simp only [Bool.and_eq_true, Bool.not_eq_true'] at hn
  obtain ⟨v, h1, a, vs, e, h2, h3, h4⟩ := R.vars x _ hx
  subst e
  refine wpAny_Expr ?_ (by unfold interactive; rw [R.kind]; rfl) (swaps_of rfl _ _ _)
  refine wpAny_Call_append (base_of rfl) ?_ hline (by rw [starEach_cons hs]; rfl) (wpAny_Name (wp_loads R h1 ⟨a, vs, rfl, ?_, ?_⟩ hn.2) hn.1)
  · rw [starEach_cons hs]; rfl
  · obtain ⟨k, ho⟩ := h3
    exact ⟨_, k, ho, rfl, rfl, rfl⟩
  · refine h.go rm R fun w s₁ x₁ R₁ d₁ => ?_
    have hl₁ := h3.at (fun o => x₁.all a o)
    have hd₁ := h4.keep x₁.all
    refine wpAny_list_append_plain hl₁ (fun h' hl' hs' => ?_) (by have := h4.length; simp at this; lia)
    have hk : ∀ b o, b ∉ nOf c env O ++ M₀ → s₁.heap.get? b = some o → h'.get? b = some o := fun b o hb e => (hs'.2 b fun q => hb (q ▸ List.mem_append_left _ (own_mem h2))).trans e
    refine ⟨Chg.trans x₁.chg (N' := [a]) ⟨fun b o hb e => (hs'.2 b (by simpa using hb)).trans e, Nat.le_of_eq hs'.1.symm, fun _ _ e => e, id, rfl, Nat.le_refl _⟩ fun b hb => .inl (by simp at hb; subst hb; exact own_mem h2), rfl, O, ?_, fun a h => .inl h⟩
    refine R₁.mut hx h2 (h1.keep x₁.all) hs' hl' ?_
    rw [Array.toList_push]
    exact (DenL.mono (fun _ e => e) hk _ _ hd₁).app (DenL.cons (Den.mono (fun _ e => e) hk _ _ d₁) DenL.nil)

theorem Ex.weak {b : List Stmt} {ρ' ρ'' : Rho} (h : Ex c n ρ b (.next ρ')) (hs : ∀ x u, ρ''.lookup x = some u → ρ'.lookup x = some u) : Ex c n ρ b (.next ρ'') := .mk fun A s env M₀ O rm R =>
  wpAny_imp (h.run A s env M₀ O rm R) fun fl s' ⟨x, e, O', R', hO⟩ => ⟨x, e, O', R'.sub hs, hO⟩
theorem Ex.pre {b : List Stmt} {ρ' : Rho} {o : Out} (h : Ex c n ρ' b o) (hs : ∀ x u, ρ'.lookup x = some u → ρ.lookup x = some u) : Ex c n ρ b o := .mk fun A s env M₀ O rm R => h.run A s env M₀ O rm (R.sub hs)
theorem Ex1.pre {st : Stmt} {ρ' : Rho} {o : Out} (h : Ex1 c n ρ' st o) (hs : ∀ x u, ρ'.lookup x = some u → ρ.lookup x = some u) : Ex1 c n ρ st o := .mk fun A s env M₀ O rm R => h.run A s env M₀ O rm (R.sub hs)
theorem sub_of_all {ρ ρ' : Rho} (h : ∀ p ∈ ρ, ρ'.lookup p.1 = some p.2) : ∀ x u, ρ.lookup x = some u → ρ'.lookup x = some u := fun x u e => by
  have : (x, u) ∈ ρ := by
    induction ρ with
    | nil => cases e
    | cons p r ih =>
      obtain ⟨y, v⟩ := p
      rw [List.lookup_cons] at e
      by_cases hy : x = y
      · subst hy; simp at e; subst e; exact List.mem_cons_self
      · rw [show (x == y) = false by simpa using hy] at e
        exact List.mem_cons_of_mem _ (ih (fun q hq => h q (List.mem_cons_of_mem _ hq)) e)
  exact h _ this

/-- list(x) -/
theorem EvN.copy {e : Expr} {p pos : Pos} {l : List T} (hk : c.ns.lookup ("list" : Str) = some .globalImplicit) (g : GV c "list" (.type "list")) (h : EvB c n ρ e (.list l)) (hs : notStar e = true) (hz : l.length ≤ sizeLine) :
    EvN c n ρ (.Call (.Name "list" p) [e] [] pos) l := .mk fun A s env M₀ O rm R => by
  refine wpAny_Call_NameR (wp_gname R hk g (wp_callWith (f := .type "list") trivial (.cons hs h .nil) (by simp) rm R fun vs s' x R' d => ?_) (by decide))
  obtain ⟨v, rfl, d1⟩ := d.one
  obtain ⟨a, ws, rfl, h1, h2⟩ := d1.list
  obtain ⟨k, ho⟩ := h1
  have hlen := h2.length
  simp only [Array.length_toList] at hlen
  refine call_list_seq (n := k) a (.inl rfl) ho rfl rfl (fun h' c' hk' hg' => ?_) (by rw [← hlen]; exact hz)
  have hsz : s'.heap.objs.size < h'.objs.size := Heap.lt_size hg'
  have y : Ext s' { s' with heap := h' } := ⟨fun b o _ e => hk' b o e, Nat.le_of_lt hsz, fun _ _ e => e, id, rfl, Nat.le_refl _⟩
  exact ⟨Ext.trans x y, _, ws, rfl, x.size, ⟨c', hg'⟩, (h2.newer (Nat.le_refl _)).keep y.all⟩
end
end Mine
end

section
set_option autoImplicit false
set_option linter.unusedVariables false
set_option linter.unusedSimpArgs false
namespace Mine
open PySem PySem.Calls PyProof.Rows PySem.SeqAt

/-- a function of the text, at its place -/
noncomputable def FunAt (c : Cx) (a : Addr) (params : Arguments) (body : List Stmt) (scope : Scope) : Prop :=
  ∃ o fd, c.H.get? a = some o ∧ o.data = .func fd ∧ fd.scope = scope ∧ fd.body = .stmts body ∧ fd.closure = [] ∧ fd.globals = mainGlobals ∧ fd.builtins = builtinsNs ∧ fd.params = params ∧ fd.defaults = .none ∧ fd.kwdefaults = .none ∧ c.H.CodeRec fd.code fd.qualname

noncomputable def BindOk (params : Arguments) (xs : List Str) : Prop := ∀ fd : FuncData, fd.params = params → fd.defaults = .none → fd.kwdefaults = .none → ∀ vals : List Value, vals.length = xs.length → bindArgs fd ⟨vals, []⟩ = pure (xs.zip vals)

theorem BindOk.one {ps : Arguments} {x : Str} (h : ∀ nm qn body sc gl cl doc pm an code ct bi v, bindArgs ⟨nm, qn, ps, body, sc, gl, cl, .none, .none, doc, pm, an, code, ct, bi⟩ ⟨[v], []⟩ = pure [(x, v)]) : BindOk ps [x] := by
  rintro ⟨⟩ h1 h2 h3 vals hl
  cases h1; cases h2; cases h3
  obtain ⟨v, rfl⟩ := one_of hl
  exact h _ _ _ _ _ _ _ _ _ _ _ _ _
theorem BindOk.two {ps : Arguments} {x y : Str} (h : ∀ nm qn body sc gl cl doc pm an code ct bi v v₂, bindArgs ⟨nm, qn, ps, body, sc, gl, cl, .none, .none, doc, pm, an, code, ct, bi⟩ ⟨[v, v₂], []⟩ = pure [(x, v), (y, v₂)]) : BindOk ps [x, y] := by
  rintro ⟨⟩ h1 h2 h3 vals hl
  cases h1; cases h2; cases h3
  obtain ⟨v, v₂, rfl⟩ := two_of hl
  exact h _ _ _ _ _ _ _ _ _ _ _ _ _ _
theorem BindOk.three {ps : Arguments} {x y z : Str} (h : ∀ nm qn body sc gl cl doc pm an code ct bi v v₂ v₃, bindArgs ⟨nm, qn, ps, body, sc, gl, cl, .none, .none, doc, pm, an, code, ct, bi⟩ ⟨[v, v₂, v₃], []⟩ = pure [(x, v), (y, v₂), (z, v₃)]) : BindOk ps [x, y, z] := by
  rintro ⟨⟩ h1 h2 h3 vals hl
  cases h1; cases h2; cases h3
  obtain ⟨v, v₂, v₃, rfl⟩ := three_of hl
  exact h _ _ _ _ _ _ _ _ _ _ _ _ _ _ _
noncomputable def funCx (c : Cx) (sc : Scope) : Cx := { c with ns := sc.names, cel := cellNames sc }
/-- a block's scope that is a plain function's -/
noncomputable def funOk (sc : Scope) : Bool := (match sc.kind with | .function => true | _ => false) && !sc.isCoroutine && (sc.names.all fun p => !(p.2 == .free)) && (sc.names.all fun p => !(p.2 == .cell) || sc.names.lookup p.1 == some .cell)

section
variable {c : Cx} {n : Nat}

theorem wp_params {sc : Scope} {env : Env} {M₀ : List Addr} {f : Str × Value → PUnit → Sem (ForInStep PUnit)} (hf : ∀ n v u, f (n, v) u = (do storeName env n v; pure (.yield ⟨⟩))) : ∀ (xs : List Str) (ts : List T) (vs : List Value) (s : Shared) (O : List (Str × Addr)) (ρ : Rho) {A : Around} {Q : PUnit → Shared → Prop} {E : Value → Shared → Prop},
    xs.all (canStore c) = true → Rel c env M₀ O ρ s → DenL c.w (nOf c env O ++ M₀) s.heap ts vs → xs.length = ts.length →
    (∀ O' s', Chg (nOf c env O) s s' → (∀ a ∈ nOf c env O', a ∈ nOf c env O) → Rel c env M₀ O' (putAll xs ts ρ) s' → Q ⟨⟩ s') → wpAny (model c.prog c.w) A (forIn (xs.zip vs) ⟨⟩ f) Q E s
  | [], ts, vs, s, O, ρ, A, Q, E, _, R, d, hl, k => by
    rw [List.zip_nil_left, List.forIn_nil]
    exact wpAny_pure (k O s (Chg.refl _) (fun _ h => h) (by cases ts <;> exact R))
  | x :: xs, ts, vs, s, O, ρ, A, Q, E, hc, R, d, hl, k => by
    simp only [List.all_cons, Bool.and_eq_true] at hc
    cases ts with
    | nil => simp at hl
    | cons t ts =>
      simp only [DenL] at d
      obtain ⟨v, r, rfl, d1, d2⟩ := d
      rw [List.zip_cons_cons, List.forIn_cons, hf]
      refine wpAny_bind (wpAny_bind (wp_store (u := .sh t) R (Chg.refl _) d1 hc.1 fun s' x' R' => wpAny_pure ?_))
      rw [ownPut_sh] at R'
      refine wp_params (sc := sc) hf xs ts r s' _ _ hc.2 R' (DenL.mono (fun a ha h => ha ?_) (fun b o hb => x'.heap b o (fun h => hb (List.mem_append_left _ h))) _ _ d2) (by simpa using hl) fun O' s'' x'' hs R'' => k O' s'' (Chg.trans x' x'' fun a ha => .inl (nOf_unset a ha)) (fun a ha => nOf_unset a (hs a ha)) R''
      rcases List.mem_append.mp h with h | h
      · exact List.mem_append_left _ (nOf_unset a h)
      · exact List.mem_append_right _ h

theorem fun_enter {s : Shared} (B : Bas c s) {M : List Addr} (hM : ∀ a ∈ M, c.H.objs.size ≤ a ∧ a < s.heap.objs.size) {sc : Scope} (ok : funOk sc = true) {xs : List Str} {ts : List T} {vs : List Value} (hc : xs.all (canStore (funCx c sc)) = true) (hl : xs.length = ts.length) (d : DenL c.w M s.heap ts vs)
    {A : Around} {E : Value → Shared → Prop} {Q : Env → Shared → Prop} {qual : Str} {func : Option Addr} {code : Value}
    (k : ∀ (env : Env) (s' : Shared), env.scope = sc → Ext s s' → (∀ a ∈ nOf (funCx c sc) env [], s.heap.objs.size ≤ a) → Rel (funCx c sc) env M [] (putAll xs ts []) s' → Q env s') :
    wpAny (model c.prog c.w) A (newFunctionEnv sc mainGlobals [] (xs.zip vs) qual func code none builtinsNs) Q E s := by
  unfold funOk at ok
  simp only [Bool.and_eq_true, List.all_eq_true, Bool.or_eq_true, Bool.not_eq_true', beq_eq_false_iff_ne, beq_iff_eq, ne_eq] at ok
  obtain ⟨⟨⟨ok1, ok2⟩, ok3⟩, ok4⟩ := ok
  have hkind : sc.kind = .function := by revert ok1; cases sc.kind <;> simp
  simp only [newFunctionEnv, Option.isSome_none, Bool.false_eq_true, if_false]
  refine wpAny_bind (wpAny_alloc ?_)
  refine wpAny_bind (wpAny_layCells _ (fun name kind cells => by cases hkc : kind == NameKind.cell <;> simp [hkc]) _ _ _ _ ?_)
  have hsz : ({ s with heap := s.heap.push { cls := .type "frame", data := .dict #[] } } : Shared).heap.objs.size = s.heap.objs.size + 1 := Heap.size_push ..
  rw [hsz]
  have okc := cellsFrom_ok sc.names (s.heap.push { cls := .type "frame", data := .dict #[] }) (s.heap.objs.size + 1) [] ⟨fun _ _ hm => (nomatch hm), List.Pairwise.nil⟩ (by rw [Heap.size_push]; exact Nat.le_refl _)
  rw [Heap.size_push] at okc
  generalize hN : cellsFrom (s.heap.objs.size + 1) sc.names [] = N at okc
  generalize hH : pushCells (s.heap.push { cls := .type "frame", data := .dict #[] }) sc.names = H at okc
  have keep0 : ∀ b o, (s.heap.push { cls := .type "frame", data := .dict #[] }).get? b = some o → H.get? b = some o := by rw [← hH]; exact pushCells_keeps _ _
  have keep : ∀ b o, s.heap.get? b = some o → H.get? b = some o := fun b o e => keep0 b o (Heap.get?_push_of_some _ e)
  have hNs : H.Ns s.heap.objs.size (fun _ => none) := (Heap.Ns.new s.heap (.type "frame")).keeps keep0
  have hHsz : s.heap.objs.size < H.objs.size := hNs.lt
  have hE : Ext s { s with heap := H } := Ext.of_heap keep (Nat.le_of_lt hHsz) (Nat.le_refl _)
  have hNmem : ∀ y a, (y, a) ∈ N → (y, NameKind.cell) ∈ sc.names := fun y a h => by
    rcases cellsFrom_names _ _ _ y a (hN ▸ h) with h | h
    · exact h
    · cases h
  have hcel : ∀ y a, (y, a) ∈ N → (cellNames sc).contains y = true := fun y a h => by
    rw [List.contains_iff_mem]
    exact List.mem_map.mpr ⟨(y, .cell), List.mem_filter.mpr ⟨hNmem y a h, by simp⟩, rfl⟩
  generalize henv : ({ scope := sc, locals := s.heap.objs.size, globals := mainGlobals, cells := N, qual, func, code, frame := some s.heap.objs.size, builtins := builtinsNs } : Env) = env
  have e1 : env.locals = s.heap.objs.size := by rw [← henv]
  have e2 : env.cells = N := by rw [← henv]
  have e3 : env.scope = sc := by rw [← henv]
  have e4 : env.globals = mainGlobals := by rw [← henv]
  have e5 : env.builtins = builtinsNs := by rw [← henv]
  have hnOf : nOf (funCx c sc) env [] = s.heap.objs.size :: N.map (·.2) := by
    unfold nOf ownCells
    rw [e1, e2, List.filter_eq_self.mpr (fun p hp => hcel p.1 p.2 hp)]
    simp
  have hNlo : ∀ a ∈ N.map (·.2), s.heap.objs.size + 1 ≤ a ∧ a < H.objs.size := fun a h => by
    obtain ⟨p, hp, rfl⟩ := List.mem_map.mp h
    exact ⟨(okc.empty p.1 p.2 hp).2, (okc.empty p.1 p.2 hp).1.lt⟩
  have hbig : ∀ a ∈ s.heap.objs.size :: N.map (·.2), s.heap.objs.size ≤ a ∧ a < H.objs.size := fun a h => by
    rcases List.mem_cons.mp h with rfl | h
    · exact ⟨Nat.le_refl _, hHsz⟩
    · exact ⟨Nat.le_of_succ_le (hNlo a h).1, (hNlo a h).2⟩
  have B' := B.ext hE
  have R : Rel (funCx c sc) env M [] [] { s with heap := H } := {
    bas := ⟨B'.heap, B'.size, B'.toks, B'.lim⟩
    names := by rw [e3]; rfl
    kind := by rw [e3]; exact hkind
    glob := e4
    blt := e5
    nd := by
      rw [hnOf, List.nodup_cons]
      refine ⟨fun h => ?_, ?_⟩
      · have := (hNlo _ h).1; omega
      · have := okc.apart
        exact List.pairwise_map.mpr (this.imp fun h => h)
    hi := fun a ha => by
      rw [hnOf] at ha
      rcases List.mem_append.mp ha with h | h
      · exact ⟨Nat.le_trans B.size (hbig a h).1, (hbig a h).2⟩
      · exact ⟨(hM a h).1, Nat.lt_of_lt_of_le (hM a h).2 hE.size⟩
    dis := fun a ha h => by
      rw [hnOf] at ha
      exact absurd (hM a h).2 (Nat.not_lt.mpr (hbig a ha).1)
    loc := ⟨_, by rw [e1]; exact hNs⟩
    cells := fun y a h => by
      rw [e2] at h
      exact ⟨⟨none, (okc.empty y a h).1⟩, .inl (hcel y a h)⟩
    call := fun y h => by
      rw [e2]
      refine lookup_of_mem ?_
      rcases h with h | h
      · obtain ⟨a, ha⟩ := cellsFrom_has sc.names (s.heap.objs.size + 1) [] y (.inl (mem_of_lookup h))
        exact ⟨a, hN ▸ ha⟩
      · exact absurd rfl ((ok3 _ (mem_of_lookup h)))
    vars := fun x u e => by simp at e }
  have d' : DenL c.w (nOf (funCx c sc) env [] ++ M) H ts vs := denL_re (fun a ha hlt hm => by
    rw [hnOf] at hm
    rcases List.mem_append.mp hm with h | h
    · exact absurd hlt (Nat.not_lt.mpr (hbig a h).1)
    · exact ha h) (fun b o _ => keep b o) _ _ d
  have hnew : ∀ a ∈ nOf (funCx c sc) env [], s.heap.objs.size ≤ a := fun a h => by rw [hnOf] at h; exact (hbig a h).1
  refine wpAny_bind (wp_params (c := funCx c sc) (sc := sc) (fun _ _ _ => rfl) xs ts vs { s with heap := H } [] [] hc R d' hl fun O' s' x hO R' => wpAny_pure ?_)
  obtain rfl := R'.noOwn hO
  exact k env s' e3 (Chg.trans hE x fun a h => .inr (hnew a h)) hnew R'

theorem nolim {s : Shared} (B : Bas c s) : s.heap.NoLimit := let ⟨m, hm, h1, _⟩ := B.lim; ⟨m, hm.keeps B.heap, h1⟩

/-- what a call of f with the data ts comes to -/
structure FOk (c : Cx) (n : Nat) (f : Value) (ts : List T) (t : T) : Prop where
  run : ∀ (A : Around) (s : Shared) (M : List Addr) (vs : List Value), Room A n → Bas c s → (∀ x ∈ M, c.H.objs.size ≤ x ∧ x < s.heap.objs.size) →
  DenL c.w M s.heap ts vs → wpAny (model c.prog c.w) A (call f vs) (fun v s' => Ext s s' ∧ Den c.w M s'.heap t v) NoE s
structure FNew (c : Cx) (n : Nat) (f : Value) (ts : List T) (l : List T) : Prop where
  run : ∀ (A : Around) (s : Shared) (M : List Addr) (vs : List Value), Room A n → Bas c s → (∀ x ∈ M, c.H.objs.size ≤ x ∧ x < s.heap.objs.size) →
  DenL c.w M s.heap ts vs → wpAny (model c.prog c.w) A (call f vs) (fun v s' => Ext s s' ∧ ∃ a ws, v = .ref a ∧ s.heap.objs.size ≤ a ∧ s'.heap.PlainList a ws ∧ DenL c.w (a :: M) s'.heap l ws.toList) NoE s

theorem Room.deeper {A : Around} {n : Nat} {env : Env} (rm : Room A (n + 1)) : Room (A.deeper env) n := ⟨rm.1, by have := rm.2.1; simp only [Around.deeper]; omega, by have := rm.2.2; simp only [Around.deeper]; omega⟩

theorem call_fun {a : Addr} {params : Arguments} {body : List Stmt} {sc : Scope} (hf : FunAt c a params body sc) (ok : funOk sc = true) (hg : sc.isGenerator = false) {xs : List Str} (hb : BindOk params xs) (hc : xs.all (canStore (funCx c sc)) = true)
    {ts : List T} (hl : xs.length = ts.length) {o : Out} (h : Ex (funCx c sc) n (putAll xs ts []) body o) {A : Around} (rm : Room A (n + 1)) {s : Shared} (B : Bas c s) {M : List Addr} (hM : ∀ x ∈ M, c.H.objs.size ≤ x ∧ x < s.heap.objs.size) {vs : List Value} (d : DenL c.w M s.heap ts vs) {Q : Value → Shared → Prop}
    (k : ∀ (env : Env) (O : List (Str × Addr)) (lo : Nat) (fl : Flow) (s' : Shared), Ext s s' → (∀ a ∈ nOf (funCx c sc) env O, s.heap.objs.size ≤ a) → s.heap.objs.size ≤ lo → Post (funCx c sc) env M O lo o fl s' → Q (match fl with | .ret v => v | _ => .none) s') :
    wpAny (model c.prog c.w) A (call (.ref a) vs) Q NoE s := by
  obtain ⟨ob, fd, h1, h2, h3, h4, h5, h6, h7, h8, h9, h10, h11⟩ := hf
  have hco : sc.isCoroutine = false := by
    unfold funOk at ok
    simp only [Bool.and_eq_true, Bool.not_eq_true'] at ok
    exact ok.1.1.2
  refine wpAny_call (codeAny_call_function (body := body) ?_ (B.heap a ob h1) h2 (by rw [h3]; exact hco) (by rw [h3]; exact hg) h4 (h11.keeps B.heap) ?_)
  · have := rm.2.1
    have e : recursionLimit = 1000 := rfl
    rw [e]; omega
  rw [hb fd h8 h9 h10 vs (by rw [hl]; exact d.length.symm), h3, h5, h6, h7]
  refine wpAny_pure (fun_enter B hM ok hc hl d fun env s' _ x hnew R => ⟨nolim (B.ext x), codeAny_func (wpAny_no ?_)⟩)
  refine wpAny_imp (h.run _ s' env M [] rm.deeper R) fun fl s'' ⟨y, p⟩ => ?_
  exact k env [] s'.heap.objs.size fl s'' (Chg.trans x y fun a h => .inr (hnew a h)) hnew x.size p

theorem FOk.of {a : Addr} {params : Arguments} {body : List Stmt} {sc : Scope} {xs : List Str} {ts : List T} {t : T} (hf : FunAt c a params body sc) (hb : BindOk params xs) (h : Ex (funCx c sc) n (putAll xs ts []) body (.ret t false))
    (ok : funOk sc = true := by rfl) (hg : sc.isGenerator = false := by rfl) (hc : xs.all (canStore (funCx c sc)) = true := by rfl) (hl : xs.length = ts.length := by rfl) : FOk c (n + 1) (.ref a) ts t := .mk fun A s M vs rm B hM d =>
  call_fun hf ok hg hb hc hl h rm B hM d fun env O lo fl s' x hO hlo hx => by obtain ⟨v, rfl, dv⟩ := hx; exact ⟨x, dv⟩
theorem FNew.of {a : Addr} {params : Arguments} {body : List Stmt} {sc : Scope} {xs : List Str} {ts : List T} {l : List T} (hf : FunAt c a params body sc) (hb : BindOk params xs) (h : Ex (funCx c sc) n (putAll xs ts []) body (.ret (.list l) true))
    (ok : funOk sc = true := by rfl) (hg : sc.isGenerator = false := by rfl) (hc : xs.all (canStore (funCx c sc)) = true := by rfl) (hl : xs.length = ts.length := by rfl) : FNew c (n + 1) (.ref a) ts l := .mk fun A s M vs rm B hM d =>
  call_fun hf ok hg hb hc hl h rm B hM d fun env O lo fl s' x hO hlo hx => by
    obtain ⟨v, l', a', ws, rfl, e2, e3, e4, e5, e6⟩ := hx
    cases e2
    exact ⟨x, a', ws, e3, e4.elim (hO a') fun q => Nat.le_trans hlo q, e5, e6⟩
theorem wp_callF {a : Addr} (hf : Callee c (.ref a)) {ρ : Rho} {pos : Pos} {es : List Expr} {ts : List T} (h : Each c n ρ es ts) (hne : es ≠ []) {A : Around} {env : Env} {M₀ : List Addr} {O : List (Str × Addr)} (rm : Room A n)
    {s : Shared} {Q : Value → Shared → Prop} (R : Rel c env M₀ O ρ s)
    (k : ∀ vs s', Ext s s' → Rel c env M₀ O ρ s' → DenL c.w (nOf c env O ++ M₀) s'.heap ts vs → wpAny (model c.prog c.w) A (call (.ref a) vs) Q NoE s') :
    wpAny (model c.prog c.w) A (callWith pos (.ref a) [] (backTo pos (starEach es env)) []) Q NoE s := by
  obtain ⟨o, fd, ho, hd⟩ := hf
  have hp : starEach es env = es.map fun e => (false, eval e env) := starEach_plain es env (by
    clear hne k
    induction h with
    | nil => simp
    | cons q _ _ ih => intro e he; rcases List.mem_cons.mp he with rfl | he; exact q; exact ih e he)
  have hcons : ∃ x r, backTo pos (starEach es env) = (false, x) :: r := by
    rw [hp]
    cases es with
    | nil => exact absurd rfl hne
    | cons e r => exact ⟨_, _, rfl⟩
  obtain ⟨x, r, hx⟩ := hcons
  rw [hx]
  refine callWith_function (o := o) (fd := fd) (evalArgs_plain ?_)
  rw [← hx]
  exact h.go pos rm s _ R fun vs s' x R' d => ⟨⟨R'.bas.heap a o ho, hd⟩, k vs s' x R' d⟩

theorem FunAt.callee {a : Addr} {params : Arguments} {body : List Stmt} {sc : Scope} (hf : FunAt c a params body sc) : Callee c (.ref a) := let ⟨o, fd, h1, h2, _⟩ := hf; ⟨o, fd, h1, h2⟩

theorem Ev.fcall {ρ : Rho} {f : Str} {p pos : Pos} {es : List Expr} {ts : List T} {a : Addr} {r : T} (hk : c.ns.lookup f = some .globalImplicit) (g : GV c f (.ref a)) (hf : Callee c (.ref a)) (hx : nameOk f = true)
    (h : Each c n ρ es ts) (hne : es ≠ []) (hc : FOk c n (.ref a) ts r) : Ev c n ρ (.Call (.Name f p) es [] pos) r := .mk fun A s env M₀ O rm R =>
  wpAny_Call_NameR (wp_gname R hk g (wp_callF hf h hne rm R fun vs s' x R' d => wpAny_imp (hc.run A s' _ vs rm R'.bas R'.hi d) fun v s'' y => ⟨Ext.trans x y.1, y.2⟩) hx)
theorem EvN.fcall {ρ : Rho} {f : Str} {p pos : Pos} {es : List Expr} {ts : List T} {a : Addr} {r : List T} (hk : c.ns.lookup f = some .globalImplicit) (g : GV c f (.ref a)) (hf : Callee c (.ref a)) (hx : nameOk f = true)
    (h : Each c n ρ es ts) (hne : es ≠ []) (hc : FNew c n (.ref a) ts r) : EvN c n ρ (.Call (.Name f p) es [] pos) r := .mk fun A s env M₀ O rm R =>
  wpAny_Call_NameR (wp_gname R hk g (wp_callF hf h hne rm R fun vs s' x R' d => wpAny_imp (hc.run A s' _ vs rm R'.bas R'.hi d) fun v s'' ⟨y, a, ws, h1, h2, h3, h4⟩ => ⟨Ext.trans x y, a, ws, h1, Nat.le_trans x.size h2, h3, h4⟩) hx)
end
end Mine
end

section
set_option autoImplicit false
set_option linter.unusedVariables false
set_option linter.unusedSimpArgs false
namespace Mine
open PySem PySem.Calls PyProof.Rows PySem.SeqAt

/-- as Chg, but the generator g may have gone on -/
structure ChgG (g : Nat) (N : List Addr) (s s' : Shared) : Prop where
  heap : ∀ b o, b ∉ N → s.heap.get? b = some o → s'.heap.get? b = some o
  size : s.heap.objs.size ≤ s'.heap.objs.size
  gens : ∀ (i : Nat) (x : GenState), i ≠ g → s.gens[i]? = some x → s'.gens[i]? = some x
  bare : AllBare s.gens → AllBare s'.gens
  os : s'.os = s.os
  toks : s.toks ≤ s'.toks
  gsz : s.gens.size ≤ s'.gens.size

theorem Chg.gsz {N : List Addr} {s s' : Shared} (x : Chg N s s') : s.gens.size ≤ s'.gens.size := by
  by_cases h : s.gens.size = 0
  · omega
  · have hl : s.gens.size - 1 < s.gens.size := by omega
    have := (Array.getElem?_eq_some_iff.mp (x.gens _ _ (Array.getElem?_eq_getElem hl))).1
    omega
theorem Chg.g {N : List Addr} {s s' : Shared} (x : Chg N s s') (g : Nat) : ChgG g N s s' := ⟨x.heap, x.size, fun i y _ => x.gens i y, x.bare, x.os, x.toks, x.gsz⟩
theorem ChgG.h {g : Nat} {N : List Addr} {s s' : Shared} (x : ChgG g N s s') : Chh N s s' := ⟨x.heap, x.size, x.toks⟩
theorem ChgG.refl {g : Nat} {N : List Addr} (s : Shared) : ChgG g N s s := (Chg.refl s).g g
theorem ChgG.mono {g : Nat} {N N' : List Addr} {s s' : Shared} (x : ChgG g N s s') (h : ∀ a ∈ N, a ∈ N' ∨ s.heap.objs.size ≤ a) : ChgG g N' s s' :=
  ⟨fun b o hb e => x.heap b o (fun m => (h b m).elim hb fun q => absurd (Heap.lt_size e) (Nat.not_lt.mpr q)) e, x.size, x.gens, x.bare, x.os, x.toks, x.gsz⟩
theorem ChgG.trans {g : Nat} {N N' : List Addr} {s s' s'' : Shared} (x : ChgG g N s s') (y : ChgG g N' s' s'') (h : ∀ a ∈ N', a ∈ N ∨ s.heap.objs.size ≤ a) : ChgG g N s s'' :=
  ⟨fun b o hb e => y.heap b o (fun m => (h b m).elim hb fun q => absurd (Heap.lt_size e) (Nat.not_lt.mpr q)) (x.heap b o hb e), Nat.le_trans x.size y.size,
    fun i z hi e => y.gens i z hi (x.gens i z hi e), fun b => y.bare (x.bare b), y.os.trans x.os, Nat.le_trans x.toks y.toks, Nat.le_trans x.gsz y.gsz⟩
/-- before g was made -/
theorem ChgG.back {g : Nat} {N N' : List Addr} {s s' s'' : Shared} (x : Chg N s s') (y : ChgG g N' s' s'') (hg : s.gens.size ≤ g) (h : ∀ a ∈ N', a ∈ N ∨ s.heap.objs.size ≤ a) : Chg N s s'' :=
  ⟨fun b o hb e => y.heap b o (fun m => (h b m).elim hb fun q => absurd (Heap.lt_size e) (Nat.not_lt.mpr q)) (x.heap b o hb e), Nat.le_trans x.size y.size,
    fun i z e => y.gens i z (fun q => absurd (Array.getElem?_eq_some_iff.mp e).1 (Nat.not_lt.mpr (q ▸ hg))) (x.gens i z e), fun b => y.bare (x.bare b), y.os.trans x.os, Nat.le_trans x.toks y.toks⟩

/-- a generator that still has the items l from its place i on; W: what is its own -/
structure GWalk (c : Cx) (A : Around) (it : Addr) (g : Nat) (l : List T) (St : Nat → List Addr → Shared → Prop) : Prop where
  self : ∀ i W s, St i W s → it ∈ W
  frame : ∀ i W s s', St i W s → (∀ b ∈ W, ∀ o, s.heap.get? b = some o → s'.heap.get? b = some o) → Bas c s' → s.heap.objs.size ≤ s'.heap.objs.size → (∀ x, s.gens[g]? = some x → s'.gens[g]? = some x) → St i W s'
  item : ∀ i t W s (Q : Option Value → Shared → Prop), l[i]? = some t → St i W s → Bas c s →
    (∀ v s' W', ChgG g W s s' → St (i + 1) (W' ++ W) s' → (∀ a ∈ W', s.heap.objs.size ≤ a ∧ a < s'.heap.objs.size) → (∀ M', (∀ a ∈ M', (c.H.objs.size ≤ a ∧ a < s.heap.objs.size) ∨ a ∈ W') → Den c.w M' s'.heap t v) → Q (some v) s') → wpAny (model c.prog c.w) A (pyNext (.ref it)) Q NoE s
  done : ∀ W s (Q : Option Value → Shared → Prop), St l.length W s → Bas c s → (∀ s', ChgG g W s s' → Q none s') → wpAny (model c.prog c.w) A (pyNext (.ref it)) Q NoE s
  iter : ∀ i W s (Q : Value → Shared → Prop) (E : Value → Shared → Prop), St i W s → Q (.ref it) s → wpAny (model c.prog c.w) A (pyIter (.ref it)) Q E s
  owned : ∀ i W s target v (Q : Unit → Shared → Prop) (E : Value → Shared → Prop), St i W s → Q () s → wpAny (model c.prog c.w) A (letOwnedTupleGo target (.ref it) v) Q E s

section
variable {c : Cx} {n : Nat}

/-- e makes a generator over the items l -/
structure EvG (c : Cx) (n : Nat) (ρ : Rho) (e : Expr) (l : List T) : Prop where
  run : ∀ A s env M₀ O, Room A n → Rel c env M₀ O ρ s →
  wpAny (model c.prog c.w) A (eval e env) (fun x s₁ => Ext s s₁ ∧ ∃ a W g St, x = .ref a ∧ s.gens.size ≤ g ∧ (∀ b ∈ W, s.heap.objs.size ≤ b ∧ b < s₁.heap.objs.size) ∧ GWalk c A a g l St ∧ St 0 W s₁) NoE s

theorem Rel.app {env : Env} {M₀ : List Addr} {O : List (Str × Addr)} {ρ : Rho} {s s₂ : Shared} {W W' : List Addr} (R : Rel c env (W ++ M₀) O ρ s₂) (hs : ∀ a ∈ W', s.heap.objs.size ≤ a ∧ a < s₂.heap.objs.size) (R₀ : Rel c env (W ++ M₀) O ρ s) (x : Chh W s s₂) (hW : ∀ a ∈ W, a ∈ W ++ M₀ ∧ ∀ y, (y, a) ∉ env.cells) : Rel c env (W' ++ (W ++ M₀)) O ρ s₂ := by
  have hM : ∀ a, a ∉ nOf c env O ++ (W ++ M₀) → a < s.heap.objs.size → a ∉ nOf c env O ++ (W' ++ (W ++ M₀)) := fun a ha hl hm => by
    rcases List.mem_append.mp hm with h | h
    · exact ha (List.mem_append_left _ h)
    · rcases List.mem_append.mp h with h | h
      · exact absurd hl (Nat.not_lt.mpr (hs a h).1)
      · exact ha (List.mem_append_right _ h)
  have hk : ∀ b o, b ∉ nOf c env O ++ (W ++ M₀) → s.heap.get? b = some o → s₂.heap.get? b = some o := fun b o hb => x.heap b o fun h => hb (List.mem_append_right _ (hW b h).1)
  exact {
    bas := R.bas
    names := R.names
    kind := R.kind
    glob := R.glob
    blt := R.blt
    nd := R.nd
    hi := fun a ha => by
      rcases List.mem_append.mp ha with h | h
      · exact R.hi a (List.mem_append_left _ h)
      · rcases List.mem_append.mp h with h | h
        · exact ⟨Nat.le_trans R₀.bas.size (hs a h).1, (hs a h).2⟩
        · exact R.hi a (List.mem_append_right _ h)
    dis := fun a ha h => by
      rcases List.mem_append.mp h with h | h
      · exact R₀.new (hs a h).1 (List.mem_append_left _ ha)
      · exact R.dis a ha h
    loc := R.loc
    cells := fun y a e => ⟨(R.cells y a e).1, (R.cells y a e).2.imp id (List.mem_append_right _)⟩
    call := R.call
    vars := fun y u e => by
      obtain ⟨v, h1, h2⟩ := R₀.vars y u e
      obtain ⟨v', h1', h2'⟩ := R.vars y u e
      have hl : Loads env s₂.heap y v := h1.mono (fun o => x.heap _ o fun h => R.dis _ List.mem_cons_self (hW _ h).1) (fun a m o => x.heap a o fun h => (hW a h).2 y m)
      refine ⟨v, hl, ?_⟩
      cases u with
      | sh t => exact den_re hM hk t v h2
      | own l =>
        obtain ⟨a, vs, e1, e2, e3, e4⟩ := h2
        exact ⟨a, vs, e1, e2, e3.at fun o => x.heap a o fun h => R.dis a (own_mem e2) (hW a h).1, denL_re hM hk l _ e4⟩ }

theorem gen_loop {target : Expr} {body : List Stmt} {l : List T} {A : Around} (rm : Room A n) {env : Env} {M₀ : List Addr} {it : Addr} {lo g : Nat} {St : Nat → List Addr → Shared → Prop}
    (G : GWalk c A it g l St) (hcl : ∀ y a, (y, a) ∈ env.cells → a < lo) {o : Out} {R' : Result → Shared → Prop} :
    ∀ (rest done : List T) (ρ : Rho) (s : Shared) (O : List (Str × Addr)) (W : List Addr), done ++ rest = l → Loops c n target body ρ rest o → Rel c env (W ++ M₀) O ρ s → (∀ a ∈ W, lo ≤ a) → lo ≤ s.heap.objs.size → St done.length W s →
      (∀ fl s' W', ChgG g (W ++ nOf c env O) s s' → (∀ a ∈ W', lo ≤ a) → Post c env (W' ++ M₀) O s.heap.objs.size o fl s' → R' (.ok fl) s') →
      codeAny (model c.prog c.w) A (.forLoop target (.ref it) body [] env) R' s := by
  intro rest
  induction rest with
  | nil =>
    intro done ρ s O W hl ht R hW hlo st kk
    cases ht
    rw [List.append_nil] at hl; subst hl
    refine codeAny_of_tree ?_
    show wpAny _ _ ((forTurn target (.ref it) body [] env).onRaise (fun x => do noteFrame x env; theTreesLotGoes x)) _ _ s
    refine wpAny_noted (wpAny_no ?_)
    unfold forTurn
    refine wpAny_bind (wpAny_standAt (wpAny_bind (wpAny_onRaise (wpAny_no (G.done W s _ st R.bas fun s' x => wpAny_pure ⟨rfl, codeAny_block (wpAny_execs_nil ?_)⟩)))))
    have hWc : ∀ a ∈ W, a ∈ W ++ M₀ ∧ ∀ y, (y, a) ∉ env.cells := fun a h => ⟨List.mem_append_left _ h, fun y q => absurd (hcl y a q) (Nat.not_lt.mpr (hW a h))⟩
    exact kk _ _ W (x.mono fun a h => .inl (List.mem_append_left _ h)) hW ⟨rfl, O, R.step x.h hWc, fun a h => .inl h⟩
  | cons t ts ih =>
    intro done ρ s O W hl ht R hW hlo st kk
    refine codeAny_of_tree ?_
    show wpAny _ _ ((forTurn target (.ref it) body [] env).onRaise (fun x => do noteFrame x env; theTreesLotGoes x)) _ _ s
    refine wpAny_noted (wpAny_no ?_)
    unfold forTurn
    have hitem : l[done.length]? = some t := by rw [← hl]; simp
    have hdone : (done ++ [t]) ++ ts = l := by rw [← hl]; simp
    have hWc : ∀ a ∈ W, a ∈ W ++ M₀ ∧ ∀ y, (y, a) ∉ env.cells := fun a h => ⟨List.mem_append_left _ h, fun y q => absurd (hcl y a q) (Nat.not_lt.mpr (hW a h))⟩
    refine wpAny_bind (wpAny_standAt (wpAny_bind (wpAny_onRaise (wpAny_no (G.item done.length t W s _ hitem st R.bas fun v s₁ W' x₁ st₁ hW' hv => ?_)))))
    have R₁ : Rel c env (W' ++ (W ++ M₀)) O ρ s₁ := (R.step x₁.h hWc).app hW' R x₁.h hWc
    refine wpAny_bind (G.owned _ _ s₁ target v _ _ st₁ ?_)
    have hWW : ∀ a ∈ W' ++ W, lo ≤ a := fun a h => (List.mem_append.mp h).elim (fun q => Nat.le_trans hlo (hW' a q).1) (hW a)
    have R₁' : Rel c env ((W' ++ W) ++ M₀) O ρ s₁ := by rw [List.append_assoc]; exact R₁
    have y1 : ChgG g (W ++ nOf c env O) s s₁ := x₁.mono fun a h => .inl (List.mem_append_left _ h)
    have hfr : ∀ s₃, Chg (nOf c env O) s₁ s₃ → St (done.length + 1) (W' ++ W) s₃ := fun s₃ x => G.frame _ _ _ _ st₁ (fun b hb o e => x.heap b o (fun h => R₁'.dis b h (List.mem_append_left _ hb)) e) (R₁.bas.keep x fun a h => (R₁.hi a (List.mem_append_left _ h)).1) x.size (fun y => x.gens g y)
    have dv : Den c.w (nOf c env O ++ ((W' ++ W) ++ M₀)) s₁.heap t v := hv _ fun a h => by
      rcases List.mem_append.mp h with h | h
      · exact .inl (R.hi a (List.mem_append_left _ h))
      · rcases List.mem_append.mp h with h | h
        · rcases List.mem_append.mp h with h | h
          · exact .inr h
          · exact .inl (R.hi a (List.mem_append_right _ (List.mem_append_left _ h)))
        · exact .inl (R.hi a (List.mem_append_right _ (List.mem_append_right _ h)))
    cases ht with
    | @next _ ρ₁ ρ₂ _ _ _ hb hbody hrest =>
      refine wpAny_bind (wp_bind rm.1 R₁' dv hb fun O' s₂ x₂ hO' R₂ => ?_)
      refine wpAny_bind (wpAny_imp (hbody.run A s₂ env ((W' ++ W) ++ M₀) O' rm R₂) fun fl s₃ ⟨x₃, e, O'', R₃, hO''⟩ => ?_)
      subst e
      refine wpAny_pure ⟨rfl, ?_⟩
      have x13 : Chg (nOf c env O) s₁ s₃ := Chg.trans x₂ x₃ fun a h => .inl (hO' a h)
      have st₃ : St (done ++ [t]).length (W' ++ W) s₃ := by
        rw [List.length_append]
        exact hfr s₃ x13
      have hsz : s.heap.objs.size ≤ s₂.heap.objs.size := Nat.le_trans x₁.size x₂.size
      have hnew : ∀ a ∈ nOf c env O'', a ∈ nOf c env O ∨ s.heap.objs.size ≤ a := fun a h => (hO'' a h).imp (hO' a) fun q => Nat.le_trans hsz q
      have x03 : ChgG g (W ++ nOf c env O) s s₃ := y1.trans (x13.g g) fun a h => .inl (List.mem_append_right _ h)
      refine ih (done ++ [t]) ρ₂ s₃ O'' (W' ++ W) hdone hrest R₃ hWW (Nat.le_trans hlo x03.size) st₃ fun fl s' W'' x hW'' p => kk fl s' W'' ?_ hW'' ?_
      · refine x03.trans x fun a h => ?_
        rcases List.mem_append.mp h with h | h
        · rcases List.mem_append.mp h with h | h
          · exact .inr (hW' a h).1
          · exact .inl (List.mem_append_left _ h)
        · exact (hnew a h).imp (List.mem_append_right _) id
      · exact p.chain hnew x03.size
    | @ret _ ρ₁ _ r _ b hb hbody =>
      refine wpAny_bind (wp_bind rm.1 R₁' dv hb fun O' s₂ x₂ hO' R₂ => ?_)
      refine wpAny_bind (wpAny_imp (hbody.run A s₂ env ((W' ++ W) ++ M₀) O' rm R₂) fun fl s₃ ⟨x₃, p⟩ => ?_)
      have : ∃ v, fl = .ret v := by
        cases b with
        | false => obtain ⟨v, e, _⟩ := p; exact ⟨v, e⟩
        | true => obtain ⟨v, l, a, vs, e, _⟩ := p; exact ⟨v, e⟩
      obtain ⟨v, e⟩ := this
      subst e
      refine wpAny_pure ?_
      have x13 : Chg (nOf c env O) s₁ s₃ := Chg.trans x₂ x₃ fun a h => .inl (hO' a h)
      refine kk _ _ (W' ++ W) (y1.trans (x13.g g) fun a h => .inl (List.mem_append_right _ h)) hWW ?_
      exact p.chain (fun a h => .inl (hO' a h)) (Nat.le_trans x₁.size x₂.size)

theorem Post.dropW {env : Env} {M₀ : List Addr} {O O₀ : List (Str × Addr)} {W : List Addr} {lo : Nat} {o : Out} {fl : Flow} {s s₀ : Shared} {ρ₀ : Rho} (R : Rel c env M₀ O₀ ρ₀ s₀) (h : Post c env (W ++ M₀) O lo o fl s) : Post c env M₀ O lo o fl s := by
  cases o with
  | next ρ =>
    obtain ⟨h1, O'', h2, h3⟩ := h
    exact ⟨h1, O'', R.dropM h2, h3⟩
  | ret t b =>
    cases b with
    | false =>
      obtain ⟨v, e, d⟩ := h
      exact ⟨v, e, Den.mono (fun a ha hm => ha (List.mem_append_right _ hm)) (fun _ _ _ e => e) t v d⟩
    | true =>
      obtain ⟨v, l, a, vs, h1, h2, h3, h4, h5, h6⟩ := h
      refine ⟨v, l, a, vs, h1, h2, h3, h4, h5, DenL.mono (fun b hb hm => hb ?_) (fun _ _ _ e => e) _ _ h6⟩
      rcases List.mem_cons.mp hm with rfl | hm
      · exact List.mem_cons_self
      · exact List.mem_cons_of_mem _ (List.mem_append_right _ hm)

theorem Ex1.forG {ρ : Rho} {target iter : Expr} {body : List Stmt} {pos : Pos} {l : List T} {o : Out} (hi : EvG c n ρ iter l) (hs : notSet iter = true) (ht : Loops c n target body ρ l o) : Ex1 c n ρ (.For target iter body [] pos) o := .mk fun A s env M₀ O rm R => by
  rw [exec_For]
  refine wpAny_bind (wpAny_standAt (wpAny_bind (wpAny_imp (hi.run A s env M₀ O rm R) fun xv s₁ hx => ?_)))
  obtain ⟨x₁, a, W, g, St, e, hg, hW, G, st⟩ := hx
  refine wpAny_bind (wpAny_of_eq (foldedSet_of hs xv) (wpAny_bind (wpAny_standAt (wpAny_bind (wpAny_holding ?_)))))
  subst e
  refine G.iter 0 W s₁ _ _ st (wpAny_runOwn ?_)
  have R₁ : Rel c env (W ++ M₀) O ρ s₁ := R.addM x₁ hW
  have hcl : ∀ y b, (y, b) ∈ env.cells → b < s.heap.objs.size := fun y b h =>
    (R.cellIn h).elim (fun q => R.lt b (List.mem_append_left _ q)) (fun q => R.lt b (List.mem_append_right _ q))
  have loop : codeAny (model c.prog c.w) A (.forLoop target (.ref a) body [] env) (fun r s' => match r with | .ok f => Chg (nOf c env O) s s' ∧ Post c env M₀ O s.heap.objs.size o f s' | .error e => NoE e s') s₁ := by
    refine gen_loop (lo := s.heap.objs.size) rm G hcl l [] ρ s₁ O W rfl ht R₁ (fun b h => (hW b h).1) x₁.size st fun fl s' W' x hW' p => ?_
    refine ⟨ChgG.back x₁.chg x hg fun b h => ?_, (p.dropW R).chain (fun a h => .inl h) x₁.size⟩
    rcases List.mem_append.mp h with h | h
    · exact .inr (hW b h).1
    · exact .inl h
  refine codeAny_mono loop fun r s' h => ?_
  cases r with
  | ok f => exact h
  | error e => exact h.elim
end
end Mine
end

section
set_option autoImplicit false
set_option linter.unusedVariables false
set_option linter.unusedSimpArgs false
namespace Mine
open PySem PySem.Calls PyProof.Rows PySem.SeqAt

noncomputable def Agree (c : Cx) (W : List Addr) (s s₁ : Shared) : Prop := (∀ b ∈ W, ∀ o, s.heap.get? b = some o → s₁.heap.get? b = some o) ∧ Bas c s₁ ∧ s.heap.objs.size ≤ s₁.heap.objs.size

/-- the generator's next stretch comes to Φ -/
noncomputable def Res (M : Model) (A : Around) : GenState → Shared → (End → Shared → Prop) → Prop
  | .fresh c, s, Φ => PySem.W.X.SegX M A c (denote table c) [] s Φ
  | .suspended k _ c _ fs _, s, Φ => PySem.W.X.SegX M A c (k (.send .none)) fs s Φ
  | _, _, _ => False

noncomputable def Going (c : Cx) (A : Around) (g : Nat) : List T → List Addr → GenState → Shared → Prop
  | [], W, gs, s => ∀ s₁, Agree c W s s₁ → Res (model c.prog c.w) A gs s₁ (fun e s' => e = .ret (.ok (.ret .none)) ∧ ChgG g W s₁ s')
  | t :: ts, W, gs, s => ∀ s₁, Agree c W s s₁ → Res (model c.prog c.w) A gs s₁ (fun e s' => (∃ v lv k c' p fs, e = .susp v false lv k c' p fs ∧ ∃ W', ChgG g W s₁ s' ∧ (∀ a ∈ W', s₁.heap.objs.size ≤ a ∧ a < s'.heap.objs.size) ∧
      (∀ M', (∀ a ∈ M', (c.H.objs.size ≤ a ∧ a < s₁.heap.objs.size) ∨ a ∈ W') → Den c.w M' s'.heap t v) ∧ Going c A g ts (W' ++ W) e.genState s'))

section
variable {prog : Program} {w : World} {A : Around} {E : Value → Shared → Prop} {s : Shared}

theorem next_res {a : Addr} {g : Nat} {gs : GenState} {Φ : End → Shared → Prop} {Q : Option Value → Shared → Prop} (hh : A.handled = none)
    (hl : s.heap.NoLimit) (hroom : A.depth < recursionLimit) (hg : s.heap.IsGen a g) (hgs : s.gens[g]? = some gs)
    (hgo : Res (model prog w) A.in1 gs (s.setGen g .running) Φ)
    (hΦ : ∀ e s₁, e.quiet = true → Φ e s₁ → (e = .ret (.ok (.ret .none)) ∧ ∀ h', (∀ b o, s₁.heap.get? b = some o → h'.get? b = some o) → Q none { s₁.setGen g .finished with heap := h' }) ∨
      (∃ v q l k c p fs, e = .susp v q l k c p fs ∧ Q (some v) (s₁.setGen g e.genState))) :
    wpAny (model prog w) A (pyNext (.ref a)) Q E s := by
  unfold pyNext
  refine wpAny_bind (wpAny_attempt (wpAny_callSpecial?_slot (name := Str.ofString "__next__") hg.typeIs slot_gen_next
    (wpAny_call_entry slot_gen_next hg.typeIs entry_gen_next ?_ (args_gen_next _))))
  show wpAny _ _ (Builtin.Generator.genWake (.ref a) (.send .none)) _ _ s
  unfold Builtin.Generator.genWake
  refine wpAny_bind (wpAny_holding (wpAny_genNumber hg (wpAny_bind (wpAny_genState hgs ?_))))
  have main : ∀ {α : Type} {k : GenResult → Sem α} {Q' : α → Shared → Prop} {E' : Value → Shared → Prop}, (∀ e s₁, e.quiet = true → Φ e s₁ → wpAny (model prog w) A.in1 (k e.result) Q' E' (s₁.setGen g e.genState)) → wpAny (model prog w) A.in1 (.resume g (.send .none) [] k) Q' E' s := by
    intro α k Q' E' hk
    have key : ∀ (c₀ : Code) (t₀ : Sem Fin) (fs₀ : List Frame), ((gs = .fresh c₀ ∧ Resume.send .none = .send .none ∧ t₀ = denote table c₀ ∧ fs₀ = []) ∨ (∃ k₀ l₀ p₀ cl, gs = .suspended k₀ l₀ c₀ p₀ fs₀ cl ∧ t₀ = k₀ (.send .none))) →
        PySem.W.X.SegX (model prog w) A.in1 c₀ t₀ fs₀ (s.setGen g .running) Φ → wpAny (model prog w) A.in1 (.resume g (.send .none) [] k) Q' E' s := by
      intro c₀ t₀ fs₀ hd hx
      have hx' : PySem.W.X.SegX (model prog w) A.in1 c₀ t₀ fs₀ (s.setGen g .running) (fun e s₁ => e.quiet = true ∧ Φ e s₁) := fun Γ p hc hΓ => by
        obtain ⟨e, s', hr, hq, hp⟩ := hx Γ p hc hΓ
        exact ⟨e, s', hr, hq, hq, hp⟩
      exact PySem.W.X.wake_any α prog w hgs hd (fun Γ => Γ.In A.in1) (fun _ h => h) (hx'.mono fun e s₁ h Γ p hΓ => hk e s₁ h.1 h.2 Γ p hΓ)
    cases gs with
    | fresh c => exact key c _ [] (.inl ⟨rfl, rfl, rfl, rfl⟩) hgo
    | suspended k₀ l₀ c₀ p₀ fs₀ cl => exact key c₀ _ fs₀ (.inr ⟨k₀, l₀, p₀, cl, rfl, rfl⟩) hgo
    | running => exact hgo.elim
    | finished => exact hgo.elim
  cases gs with
  | running => exact hgo.elim
  | finished => exact hgo.elim
  | _ =>
    refine wpAny_bind (wpAny_roomToWake hl hroom ?_)
    show wpAny _ _ (.resume g (.send .none) [] _) _ _ s
    refine main fun e s₁ hq he => ?_
    rcases hΦ e s₁ hq he with ⟨rfl, hp⟩ | ⟨v, q, l, k, c', p, fs, rfl, hv⟩
    · show wpAny _ _ (newExc (.type "StopIteration") [] >>= _) _ _ _
      refine wpAny_bind ?_
      simp only [newExc, newTuple]
      refine wpAny_bind (wpAny_newObj_type ?_ (by size_fits))
      refine wpAny_bind (m := firstArgMember _ _) (wpAny_of_eq (a := Value.none) (by first | rfl | (simp only [firstArgMember]; rfl)) ?_)
      refine wpAny_newObj_type ?_ (by size_fits)
      simp only [raiseNew]
      refine wpAny_bind (wpAny_bind (wpAny_handled ?_))
      rw [show A.in1.handled = none from hh]
      refine wpAny_throw ?_
      refine wpAny_bind (wpAny_isInstance (T := "StopIteration") (b := true) ⟨_, Heap.get?_push_size _ rfl, rfl⟩ isSubtype_stop ?_)
      exact wpAny_pure (hp _ fun b o hb => Heap.get?_push_of_some _ (Heap.get?_push_of_some _ hb))
    · exact wpAny_pure ⟨v, rfl, wpAny_pure hv⟩
end

section
variable {c : Cx} {n : Nat}

noncomputable def GSt (c : Cx) (A : Around) (it : Addr) (g : Nat) (l : List T) (i : Nat) (W : List Addr) (s : Shared) : Prop :=
  it ∈ W ∧ s.heap.IsGen it g ∧ ∃ gs W₀, s.gens[g]? = some gs ∧ (∀ b ∈ W₀, b ∈ W) ∧ it ∉ W₀ ∧ Going c A.in1 g (l.drop i) W₀ gs s

theorem Going.agree {A : Around} {g : Nat} {l : List T} {W : List Addr} {gs : GenState} {s s' : Shared} (h : Going c A g l W gs s) (hk : ∀ b ∈ W, ∀ o, s.heap.get? b = some o → s'.heap.get? b = some o) (hs : s.heap.objs.size ≤ s'.heap.objs.size) : Going c A g l W gs s' := by
  cases l with
  | nil => exact fun s₁ x => h s₁ ⟨fun b hb o e => x.1 b hb o (hk b hb o e), x.2.1, Nat.le_trans hs x.2.2⟩
  | cons t ts => exact fun s₁ x => h s₁ ⟨fun b hb o e => x.1 b hb o (hk b hb o e), x.2.1, Nat.le_trans hs x.2.2⟩

theorem bas_gen {s : Shared} {g : Nat} {x : GenState} (B : Bas c s) : Bas c (s.setGen g x) := ⟨B.heap, B.size, B.toks, B.lim⟩
theorem chgG_set {s : Shared} {g : Nat} {x y : GenState} {N : List Addr} (h : s.gens[g]? = some x) (hy : y.bare = true) : ChgG g N s (s.setGen g y) :=
  ⟨fun _ _ _ e => e, Nat.le_refl _, fun i z hi e => (GenOnly.setGen s g y).2 i hi ▸ e, fun b => (GenOnlyQ.of (GenOnly.setGen s g y) (setGen_self h) hy).bare b, rfl, Nat.le_refl _, Nat.le_of_eq (GenOnly.setGen s g y).1.symm⟩

theorem GWalk.of {A : Around} {m : Nat} (rm : Room A m) {it g : Addr} {l : List T} : GWalk c A it g l (GSt c A it g l) where
  self := fun i W s st => st.1
  frame := fun i W s s' st hk B hs hg => by
    obtain ⟨h1, h2, gs, W₀, h3, h5, h6, h4⟩ := st
    refine ⟨h1, ?_, gs, W₀, hg _ h3, h5, h6, h4.agree (fun b hb => hk b (h5 b hb)) hs⟩
    obtain ⟨o, nm, qn, ho, r⟩ := h2
    exact ⟨o, nm, qn, hk it h1 o ho, r⟩
  item := fun i t W s Q hi st B k => by
    obtain ⟨h1, h2, gs, W₀, h3, h5, h6, h4⟩ := st
    have hd : l.drop i = t :: l.drop (i + 1) := by
      obtain ⟨hlt, e⟩ := List.getElem?_eq_some_iff.mp hi
      rw [← e]; exact List.drop_eq_getElem_cons hlt
    rw [hd] at h4
    have hroom : A.depth < recursionLimit := by have := rm.2.1; have e : recursionLimit = 1000 := rfl; rw [e]; omega
    have hit : it < s.heap.objs.size := let ⟨o, nm, qn, ho, r⟩ := h2; Heap.lt_size ho
    refine next_res rm.1 (nolim B) hroom h2 h3 (h4 (s.setGen g .running) ⟨fun _ _ _ e => e, bas_gen B, Nat.le_refl _⟩) fun e s₁ hq hx => ?_
    obtain ⟨v, lv, kk, c', p, fs, e1, W', x, hW', hv, hgo⟩ := hx
    refine .inr ⟨v, false, lv, kk, c', p, fs, e1, ?_⟩
    have x0 : ChgG g W₀ s (s.setGen g .running) := chgG_set h3 rfl
    have hb : e.genState.bare = true := PySem.End.bare_of_quiet hq
    have x1 := x0.trans x fun a h => .inl h
    have hlt : g < s₁.gens.size := Nat.lt_of_lt_of_le (Array.getElem?_eq_some_iff.mp h3).1 x1.gsz
    have hy : s₁.gens[g]? = some s₁.gens[g] := Array.getElem?_eq_getElem hlt
    have x2 : ChgG g W₀ s₁ (s₁.setGen g e.genState) := chgG_set hy hb
    have x3 := x1.trans x2 fun a h => .inl h
    refine k v _ W' (x3.mono fun a h => .inl (h5 a h)) ⟨List.mem_append_right _ h1, ?_, _, W' ++ W₀, setGen_self hy, fun b hb => ?_, fun hb => ?_, hgo.agree (fun _ _ _ e => e) (Nat.le_refl _)⟩ hW' hv
    · obtain ⟨o, nm, qn, ho, r⟩ := h2
      exact ⟨o, nm, qn, x3.heap it o h6 ho, r⟩
    · rcases List.mem_append.mp hb with h | h
      · exact List.mem_append_left _ h
      · exact List.mem_append_right _ (h5 b h)
    · rcases List.mem_append.mp hb with h | h
      · exact absurd hit (Nat.not_lt.mpr (hW' it h).1)
      · exact h6 h
  done := fun W s Q st B k => by
    obtain ⟨h1, h2, gs, W₀, h3, h5, h6, h4⟩ := st
    have hd : l.drop l.length = [] := List.drop_length
    rw [hd] at h4
    have hroom : A.depth < recursionLimit := by have := rm.2.1; have e : recursionLimit = 1000 := rfl; rw [e]; omega
    refine wp_grow (next_res rm.1 (nolim B) hroom h2 h3 (h4 (s.setGen g .running) ⟨fun _ _ _ e => e, bas_gen B, Nat.le_refl _⟩) fun e s₁ hq hx => .inl ⟨hx.1, fun h' hk hz ht => ?_⟩)
    have x := hx.2
    have x0 : ChgG g W₀ s (s.setGen g .running) := chgG_set h3 rfl
    have x1 := x0.trans x fun a h => .inl h
    have hlt : g < s₁.gens.size := Nat.lt_of_lt_of_le (Array.getElem?_eq_some_iff.mp h3).1 x1.gsz
    have hy : s₁.gens[g]? = some s₁.gens[g] := Array.getElem?_eq_getElem hlt
    have x2 : ChgG g W₀ s₁ (s₁.setGen g .finished) := chgG_set hy rfl
    have x3 := x1.trans x2 fun a h => .inl h
    exact k _ ⟨fun b o hb e => hk b o (x3.heap b o (fun q => hb (h5 b q)) e), hz, x3.gens, x3.bare, x3.os, x3.toks, x3.gsz⟩
  iter := fun i W s Q E st h => wpAny_pyIter_gen st.2.1 h
  owned := fun i W s target v Q E st h => by
    obtain ⟨h1, ⟨o, nm, qn, ho, hc, hd, hs⟩, _⟩ := st
    exact wp_owned ho hc (by decide) h
end
end Mine
end

section
set_option autoImplicit false
set_option linter.unusedVariables false
set_option linter.unusedSimpArgs false
namespace Mine
open PySem PySem.Calls PyProof.Rows PySem.SeqAt PySem.W.X

section
variable {prog : Program} {w : World} {A : Around} {c : Code} {fs : List Frame} {P : End → Shared → Prop} {s : Shared} {K : Flow → Sem Fin} {H : Value → Sem Fin}

/-- a part of a generator's stretch -/
theorem g_wrap {α : Type} {m : Sem α} {K : α → Sem Fin} (h : wpAny (model prog w) (A.over c fs) m (fun a s' => SegX (model prog w) A c (K a) fs s' P) NoE s) : SegX (model prog w) A c (m.wrap K H id id) fs s P := by
  rintro Γ p rfl hΓ
  obtain ⟨e, s', hr, hq⟩ := runs_wrap_of_wp (Φ := fun e s' => e.quiet = true ∧ P e s') K H id id m (h (Γ.over fs) p (hΓ.over fs)) (fun a p' s' h' => by
    obtain ⟨e, s'', x, y⟩ := h' Γ p' rfl hΓ
    exact ⟨e, s'', x, y⟩) (fun x p' s' h' => h'.elim)
  exact ⟨e, s', hr, hq⟩
theorem g_bind {α β : Type} {m : Sem α} {f : α → Sem β} {K : β → Sem Fin} (h : wpAny (model prog w) (A.over c fs) m (fun a s' => SegX (model prog w) A c ((f a).wrap K H id id) fs s' P) NoE s) : SegX (model prog w) A c ((m >>= f).wrap K H id id) fs s P := by
  rw [Sem.bind_eq_wrap', Sem.wrap_wrap]
  exact g_wrap h
theorem g_bind' {α β : Type} {m : Sem α} {f : α → Sem β} {K : β → Sem Fin} (h : SegX (model prog w) A c (m.wrap (fun a => (f a).wrap K H id id) H id id) fs s P) : SegX (model prog w) A c ((m >>= f).wrap K H id id) fs s P := by
  rw [Sem.bind_eq_wrap', Sem.wrap_wrap]
  exact h

theorem g_cons {env : Env} {st : Stmt} {rest : List Stmt} (h : SegX (model prog w) A c ((exec st env).wrap (fun f => match f with | .next => (execs rest env).wrap K H id id | f => K f) H id id) fs s P) :
    SegX (model prog w) A c ((execs (st :: rest) env).wrap K H id id) fs s P := by rw [execs_cons_wrap]; exact h

theorem g_yield {env : Env} {e : Expr} {ypos pos : Pos} (hco : env.scope.isCoroutine = false) (hk : env.scope.kind = .function) (hfs : splitAtGen fs = none) (hfg : fs.any Frame.guarded = false)
    (h : wpAny (model prog w) (A.over c fs) (eval e env) (fun v s' => ∀ l k p, (∀ A' s'' P', SegX (model prog w) A' c (K .next) fs s'' P' → SegX (model prog w) A' c (k (.send .none)) fs s'' P') → P (.susp v false l k c p fs) s') NoE s) :
    SegX (model prog w) A c ((exec (.Expr (.Yield (some e) ypos) pos) env).wrap K H id id) fs s P := by
  rw [exec_Expr env _ pos (by unfold interactive; rw [hk]; rfl) rfl]
  have hy : ∀ v, yieldOut env v = yieldValue v := fun v => by simp only [yieldOut, hco, Bool.false_eq_true, if_false]
  refine g_bind (wpAny_standAt ?_)
  refine g_bind' ?_
  show SegX (model prog w) A c ((eval e env >>= fun v => (standAt ypos >>= fun _ => yieldOut env v)).wrap _ H id id) fs s P
  refine g_bind (wpAny_imp h fun v s' h' => ?_)
  simp only [hy]
  refine g_bind (wpAny_standAt ?_)
  refine s_yield prog w A c fs P s' v _ _ hfs hfg fun p => h' _ _ p fun A' s'' P' hx => ?_
  exact hx

theorem g_if {env : Env} {t : Expr} {a b : List Stmt} {pos : Pos} (h : wpAny (model prog w) (A.over c fs) (isTrue t env (eval t env)) (fun q s' => SegX (model prog w) A c ((execs (if q = true then a else b) env).wrap K H id id) fs s' P) NoE s) :
    SegX (model prog w) A c ((exec (.If t a b pos) env).wrap K H id id) fs s P := by
  rw [exec_If]
  refine g_bind (wpAny_standAt (g_bind (wpAny_imp h fun q s' h' => ?_)))
  cases q <;> exact h'

theorem g_for {env : Env} {target iter : Expr} {body : List Stmt} {pos : Pos} (hs : notSet iter = true)
    (h : wpAny (model prog w) (A.over c fs) (eval iter env) (fun x s₁ => wpAny (model prog w) (A.over c fs) (pyIter x) (fun it s₂ => ∀ k p l, (∀ A' s' P', SegX (model prog w) A' c (K .next) fs s' P' → SegX (model prog w) A' c (k (.ok .next)) fs s' P') →
      SegX (model prog w) A (.forLoop target it body [] env) (denote table (.forLoop target it body [] env)) (.ret k none false l c p [] :: fs) s₂ P) NoE s₁) NoE s) :
    SegX (model prog w) A c ((exec (.For target iter body [] pos) env).wrap K H id id) fs s P := by
  rw [exec_For]
  refine g_bind (wpAny_standAt ?_)
  refine g_bind (wpAny_imp h fun x s₁ h₁ => ?_)
  refine g_bind (wpAny_of_eq (foldedSet_of hs x) ?_)
  refine g_bind (wpAny_standAt ?_)
  refine g_bind (wpAny_holding (wpAny_imp h₁ fun it s₂ h₂ => ?_))
  refine s_call prog w A c fs P s₂ (.forLoop target it body [] env) none false _ _ fun p => h₂ _ p _ fun A' s' P' hx => ?_
  exact hx

theorem g_func {body : List Stmt} {env : Env}
    (h : ∀ H, SegX (model prog w) A (.func body env) ((execs body env).wrap (fun f => .pure (.done (.ret (match f with | .ret v => v | _ => .none)))) H id id) fs s P) :
    SegX (model prog w) A (.func body env) (denote table (.func body env)) fs s P := by
  refine s_skim prog w A _ fs P s _ 1 ?_
  show SegX (model prog w) A (.func body env) (((execs body env).onRaise (leaving env)) >>= _) fs s P
  rw [Sem.onRaise_eq_wrap, Sem.bind_eq_wrap', Sem.wrap_wrap]
  rw [Sem.wrap_congr (execs body env) _ _ (K' := fun f => .pure (.done (.ret (match f with | .ret v => v | _ => .none))))
    (H' := fun e => (leaving env e).wrap (fun _ => .raise e) .raise id id) (fun f => by cases f <;> rfl)
    (fun e => by rw [Sem.bind_eq_wrap, Sem.wrap_wrap]; rfl)]
  exact h _

theorem g_turn0 {env : Env} {target : Expr} {it : Value} {body : List Stmt}
    (h : wpAny (model prog w) (A.over (.forLoop target it body [] env) fs) (pyNext it) (fun r s₁ => match r with
      | none => SegX (model prog w) A (.forLoop target it body [] env) (.pure (.again (.block [] env))) fs s₁ P
      | some v => wpAny (model prog w) (A.over (.forLoop target it body [] env) fs) (letOwnedTupleGo target it v) (fun _ s₂ => wpAny (model prog w) (A.over (.forLoop target it body [] env) fs) (assign target env v) (fun _ s₃ =>
          SegX (model prog w) A (.forLoop target it body [] env) ((execs body env).wrap (fun f => match f with
            | .next | .cont => .pure (.again (.forLoop target it body [] env))
            | .brk => .pure (.done .next)
            | .ret v => .pure (.done (.ret v))) H id id) fs s₃ P) NoE s₂) NoE s₁) NoE s) :
    SegX (model prog w) A (.forLoop target it body [] env) ((forTurn target it body [] env).wrap .pure H id id) fs s P := by
  unfold forTurn
  refine g_bind (wpAny_standAt ?_)
  refine g_bind (wpAny_onRaise (wpAny_no (wpAny_imp h fun r s₁ h₁ => ?_)))
  cases r with
  | none => exact h₁
  | some v =>
    refine g_bind (wpAny_imp h₁ fun _ s₂ h₂ => ?_)
    refine g_bind (wpAny_imp h₂ fun _ s₃ h₃ => ?_)
    refine g_bind' ?_
    rw [Sem.wrap_congr (execs body env) _ _ (K' := fun f => match f with
            | .next | .cont => .pure (.again (.forLoop target it body [] env))
            | .brk => .pure (.done .next)
            | .ret v => .pure (.done (.ret v))) (H' := H) (fun f => by cases f <;> rfl) (fun e => rfl)]
    exact h₃
theorem g_turn {env : Env} {target : Expr} {it : Value} {body : List Stmt}
    (h : ∀ H, wpAny (model prog w) (A.over (.forLoop target it body [] env) fs) (pyNext it) (fun r s₁ => match r with
      | none => SegX (model prog w) A (.forLoop target it body [] env) (.pure (.again (.block [] env))) fs s₁ P
      | some v => wpAny (model prog w) (A.over (.forLoop target it body [] env) fs) (letOwnedTupleGo target it v) (fun _ s₂ => wpAny (model prog w) (A.over (.forLoop target it body [] env) fs) (assign target env v) (fun _ s₃ =>
          SegX (model prog w) A (.forLoop target it body [] env) ((execs body env).wrap (fun f => match f with
            | .next | .cont => .pure (.again (.forLoop target it body [] env))
            | .brk => .pure (.done .next)
            | .ret v => .pure (.done (.ret v))) H id id) fs s₃ P) NoE s₂) NoE s₁) NoE s) :
    SegX (model prog w) A (.forLoop target it body [] env) (denote table (.forLoop target it body [] env)) fs s P := by
  show SegX (model prog w) A _ ((forTurn target it body [] env).onRaise (fun x => do noteFrame x env; theTreesLotGoes x)) fs s P
  rw [Sem.onRaise_eq_wrap]
  exact g_turn0 (h _)
end
end Mine
end

section
set_option autoImplicit false
set_option linter.unusedVariables false
set_option linter.unusedSimpArgs false
namespace Mine
open PySem PySem.Calls PyProof.Rows PySem.SeqAt PySem.W.X

/-- data that lie nowhere -/
noncomputable def flat : T → Bool
  | .none | .bool _ | .int _ | .float _ | .str _ => true
  | _ => false
theorem Den.flat {w : World} {M M' : List Addr} {h h' : Heap} {t : T} {v : Value} (hf : flat t = true) (d : Den w M h t v) : Den w M' h' t v := by
  cases t <;> first | exact d | simp [Mine.flat] at hf
noncomputable def FlatRho (ρ : Rho) : Prop := ∀ x u, ρ.lookup x = some u → ∃ t, u = .sh t ∧ flat t = true

section
variable {c : Cx} {n : Nat} {env : Env} {ρ : Rho} {s s₁ : Shared}

theorem Rel.noCells {M : List Addr} (R : Rel c env [] [] ρ s) (hc : c.cel = []) : ∀ x a, (x, a) ∉ env.cells := fun x a h => by
  rcases (R.cells x a h).2 with q | q
  · rw [hc] at q; simp at q
  · simp at q

theorem Rel.agree (R : Rel c env [] [] ρ s) (hc : c.cel = []) (hf : FlatRho ρ) (hk : ∀ o, s.heap.get? env.locals = some o → s₁.heap.get? env.locals = some o) (B : Bas c s₁) (hs : s.heap.objs.size ≤ s₁.heap.objs.size) : Rel c env [] [] ρ s₁ where
  bas := B
  names := R.names
  kind := R.kind
  glob := R.glob
  blt := R.blt
  nd := R.nd
  hi := fun a ha => ⟨(R.hi a ha).1, Nat.lt_of_lt_of_le (R.hi a ha).2 hs⟩
  dis := R.dis
  loc := let ⟨m, hm⟩ := R.loc; ⟨m, hm.at' hk⟩
  cells := fun x a h => absurd h (R.noCells (M := []) hc x a)
  call := R.call
  vars := fun x u h => by
    obtain ⟨v, h1, h2⟩ := R.vars x u h
    obtain ⟨t, rfl, ht⟩ := hf x u h
    exact ⟨v, h1.mono hk (fun a q => absurd q (R.noCells (M := []) hc x a)), Den.flat (t := t) ht h2⟩

/-- all that lies in the heap, but for what is the block's own -/
noncomputable def allM (c : Cx) (env : Env) (s : Shared) : List Addr := (List.range s.heap.objs.size).filter fun a => decide (c.H.objs.size ≤ a) && !(nOf c env []).contains a
theorem mem_all {a : Addr} (h1 : c.H.objs.size ≤ a) (h2 : a < s.heap.objs.size) : a ∈ nOf c env [] ++ (allM c env s ++ []) := by
  by_cases h : a ∈ nOf c env []
  · exact List.mem_append_left _ h
  · refine List.mem_append_right _ (List.mem_append_left _ (List.mem_filter.mpr ⟨List.mem_range.mpr h2, ?_⟩))
    have : decide (c.H.objs.size ≤ a) = true := decide_eq_true h1
    rw [this]; simpa using h
theorem Rel.flatM {M : List Addr} (R : Rel c env [] [] ρ s) (hc : c.cel = []) (hf : FlatRho ρ) (hM : ∀ a ∈ M, (c.H.objs.size ≤ a ∧ a < s.heap.objs.size) ∧ a ∉ nOf c env []) : Rel c env (M ++ []) [] ρ s where
  bas := R.bas
  names := R.names
  kind := R.kind
  glob := R.glob
  blt := R.blt
  nd := R.nd
  hi := fun a ha => by
    rcases List.mem_append.mp ha with h | h
    · exact R.hi a (List.mem_append_left _ h)
    · rw [List.append_nil] at h
      exact (hM a h).1
  dis := fun a ha h => by
    rw [List.append_nil] at h
    exact (hM a h).2 ha
  loc := R.loc
  cells := fun x a h => absurd h (R.noCells (M := []) hc x a)
  call := R.call
  vars := fun x u h => by
    obtain ⟨v, h1, h2⟩ := R.vars x u h
    obtain ⟨t, rfl, ht⟩ := hf x u h
    exact ⟨v, h1, Den.flat (t := t) ht h2⟩
theorem allM_ok {s' : Shared} (hs : s.heap.objs.size ≤ s'.heap.objs.size) : ∀ a ∈ Mine.allM c env s, (c.H.objs.size ≤ a ∧ a < s'.heap.objs.size) ∧ a ∉ nOf c env [] := fun a h => by
  obtain ⟨h1, h2⟩ := List.mem_filter.mp h
  simp only [Bool.and_eq_true, decide_eq_true_eq, Bool.not_eq_true', List.contains_eq_mem, decide_eq_false_iff_not] at h2
  exact ⟨⟨h2.1, Nat.lt_of_lt_of_le (List.mem_range.mp h1) hs⟩, h2.2⟩
theorem Rel.allM (R : Rel c env [] [] ρ s) (hc : c.cel = []) (hf : FlatRho ρ) : Rel c env (Mine.allM c env s ++ []) [] ρ s := R.flatM hc hf (allM_ok (Nat.le_refl _))

noncomputable def PN (c : Cx) (A : Around) (g : Nat) : List T → List Addr → Shared → End → Shared → Prop
  | [], W, s₁ => fun e s' => e = .ret (.ok (.ret .none)) ∧ ChgG g W s₁ s'
  | t :: ts, W, s₁ => fun e s' => (∃ v lv k c' p fs, e = .susp v false lv k c' p fs ∧ ∃ W', ChgG g W s₁ s' ∧ (∀ a ∈ W', s₁.heap.objs.size ≤ a ∧ a < s'.heap.objs.size) ∧
      (∀ M', (∀ a ∈ M', (c.H.objs.size ≤ a ∧ a < s₁.heap.objs.size) ∨ a ∈ W') → Den c.w M' s'.heap t v) ∧ Going c A g ts (W' ++ W) e.genState s')
theorem going_iff {A : Around} {g : Nat} {l : List T} {W : List Addr} {gs : GenState} : Going c A g l W gs s ↔ ∀ s₁, Agree c W s s₁ → Res (model c.prog c.w) A gs s₁ (PN c A g l W s₁) := by
  cases l <;> rfl

theorem room_func {A : Around} {body : List Stmt} (rm : Room A (n + 2)) : Room (A.in1.over (.func body env) []) n := by
  obtain ⟨h1, h2, h3⟩ := rm
  refine ⟨h1, ?_, ?_⟩
  · show A.depth + 0 + 1 + n < 800
    lia
  · show A.units + 1 + 0 + 3 + 8 * n < 9000
    lia
theorem room_for {A : Around} {t : Expr} {it : Value} {b o body : List Stmt} {k : Result → Sem Fin} {l : List Value} {p : Pos} (rm : Room A (n + 2)) : Room (A.in1.over (.forLoop t it b o env) [.ret k none false l (.func body env) p []]) n := by
  obtain ⟨h1, h2, h3⟩ := rm
  refine ⟨h1, ?_, ?_⟩
  · show A.depth + (1 + 0) + 0 + n < 800
    lia
  · show A.units + 1 + (3 + 0) + 0 + 8 * n < 9000
    lia

/-- an assignment, the block's own as it was -/
theorem assign_sh {M₀ : List Addr} {A : Around} {x : Str} {e : Expr} {p pos : Pos} {t : T} (h : Ev c n ρ e t) (hn : notComp e = true) (hc : canStore c x = true) (rm : Room A n) (R : Rel c env M₀ [] ρ s) :
    wpAny (model c.prog c.w) A (exec (.Assign [.Name x p] e pos) env) (fun fl s' => Chg (nOf c env []) s s' ∧ fl = .next ∧ Rel c env M₀ [] (put x (.sh t) ρ) s') NoE s :=
  wpAny_Assign_Name (h.go rm R fun v s' y R' d => wp_store (u := .sh t) R y d hc fun s'' z R'' => ⟨Chg.trans y.chg z fun a h => .inl h, rfl, by rw [ownPut_sh] at R''; exact R''⟩) (swaps_of hn _ _ _)

/-- what a generator's own iterator changes -/
theorem Rel.drop0 {X : List Addr} {ρ' : Rho} {s₂ : Shared} (R : Rel c env [] [] ρ s) (R₂ : Rel c env (X ++ []) [] ρ' s₂) : Rel c env [] [] ρ' s₂ := R.dropM R₂
end
end Mine
end

section
set_option autoImplicit false
set_option linter.unusedVariables false
set_option linter.unusedSimpArgs false
namespace Mine
open PySem PySem.Calls PyProof.Rows PySem.SeqAt

theorem flatMap_one {α β : Type} (o : α → β) (l : List α) : l.flatMap (fun a => [o a]) = l.map o := by
  induction l with
  | nil => rfl
  | cons a l ih => rw [List.flatMap_cons, ih]; rfl

/-- all that ρ says ρ' says -/
noncomputable abbrev Sub (ρ ρ' : Rho) : Prop := ∀ x u, ρ.lookup x = some u → ρ'.lookup x = some u
theorem Sub.nil {ρ' : Rho} : Sub [] ρ' := fun _ _ h => by simp at h
theorem Sub.cons {ρ ρ' : Rho} {x : Str} {u : Var} (h : ρ'.lookup x = some u) (r : Sub ρ ρ') : Sub ((x, u) :: ρ) ρ' := fun y w e => by
  rw [List.lookup_cons] at e
  by_cases hy : y = x
  · subst hy; simp at e; subst e; exact h
  · rw [show (y == x) = false by simpa using hy] at e; exact r y w e
theorem Sub.one {ρ' : Rho} {x : Str} {u : Var} (h : ρ'.lookup x = some u) : Sub [(x, u)] ρ' := .cons h .nil

section
variable {c : Cx} {n : Nat}

theorem strsOf_map : ∀ l : List Str, strsOf (l.map .str) = some l
  | [] => rfl
  | x :: l => by show (strsOf (l.map .str)).map (x :: ·) = _; rw [strsOf_map l]; rfl
theorem Ev.joinS {ρ : Rho} {o e : Expr} {apos pos : Pos} {x : Str} {l : List Str} (ho : EvB c n ρ o (.str x)) (he : EvB c n ρ e (.list (l.map .str))) (hn : noSuper o = true) (hs : notStar e = true) (hl : (apos.endLine == pos.line) = true)
    (hz : (l.map (·.length)).sum + l.length * x.length ≤ 16777216) : Ev c n ρ (.Call (.Attribute o "join" apos) [e] [] pos) (.str (Txt.join x l)) := by
  refine @Ev.meth1 _ _ _ _ _ _ _ _ (.str x) (.list (l.map .str)) _ ho he hn hs hl ?_
  unfold meth
  rw [if_pos (by decide)]
  dsimp only
  rw [strsOf_map]
  exact if_pos hz
/-- as fold, with something that holds at r items to come -/
theorem Loops.foldI {σ α : Type} (R : σ → Rho) (f : σ → α → σ) (g : α → T) (I : Nat → σ → Prop) {target : Expr} {body : List Stmt} : ∀ (l : List α) (s : σ), I l.length s → (∀ s a r, a ∈ l → I (r + 1) s → I r (f s a) ∧ ∃ ρ₁, bindT c target (g a) (R s) = some ρ₁ ∧ Ex c n ρ₁ body (.next (R (f s a)))) →
    Loops c n target body (R s) (l.map g) (.next (R (l.foldl f s)))
  | [], s, _, _ => .nil
  | a :: l, s, hi, h => by
    obtain ⟨h0, ρ₁, h1, h2⟩ := h s a l.length List.mem_cons_self hi
    exact .next h1 h2 (Loops.foldI R f g I l (f s a) h0 fun s b r hb => h s b r (List.mem_cons_of_mem _ hb))

noncomputable def StepOk (c : Cx) (n : Nat) {σ : Type} (R : σ → Rho) (r : T) (b : Bool) (ρ₁ : Rho) (body : List Stmt) : Option σ → Prop
  | some s' => Ex c n ρ₁ body (.next (R s'))
  | none => Ex c n ρ₁ body (.ret r b)
noncomputable def outM {σ : Type} (R : σ → Rho) (r : T) (b : Bool) : Option σ → Out
  | some s' => .next (R s')
  | none => .ret r b
/-- a loop that may give a result back -/
theorem Loops.foldM {σ α : Type} (R : σ → Rho) (f : σ → α → Option σ) (g : α → T) (r : T) (b : Bool) {target : Expr} {body : List Stmt} : ∀ (l : List α) (s : σ), (∀ s a, a ∈ l → ∃ ρ₁, bindT c target (g a) (R s) = some ρ₁ ∧ StepOk c n R r b ρ₁ body (f s a)) →
    Loops c n target body (R s) (l.map g) (outM R r b (l.foldlM f s))
  | [], s, _ => .nil
  | a :: l, s, h => by
    obtain ⟨ρ₁, h1, h2⟩ := h s a List.mem_cons_self
    rw [List.foldlM_cons]
    cases hf : f s a with
    | none =>
      rw [hf] at h2
      exact .ret h1 h2
    | some s' =>
      rw [hf] at h2
      exact .next h1 h2 (Loops.foldM R f g r b l s' fun s b hb => h s b (List.mem_cons_of_mem _ hb))
theorem Loops.cast {ρ : Rho} {target : Expr} {body : List Stmt} {l : List T} {o o' : Out} (e : o = o') (h : Loops c n target body ρ l o) : Loops c n target body ρ l o' := e ▸ h

/-- a comprehension's part over items -/
theorem Turns.items {α : Type} {elt : Expr} {gens : List Comprehension} {sc : Scope} {pos : Pos} {d : Nat} {g : Comprehension} {ρ : Rho} (m : α → T) (o : α → List T) (p : α → Bool) : ∀ (l : List α),
    (∀ a ∈ l, ∃ ρ', bindT c g.target (m a) ρ = some ρ' ∧ (∀ x u, ρ.lookup x = some u → ρ'.lookup x = some u) ∧ Ifs c n ρ' g.ifs (p a) ∧ (p a = true → Tail c n elt gens sc pos d ρ' (o a))) →
    Turns c n elt gens sc pos d g ρ (l.map m) ((l.filter p).flatMap o)
  | [], _ => .nil
  | a :: l, h => by
    obtain ⟨ρ', h1, h2, h3, h4⟩ := h a List.mem_cons_self
    have ih := Turns.items (elt := elt) (gens := gens) (sc := sc) (pos := pos) (d := d) (g := g) (ρ := ρ) m o p l fun b hb => h b (List.mem_cons_of_mem _ hb)
    cases hp : p a with
    | true =>
      rw [List.filter_cons_of_pos hp, List.flatMap_cons]
      rw [hp] at h3
      exact .yes h1 h2 h3 (h4 hp) ih
    | false =>
      rw [List.filter_cons_of_neg (by rw [hp]; simp)]
      rw [hp] at h3
      exact .no h1 h2 h3 ih

theorem Turns.cast {elt : Expr} {gens : List Comprehension} {sc : Scope} {pos : Pos} {d : Nat} {g : Comprehension} {ρ : Rho} {l l' o o' : List T} (h : Turns c n elt gens sc pos d g ρ l o) (hl : l = l') (ho : o = o') : Turns c n elt gens sc pos d g ρ l' o' := by subst hl ho; exact h

/-- [f x for x in l] -/
theorem Turns.map1 {α : Type} {elt : Expr} {gens : List Comprehension} {sc : Scope} {pos : Pos} {d : Nat} {g : Comprehension} {ρ : Rho} (m o : α → T) (hg : gens[d + 1]? = none) (hi : g.ifs = []) (l : List α)
    (h : ∀ a ∈ l, ∃ ρ', bindT c g.target (m a) ρ = some ρ' ∧ (∀ x u, ρ.lookup x = some u → ρ'.lookup x = some u) ∧ Ev c n ρ' elt (o a)) :
    Turns c n elt gens sc pos d g ρ (l.map m) (l.map o) := by
  have := Turns.items (c := c) (n := n) (elt := elt) (gens := gens) (sc := sc) (pos := pos) (d := d) (g := g) (ρ := ρ) m (fun a => [o a]) (fun _ => true) l fun a ha => by
    obtain ⟨ρ', h1, h2, h3⟩ := h a ha
    exact ⟨ρ', h1, h2, by rw [hi]; exact .nil, fun _ => Tail.emit hg h3⟩
  have e : (l.filter fun _ => true).flatMap (fun a => [o a]) = l.map o := by
    rw [List.filter_eq_self.mpr (by simp), flatMap_one]
  rwa [e] at this

/-- [f x for x in l if p] -/
theorem Turns.map2 {α : Type} {elt e : Expr} {gens : List Comprehension} {sc : Scope} {pos : Pos} {d : Nat} {g : Comprehension} {ρ : Rho} (m o : α → T) (p : α → Bool) (hg : gens[d + 1]? = none) (hi : g.ifs = [e]) (l : List α)
    (h : ∀ a ∈ l, ∃ ρ', bindT c g.target (m a) ρ = some ρ' ∧ (∀ x u, ρ.lookup x = some u → ρ'.lookup x = some u) ∧ EvT c n ρ' e (p a) ∧ (p a = true → Ev c n ρ' elt (o a))) :
    Turns c n elt gens sc pos d g ρ (l.map m) ((l.filter p).map o) := by
  have := Turns.items (c := c) (n := n) (elt := elt) (gens := gens) (sc := sc) (pos := pos) (d := d) (g := g) (ρ := ρ) m (fun a => [o a]) p l fun a ha => by
    obtain ⟨ρ', h1, h2, h3, h4⟩ := h a ha
    refine ⟨ρ', h1, h2, ?_, fun hp => Tail.emit hg (h4 hp)⟩
    rw [hi]
    cases hp : p a with
    | true => rw [hp] at h3; exact .consT h3 .nil
    | false => rw [hp] at h3; exact .consF h3
  have e : (l.filter p).flatMap (fun a => [o a]) = (l.filter p).map o := by
    rw [flatMap_one]
  rwa [e] at this
end
end Mine
end

section
set_option autoImplicit false
namespace Mine
open PySem PySem.Calls PyProof.Rows PySem.SeqAt PySem.W.X

noncomputable abbrev PW : Program := PySem.Challenge.pw_rw0119_01
noncomputable def fnBody (p : Program) (i : Nat) : List Stmt := match p.main.body[i]? with
  | some (.FunctionDef _ _ b _ _ _ _ _ _ _) => b
  | _ => []
noncomputable def fnScope (p : Program) (i : Nat) : Scope := match p.main.body[i]? with
  | some (.FunctionDef _ _ _ _ _ _ s _ _ _) => s
  | _ => default
noncomputable def fnArgs (p : Program) (i : Nat) : Arguments := match p.main.body[i]? with
  | some (.FunctionDef _ a _ _ _ _ _ _ _ _) => a
  | _ => default
noncomputable abbrev iIter : Nat := 1
end Mine
end

section
set_option autoImplicit false
set_option linter.unusedVariables false
set_option linter.unusedSimpArgs false
namespace Mine
open PySem PySem.Calls PyProof.Rows PySem.SeqAt PySem.W.X

noncomputable def bsl : Str := "\\"
/-- what _iter_escaped_chars tells of the signs from place j on; e: a backslash stands ahead; q: the last place -/
noncomputable def escL : List Nat → Int → Bool → Int → List T
  | [], _, e, q => if e = true then [.tup [.int q, .str bsl]] else []
  | ch :: r, j, true, _ => .tup [.int j, .str (bsl ++ ⟨#[ch]⟩)] :: escL r (j + 1) false j
  | ch :: r, j, false, _ => if (⟨#[ch]⟩ : Str) == bsl then escL r (j + 1) true j else .tup [.int j, .str ⟨#[ch]⟩] :: escL r (j + 1) false j

noncomputable abbrev iterSc : Scope := fnScope PW iIter
noncomputable abbrev iterBody : List Stmt := fnBody PW iIter
noncomputable def iterRho (x : Str) (q : Int) (b : Bool) : Rho := [("addr", .sh (.str x)), ("pos", .sh (.int q)), ("escape", .sh (.bool b))]

theorem iterRho_flat (x : Str) (q : Int) (b : Bool) : FlatRho (iterRho x q b) := fun y u h => by
  have := mem_of_lookup h
  simp only [iterRho, List.mem_cons, Prod.mk.injEq, List.not_mem_nil, or_false] at this
  rcases this with ⟨_, rfl⟩ | ⟨_, rfl⟩ | ⟨_, rfl⟩ <;> exact ⟨_, rfl, rfl⟩

section
variable {c : Cx} {n : Nat}

theorem strDraws {A : Around} (hh : A.handled = none) (it : Addr) (x : Str) (t : Tok) : Draws c.prog c.w A it [it] x.cps.size (fun i v => ∃ ch u, x.cps[i]? = some ch ∧ v = .str ⟨#[ch]⟩ u) (fun i h => h.IsStrIter it (strIterType x) x t i) := by
  cases ha : x.cps.all (· < 128)
  · have e : strIterType x = "str_iterator" := by unfold strIterType; rw [ha]; rfl
    rw [e]; exact Draws.strWide hh it x t
  · have e : strIterType x = "str_ascii_iterator" := by unfold strIterType; rw [ha]; rfl
    rw [e]; exact Draws.strAscii hh it x t

theorem sub3 {x : Str} {q : Int} {b : Bool} {ρ : Rho} (h1 : ρ.lookup ("addr" : Str) = some (.sh (.str x))) (h2 : ρ.lookup ("pos" : Str) = some (.sh (.int q))) (h3 : ρ.lookup ("escape" : Str) = some (.sh (.bool b))) : ∀ y u, (iterRho x q b).lookup y = some u → ρ.lookup y = some u :=
  sub_of_all fun p hp => by
    simp only [iterRho, List.mem_cons, List.not_mem_nil, or_false] at hp
    rcases hp with rfl | rfl | rfl
    · exact h1
    · exact h2
    · exact h3

noncomputable abbrev KF : Flow → Sem Fin := fun f => .pure (.done (.ret (match f with | .ret v => v | _ => .none)))

/-- a yield of a generator that has only what it was made of: s₁ where it was waked, s now -/
theorem pn_yield {A : Around} {g : Nat} {env : Env} {s s₁ s₂ : Shared} {W W' : List Addr} {v : Value} {l : T} {ts : List T} {lv : List Value} {k : Resume → Sem Fin} {c' : Code} {p : Pos} {fs : List Frame}
    (x2 : ChgG g W s₁ s₂) (hs : s₁.heap.objs.size ≤ s.heap.objs.size) (hs2 : s.heap.objs.size ≤ s₂.heap.objs.size) (hW' : ∀ a ∈ W', s₁.heap.objs.size ≤ a ∧ a < s.heap.objs.size) (hH : c.H.objs.size ≤ s₁.heap.objs.size) (d : Den c.w (nOf (funCx c iterSc) env [] ++ (allM (funCx c iterSc) env s ++ [])) s₂.heap l v)
    (hfg : fs.any Frame.guarded = false) (hgo : Going c A g ts (W' ++ W) (.suspended k lv c' p fs false) s₂) : PN c A g (l :: ts) W s₁ (.susp v false lv k c' p fs) s₂ := by
  refine ⟨v, lv, k, c', p, fs, rfl, W', x2, fun a h => ⟨(hW' a h).1, Nat.lt_of_lt_of_le (hW' a h).2 hs2⟩, fun M' hM' => Den.mono (fun a ha hm => ha ?_) (fun _ _ _ e => e) l v d, ?_⟩
  · rcases hM' a hm with h | h
    · exact mem_all h.1 (Nat.lt_of_lt_of_le h.2 hs)
    · exact mem_all (Nat.le_trans hH (hW' a h).1) (hW' a h).2
  · show Going c A g ts (W' ++ W) (.suspended k lv c' p fs (false || fs.any Frame.guarded)) s₂
    rw [hfg]
    exact hgo

theorem res_susp {M : Model} {A : Around} {k : Resume → Sem Fin} {lv : List Value} {c' : Code} {p : Pos} {fs : List Frame} {cl : Bool} {s : Shared} {Φ : End → Shared → Prop} (h : SegX M A c' (k (.send .none)) fs s Φ) : Res M A (.suspended k lv c' p fs cl) s Φ := h

/-- what stands behind the loop -/
theorem iter_tail {A : Around} (rm : Room A (n + 2)) {g : Nat} {x : Str} {env : Env} (henv : env.scope = iterSc) {H : Value → Sem Fin} {q : Int} {b : Bool} {s s₁ : Shared} {W W' : List Addr} (R : Rel (funCx c iterSc) env [] [] (iterRho x q b) s)
    (x0 : ChgG g W s₁ s) (hW' : ∀ a ∈ W', s₁.heap.objs.size ≤ a ∧ a < s.heap.objs.size) (hH : c.H.objs.size ≤ s₁.heap.objs.size) :
    SegX (model c.prog c.w) A.in1 (.func iterBody env) ((execs (iterBody.drop 3) env).wrap KF H id id) [] s (PN c A.in1 g (escL [] 0 b q) W s₁) := by
  conv in (List.drop _ _) => whnf
  have R' := R.allM rfl (iterRho_flat x q b)
  refine g_cons (g_if ?_)
  refine EvT.go (EvT.val (Ev.name (t := .bool b) rfl rfl) rfl) (room_func rm) R' fun s' y R1 => ?_
  cases b with
  | false =>
    refine s_end c.prog c.w A.in1 _ _ s' (.ok (.ret .none)) _ rfl ?_
    exact ⟨rfl, x0.trans (y.g g) (by simp)⟩
  | true =>
    refine g_cons (g_yield (by rw [henv]; rfl) (by rw [henv]; rfl) rfl rfl ?_)
    refine Ev.go (Ev.tup (.cons rfl (Ev.name (t := .int q) rfl rfl) (.cons rfl Ev.cstr .nil)) (by show 2 ≤ sizeLine; decide)) (room_func rm) R1 fun v s₂ y₂ R2 d l k p hk => ?_
    refine pn_yield (s := s) (ts := []) (x0.trans ((Ext.trans y y₂).g g) (by simp)) x0.size (Ext.trans y y₂).size hW' hH d rfl ?_
    intro s₃ hag
    refine res_susp (hk _ _ _ ?_)
    refine s_end c.prog c.w A.in1 _ _ s₃ (.ok (.ret .none)) _ rfl ?_
    exact ⟨rfl, ChgG.refl s₃⟩
end
end Mine
end

section
set_option autoImplicit false
set_option linter.unusedVariables false
set_option linter.unusedSimpArgs false
namespace Mine
open PySem PySem.Calls PyProof.Rows PySem.SeqAt PySem.W.X

section
variable {c : Cx} {n : Nat}

theorem of_bas {sc : Scope} {s : Shared} (B : Bas c s) : Bas (funCx c sc) s := ⟨B.heap, B.size, B.toks, B.lim⟩

/-- the loop of _iter_escaped_chars from its place j on -/
theorem iter_loop {A : Around} (rm : Room A (n + 2)) {g : Nat} {x : Str} {t : Tok} {e it : Addr} (hne : e ≠ it) {env : Env} (henv : env.scope = iterSc) {target iter : Expr} {body : List Stmt} {p : Pos} {k : Result → Sem Fin} {lv : List Value} {pos : Pos}
    (hL : env.locals ≠ e ∧ env.locals ≠ it) {H : Value → Sem Fin} (hei : c.H.objs.size ≤ e ∧ c.H.objs.size ≤ it) (hb : iterBody[2]? = some (.For target iter body [] pos))
    (hK : ∀ A' s' P', SegX (model c.prog c.w) A' (.func iterBody env) ((execs (iterBody.drop 3) env).wrap KF H id id) [] s' P' → SegX (model c.prog c.w) A' (.func iterBody env) (k (.ok .next)) [] s' P') :
    ∀ (r : List Nat) (j : Nat) (b : Bool) (q : Int) (s s₁ : Shared) (W W' : List Addr), x.cps.toList.drop j = r → j ≤ x.cps.size → Rel (funCx c iterSc) env [] [] (iterRho x q b) s → (∃ old, IsEnum s.heap e it j old) → s.heap.IsStrIter it (strIterType x) x t j →
      ChgG g W s₁ s → (∀ a ∈ W', s₁.heap.objs.size ≤ a ∧ a < s.heap.objs.size) → c.H.objs.size ≤ s₁.heap.objs.size → env.locals ∈ W' ++ W → e ∈ W' ++ W → it ∈ W' ++ W →
      SegX (model c.prog c.w) A.in1 (.forLoop target (.ref e) body [] env) (denote table (.forLoop target (.ref e) body [] env)) [.ret k none false lv (.func iterBody env) p []] s (PN c A.in1 g (escL r j b q) W s₁) := by
  have rm' : Room (A.in1.over (.forLoop target (.ref e) body [] env) [.ret k none false lv (.func iterBody env) p []]) n := room_for rm
  have D := fun (A' : Around) (h : A'.handled = none) => WalksT.enumerateD (prog := c.prog) (w := c.w) (A := A') (strDraws (c := c) (A := A'.in1) h it x t) e hne (by simpa using hne) (by simp)
  conv at hb => lhs; whnf
  cases hb
  intro r
  have chgW : ∀ {s s' : Shared} {W W' : List Addr} {s₁ : Shared}, ChgG g W s₁ s → (∀ a ∈ W', s₁.heap.objs.size ≤ a) → ∀ {N : List Addr}, ChgG g N s s' → (∀ a ∈ N, a ∈ W' ++ W) → ChgG g W s₁ s' := by
    intro s s' W W' s₁ x0 hW' N x1 h
    refine x0.trans x1 fun a ha => ?_
    rcases List.mem_append.mp (h a ha) with q | q
    · exact .inr (hW' a q)
    · exact .inl q
  induction r with
  | nil =>
    intro j b q s s₁ W W' hr hj R hE hI x0 hW' hH hWl hWe hWi
    have hjz : j = x.cps.size := by
      have := congrArg List.length hr
      simp at this; omega
    refine g_turn fun H' => ?_
    refine wp_grow ((D _ rm'.1).done s _ _ ⟨by rw [← hjz]; exact hE, by rw [← hjz]; exact hI⟩ fun h' tk hk hs ht => ?_)
    have x1 : Chg [e, it] s { s with heap := h', toks := tk } := ⟨hk, hs, fun _ _ e => e, id, rfl, ht⟩
    refine s_again c.prog c.w _ _ _ _ _ _ rfl ?_
    refine s_pop c.prog c.w _ _ _ _ _ (.ok .next) _ rfl k none false lv _ p [] ?_
    refine hK _ _ _ ?_
    have R1 : Rel (funCx c iterSc) env [] [] (iterRho x q b) { s with heap := h', toks := tk } := R.agree rfl (iterRho_flat x q b) (fun o => hk _ o (by simp [hL.1, hL.2])) ⟨fun b o eo => hk b o (fun h => ?_) (R.bas.heap b o eo), Nat.le_trans R.bas.size hs, Nat.lt_of_lt_of_le R.bas.toks ht, R.bas.lim⟩ hs
    · exact iter_tail rm henv R1 (chgW x0 (fun a h => (hW' a h).1) (x1.g g) fun a h => by
        simp only [List.mem_cons, List.not_mem_nil, or_false] at h
        rcases h with rfl | rfl
        · exact hWe
        · exact hWi) (fun a h => ⟨(hW' a h).1, Nat.lt_of_lt_of_le (hW' a h).2 hs⟩) hH
    · simp only [List.mem_cons, List.not_mem_nil, or_false] at h
      have hlt := Heap.lt_size eo
      rcases h with rfl | rfl
      · exact absurd hei.1 (Nat.not_le.mpr hlt)
      · exact absurd hei.2 (Nat.not_le.mpr hlt)
  | cons ch r ih =>
    intro j b q s s₁ W W' hr hj R hE hI x0 hW' hH hWl hWe hWi
    have hlt : j < x.cps.size := by
      have := congrArg List.length hr
      simp at this; omega
    have hch : x.cps[j] = ch ∧ x.cps.toList.drop (j + 1) = r := by
      have := List.drop_eq_getElem_cons (l := x.cps.toList) (i := j) (by simpa using hlt)
      rw [hr] at this
      injection this with h1 h2
      exact ⟨by simpa using h1.symm, h2.symm⟩
    have hnl : ∀ {s' : Shared} {N : List Addr}, (∀ a ∈ N, a = e ∨ a = it) → env.locals ∉ N := fun h hm => (h _ hm).elim hL.1 hL.2
    refine g_turn fun H' => ?_
    refine wp_grow ((D _ rm'.1).item j s _ _ hlt ⟨hE, hI⟩ fun Ta vals h' tk hv hT hTup hMid hk hs ht => ?_)
    obtain ⟨t', xv, ⟨ch', u', hch', rfl⟩, rfl⟩ := hv
    have hc' : ch' = ch := by rw [Array.getElem?_eq_getElem hlt] at hch'; rw [← hch.1]; exact (Option.some.inj hch').symm
    subst hc'
    refine wp_grow ((D _ rm'.1).go _ _ _ j Ta _ _ _ hMid fun h2 hst hk2 hs2 ht2 => ?_)
    have x1 : Chg [e, it] s { s with heap := h2, toks := tk } := ⟨fun b o hb eo => hk2 b o hb (hk b o hb eo), Nat.le_trans hs hs2, fun _ _ e => e, id, rfl, ht⟩
    have hTne : Ta ∉ [e, it] := (D _ rm'.1).apart _ _ _ hMid
    have hTup2 : h2.IsTuple Ta #[.int j t', .str ⟨#[ch']⟩ u'] := hTup.at fun o eo => hk2 Ta o hTne eo
    generalize hs2' : ({ s with heap := h2, toks := tk } : Shared) = s2 at x1
    have hh2 : s2.heap = h2 := by rw [← hs2']
    have B2 : Bas (funCx c iterSc) s2 := R.bas.keep (c := funCx c iterSc) x1 fun a h => by
      simp only [List.mem_cons, List.not_mem_nil, or_false] at h
      rcases h with rfl | rfl
      · exact hei.1
      · exact hei.2
    have R2 : Rel (funCx c iterSc) env [] [] (iterRho x q b) s2 := R.agree rfl (iterRho_flat x q b) (fun o => x1.heap _ o (by simp [hL.1, hL.2])) B2 x1.size
    have R2' := R2.flatM (M := allM (funCx c iterSc) env s) rfl (iterRho_flat x q b) (allM_ok x1.size)
    have dT : Den c.w (nOf (funCx c iterSc) env [] ++ (allM (funCx c iterSc) env s ++ [])) s2.heap (.tup [.int j, .str ⟨#[ch']⟩]) (.ref Ta) := by
      refine Den.of_tup (vs := #[.int j t', .str ⟨#[ch']⟩ u']) (fun h => ?_) (hh2 ▸ hTup2) (DenL.cons Den.of_int (DenL.cons Den.of_str DenL.nil))
      rcases List.mem_append.mp h with h | h
      · exact absurd (R.lt Ta (List.mem_append_left _ h)) (Nat.not_lt.mpr hT)
      · rw [List.append_nil] at h
        exact absurd (allM_ok (Nat.le_refl s.heap.objs.size) Ta h).1.2 (Nat.not_lt.mpr hT)
    refine wp_bind (c := funCx c iterSc) (ρ := iterRho x q b) (t := .tup [.int j, .str ⟨#[ch']⟩]) rm'.1 R2' dT (ρ' := [("addr", .sh (.str x)), ("pos", .sh (.int j)), ("escape", .sh (.bool b)), ("ch", .sh (.str ⟨#[ch']⟩))]) rfl fun O' s3 x3 hO R3 => ?_
    obtain rfl := R3.noOwn hO
    have hnOf : nOf (funCx c iterSc) env [] = [env.locals] := by
      have hcel : ownCells (funCx c iterSc) env = [] := by
        unfold ownCells
        refine List.map_eq_nil_iff.mpr (List.filter_eq_nil_iff.mpr fun p hp => ?_)
        exact absurd hp (R.noCells (M := []) rfl p.1 p.2)
      unfold nOf
      rw [hcel]; rfl
    have hin : ∀ a ∈ nOf (funCx c iterSc) env [], a ∈ W' ++ W := fun a h => by
      rw [hnOf] at h; simp at h; subst h; exact hWl
    have hee : ∀ a ∈ nOf (funCx c iterSc) env [], a ≠ e ∧ a ≠ it := fun a h => by
      rw [hnOf] at h; simp at h; subst h; exact hL
    obtain ⟨⟨old, hE2⟩, hI2⟩ := hst
    have hE2' : IsEnum s2.heap e it ((j + 1 : Nat) : Int) old := by rw [hh2]; exact hE2
    have hI2' : s2.heap.IsStrIter it (strIterType x) x t (j + 1) := by rw [hh2]; exact hI2
    have keepE : ∀ {s s' : Shared} {N : List Addr}, Chh N s s' → (∀ a ∈ N, a ≠ e ∧ a ≠ it) → (∃ old, IsEnum s.heap e it ((j + 1 : Nat) : Int) old) ∧ s.heap.IsStrIter it (strIterType x) x t (j + 1) → (∃ old, IsEnum s'.heap e it ((j + 1 : Nat) : Int) old) ∧ s'.heap.IsStrIter it (strIterType x) x t (j + 1) := by
      intro s s' N y hN ⟨⟨old, h1⟩, o, h2, h3⟩
      exact ⟨⟨old, y.heap e _ (fun h => (hN e h).1 rfl) h1⟩, o, y.heap it _ (fun h => (hN it h).2 rfl) h2, h3⟩
    have st3 := keepE x3.h hee ⟨⟨old, hE2'⟩, hI2'⟩
    have x13 : ChgG g W s₁ s3 := chgW (chgW x0 (fun a h => (hW' a h).1) (x1.g g) fun a h => by
        simp only [List.mem_cons, List.not_mem_nil, or_false] at h
        rcases h with rfl | rfl
        · exact hWe
        · exact hWi) (fun a h => (hW' a h).1) (x3.g g) hin
    have hz3 : s.heap.objs.size ≤ s3.heap.objs.size := Nat.le_trans x1.size x3.size
    -- a yield of l, and the way on
    have way : ∀ (cc : Code) (ts : List T) (l : T) (s5 : Shared) (v : Value) (ρ5 : Rho) (lv' : List Value) (kk : Resume → Sem Fin) (p' : Pos), Ext s3 s5 → Rel (funCx c iterSc) env (allM (funCx c iterSc) env s ++ []) [] ρ5 s5 → Den c.w (nOf (funCx c iterSc) env [] ++ (allM (funCx c iterSc) env s ++ [])) s5.heap l v → FlatRho ρ5 →
        (∀ s6, Rel (funCx c iterSc) env [] [] ρ5 s6 → (∃ old, IsEnum s6.heap e it ((j + 1 : Nat) : Int) old) ∧ s6.heap.IsStrIter it (strIterType x) x t (j + 1) → c.H.objs.size ≤ s6.heap.objs.size → SegX (model c.prog c.w) A.in1 cc (kk (.send .none)) [.ret k none false lv (.func iterBody env) p []] s6 (PN c A.in1 g ts (W' ++ W) s6)) →
        PN c A.in1 g (l :: ts) W s₁ (.susp v false lv' kk cc p' [.ret k none false lv (.func iterBody env) p []]) s5 := by
      intro cc ts l s5 v ρ5 lv' kk p' x5 R5 d5 hf5 hgo
      have st5 := keepE (N := []) x5.h (by simp) st3
      refine pn_yield (s := s) (x13.trans (x5.g g) (by simp)) x0.size (Nat.le_trans hz3 x5.size) hW' hH d5 rfl ?_
      refine going_iff.mpr fun s6 hag => res_susp ?_
      have R6 : Rel (funCx c iterSc) env [] [] ρ5 s6 := (R.drop0 R5).agree rfl hf5 (fun o => hag.1 _ hWl o) (of_bas hag.2.1) hag.2.2
      obtain ⟨⟨old5, h1⟩, o5, h2, h3⟩ := st5
      exact hgo s6 R6 ⟨⟨old5, hag.1 e hWe _ h1⟩, o5, hag.1 it hWi _ h2, h3⟩ hag.2.1.size
    have flat4 : ∀ (b : Bool), FlatRho [("addr", .sh (.str x)), ("pos", .sh (.int j)), ("escape", .sh (.bool b)), ("ch", .sh (.str ⟨#[ch']⟩))] := fun b y u h => by
      have := mem_of_lookup h
      simp only [List.mem_cons, Prod.mk.injEq, List.not_mem_nil, or_false] at this
      rcases this with ⟨_, rfl⟩ | ⟨_, rfl⟩ | ⟨_, rfl⟩ | ⟨_, rfl⟩ <;> exact ⟨_, rfl, rfl⟩
    have hlen : bsl.length + (⟨#[ch']⟩ : Str).length ≤ sizeLine := by show 1 + 1 ≤ sizeLine; decide
    have step : ∀ {b' : Bool} {s6 s7 : Shared} {Wb Wb' : List Addr} {base : Shared} {M : List Addr}, Rel (funCx c iterSc) env [] [] [("addr", .sh (.str x)), ("pos", .sh (.int j)), ("escape", .sh (.bool b')), ("ch", .sh (.str ⟨#[ch']⟩))] s7 → True := fun _ => trivial
    refine g_cons (g_if ?_)
    refine EvT.go (EvT.val (Ev.name (t := .bool b) rfl rfl) rfl) rm' R3 fun s4 y4 R4 => ?_
    cases b with
    | true =>
      refine g_cons (g_yield (by rw [henv]; rfl) (by rw [henv]; rfl) rfl rfl ?_)
      refine Ev.go (Ev.tup (.cons rfl (Ev.name (t := .int j) rfl rfl) (.cons rfl (Ev.bin Ev.cstr.b (Ev.name (t := .str ⟨#[ch']⟩) rfl rfl).b (BinOk.add_str hlen)) .nil)) (by show 2 ≤ sizeLine; decide)) rm' R4 fun v s5 y5 R5 d lk kk p' hk5 => ?_
      refine way _ (escL r (j + 1) false j) _ s5 v _ lk kk p' (Ext.trans y4 y5) R5 d (flat4 true) fun s6 R6 st6 hH6 => hk5 _ _ _ ?_
      refine g_cons (g_wrap (wpAny_imp (assign_sh (c := funCx c iterSc) (n := n) (t := .bool false) Ev.cbool rfl rfl rm' R6) fun fl s7 ⟨x7, e7, R7⟩ => ?_))
      subst e7
      refine s_again c.prog c.w _ _ _ _ _ _ rfl ?_
      refine ih (j + 1) false j s7 s6 (W' ++ W) [] hch.2 hlt (R7.sub (sub3 rfl rfl rfl)) (keepE x7.h hee st6).1 (keepE x7.h hee st6).2 (x7.g g |>.mono fun a h => .inl (hin a h)) (by simp) hH6 ?_ ?_ ?_
      · exact hWl
      · exact hWe
      · exact hWi
    | false =>
      refine g_cons (g_if ?_)
      refine EvT.go (EvT.cmp (a := .str ⟨#[ch']⟩) (b := .str bsl) (q := (⟨#[ch']⟩ : Str) == bsl) (Ev.name rfl rfl).b Ev.cstr.b rfl rfl) rm' R4 fun s5 y5 R5 => ?_
      cases hq : (⟨#[ch']⟩ : Str) == bsl with
      | true =>
        refine g_cons (g_wrap (wpAny_imp (assign_sh (c := funCx c iterSc) (n := n) (t := .bool true) Ev.cbool rfl rfl rm' R5) fun fl s7 ⟨x7, e7, R7⟩ => ?_))
        subst e7
        refine s_again c.prog c.w _ _ _ _ _ _ rfl ?_
        have e1 : escL (ch' :: r) j false q = escL r (j + 1) true j := by
          show (if ((⟨#[ch']⟩ : Str) == bsl) = true then _ else _) = _
          rw [hq]; rfl
        rw [e1]
        have x37 : ChgG g W s₁ s7 := chgW (x13.trans ((Ext.trans y4 y5).g g) (by simp)) (fun a h => (hW' a h).1) (x7.g g) hin
        have st5 := keepE (N := []) (Ext.trans y4 y5).h (by simp) st3
        exact ih (j + 1) true j s7 s₁ W W' hch.2 hlt ((R.drop0 R7).sub (sub3 rfl rfl rfl)) (keepE x7.h hee st5).1 (keepE x7.h hee st5).2 x37 (fun a h => ⟨(hW' a h).1, Nat.lt_of_lt_of_le (hW' a h).2 (Nat.le_trans hz3 (Nat.le_trans (Ext.trans y4 y5).size x7.size))⟩) hH hWl hWe hWi
      | false =>
        have e1 : escL (ch' :: r) j false q = .tup [.int j, .str ⟨#[ch']⟩] :: escL r (j + 1) false j := by
          show (if ((⟨#[ch']⟩ : Str) == bsl) = true then _ else _) = _
          rw [hq]; rfl
        rw [e1]
        refine g_cons (g_yield (by rw [henv]; rfl) (by rw [henv]; rfl) rfl rfl ?_)
        refine Ev.go (Ev.tup (.cons rfl (Ev.name (t := .int j) rfl rfl) (.cons rfl (Ev.name (t := .str ⟨#[ch']⟩) rfl rfl) .nil)) (by show 2 ≤ sizeLine; decide)) rm' R5 fun v s6 y6 R6 d lk kk p' hk5 => ?_
        refine way _ (escL r (j + 1) false j) _ s6 v _ lk kk p' (Ext.trans y4 (Ext.trans y5 y6)) R6 d (flat4 false) fun s7 R7 st7 hH7 => hk5 _ _ _ ?_
        refine s_again c.prog c.w _ _ _ _ _ _ rfl ?_
        exact ih (j + 1) false j s7 s7 (W' ++ W) [] hch.2 hlt (R7.sub (sub3 rfl rfl rfl)) st7.1 st7.2 (ChgG.refl s7) (by simp) hH7 hWl hWe hWi
end
end Mine
end

section
set_option autoImplicit false
set_option linter.unusedVariables false
set_option linter.unusedSimpArgs false
namespace Mine
open PySem PySem.Calls PyProof.Rows PySem.SeqAt PySem.W.X

section
variable {c : Cx} {n : Nat} {ρ : Rho}

theorem iter_bind : BindOk (fnArgs PW iIter) ["addr"] := by
  exact .one fun _ _ _ _ _ _ _ _ _ _ _ _ _ => rfl

theorem iter_start {A : Around} (rm : Room A (n + 2)) {g : Nat} {x : Str} {env : Env} (henv : env.scope = iterSc) (gE : GV c "enumerate" (.type "enumerate")) {s : Shared} (R : Rel (funCx c iterSc) env [] [] [("addr", .sh (.str x))] s) :
    Going c A.in1 g (escL x.cps.toList 0 false 0) [env.locals] (.fresh (.func iterBody env)) s := by
  refine going_iff.mpr fun s1 hag => ?_
  show SegX (model c.prog c.w) A.in1 (.func iterBody env) (denote table (.func iterBody env)) [] s1 _
  have hf : FlatRho [("addr", .sh (.str x))] := fun y u h => by
    have := mem_of_lookup h
    simp only [List.mem_cons, Prod.mk.injEq, List.not_mem_nil, or_false] at this
    exact ⟨_, this.2, rfl⟩
  have R1 : Rel (funCx c iterSc) env [] [] [("addr", .sh (.str x))] s1 := R.agree rfl hf (fun o => hag.1 _ (by simp) o) (of_bas hag.2.1) hag.2.2
  have hH := hag.2.1.size
  have hnOf : ∀ {ρ s}, Rel (funCx c iterSc) env [] [] ρ s → nOf (funCx c iterSc) env [] = [env.locals] := by
    intro ρ s R
    have hcel : ownCells (funCx c iterSc) env = [] := by
      unfold ownCells
      refine List.map_eq_nil_iff.mpr (List.filter_eq_nil_iff.mpr fun p hp => ?_)
      exact absurd hp (R.noCells (M := []) rfl p.1 p.2)
    unfold nOf
    rw [hcel]; rfl
  have hn1 := hnOf R1
  refine g_func fun H => ?_
  refine g_cons (g_wrap (wpAny_imp (assign_sh (c := funCx c iterSc) (n := n) (t := .int 0) Ev.cint rfl rfl (room_func rm) R1) fun fl s2 ⟨x2, e2, R2⟩ => ?_))
  subst e2
  refine g_cons (g_wrap (wpAny_imp (assign_sh (c := funCx c iterSc) (n := n) (t := .bool false) Ev.cbool rfl rfl (room_func rm) R2) fun fl s3 ⟨x3, e3, R3⟩ => ?_))
  subst e3
  refine g_cons (g_for rfl ?_)
  refine wpAny_Call_NameR (wp_gname (c := funCx c iterSc) R3 rfl gE (wp_callWith (c := funCx c iterSc) (f := .type "enumerate") trivial (.cons rfl (Ev.name (t := .str x) rfl rfl).b .nil) (by simp) (room_func rm) R3 fun vs s4 x4 R4 d4 => ?_) rfl)
  obtain ⟨v, rfl, d5⟩ := d4.one
  obtain ⟨t, rfl⟩ := d5.str
  refine call_enumerate_str fun h' hE hI hsz hk => ?_
  refine wpAny_pyIter_enum hE fun k p l hK => ?_
  have x5 : Ext s4 { s4 with heap := h' } := ⟨fun b o _ => hk b o, by show s4.heap.objs.size ≤ h'.objs.size; rw [hsz]; omega, fun _ _ e => e, id, rfl, Nat.le_refl _⟩
  have x15 : Chg [env.locals] s1 { s4 with heap := h' } := by
    have a := Chg.trans (Chg.trans (Chg.trans x2 x3 fun a h => .inl h) x4 (by simp)) x5 (by simp)
    rw [hn1] at a
    exact a
  have hL := (R4.hi env.locals (List.mem_append_left _ List.mem_cons_self)).2
  have h14 : s1.heap.objs.size ≤ s4.heap.objs.size := Nat.le_trans x2.size (Nat.le_trans x3.size x4.size)
  refine iter_loop (H := H) rm (e := s4.heap.objs.size + 1) (it := s4.heap.objs.size) (Nat.succ_ne_self _) henv ⟨fun q => ?_, fun q => ?_⟩ ⟨?_, ?_⟩ rfl ?_ x.cps.toList 0 false 0 { s4 with heap := h' } s1 [env.locals] [s4.heap.objs.size + 1, s4.heap.objs.size] rfl (Nat.zero_le _) ?_ ⟨_, hE⟩ hI (x15.g g) ?_ hH ?_ ?_ ?_
  · rw [q] at hL; exact absurd hL (Nat.not_lt.mpr (Nat.le_succ _))
  · rw [q] at hL; exact absurd hL (Nat.lt_irrefl _)
  · exact Nat.le_trans hH (Nat.le_trans h14 (Nat.le_succ _))
  · exact Nat.le_trans hH h14
  · exact hK
  · exact (R4.ext x5).sub (sub3 rfl rfl rfl)
  · intro a h
    have hz : ({ s4 with heap := h' } : Shared).heap.objs.size = s4.heap.objs.size + 2 := hsz
    rw [hz]
    simp only [List.mem_cons, List.not_mem_nil, or_false] at h
    rcases h with rfl | rfl
    · exact ⟨Nat.le_trans h14 (Nat.le_succ _), Nat.lt_succ_self _⟩
    · exact ⟨h14, Nat.lt_succ_of_lt (Nat.lt_succ_self _)⟩
  · simp
  · simp
  · simp

/-- e makes a generator over the items l, wherever it is drawn from -/
structure EvY (c : Cx) (n : Nat) (ρ : Rho) (e : Expr) (l : List T) : Prop where
  run : ∀ A s env M₀ O, Room A n → Rel c env M₀ O ρ s →
  wpAny (model c.prog c.w) A (eval e env) (fun x s₁ => Ext s s₁ ∧ ∃ a W g, x = .ref a ∧ s.gens.size ≤ g ∧ (∀ b ∈ W, s.heap.objs.size ≤ b ∧ b < s₁.heap.objs.size) ∧ ∀ B, Room B n → GSt c B a g l 0 W s₁) NoE s
theorem EvY.iter {f : Str} {p pos : Pos} {e : Expr} {a : Addr} {x : Str} (hk : c.ns.lookup f = some .globalImplicit) (g : GV c f (.ref a)) (hf : FunAt c a (fnArgs PW iIter) iterBody iterSc) (hx : nameOk f = true) (gE : GV c "enumerate" (.type "enumerate"))
    (hs : notStar e = true) (h : Ev c (n + 2) ρ e (.str x)) : EvY c (n + 2) ρ (.Call (.Name f p) [e] [] pos) (escL x.cps.toList 0 false 0) := .mk fun A s env M₀ O rm R => by
  refine wpAny_Call_NameR (wp_gname R hk g (wp_callF hf.callee (.cons hs h .nil) (by simp) rm R fun vs s1 x1 R1 d1 => ?_) hx)
  obtain ⟨ob, fd, h1, h2, h3, h4, h5, h6, h7, h8, h9, h10, h11⟩ := hf
  have hroom : A.depth < recursionLimit := by have := rm.2.1; have e : recursionLimit = 1000 := rfl; rw [e]; omega
  refine wpAny_call (codeAny_call_generator (body := iterBody) hroom (R1.bas.heap a ob h1) h2 (by rw [h3]; rfl) (by rw [h3]; rfl) h4 (h11.keeps R1.bas.heap) ?_)
  rw [iter_bind fd h8 h9 h10 vs (by rw [← d1.length]; rfl), h3, h5, h6, h7]
  have d0 : DenL c.w [] s1.heap [.str x] vs := by
    simp only [DenL] at d1 ⊢
    obtain ⟨v, r, e1, e2, e3⟩ := d1
    exact ⟨v, r, e1, e2, e3⟩
  refine wpAny_pure (fun_enter R1.bas (M := []) (by simp) (sc := iterSc) rfl rfl rfl d0 fun cenv s2 hsc x2 hnew R2 => ⟨nolim (R1.bas.ext x2), ?_⟩)
  have hb : ∀ o, Ext s2 { s2 with gens := s2.gens.push (.fresh (.func iterBody cenv)), toks := s2.toks + 1 + 1, heap := s2.heap.push o } := fun o =>
    ⟨fun b o' _ e => Heap.get?_push_of_some _ e, by rw [Heap.size_push]; omega, fun i y e => by
      have := (Array.getElem?_eq_some_iff.mp e).1
      show (s2.gens.push _)[i]? = some y
      rw [Array.getElem?_push_lt this]; exact (Array.getElem?_eq_some_iff.mp e).2 ▸ rfl, fun hb => hb.push rfl, rfl, by show s2.toks ≤ s2.toks + 1 + 1; omega⟩
  refine ⟨Ext.trans x1 (Ext.trans x2 (hb _)), s2.heap.objs.size, [s2.heap.objs.size, cenv.locals], s2.gens.size, rfl, (Ext.trans x1 x2).gsz, fun b hb' => ?_, fun B rm' => ⟨by simp, ?_, _, [cenv.locals], Array.getElem?_push_size .., by simp, ?_, ?_⟩⟩
  · have hL := (R2.hi cenv.locals (List.mem_append_left _ List.mem_cons_self)).2
    rw [Heap.size_push]
    simp only [List.mem_cons, List.not_mem_nil, or_false] at hb'
    rcases hb' with rfl | rfl
    · exact ⟨(Ext.trans x1 x2).size, Nat.lt_succ_self _⟩
    · exact ⟨Nat.le_trans x1.size (hnew _ List.mem_cons_self), Nat.lt_succ_of_lt hL⟩
  · exact ⟨_, _, _, Heap.get?_push_size _ rfl, rfl, rfl, rfl⟩
  · have hL := (R2.hi cenv.locals (List.mem_append_left _ List.mem_cons_self)).2
    intro hm
    simp at hm
    rw [← hm] at hL
    exact Nat.lt_irrefl _ hL
  · exact iter_start rm' hsc gE (R2.ext (hb _))
theorem EvY.gen {e : Expr} {l : List T} (h : EvY c n ρ e l) : EvG c n ρ e l := .mk fun A s env M₀ O rm R =>
  wpAny_imp (h.run A s env M₀ O rm R) fun x s₁ hx => by
    obtain ⟨x1, a, W, g, e1, e2, e3, e4⟩ := hx
    exact ⟨x1, a, W, g, _, e1, e2, e3, GWalk.of rm, e4 A rm⟩
end
end Mine
end

section
set_option autoImplicit false
set_option linter.unusedVariables false
set_option linter.unusedSimpArgs false
namespace Mine
open PySem PySem.Calls PyProof.Rows PySem.SeqAt

noncomputable def fnName (p : Program) (i : Nat) : Str := match p.main.body[i]? with
  | some (.FunctionDef x _ _ _ _ _ _ _ _ _) => x
  | _ => ""
noncomputable def biNames : List Str := ["len", "abs", "ord", "chr", "int", "sum", "max", "min"]
noncomputable def f1 : UInt64 := 0x3FF0000000000000
noncomputable def f2 : UInt64 := 0x4000000000000000
noncomputable def f3 : UInt64 := 0x4008000000000000
noncomputable def f4 : UInt64 := 0x4010000000000000
noncomputable def f6 : UInt64 := 0x4018000000000000
noncomputable def fh : UInt64 := 0x3FE0000000000000
noncomputable def f13 : UInt64 := Float64.div f1 f3
noncomputable def f16 : UInt64 := Float64.div f1 f6
noncomputable def f23 : UInt64 := Float64.div f2 f3

noncomputable def b1L : List Int := [173, 847, 6150, 6155, 6156, 6157, 8203, 8204, 8205, 8288, 65279] ++ (List.range 16).map fun (i : Nat) => (65024 : Int) + (i : Int)
noncomputable def b1S (k : Int) : Bool := b1L.contains k
noncomputable def b3D : List (PyData × PyData) := (tabIntOf PW "b3_exceptions").getD []
/-- what the top has made -/
structure Top (c : Cx) : Prop where
  fn : ∀ i, i < PW.main.body.length → fnName PW i ≠ "" → ∃ a, GV c (fnName PW i) (.ref a) ∧ FunAt c a (fnArgs PW i) (fnBody PW i) (fnScope PW i)
  bi : ∀ f ∈ biNames, GV c f (biV f)
  enumerate : GV c "enumerate" (.type "enumerate")
  range : GV c "range" (.type "range")
  list : GV c "list" (.type "list")
  b1 : ∃ a m, GV c "b1_set" (.ref a) ∧ c.H.SetOf (intKind c.prog c.w) a b1S m
  b3 : ∃ a, GV c "b3_exceptions" (.ref a) ∧ IntTab c.prog c.w c.H a b3D
  third : ∃ u, u ≠ 0 ∧ GV c "ONE_THIRD" (.float f13 u)
  sixth : ∃ u, u ≠ 0 ∧ GV c "ONE_SIXTH" (.float f16 u)
  two : ∃ u, u ≠ 0 ∧ GV c "TWO_THIRD" (.float f23 u)

section
variable {c : Cx} {n : Nat} {ρ : Rho}
theorem biV_callee (f : Str) : Callee c (biV f) := by unfold biV; split <;> trivial
theorem Ev.bi {f : Str} {p pos : Pos} {es : List Expr} {ts : List T} {r : T} (hT : Top c) (hf : biNames.contains f = true) (hk : c.ns.lookup f = some .globalImplicit) (h : EachB c n ρ es ts) (hne : es ≠ []) (hr : Mine.bi f ts = some r) (hx : nameOk f = true) : Ev c n ρ (.Call (.Name f p) es [] pos) r :=
  Ev.call hk (hT.bi f (List.contains_iff_mem.mp hf)) (biV_callee f) hx h hne (bi_ok hr)
theorem Top.sub {sc : Scope} (h : Top c) : Top (funCx c sc) := ⟨h.fn, h.bi, h.enumerate, h.range, h.list, h.b1, h.b3, h.third, h.sixth, h.two⟩
theorem Top.comp {sc : Scope} (h : Top c) : Top (compCx c sc) := ⟨h.fn, h.bi, h.enumerate, h.range, h.list, h.b1, h.b3, h.third, h.sixth, h.two⟩

/-! _iter_escaped_chars: the items -/
noncomputable def escP : List Nat → Int → Bool → Int → List (Int × Str)
  | [], _, e, q => if e = true then [(q, bsl)] else []
  | ch :: r, j, true, _ => (j, bsl ++ ⟨#[ch]⟩) :: escP r (j + 1) false j
  | ch :: r, j, false, _ => if (⟨#[ch]⟩ : Str) == bsl then escP r (j + 1) true j else (j, ⟨#[ch]⟩) :: escP r (j + 1) false j
noncomputable def item (p : Int × Str) : T := .tup [.int p.1, .str p.2]
theorem escL_eq : ∀ (r : List Nat) (j : Int) (e : Bool) (q : Int), escL r j e q = (escP r j e q).map item
  | [], j, e, q => by cases e <;> rfl
  | ch :: r, j, true, q => by
    show _ :: escL r (j + 1) false j = _ :: _
    rw [escL_eq r]; rfl
  | ch :: r, j, false, q => by
    show (if _ then escL r (j + 1) true j else _ :: escL r (j + 1) false j) = ((if _ then escP r (j + 1) true j else _ :: escP r (j + 1) false j) : List (Int × Str)).map item
    split
    · exact escL_eq r _ _ _
    · rw [escL_eq r]; rfl
theorem escP_len : ∀ (r : List Nat) (j : Int) (e : Bool) (q : Int), (escP r j e q).length ≤ r.length + 1
  | [], j, e, q => by cases e <;> simp [escP]
  | ch :: r, j, true, q => by simp only [escP, List.length_cons]; have := escP_len r (j + 1) false j; lia
  | ch :: r, j, false, q => by
    simp only [escP]
    split
    · have := escP_len r (j + 1) true j; simp only [List.length_cons]; lia
    · have := escP_len r (j + 1) false j; simp only [List.length_cons]; lia
noncomputable def esc (x : Str) : List (Int × Str) := escP x.cps.toList 0 false 0

theorem EvY.esc {p pos : Pos} {e : Expr} {x : Str} (hT : Top c) (hk : c.ns.lookup (fnName PW iIter) = some .globalImplicit) (hs : notStar e = true) (h : Ev c (n + 2) ρ e (.str x)) : EvY c (n + 2) ρ (.Call (.Name (fnName PW iIter) p) [e] [] pos) ((Mine.esc x).map item) := by
  obtain ⟨a, g, hf⟩ := hT.fn iIter (by decide) (by decide)
  have := EvY.iter (p := p) (pos := pos) hk g hf rfl hT.enumerate hs h
  rwa [escL_eq] at this
theorem EvG.esc {p pos : Pos} {e : Expr} {x : Str} (hT : Top c) (hk : c.ns.lookup (fnName PW iIter) = some .globalImplicit) (hs : notStar e = true) (h : Ev c (n + 2) ρ e (.str x)) : EvG c (n + 2) ρ (.Call (.Name (fnName PW iIter) p) [e] [] pos) ((Mine.esc x).map item) := (EvY.esc hT hk hs h).gen

/-! _strip_quoted_realnames -/
noncomputable def dq : Str := "\""
noncomputable def stripStep (x : Str) (s : Int × Option Int × List Str) (i : Int × Str) : Int × Option Int × List Str :=
  if i.2 == dq then (match s.2.1 with
    | none => (s.1, some i.1, s.2.2)
    | some o => (i.1 + 1, none, if s.1 == o then s.2.2 else s.2.2 ++ [Txt.slice x (some s.1) (some o)]))
  else s
noncomputable def stripR (x : Str) : Int × Option Int × List Str := (esc x).foldl (stripStep x) (0, none, [])
noncomputable def stripF (x : Str) : Str :=
  if strIn x dq = true then Txt.join "" (if (stripR x).1 < x.length then (stripR x).2.2 ++ [Txt.slice x (some (stripR x).1) none] else (stripR x).2.2) else x

theorem strip_len (x : Str) (l : List (Int × Str)) (s : Int × Option Int × List Str) (hs : ∀ y ∈ s.2.2, y.length ≤ x.length) : (l.foldl (stripStep x) s).2.2.length ≤ s.2.2.length + l.length ∧ ∀ y ∈ (l.foldl (stripStep x) s).2.2, y.length ≤ x.length := by
  induction l generalizing s with
  | nil => exact ⟨Nat.le_refl _, hs⟩
  | cons i l ih =>
    rw [List.foldl_cons]
    have h1 : (stripStep x s i).2.2.length ≤ s.2.2.length + 1 ∧ ∀ y ∈ (stripStep x s i).2.2, y.length ≤ x.length := by
      unfold stripStep
      split
      · split
        · exact ⟨Nat.le_succ _, hs⟩
        · dsimp only
          split
          · exact ⟨Nat.le_succ _, hs⟩
          · refine ⟨by simp, fun y hy => ?_⟩
            rcases List.mem_append.mp hy with h | h
            · exact hs y h
            · simp at h; subst h; exact Txt.slice_le x _ _
      · exact ⟨Nat.le_succ _, hs⟩
    obtain ⟨i1, i2⟩ := ih _ h1.2
    refine ⟨?_, i2⟩
    simp only [List.length_cons]; lia

theorem sum_le {l : List Nat} {k : Nat} (h : ∀ x ∈ l, x ≤ k) : l.sum ≤ l.length * k := by
  induction l with
  | nil => simp
  | cons a l ih =>
    rw [List.sum_cons, List.length_cons, Nat.succ_mul]
    have := ih fun x hx => h x (List.mem_cons_of_mem _ hx)
    have := h a List.mem_cons_self
    lia

noncomputable def stripRho (x : Str) (s : Int × Option Int × List Str) : Rho := [("addr", .sh (.str x)), ("start", .sh (.int s.1)), ("open_pos", .sh (s.2.1.elim .none .int)), ("result", .own (s.2.2.map .str))]

theorem esc_len {x : Str} (hx : x.length ≤ 1000) : (esc x).length ≤ 1001 := by
  have := escP_len x.cps.toList 0 false 0
  have h2 : x.cps.toList.length = x.length := by simp [Str.length]
  unfold esc; lia
theorem step_len {x : Str} {s : Int × Option Int × List Str} {i : Int × Str} {r : Nat} (h : s.2.2.length + (r + 1) ≤ 1001) : (stripStep x s i).2.2.length + r ≤ 1001 := by
  unfold stripStep
  split
  · split
    · show s.2.2.length + r ≤ 1001; lia
    · dsimp only
      split
      · lia
      · simp; lia
  · lia
theorem bi_len {x : Str} (h : x.length ≤ 16777216) : Mine.bi "len" [.str x] = some (.int x.length) := by
  rw [bi_len0]
  exact if_pos h
theorem bi_lenL {l : List T} (h : l.length ≤ 16777216) : Mine.bi "len" [.list l] = some (.int l.length) := by
  rw [bi_len0]
  exact if_pos h
theorem join_sz {res : List Str} {x : Str} (h1 : res.length ≤ 1002) (h2 : ∀ y ∈ res, y.length ≤ 1000) (h3 : x.length = 0) : (res.map (·.length)).sum + res.length * x.length ≤ 16777216 := by
  have h4 := sum_le (l := res.map (·.length)) (k := 1000) fun y hy => by
    obtain ⟨z, hz, rfl⟩ := List.mem_map.mp hy
    exact h2 z hz
  rw [h3, Nat.mul_zero, Nat.add_zero]
  rw [List.length_map] at h4
  lia

theorem strip_body (hT : Top c) {x : Str} (hx : x.length ≤ 1000) : Ex (funCx c (fnScope PW 2)) (n + 2) [("addr", .sh (.str x))] (fnBody PW 2) (.ret (.str (stripF x)) false) := by
  have hz : (1000000 : Nat) ≤ sizeLine := by decide
  conv in (fnBody _ _) => whnf
  cases hq : strIn x dq with
  | false =>
    refine Ex.ret (Ex1.ite (q := true) (EvT.cmp (a := .str dq) (b := .str x) Ev.cstr.b (Ev.name rfl rfl).b (by show some (!strIn x dq) = _; rw [hq]; rfl) rfl) (fun _ => Ex.ret (Ex1.ret ?_)) (fun h => by cases h))
    unfold stripF; rw [hq]
    exact Ev.name rfl rfl
  | true =>
    refine Ex.cons (Ex1.ite (q := false) (EvT.cmp (a := .str dq) (b := .str x) Ev.cstr.b (Ev.name rfl rfl).b (by show some (!strIn x dq) = _; rw [hq]; rfl) rfl) (fun h => by cases h) (fun _ => Ex.nil)) ?_
    refine Ex.cons (Ex1.assign (t := .int 0) Ev.cint rfl rfl) ?_
    refine Ex.cons (Ex1.assign (t := .none) Ev.cnone rfl rfl) ?_
    refine Ex.cons (Ex1.assignOwn (l := []) (EvN.list .nil (by simp)) rfl rfl) ?_
    refine Ex.cons (ρ' := stripRho x (stripR x)) (Ex1.forG (EvG.esc (hT.sub) rfl rfl (Ev.name (t := .str x) rfl rfl)) rfl ?_) ?_
    · refine Loops.foldI (stripRho x) (stripStep x) item (fun r s => s.2.2.length + r ≤ 1001) (esc x) (0, none, []) (by have := esc_len hx; simpa using this) fun s i r hi hI => ⟨step_len hI, putAll ["pos", "ch"] [.int i.1, .str i.2] (stripRho x s), rfl, ?_⟩
      obtain ⟨st, op, res⟩ := s
      obtain ⟨ip, ic⟩ := i
      have hlen : res.length ≤ 1000000 → (res.map T.str).length ≤ sizeLine := fun h => by rw [List.length_map]; exact Nat.le_trans h hz
      cases hd : ic == dq with
      | false =>
        have e : stripStep x (st, op, res) (ip, ic) = (st, op, res) := by unfold stripStep; rw [hd]; rfl
        rw [e]
        exact Ex.cons (Ex1.ite (q := false) (EvT.cmp (a := .str ic) (b := .str dq) (Ev.name rfl rfl).b Ev.cstr.b (by show some _ = some _; rw [hd]) rfl) (fun h => by cases h) (fun _ => Ex.nil)) (Ex.weak Ex.nil (Sub.cons rfl (Sub.cons rfl (Sub.cons rfl (Sub.one rfl)))))
      | true =>
        refine Ex.weak (ρ' := ?r) (Ex.cons (Ex1.ite (q := true) (EvT.cmp (a := .str ic) (b := .str dq) (Ev.name rfl rfl).b Ev.cstr.b (by show some _ = some _; rw [hd]) rfl) (fun _ => ?_) (fun h => by cases h)) Ex.nil) ?_
        case r => exact putAll ["pos", "ch"] [.int ip, .str ic] (stripRho x (stripStep x (st, op, res) (ip, ic)))
        · cases op with
          | none =>
            have e : stripStep x (st, none, res) (ip, ic) = (st, some ip, res) := by unfold stripStep; rw [hd]; rfl
            rw [e]
            refine Ex.cons (Ex1.ite (q := true) (EvT.cmp (a := .none) (b := .none) (Ev.name rfl rfl).b Ev.cnone.b rfl rfl) (fun _ => ?_) (fun h => by cases h)) Ex.nil
            exact Ex.cons (Ex1.assign (t := .int ip) (Ev.name rfl rfl) rfl rfl) Ex.nil
          | some o =>
            have e : stripStep x (st, some o, res) (ip, ic) = (ip + 1, none, if st == o then res else res ++ [Txt.slice x (some st) (some o)]) := by unfold stripStep; rw [hd]; rfl
            rw [e]
            refine Ex.cons (Ex1.ite (q := false) (EvT.cmp (a := .int o) (b := .none) (Ev.name rfl rfl).b Ev.cnone.b rfl rfl) (fun h => by cases h) (fun _ => ?_)) Ex.nil
            refine Ex.cons (ρ' := putAll ["pos", "ch"] [.int ip, .str ic] (stripRho x (st, some o, if st == o then res else res ++ [Txt.slice x (some st) (some o)]))) ?_ (Ex.cons (Ex1.assign (t := .int (ip + 1)) (Ev.bin (Ev.name rfl rfl).b Ev.cint.b BinOk.add_int) rfl rfl) (Ex.cons (Ex1.assign (t := .none) Ev.cnone rfl rfl) Ex.nil))
            cases ho : st == o with
            | true =>
              exact Ex1.ite (q := false) (EvT.cmp (a := .int st) (b := .int o) (Ev.name rfl rfl).b (Ev.name rfl rfl).b (by show (some (st == o)).map _ = _; rw [ho]; rfl) rfl) (fun h => by cases h) (fun _ => Ex.nil)
            | false =>
              refine Ex1.ite (q := true) (EvT.cmp (a := .int st) (b := .int o) (Ev.name rfl rfl).b (Ev.name rfl rfl).b (by show (some (st == o)).map _ = _; rw [ho]; rfl) rfl) (fun _ => ?_) (fun h => by cases h)
              refine Ex.weak (Ex.cons (Ex1.append (l := res.map T.str) (t := .str (Txt.slice x (some st) (some o))) rfl rfl (Ev.sliceS (Ev.name rfl rfl).b (.yes (Ev.name rfl rfl)) (.yes (Ev.name rfl rfl)) (by lia)) rfl rfl (hlen (by simp at hI; lia))) Ex.nil) ?_
              · refine Sub.cons rfl (Sub.cons rfl (Sub.cons rfl (Sub.cons ?_ (Sub.cons rfl (Sub.one rfl)))))
                show some (Var.own (res.map T.str ++ [T.str _])) = some (Var.own ((res ++ [_]).map T.str))
                rw [List.map_append]; rfl
        · exact Sub.cons rfl (Sub.cons rfl (Sub.cons rfl (Sub.one rfl)))
    · have hl := strip_len x (esc x) (0, none, []) (by simp)
      have he := esc_len hx
      generalize hr : stripR x = r at *
      have hr' : (esc x).foldl (stripStep x) (0, none, []) = r := hr
      rw [hr'] at hl
      obtain ⟨st, op, res⟩ := r
      have hn : res.length ≤ 1001 := by have := hl.1; simp at this; lia
      have hs := hl.2
      have hlenx : Mine.bi "len" [.str x] = some (.int x.length) := bi_len (by lia)
      have hF : stripF x = Txt.join "" (if st < x.length then res ++ [Txt.slice x (some st) none] else res) := by unfold stripF; rw [if_pos hq, hr]
      rw [hF]
      have hres : ∀ y ∈ (if st < x.length then res ++ [Txt.slice x (some st) none] else res), y.length ≤ 1000 := fun y hy => by
        split at hy
        · rcases List.mem_append.mp hy with h | h
          · exact Nat.le_trans (hs y h) hx
          · simp at h; subst h; exact Nat.le_trans (Txt.slice_le x _ _) hx
        · exact Nat.le_trans (hs y hy) hx
      have hres2 : (if st < (x.length : Int) then res ++ [Txt.slice x (some st) none] else res).length ≤ 1002 := by
        split
        · simp; lia
        · lia
      have hj := join_sz (x := "") hres2 hres rfl
      generalize hres3 : (if st < (x.length : Int) then res ++ [Txt.slice x (some st) none] else res) = res3 at hj
      refine Ex.cons (ρ' := stripRho x (st, op, res3)) ?_ ?_
      rotate_left
      · refine Ex.ret (Ex1.ret ?_)
        refine Ev.joinS ?_ ?_ ?_ ?_ ?_ ?_
        · exact Ev.cstr.b
        · exact EvB.own rfl rfl
        · rfl
        · rfl
        · rfl
        · exact hj
      rw [← hres3]
      refine Ex1.ite (q := decide (st < x.length)) (EvT.cmp (a := .int st) (b := .int x.length) (Ev.name rfl rfl).b (Ev.bi hT.sub rfl rfl (EachB.cons rfl (Ev.name rfl rfl).b .nil) (by simp) hlenx rfl).b rfl rfl) (fun h => ?_) (fun h => ?_)
      · have h' : st < x.length := of_decide_eq_true h
        rw [if_pos h']
        refine Ex.weak (Ex.cons (Ex1.append (l := res.map T.str) (t := .str (Txt.slice x (some st) none)) rfl rfl (Ev.sliceS (Ev.name rfl rfl).b (.yes (Ev.name rfl rfl)) .no (by lia)) rfl rfl (by rw [List.length_map]; lia)) Ex.nil) ?_
        refine Sub.cons rfl (Sub.cons rfl (Sub.cons rfl (Sub.one ?_)))
        show some (Var.own (res.map T.str ++ [T.str _])) = some (Var.own ((res ++ [_]).map T.str))
        rw [List.map_append]; rfl
      · have h' : ¬ st < x.length := of_decide_eq_false h
        rw [if_neg h']
        exact Ex.nil
end
end Mine
end

section
set_option autoImplicit false
set_option linter.unusedVariables false
set_option linter.unusedSimpArgs false
namespace Mine
open PySem PySem.Calls PyProof.Rows PySem.SeqAt

section
variable {c : Cx} {n : Nat} {ρ : Rho}

/-- the function at the top's place i comes to r -/
noncomputable def FnV (c : Cx) (n i : Nat) (ts : List T) (r : T) : Prop := ∀ a, FunAt c a (fnArgs PW i) (fnBody PW i) (fnScope PW i) → FOk c n (.ref a) ts r
noncomputable def FnN (c : Cx) (n i : Nat) (ts l : List T) : Prop := ∀ a, FunAt c a (fnArgs PW i) (fnBody PW i) (fnScope PW i) → FNew c n (.ref a) ts l

theorem Ev.fn (i : Nat) {p pos : Pos} {es : List Expr} {ts : List T} {r : T} (hT : Top c) (hk : c.ns.lookup (fnName PW i) = some .globalImplicit) (hx : nameOk (fnName PW i) = true) (h : Each c n ρ es ts) (hne : es ≠ []) (hc : FnV c n i ts r) (hi : i < PW.main.body.length := by decide) (hi' : fnName PW i ≠ "" := by decide) :
    Ev c n ρ (.Call (.Name (fnName PW i) p) es [] pos) r := by
  obtain ⟨a, g, hf⟩ := hT.fn i hi hi'
  exact Ev.fcall hk g hf.callee hx h hne (hc a hf)
theorem EvN.fn (i : Nat) {p pos : Pos} {es : List Expr} {ts : List T} {r : List T} (hT : Top c) (hk : c.ns.lookup (fnName PW i) = some .globalImplicit) (hx : nameOk (fnName PW i) = true) (h : Each c n ρ es ts) (hne : es ≠ []) (hc : FnN c n i ts r) (hi : i < PW.main.body.length := by decide) (hi' : fnName PW i ≠ "" := by decide) :
    EvN c n ρ (.Call (.Name (fnName PW i) p) es [] pos) r := by
  obtain ⟨a, g, hf⟩ := hT.fn i hi hi'
  exact EvN.fcall hk g hf.callee hx h hne (hc a hf)
theorem strip_ok (hT : Top c) {x : Str} (hx : x.length ≤ 1000) : FnV c (n + 3) 2 [.str x] (.str (stripF x)) := fun a hf => by
  refine FOk.of (n := n + 2) (xs := ["addr"]) hf ?_ (strip_body hT hx)
  exact .one fun _ _ _ _ _ _ _ _ _ _ _ _ _ => rfl

/-! _check_parenthesis -/
noncomputable def checkStep (o : Int) (i : Int × Str) : Option Int := if i.2 == "(" then some (o + 1) else if i.2 == ")" then (if o - 1 < 0 then none else some (o - 1)) else some o
noncomputable def checkF (x : Str) : Bool := match (esc (stripF x)).foldlM checkStep 0 with
  | some o => o == 0
  | none => false
noncomputable def checkRho (y : Str) (o : Int) : Rho := [("addr", .sh (.str y)), ("opens", .sh (.int o))]

noncomputable def checkLoop : List Stmt := match (fnBody PW 3)[2]? with
  | some (Stmt.For _ _ b _ _) => b
  | _ => []
theorem check_turn {x : Str} (s : Int) (i : Int × Str) : StepOk (funCx c (fnScope PW 3)) (n + 3) (checkRho x) (.bool false) false (putAll ["pos", "ch"] [.int i.1, .str i.2] (checkRho x s)) checkLoop (checkStep s i) := by
  conv in checkLoop => whnf
  obtain ⟨ip, ic⟩ := i
  have hs : Sub (checkRho x s) (putAll ["pos", "ch"] [.int ip, .str ic] (checkRho x s)) := Sub.cons rfl (Sub.one rfl)
  have hs' : ∀ o, Sub (checkRho x o) (putAll ["pos", "ch"] [.int ip, .str ic] (checkRho x o)) := fun o => Sub.cons rfl (Sub.one rfl)
  unfold checkStep
  cases h1 : ic == "(" with
  | true =>
    show Ex _ _ _ _ (.next (checkRho x (s + 1)))
    refine Ex.weak (Ex.cons (Ex1.ite (q := true) (EvT.cmp (a := .str ic) (b := .str "(") (Ev.name rfl rfl).b Ev.cstr.b (by show some _ = some _; rw [h1]) rfl) (fun _ => ?_) (fun h => by cases h)) Ex.nil) (hs' (s + 1))
    exact Ex.cons (Ex1.aug (a := .int s) (b := .int 1) rfl rfl Ev.cint.b InOk.add_int rfl) Ex.nil
  | false =>
    cases h2 : ic == ")" with
    | true =>
      by_cases h3 : s - 1 < 0
      · rw [if_neg (by simp), if_pos rfl, if_pos h3]
        show Ex _ _ _ _ (.ret (.bool false) false)
        refine Ex.ret (Ex1.ite (q := false) (EvT.cmp (a := .str ic) (b := .str "(") (Ev.name rfl rfl).b Ev.cstr.b (by show some _ = some _; rw [h1]) rfl) (fun h => by cases h) (fun _ => ?_))
        refine Ex.ret (Ex1.ite (q := true) (EvT.cmp (a := .str ic) (b := .str ")") (Ev.name rfl rfl).b Ev.cstr.b (by show some _ = some _; rw [h2]) rfl) (fun _ => ?_) (fun h => by cases h))
        refine Ex.cons (Ex1.aug (a := .int s) (b := .int 1) rfl rfl Ev.cint.b InOk.sub_int rfl) ?_
        refine Ex.ret (Ex1.ite (q := true) (EvT.cmp (a := .int (s - 1)) (b := .int 0) (Ev.name rfl rfl).b Ev.cint.b (by show some (decide _) = _; rw [decide_eq_true h3]) rfl) (fun _ => ?_) (fun h => by cases h))
        exact Ex.ret (Ex1.ret Ev.cbool)
      · rw [if_neg (by simp), if_pos rfl, if_neg h3]
        show Ex _ _ _ _ (.next (checkRho x (s - 1)))
        refine Ex.weak (Ex.cons (Ex1.ite (q := false) (EvT.cmp (a := .str ic) (b := .str "(") (Ev.name rfl rfl).b Ev.cstr.b (by show some _ = some _; rw [h1]) rfl) (fun h => by cases h) (fun _ => ?_)) Ex.nil) (hs' (s - 1))
        refine Ex.cons (Ex1.ite (q := true) (EvT.cmp (a := .str ic) (b := .str ")") (Ev.name rfl rfl).b Ev.cstr.b (by show some _ = some _; rw [h2]) rfl) (fun _ => ?_) (fun h => by cases h)) Ex.nil
        refine Ex.cons (Ex1.aug (a := .int s) (b := .int 1) rfl rfl Ev.cint.b InOk.sub_int rfl) ?_
        exact Ex.cons (Ex1.ite (q := false) (EvT.cmp (a := .int (s - 1)) (b := .int 0) (Ev.name rfl rfl).b Ev.cint.b (by show some (decide _) = _; rw [decide_eq_false h3]) rfl) (fun h => by cases h) (fun _ => Ex.nil)) Ex.nil
    | false =>
      rw [if_neg (by simp), if_neg (by simp)]
      show Ex _ _ _ _ (.next (checkRho x s))
      refine Ex.weak (Ex.cons (Ex1.ite (q := false) (EvT.cmp (a := .str ic) (b := .str "(") (Ev.name rfl rfl).b Ev.cstr.b (by show some _ = some _; rw [h1]) rfl) (fun h => by cases h) (fun _ => ?_)) Ex.nil) hs
      exact Ex.cons (Ex1.ite (q := false) (EvT.cmp (a := .str ic) (b := .str ")") (Ev.name rfl rfl).b Ev.cstr.b (by show some _ = some _; rw [h2]) rfl) (fun h => by cases h) (fun _ => Ex.nil)) Ex.nil

theorem check_body (hT : Top c) {x : Str} (hx : x.length ≤ 1000) : Ex (funCx c (fnScope PW 3)) (n + 3) [("addr", .sh (.str x))] (fnBody PW 3) (.ret (.bool (checkF x)) false) := by
  conv in (fnBody _ _) => whnf
  refine Ex.cons (Ex1.assign (t := .str (stripF x)) (Ev.fn 2 hT.sub rfl rfl (.cons rfl (Ev.name rfl rfl) .nil) (by simp) (strip_ok hT.sub hx)) rfl rfl) ?_
  refine Ex.cons (Ex1.assign (t := .int 0) Ev.cint rfl rfl) ?_
  cases hm : (esc (stripF x)).foldlM checkStep 0 with
  | some o =>
    have hF : checkF x = (o == 0) := by unfold checkF; rw [hm]
    rw [hF]
    refine Ex.cons (ρ' := checkRho (stripF x) o) (Ex1.forG (EvG.esc (hT.sub) rfl rfl (Ev.name (t := .str (stripF x)) rfl rfl)) rfl (Loops.cast (by rw [hm]; rfl) (Loops.foldM (checkRho (stripF x)) checkStep item (.bool false) false (esc (stripF x)) 0 fun s i hi => ⟨putAll ["pos", "ch"] [.int i.1, .str i.2] (checkRho (stripF x) s), rfl, check_turn s i⟩))) ?_
    exact Ex.ret (Ex1.ret (Ev.cmp (a := .int o) (b := .int 0) (Ev.name rfl rfl).b Ev.cint.b rfl rfl))
  | none =>
    have hF : checkF x = false := by unfold checkF; rw [hm]
    rw [hF]
    exact Ex.ret (Ex1.forG (EvG.esc (hT.sub) rfl rfl (Ev.name (t := .str (stripF x)) rfl rfl)) rfl (Loops.cast (by rw [hm]; rfl) (Loops.foldM (checkRho (stripF x)) checkStep item (.bool false) false (esc (stripF x)) 0 fun s i hi => ⟨putAll ["pos", "ch"] [.int i.1, .str i.2] (checkRho (stripF x) s), rfl, check_turn s i⟩)))
end
end Mine
end

section
set_option autoImplicit false
set_option linter.unusedVariables false
set_option linter.unusedSimpArgs false
namespace Mine
open PySem PySem.Calls PyProof.Rows PySem.SeqAt

section
variable {c : Cx} {n : Nat} {ρ : Rho}

theorem check_ok (hT : Top c) {x : Str} (hx : x.length ≤ 1000) : FnV c (n + 4) 3 [.str x] (.bool (checkF x)) := fun a hf => by
  refine FOk.of (n := n + 3) (xs := ["addr"]) hf ?_ (check_body hT hx)
  exact .one fun _ _ _ _ _ _ _ _ _ _ _ _ _ => rfl

/-! _pre_parse_validation -/
noncomputable def none2 : Str := "('', '')"
noncomputable def preOne (v : Str) : Str := if checkF v = true then v else none2
noncomputable def preRho (l : List Str) (acc : List Str) : Rho := [("email_header_fields", .sh (.list (l.map .str))), ("accepted_values", .own (acc.map .str))]

theorem pre_fold : ∀ (l acc : List Str), l.foldl (fun acc v => acc ++ [preOne v]) acc = acc ++ l.map preOne
  | [], acc => by simp
  | v :: l, acc => by rw [List.foldl_cons, pre_fold l]; simp

theorem pre_body (hT : Top c) {l : List Str} (hl : l.length ≤ 100000) (hx : ∀ x ∈ l, x.length ≤ 1000) : Ex (funCx c (fnScope PW 4)) (n + 4) [("email_header_fields", .sh (.list (l.map .str)))] (fnBody PW 4) (.ret (.list ((l.map preOne).map .str)) true) := by
  have hz : (1000000 : Nat) ≤ sizeLine := by decide
  conv in (fnBody _ _) => whnf
  refine Ex.cons (Ex1.assignOwn (l := []) (EvN.list .nil (by simp)) rfl rfl) ?_
  refine Ex.cons (ρ' := preRho l (l.map preOne)) (Ex1.for (EvI.listF (l := l.map .str) (Ev.name rfl rfl)) rfl (Loops.cast (by rw [pre_fold]; rfl) (Loops.foldI (preRho l) (fun acc v => acc ++ [preOne v]) .str (fun r acc => acc.length + r ≤ 100000) l [] (by simpa using hl) fun acc v r hv hI => ⟨by simp; lia, putAll ["v"] [.str v] (preRho l acc), rfl, ?_⟩))) (Ex.ret (Ex1.retOwn rfl rfl))
  refine Ex.cons (ρ' := putAll ["v"] [.str (preOne v)] (preRho l acc)) ?_ (Ex.weak (Ex.cons (Ex1.append (l := acc.map .str) (t := .str (preOne v)) rfl rfl (Ev.name rfl rfl) rfl rfl (by rw [List.length_map]; lia)) Ex.nil) ?_)
  · cases hc : checkF v with
    | true =>
      have e : preOne v = v := by unfold preOne; rw [hc]; rfl
      rw [e]
      exact Ex1.ite (q := !true) (EvT.not (EvT.val (hc ▸ Ev.fn 3 hT.sub rfl rfl (.cons rfl (Ev.name rfl rfl) .nil) (by simp) (check_ok hT.sub (hx v hv))) rfl)) (fun h => by cases h) (fun _ => Ex.nil)
    | false =>
      have e : preOne v = none2 := by unfold preOne; rw [hc]; rfl
      rw [e]
      exact Ex1.ite (q := !false) (EvT.not (EvT.val (hc ▸ Ev.fn 3 hT.sub rfl rfl (.cons rfl (Ev.name rfl rfl) .nil) (by simp) (check_ok hT.sub (hx v hv))) rfl)) (fun _ => Ex.cons (Ex1.assign Ev.cstr rfl rfl) Ex.nil) (fun h => by cases h)
  · refine Sub.cons rfl (Sub.one ?_)
    show some (Var.own (acc.map T.str ++ [T.str (preOne v)])) = some (Var.own ((acc ++ [preOne v]).map T.str))
    rw [List.map_append]; rfl

theorem pre_ok (hT : Top c) {l : List Str} (hl : l.length ≤ 100000) (hx : ∀ x ∈ l, x.length ≤ 1000) : FnN c (n + 5) 4 [.list (l.map .str)] ((l.map preOne).map .str) := fun a hf => by
  refine FNew.of (n := n + 4) (xs := ["email_header_fields"]) hf ?_ (pre_body hT hl hx)
  exact .one fun _ _ _ _ _ _ _ _ _ _ _ _ _ => rfl
end
end Mine
end

section
set_option autoImplicit false
set_option linter.unusedVariables false
set_option linter.unusedSimpArgs false
namespace Mine
open PySem PySem.Calls PyProof.Rows PySem.SeqAt

noncomputable def fgt (a b : UInt64) : Bool := Float64.cmp a b == some .gt
noncomputable def flt (a b : UInt64) : Bool := Float64.cmp a b == some .lt
noncomputable def fle (a b : UInt64) : Bool := Float64.cmp a b == some .lt || Float64.cmp a b == some .eq
noncomputable def fmax (x y z : UInt64) : UInt64 := [y, z].foldl (fun b y => if fgt y b then y else b) x
noncomputable def fmin (x y z : UInt64) : UInt64 := [y, z].foldl (fun b y => if flt y b then y else b) x
theorem bi_max {x y z : UInt64} : Mine.bi "max" [.float x, .float y, .float z] = some (.float (fmax x y z)) := by
  rfl
theorem bi_min {x y z : UInt64} : Mine.bi "min" [.float x, .float y, .float z] = some (.float (fmin x y z)) := by
  rfl
noncomputable def truncF (x : UInt64) : Option Int := match Float64.decode x with
  | .fin sg m e => some (Float64.truncOf sg m e)
  | _ => none
theorem bi_int {x : UInt64} {i : Int} (h : truncF x = some i) : Mine.bi "int" [.float x] = some (.int i) := by
  rw [bi_int0]
  unfold truncF at h
  show (match Float64.decode x with
      | .fin sg m e => some (T.int (Float64.truncOf sg m e))
      | _ => none) = _
  split at h
  · cases h; rfl
  · cases h

/-- the hue of three -/
noncomputable def hueF (r g b maxc rangec : UInt64) : UInt64 :=
  let rc := Float64.div (Float64.sub maxc r) rangec
  let gc := Float64.div (Float64.sub maxc g) rangec
  let bc := Float64.div (Float64.sub maxc b) rangec
  let h := if eqF r maxc then Float64.sub bc gc else if eqF g maxc then Float64.sub (Float64.add f2 rc) bc else Float64.sub (Float64.add f4 gc) rc
  (Float64.divmod (Float64.div h f6) f1).2
noncomputable def toHsv (r g b : UInt64) : Option (UInt64 × UInt64 × UInt64) :=
  let maxc := fmax r g b
  let minc := fmin r g b
  let rangec := Float64.sub maxc minc
  if eqF minc maxc then some (0, 0, maxc)
  else if Float64.isZero maxc || Float64.isZero rangec then none
  else some (hueF r g b maxc rangec, Float64.div rangec maxc, maxc)
noncomputable def toHls (r g b : UInt64) : Option (UInt64 × UInt64 × UInt64) :=
  let maxc := fmax r g b
  let minc := fmin r g b
  let sumc := Float64.add maxc minc
  let rangec := Float64.sub maxc minc
  let l := Float64.div sumc f2
  if eqF minc maxc then some (0, l, 0)
  else if Float64.isZero rangec then none
  else if fle l fh then (if Float64.isZero sumc then none else some (hueF r g b maxc rangec, l, Float64.div rangec sumc))
  else if Float64.isZero (Float64.sub (Float64.sub f2 maxc) minc) then none else some (hueF r g b maxc rangec, l, Float64.div rangec (Float64.sub (Float64.sub f2 maxc) minc))
noncomputable def tup3 (p : UInt64 × UInt64 × UInt64) : T := .tup [.float p.1, .float p.2.1, .float p.2.2]

theorem z1 : Float64.isZero f1 = false := by decide +kernel
theorem z2 : Float64.isZero f2 = false := by decide +kernel
theorem z6 : Float64.isZero f6 = false := by decide +kernel

section
variable {c : Cx} {n : Nat} {ρ : Rho}
theorem hsv_body (hT : Top c) {r g b : UInt64} {p : UInt64 × UInt64 × UInt64} (h : toHsv r g b = some p) : Ex (funCx c (fnScope PW 12)) n [("r", .sh (.float r)), ("g", .sh (.float g)), ("b", .sh (.float b))] (fnBody PW 12) (.ret (tup3 p) false) := by
  have h3 : (3 : Nat) ≤ sizeLine := by decide
  conv in (fnBody _ _) => whnf
  unfold toHsv at h
  dsimp only at h
  refine Ex.cons (Ex1.assign (t := .float (fmax r g b)) (Ev.bi hT.sub rfl rfl (EachB.cons rfl (Ev.name rfl rfl).b (EachB.cons rfl (Ev.name rfl rfl).b (EachB.cons rfl (Ev.name rfl rfl).b .nil))) (by simp) bi_max rfl) rfl rfl) ?_
  refine Ex.cons (Ex1.assign (t := .float (fmin r g b)) (Ev.bi hT.sub rfl rfl (EachB.cons rfl (Ev.name rfl rfl).b (EachB.cons rfl (Ev.name rfl rfl).b (EachB.cons rfl (Ev.name rfl rfl).b .nil))) (by simp) bi_min rfl) rfl rfl) ?_
  generalize fmax r g b = mx at h ⊢
  generalize fmin r g b = mn at h ⊢
  refine Ex.cons (Ex1.assign (t := .float (Float64.sub mx mn)) (Ev.bin (Ev.name rfl rfl).b (Ev.name rfl rfl).b BinOk.sub_ff) rfl rfl) ?_
  refine Ex.cons (Ex1.assign (t := .float mx) (Ev.name rfl rfl) rfl rfl) ?_
  cases he : eqF mn mx with
  | true =>
    rw [he, if_pos rfl] at h
    cases h
    refine Ex.ret (Ex1.ite (q := true) (EvT.cmp (a := .float mn) (b := .float mx) (Ev.name rfl rfl).b (Ev.name rfl rfl).b (by show some _ = _; rw [he]) rfl) (fun _ => ?_) (fun h => by cases h))
    exact Ex.ret (Ex1.ret (Ev.tup (.cons rfl Ev.cfloat (.cons rfl Ev.cfloat (.cons rfl (Ev.name rfl rfl) .nil))) h3))
  | false =>
    rw [he, if_neg (by simp)] at h
    refine Ex.cons (Ex1.ite (q := false) (EvT.cmp (a := .float mn) (b := .float mx) (Ev.name rfl rfl).b (Ev.name rfl rfl).b (by show some _ = _; rw [he]) rfl) (fun h => by cases h) (fun _ => Ex.nil)) ?_
    split at h
    · cases h
    · rename_i hz
      simp only [Bool.or_eq_true, not_or, Bool.not_eq_true] at hz
      cases h
      refine Ex.cons (Ex1.assign (Ev.bin (Ev.name rfl rfl).b (Ev.name rfl rfl).b (BinOk.div_ff hz.1)) rfl rfl) ?_
      refine Ex.cons (Ex1.assign (Ev.bin (Ev.bin (Ev.name rfl rfl).b (Ev.name rfl rfl).b BinOk.sub_ff).b (Ev.name rfl rfl).b (BinOk.div_ff hz.2)) rfl rfl) ?_
      refine Ex.cons (Ex1.assign (Ev.bin (Ev.bin (Ev.name rfl rfl).b (Ev.name rfl rfl).b BinOk.sub_ff).b (Ev.name rfl rfl).b (BinOk.div_ff hz.2)) rfl rfl) ?_
      refine Ex.cons (Ex1.assign (Ev.bin (Ev.bin (Ev.name rfl rfl).b (Ev.name rfl rfl).b BinOk.sub_ff).b (Ev.name rfl rfl).b (BinOk.div_ff hz.2)) rfl rfl) ?_
      cases hr : eqF r mx with
      | true =>
        have e : hueF r g b mx (Float64.sub mx mn) = (Float64.divmod (Float64.div (Float64.sub (Float64.div (Float64.sub mx b) (Float64.sub mx mn)) (Float64.div (Float64.sub mx g) (Float64.sub mx mn))) f6) f1).2 := by unfold hueF; rw [hr]; rfl
        rw [e]
        refine Ex.cons (Ex1.ite (q := true) (EvT.cmp (a := .float r) (b := .float mx) (Ev.name rfl rfl).b (Ev.name rfl rfl).b (by show some _ = _; rw [hr]) rfl) (fun _ => Ex.cons (Ex1.assign (Ev.bin (Ev.name rfl rfl).b (Ev.name rfl rfl).b BinOk.sub_ff) rfl rfl) Ex.nil) (fun h => by cases h)) ?_
        refine Ex.cons (Ex1.assign (Ev.bin (Ev.bin (Ev.name rfl rfl).b Ev.cfloat.b (BinOk.div_ff (y := f6) z6)).b Ev.cfloat.b (BinOk.mod_ff (y := f1) z1)) rfl rfl) ?_
        exact Ex.ret (Ex1.ret (Ev.tup (.cons rfl (Ev.name rfl rfl) (.cons rfl (Ev.name rfl rfl) (.cons rfl (Ev.name rfl rfl) .nil))) h3))
      | false =>
        cases hg : eqF g mx with
        | true =>
          have e : hueF r g b mx (Float64.sub mx mn) = (Float64.divmod (Float64.div (Float64.sub (Float64.add f2 (Float64.div (Float64.sub mx r) (Float64.sub mx mn))) (Float64.div (Float64.sub mx b) (Float64.sub mx mn))) f6) f1).2 := by unfold hueF; rw [hr, hg]; rfl
          rw [e]
          refine Ex.cons (Ex1.ite (q := false) (EvT.cmp (a := .float r) (b := .float mx) (Ev.name rfl rfl).b (Ev.name rfl rfl).b (by show some _ = _; rw [hr]) rfl) (fun h => by cases h) (fun _ => Ex.cons (Ex1.ite (q := true) (EvT.cmp (a := .float g) (b := .float mx) (Ev.name rfl rfl).b (Ev.name rfl rfl).b (by show some _ = _; rw [hg]) rfl) (fun _ => Ex.cons (Ex1.assign (Ev.bin (Ev.bin Ev.cfloat.b (Ev.name rfl rfl).b BinOk.add_ff).b (Ev.name rfl rfl).b BinOk.sub_ff) rfl rfl) Ex.nil) (fun h => by cases h)) Ex.nil)) ?_
          refine Ex.cons (Ex1.assign (Ev.bin (Ev.bin (Ev.name rfl rfl).b Ev.cfloat.b (BinOk.div_ff (y := f6) z6)).b Ev.cfloat.b (BinOk.mod_ff (y := f1) z1)) rfl rfl) ?_
          exact Ex.ret (Ex1.ret (Ev.tup (.cons rfl (Ev.name rfl rfl) (.cons rfl (Ev.name rfl rfl) (.cons rfl (Ev.name rfl rfl) .nil))) h3))
        | false =>
          have e : hueF r g b mx (Float64.sub mx mn) = (Float64.divmod (Float64.div (Float64.sub (Float64.add f4 (Float64.div (Float64.sub mx g) (Float64.sub mx mn))) (Float64.div (Float64.sub mx r) (Float64.sub mx mn))) f6) f1).2 := by unfold hueF; rw [hr, hg]; rfl
          rw [e]
          refine Ex.cons (Ex1.ite (q := false) (EvT.cmp (a := .float r) (b := .float mx) (Ev.name rfl rfl).b (Ev.name rfl rfl).b (by show some _ = _; rw [hr]) rfl) (fun h => by cases h) (fun _ => Ex.cons (Ex1.ite (q := false) (EvT.cmp (a := .float g) (b := .float mx) (Ev.name rfl rfl).b (Ev.name rfl rfl).b (by show some _ = _; rw [hg]) rfl) (fun h => by cases h) (fun _ => Ex.cons (Ex1.assign (Ev.bin (Ev.bin Ev.cfloat.b (Ev.name rfl rfl).b BinOk.add_ff).b (Ev.name rfl rfl).b BinOk.sub_ff) rfl rfl) Ex.nil)) Ex.nil)) ?_
          refine Ex.cons (Ex1.assign (Ev.bin (Ev.bin (Ev.name rfl rfl).b Ev.cfloat.b (BinOk.div_ff (y := f6) z6)).b Ev.cfloat.b (BinOk.mod_ff (y := f1) z1)) rfl rfl) ?_
          exact Ex.ret (Ex1.ret (Ev.tup (.cons rfl (Ev.name rfl rfl) (.cons rfl (Ev.name rfl rfl) (.cons rfl (Ev.name rfl rfl) .nil))) h3))

theorem hsv_ok (hT : Top c) {r g b : UInt64} {p : UInt64 × UInt64 × UInt64} (h : toHsv r g b = some p) : FnV c (n + 1) 12 [.float r, .float g, .float b] (tup3 p) := fun a hf => by
  refine FOk.of (n := n) (xs := ["r", "g", "b"]) hf ?_ (hsv_body hT h)
  exact .three fun _ _ _ _ _ _ _ _ _ _ _ _ _ _ _ => rfl

theorem hls_body (hT : Top c) {r g b : UInt64} {p : UInt64 × UInt64 × UInt64} (h : toHls r g b = some p) : Ex (funCx c (fnScope PW 9)) n [("r", .sh (.float r)), ("g", .sh (.float g)), ("b", .sh (.float b))] (fnBody PW 9) (.ret (tup3 p) false) := by
  have h3 : (3 : Nat) ≤ sizeLine := by decide
  conv in (fnBody _ _) => whnf
  unfold toHls at h
  dsimp only at h
  refine Ex.cons (Ex1.assign (t := .float (fmax r g b)) (Ev.bi hT.sub rfl rfl (EachB.cons rfl (Ev.name rfl rfl).b (EachB.cons rfl (Ev.name rfl rfl).b (EachB.cons rfl (Ev.name rfl rfl).b .nil))) (by simp) bi_max rfl) rfl rfl) ?_
  refine Ex.cons (Ex1.assign (t := .float (fmin r g b)) (Ev.bi hT.sub rfl rfl (EachB.cons rfl (Ev.name rfl rfl).b (EachB.cons rfl (Ev.name rfl rfl).b (EachB.cons rfl (Ev.name rfl rfl).b .nil))) (by simp) bi_min rfl) rfl rfl) ?_
  generalize fmax r g b = mx at h ⊢
  generalize fmin r g b = mn at h ⊢
  refine Ex.cons (Ex1.assign (t := .float (Float64.add mx mn)) (Ev.bin (Ev.name rfl rfl).b (Ev.name rfl rfl).b BinOk.add_ff) rfl rfl) ?_
  refine Ex.cons (Ex1.assign (t := .float (Float64.sub mx mn)) (Ev.bin (Ev.name rfl rfl).b (Ev.name rfl rfl).b BinOk.sub_ff) rfl rfl) ?_
  refine Ex.cons (Ex1.assign (t := .float (Float64.div (Float64.add mx mn) f2)) (Ev.bin (Ev.name rfl rfl).b Ev.cfloat.b (BinOk.div_ff (y := f2) z2)) rfl rfl) ?_
  cases he : eqF mn mx with
  | true =>
    rw [he, if_pos rfl] at h
    cases h
    refine Ex.ret (Ex1.ite (q := true) (EvT.cmp (a := .float mn) (b := .float mx) (Ev.name rfl rfl).b (Ev.name rfl rfl).b (by show some _ = _; rw [he]) rfl) (fun _ => ?_) (fun h => by cases h))
    exact Ex.ret (Ex1.ret (Ev.tup (.cons rfl Ev.cfloat (.cons rfl (Ev.name rfl rfl) (.cons rfl Ev.cfloat .nil))) h3))
  | false =>
    rw [he, if_neg (by simp)] at h
    refine Ex.cons (Ex1.ite (q := false) (EvT.cmp (a := .float mn) (b := .float mx) (Ev.name rfl rfl).b (Ev.name rfl rfl).b (by show some _ = _; rw [he]) rfl) (fun h => by cases h) (fun _ => Ex.nil)) ?_
    split at h
    · cases h
    · rename_i hz
      have hz : True ∧ Float64.isZero (Float64.sub mx mn) = false := ⟨trivial, by simpa using hz⟩
      have main : ∀ S : UInt64, p = (hueF r g b mx (Float64.sub mx mn), Float64.div (Float64.add mx mn) f2, S) → Ex (funCx c (fnScope PW 9)) n (put "s" (.sh (.float S)) [("r", .sh (.float r)), ("g", .sh (.float g)), ("b", .sh (.float b)), ("maxc", .sh (.float mx)), ("minc", .sh (.float mn)), ("sumc", .sh (.float (Float64.add mx mn))), ("rangec", .sh (.float (Float64.sub mx mn))), ("l", .sh (.float (Float64.div (Float64.add mx mn) f2)))]) ((fnBody PW 9).drop 7) (.ret (tup3 p) false) := by
        intro S hp
        subst hp
        conv in (List.drop _ _) => whnf
        refine Ex.cons (Ex1.assign (Ev.bin (Ev.bin (Ev.name rfl rfl).b (Ev.name rfl rfl).b BinOk.sub_ff).b (Ev.name rfl rfl).b (BinOk.div_ff hz.2)) rfl rfl) ?_
        refine Ex.cons (Ex1.assign (Ev.bin (Ev.bin (Ev.name rfl rfl).b (Ev.name rfl rfl).b BinOk.sub_ff).b (Ev.name rfl rfl).b (BinOk.div_ff hz.2)) rfl rfl) ?_
        refine Ex.cons (Ex1.assign (Ev.bin (Ev.bin (Ev.name rfl rfl).b (Ev.name rfl rfl).b BinOk.sub_ff).b (Ev.name rfl rfl).b (BinOk.div_ff hz.2)) rfl rfl) ?_
        cases hr : eqF r mx with
        | true =>
          have e : hueF r g b mx (Float64.sub mx mn) = (Float64.divmod (Float64.div (Float64.sub (Float64.div (Float64.sub mx b) (Float64.sub mx mn)) (Float64.div (Float64.sub mx g) (Float64.sub mx mn))) f6) f1).2 := by unfold hueF; rw [hr]; rfl
          rw [e]
          refine Ex.cons (Ex1.ite (q := true) (EvT.cmp (a := .float r) (b := .float mx) (Ev.name rfl rfl).b (Ev.name rfl rfl).b (by show some _ = _; rw [hr]) rfl) (fun _ => Ex.cons (Ex1.assign (Ev.bin (Ev.name rfl rfl).b (Ev.name rfl rfl).b BinOk.sub_ff) rfl rfl) Ex.nil) (fun h => by cases h)) ?_
          refine Ex.cons (Ex1.assign (Ev.bin (Ev.bin (Ev.name rfl rfl).b Ev.cfloat.b (BinOk.div_ff (y := f6) z6)).b Ev.cfloat.b (BinOk.mod_ff (y := f1) z1)) rfl rfl) ?_
          exact Ex.ret (Ex1.ret (Ev.tup (.cons rfl (Ev.name rfl rfl) (.cons rfl (Ev.name rfl rfl) (.cons rfl (Ev.name rfl rfl) .nil))) h3))
        | false =>
          cases hg : eqF g mx with
          | true =>
            have e : hueF r g b mx (Float64.sub mx mn) = (Float64.divmod (Float64.div (Float64.sub (Float64.add f2 (Float64.div (Float64.sub mx r) (Float64.sub mx mn))) (Float64.div (Float64.sub mx b) (Float64.sub mx mn))) f6) f1).2 := by unfold hueF; rw [hr, hg]; rfl
            rw [e]
            refine Ex.cons (Ex1.ite (q := false) (EvT.cmp (a := .float r) (b := .float mx) (Ev.name rfl rfl).b (Ev.name rfl rfl).b (by show some _ = _; rw [hr]) rfl) (fun h => by cases h) (fun _ => Ex.cons (Ex1.ite (q := true) (EvT.cmp (a := .float g) (b := .float mx) (Ev.name rfl rfl).b (Ev.name rfl rfl).b (by show some _ = _; rw [hg]) rfl) (fun _ => Ex.cons (Ex1.assign (Ev.bin (Ev.bin Ev.cfloat.b (Ev.name rfl rfl).b BinOk.add_ff).b (Ev.name rfl rfl).b BinOk.sub_ff) rfl rfl) Ex.nil) (fun h => by cases h)) Ex.nil)) ?_
            refine Ex.cons (Ex1.assign (Ev.bin (Ev.bin (Ev.name rfl rfl).b Ev.cfloat.b (BinOk.div_ff (y := f6) z6)).b Ev.cfloat.b (BinOk.mod_ff (y := f1) z1)) rfl rfl) ?_
            exact Ex.ret (Ex1.ret (Ev.tup (.cons rfl (Ev.name rfl rfl) (.cons rfl (Ev.name rfl rfl) (.cons rfl (Ev.name rfl rfl) .nil))) h3))
          | false =>
            have e : hueF r g b mx (Float64.sub mx mn) = (Float64.divmod (Float64.div (Float64.sub (Float64.add f4 (Float64.div (Float64.sub mx g) (Float64.sub mx mn))) (Float64.div (Float64.sub mx r) (Float64.sub mx mn))) f6) f1).2 := by unfold hueF; rw [hr, hg]; rfl
            rw [e]
            refine Ex.cons (Ex1.ite (q := false) (EvT.cmp (a := .float r) (b := .float mx) (Ev.name rfl rfl).b (Ev.name rfl rfl).b (by show some _ = _; rw [hr]) rfl) (fun h => by cases h) (fun _ => Ex.cons (Ex1.ite (q := false) (EvT.cmp (a := .float g) (b := .float mx) (Ev.name rfl rfl).b (Ev.name rfl rfl).b (by show some _ = _; rw [hg]) rfl) (fun h => by cases h) (fun _ => Ex.cons (Ex1.assign (Ev.bin (Ev.bin Ev.cfloat.b (Ev.name rfl rfl).b BinOk.add_ff).b (Ev.name rfl rfl).b BinOk.sub_ff) rfl rfl) Ex.nil)) Ex.nil)) ?_
            refine Ex.cons (Ex1.assign (Ev.bin (Ev.bin (Ev.name rfl rfl).b Ev.cfloat.b (BinOk.div_ff (y := f6) z6)).b Ev.cfloat.b (BinOk.mod_ff (y := f1) z1)) rfl rfl) ?_
            exact Ex.ret (Ex1.ret (Ev.tup (.cons rfl (Ev.name rfl rfl) (.cons rfl (Ev.name rfl rfl) (.cons rfl (Ev.name rfl rfl) .nil))) h3))

      have hrest : ∃ x, fnBody PW 9 = x := ⟨_, rfl⟩
      cases hl : fle (Float64.div (Float64.add mx mn) f2) fh with
      | true =>
        rw [hl, if_pos rfl] at h
        split at h
        · cases h
        · rename_i hs
          cases h
          refine Ex.cons (Ex1.ite (q := true) (EvT.cmp (a := .float (Float64.div (Float64.add mx mn) f2)) (b := .float fh) (Ev.name rfl rfl).b Ev.cfloat.b (by show some _ = _; exact congrArg some hl) rfl) (fun _ => Ex.cons (Ex1.assign (Ev.bin (Ev.name rfl rfl).b (Ev.name rfl rfl).b (BinOk.div_ff (by simpa using hs))) rfl rfl) Ex.nil) (fun h => by cases h)) ?_
          exact main _ rfl
      | false =>
        rw [hl, if_neg (by simp)] at h
        split at h
        · cases h
        · rename_i hs
          cases h
          refine Ex.cons (Ex1.ite (q := false) (EvT.cmp (a := .float (Float64.div (Float64.add mx mn) f2)) (b := .float fh) (Ev.name rfl rfl).b Ev.cfloat.b (by show some _ = _; exact congrArg some hl) rfl) (fun h => by cases h) (fun _ => Ex.cons (Ex1.assign (Ev.bin (Ev.name rfl rfl).b (Ev.bin (Ev.bin Ev.cfloat.b (Ev.name rfl rfl).b BinOk.sub_ff).b (Ev.name rfl rfl).b BinOk.sub_ff).b (BinOk.div_ff (y := Float64.sub (Float64.sub f2 mx) mn) (by simpa using hs))) rfl rfl) Ex.nil)) ?_
          exact main _ rfl

theorem hls_ok (hT : Top c) {r g b : UInt64} {p : UInt64 × UInt64 × UInt64} (h : toHls r g b = some p) : FnV c (n + 1) 9 [.float r, .float g, .float b] (tup3 p) := fun a hf => by
  refine FOk.of (n := n) (xs := ["r", "g", "b"]) hf ?_ (hls_body hT h)
  exact .three fun _ _ _ _ _ _ _ _ _ _ _ _ _ _ _ => rfl
end
end Mine
end

section
set_option autoImplicit false
set_option linter.unusedVariables false
set_option linter.unusedSimpArgs false
namespace Mine
open PySem PySem.Calls PyProof.Rows PySem.SeqAt

noncomputable def vF (m1 m2 h : UInt64) : UInt64 :=
  let hue := (Float64.divmod h f1).2
  if flt hue f16 then Float64.add m1 (Float64.mul (Float64.mul (Float64.sub m2 m1) hue) f6)
  else if flt hue fh then m2
  else if flt hue f23 then Float64.add m1 (Float64.mul (Float64.mul (Float64.sub m2 m1) (Float64.sub f23 hue)) f6)
  else m1
noncomputable def ofHls (h l s : UInt64) : UInt64 × UInt64 × UInt64 :=
  if eqF s 0 then (l, l, l) else
  let m2 := if fle l fh then Float64.mul l (Float64.add f1 s) else Float64.sub (Float64.add l s) (Float64.mul l s)
  let m1 := Float64.sub (Float64.mul f2 l) m2
  (vF m1 m2 (Float64.add h f13), vF m1 m2 h, vF m1 m2 (Float64.sub h f13))
noncomputable def ofHsv (h s v : UInt64) : Option (UInt64 × UInt64 × UInt64) :=
  if eqF s 0 then some (v, v, v) else
  match truncF (Float64.mul h f6) with
  | none => none
  | some i =>
    if i.natAbs < 2 ^ 1023 then
      let f := Float64.sub (Float64.mul h f6) (Float64.ofInt i)
      let p := Float64.mul v (Float64.sub f1 s)
      let q := Float64.mul v (Float64.sub f1 (Float64.mul s f))
      let t := Float64.mul v (Float64.sub f1 (Float64.mul s (Float64.sub f1 f)))
      if i % 6 = 0 then some (v, t, p) else if i % 6 = 1 then some (q, v, p) else if i % 6 = 2 then some (p, v, t) else if i % 6 = 3 then some (p, q, v) else if i % 6 = 4 then some (t, p, v) else some (v, p, q)
    else none

section
variable {c : Cx} {n : Nat} {ρ : Rho}

theorem v_body (hT : Top c) {m1 m2 h : UInt64} : Ex (funCx c (fnScope PW 11)) n [("m1", .sh (.float m1)), ("m2", .sh (.float m2)), ("hue", .sh (.float h))] (fnBody PW 11) (.ret (.float (vF m1 m2 h)) false) := by
  conv in (fnBody _ _) => whnf
  obtain ⟨u6, hu6, g6⟩ := (hT.sub (sc := fnScope PW 11)).sixth
  obtain ⟨u2, hu2, g2⟩ := (hT.sub (sc := fnScope PW 11)).two
  refine Ex.cons (Ex1.assign (Ev.bin (Ev.name rfl rfl).b Ev.cfloat.b (BinOk.mod_ff (y := f1) z1)) rfl rfl) ?_
  unfold vF
  dsimp only
  generalize (Float64.divmod h f1).2 = hue
  cases h1 : flt hue f16 with
  | true =>
    rw [if_pos rfl]
    refine Ex.ret (Ex1.ite (q := true) (EvT.cmp (a := .float hue) (b := .float f16) (Ev.name rfl rfl).b (Ev.gfloat rfl g6 hu6 rfl).b (by show some _ = _; exact congrArg some h1) rfl) (fun _ => ?_) (fun h => by cases h))
    refine Ex.ret (Ex1.ret ?_)
    exact Ev.bin (Ev.name rfl rfl).b (Ev.bin (Ev.bin (Ev.bin (Ev.name rfl rfl).b (Ev.name rfl rfl).b BinOk.sub_ff).b (Ev.name rfl rfl).b BinOk.mul_ff).b Ev.cfloat.b BinOk.mul_ff).b BinOk.add_ff
  | false =>
    rw [if_neg (by simp)]
    refine Ex.cons (Ex1.ite (q := false) (EvT.cmp (a := .float hue) (b := .float f16) (Ev.name rfl rfl).b (Ev.gfloat rfl g6 hu6 rfl).b (by show some _ = _; exact congrArg some h1) rfl) (fun h => by cases h) (fun _ => Ex.nil)) ?_
    cases h2 : flt hue fh with
    | true =>
      rw [if_pos rfl]
      refine Ex.ret (Ex1.ite (q := true) (EvT.cmp (a := .float hue) (b := .float fh) (Ev.name rfl rfl).b Ev.cfloat.b (by show some _ = _; exact congrArg some h2) rfl) (fun _ => ?_) (fun h => by cases h))
      exact Ex.ret (Ex1.ret (Ev.name rfl rfl))
    | false =>
      rw [if_neg (by simp)]
      refine Ex.cons (Ex1.ite (q := false) (EvT.cmp (a := .float hue) (b := .float fh) (Ev.name rfl rfl).b Ev.cfloat.b (by show some _ = _; exact congrArg some h2) rfl) (fun h => by cases h) (fun _ => Ex.nil)) ?_
      cases h3 : flt hue f23 with
      | true =>
        rw [if_pos rfl]
        refine Ex.ret (Ex1.ite (q := true) (EvT.cmp (a := .float hue) (b := .float f23) (Ev.name rfl rfl).b (Ev.gfloat rfl g2 hu2 rfl).b (by show some _ = _; exact congrArg some h3) rfl) (fun _ => ?_) (fun h => by cases h))
        refine Ex.ret (Ex1.ret ?_)
        exact Ev.bin (Ev.name rfl rfl).b (Ev.bin (Ev.bin (Ev.bin (Ev.name rfl rfl).b (Ev.name rfl rfl).b BinOk.sub_ff).b (Ev.bin (Ev.gfloat rfl g2 hu2 rfl).b (Ev.name rfl rfl).b BinOk.sub_ff).b BinOk.mul_ff).b Ev.cfloat.b BinOk.mul_ff).b BinOk.add_ff
      | false =>
        rw [if_neg (by simp)]
        refine Ex.cons (Ex1.ite (q := false) (EvT.cmp (a := .float hue) (b := .float f23) (Ev.name rfl rfl).b (Ev.gfloat rfl g2 hu2 rfl).b (by show some _ = _; exact congrArg some h3) rfl) (fun h => by cases h) (fun _ => Ex.nil)) ?_
        exact Ex.ret (Ex1.ret (Ev.name rfl rfl))

theorem v_ok (hT : Top c) {m1 m2 h : UInt64} : FnV c (n + 1) 11 [.float m1, .float m2, .float h] (.float (vF m1 m2 h)) := fun a hf => by
  refine FOk.of (n := n) (xs := ["m1", "m2", "hue"]) hf ?_ (v_body hT)
  exact .three fun _ _ _ _ _ _ _ _ _ _ _ _ _ _ _ => rfl

theorem ofHls_body (hT : Top c) {h l s : UInt64} : Ex (funCx c (fnScope PW 10)) (n + 1) [("h", .sh (.float h)), ("l", .sh (.float l)), ("s", .sh (.float s))] (fnBody PW 10) (.ret (tup3 (ofHls h l s)) false) := by
  have h3 : (3 : Nat) ≤ sizeLine := by decide
  conv in (fnBody _ _) => whnf
  obtain ⟨u3, hu3, g3⟩ := (hT.sub (sc := fnScope PW 10)).third
  unfold ofHls
  cases h0 : eqF s 0 with
  | true =>
    rw [if_pos rfl]
    refine Ex.ret (Ex1.ite (q := true) (EvT.cmp (a := .float s) (b := .float 0) (Ev.name rfl rfl).b Ev.cfloat.b (by show some _ = _; exact congrArg some h0) rfl) (fun _ => ?_) (fun h => by cases h))
    exact Ex.ret (Ex1.ret (Ev.tup (.cons rfl (Ev.name rfl rfl) (.cons rfl (Ev.name rfl rfl) (.cons rfl (Ev.name rfl rfl) .nil))) h3))
  | false =>
    rw [if_neg (by simp)]
    dsimp only
    refine Ex.cons (Ex1.ite (q := false) (EvT.cmp (a := .float s) (b := .float 0) (Ev.name rfl rfl).b Ev.cfloat.b (by show some _ = _; exact congrArg some h0) rfl) (fun h => by cases h) (fun _ => Ex.nil)) ?_
    refine Ex.cons (ρ' := put "m2" (.sh (.float (if fle l fh then Float64.mul l (Float64.add f1 s) else Float64.sub (Float64.add l s) (Float64.mul l s)))) [("h", .sh (.float h)), ("l", .sh (.float l)), ("s", .sh (.float s))]) ?_ ?_
    · refine Ex1.ite (q := fle l fh) (EvT.cmp (a := .float l) (b := .float fh) (Ev.name rfl rfl).b Ev.cfloat.b rfl rfl) (fun h1 => ?_) (fun h1 => ?_)
      · rw [h1, if_pos rfl]
        exact Ex.cons (Ex1.assign (Ev.bin (Ev.name rfl rfl).b (Ev.bin Ev.cfloat.b (Ev.name rfl rfl).b BinOk.add_ff).b BinOk.mul_ff) rfl rfl) Ex.nil
      · rw [h1, if_neg (by simp)]
        exact Ex.cons (Ex1.assign (Ev.bin (Ev.bin (Ev.name rfl rfl).b (Ev.name rfl rfl).b BinOk.add_ff).b (Ev.bin (Ev.name rfl rfl).b (Ev.name rfl rfl).b BinOk.mul_ff).b BinOk.sub_ff) rfl rfl) Ex.nil
    · generalize (if fle l fh then Float64.mul l (Float64.add f1 s) else Float64.sub (Float64.add l s) (Float64.mul l s)) = m2
      refine Ex.cons (Ex1.assign (Ev.bin (Ev.bin Ev.cfloat.b (Ev.name rfl rfl).b BinOk.mul_ff).b (Ev.name rfl rfl).b BinOk.sub_ff) rfl rfl) ?_
      refine Ex.ret (Ex1.ret (Ev.tup (.cons rfl (Ev.fn 11 hT.sub rfl rfl (.cons rfl (Ev.name rfl rfl) (.cons rfl (Ev.name rfl rfl) (.cons rfl (Ev.bin (Ev.name rfl rfl).b (Ev.gfloat rfl g3 hu3 rfl).b BinOk.add_ff) .nil))) (by simp) (v_ok hT.sub)) (.cons rfl (Ev.fn 11 hT.sub rfl rfl (.cons rfl (Ev.name rfl rfl) (.cons rfl (Ev.name rfl rfl) (.cons rfl (Ev.name rfl rfl) .nil))) (by simp) (v_ok hT.sub)) (.cons rfl (Ev.fn 11 hT.sub rfl rfl (.cons rfl (Ev.name rfl rfl) (.cons rfl (Ev.name rfl rfl) (.cons rfl (Ev.bin (Ev.name rfl rfl).b (Ev.gfloat rfl g3 hu3 rfl).b BinOk.sub_ff) .nil))) (by simp) (v_ok hT.sub)) .nil))) h3))

theorem ofHls_ok (hT : Top c) {h l s : UInt64} : FnV c (n + 2) 10 [.float h, .float l, .float s] (tup3 (ofHls h l s)) := fun a hf => by
  refine FOk.of (n := n + 1) (xs := ["h", "l", "s"]) hf ?_ (ofHls_body hT)
  exact .three fun _ _ _ _ _ _ _ _ _ _ _ _ _ _ _ => rfl

theorem ofHsv_body (hT : Top c) {h s v : UInt64} {w : UInt64 × UInt64 × UInt64} (hw : ofHsv h s v = some w) : Ex (funCx c (fnScope PW 13)) n [("h", .sh (.float h)), ("s", .sh (.float s)), ("v", .sh (.float v))] (fnBody PW 13) (.ret (tup3 w) false) := by
  have h3 : (3 : Nat) ≤ sizeLine := by decide
  conv in (fnBody _ _) => whnf
  unfold ofHsv at hw
  cases h0 : eqF s 0 with
  | true =>
    rw [h0, if_pos rfl] at hw
    cases hw
    refine Ex.ret (Ex1.ite (q := true) (EvT.cmp (a := .float s) (b := .float 0) (Ev.name rfl rfl).b Ev.cfloat.b (by show some _ = _; exact congrArg some h0) rfl) (fun _ => ?_) (fun h => by cases h))
    exact Ex.ret (Ex1.ret (Ev.tup (.cons rfl (Ev.name rfl rfl) (.cons rfl (Ev.name rfl rfl) (.cons rfl (Ev.name rfl rfl) .nil))) h3))
  | false =>
    rw [h0, if_neg (by simp)] at hw
    refine Ex.cons (Ex1.ite (q := false) (EvT.cmp (a := .float s) (b := .float 0) (Ev.name rfl rfl).b Ev.cfloat.b (by show some _ = _; exact congrArg some h0) rfl) (fun h => by cases h) (fun _ => Ex.nil)) ?_
    cases ht : truncF (Float64.mul h f6) with
    | none => rw [ht] at hw; cases hw
    | some i =>
      rw [ht] at hw
      dsimp only at hw
      by_cases hi : i.natAbs < 2 ^ 1023
      · rw [if_pos hi] at hw
        refine Ex.cons (Ex1.assign (t := .int i) (Ev.bi hT.sub rfl rfl (EachB.cons rfl (Ev.bin (Ev.name rfl rfl).b Ev.cfloat.b BinOk.mul_ff).b .nil) (by simp) (bi_int ht) rfl) rfl rfl) ?_
        refine Ex.cons (Ex1.assign (Ev.bin (Ev.bin (Ev.name rfl rfl).b Ev.cfloat.b BinOk.mul_ff).b (Ev.name rfl rfl).b (BinOk.sub_fi hi)) rfl rfl) ?_
        refine Ex.cons (Ex1.assign (Ev.bin (Ev.name rfl rfl).b (Ev.bin Ev.cfloat.b (Ev.name rfl rfl).b BinOk.sub_ff).b BinOk.mul_ff) rfl rfl) ?_
        refine Ex.cons (Ex1.assign (Ev.bin (Ev.name rfl rfl).b (Ev.bin Ev.cfloat.b (Ev.bin (Ev.name rfl rfl).b (Ev.name rfl rfl).b BinOk.mul_ff).b BinOk.sub_ff).b BinOk.mul_ff) rfl rfl) ?_
        refine Ex.cons (Ex1.assign (Ev.bin (Ev.name rfl rfl).b (Ev.bin Ev.cfloat.b (Ev.bin (Ev.name rfl rfl).b (Ev.bin Ev.cfloat.b (Ev.name rfl rfl).b BinOk.sub_ff).b BinOk.mul_ff).b BinOk.sub_ff).b BinOk.mul_ff) rfl rfl) ?_
        refine Ex.cons (Ex1.assign (t := .int (i % 6)) (Ev.bin (Ev.name rfl rfl).b Ev.cint.b (BinOk.mod_int (by decide))) rfl rfl) ?_
        have hr : 0 ≤ i % 6 ∧ i % 6 < 6 := ⟨Int.emod_nonneg _ (by decide), Int.emod_lt_of_pos _ (by decide)⟩
        generalize i % 6 = k at hw hr ⊢
        have hk := iLt6 hr.1 hr.2
        have no : ∀ {st : Stmt} {rest : List Stmt} {o : Out} {ρ : Rho}, Ex1 (funCx c (fnScope PW 13)) n ρ st (.next ρ) → Ex (funCx c (fnScope PW 13)) n ρ rest o → Ex (funCx c (fnScope PW 13)) n ρ (st :: rest) o := fun a b => Ex.cons a b
        rcases hk with rfl | rfl | rfl | rfl | rfl | rfl
        · simp at hw; subst hw
          refine Ex.ret (Ex1.ite (q := true) (EvT.cmp (a := .int 0) (b := .int 0) (Ev.name rfl rfl).b Ev.cint.b rfl rfl) (fun _ => ?_) (fun h => by cases h))
          exact Ex.ret (Ex1.ret (Ev.tup (.cons rfl (Ev.name rfl rfl) (.cons rfl (Ev.name rfl rfl) (.cons rfl (Ev.name rfl rfl) .nil))) h3))
        · simp at hw; subst hw
          refine no (Ex1.ite (q := false) (EvT.cmp (a := .int 1) (b := .int 0) (Ev.name rfl rfl).b Ev.cint.b rfl rfl) (fun h => by cases h) (fun _ => Ex.nil)) ?_
          refine Ex.ret (Ex1.ite (q := true) (EvT.cmp (a := .int 1) (b := .int 1) (Ev.name rfl rfl).b Ev.cint.b rfl rfl) (fun _ => ?_) (fun h => by cases h))
          exact Ex.ret (Ex1.ret (Ev.tup (.cons rfl (Ev.name rfl rfl) (.cons rfl (Ev.name rfl rfl) (.cons rfl (Ev.name rfl rfl) .nil))) h3))
        · simp at hw; subst hw
          refine no (Ex1.ite (q := false) (EvT.cmp (a := .int 2) (b := .int 0) (Ev.name rfl rfl).b Ev.cint.b rfl rfl) (fun h => by cases h) (fun _ => Ex.nil)) ?_
          refine no (Ex1.ite (q := false) (EvT.cmp (a := .int 2) (b := .int 1) (Ev.name rfl rfl).b Ev.cint.b rfl rfl) (fun h => by cases h) (fun _ => Ex.nil)) ?_
          refine Ex.ret (Ex1.ite (q := true) (EvT.cmp (a := .int 2) (b := .int 2) (Ev.name rfl rfl).b Ev.cint.b rfl rfl) (fun _ => ?_) (fun h => by cases h))
          exact Ex.ret (Ex1.ret (Ev.tup (.cons rfl (Ev.name rfl rfl) (.cons rfl (Ev.name rfl rfl) (.cons rfl (Ev.name rfl rfl) .nil))) h3))
        · simp at hw; subst hw
          refine no (Ex1.ite (q := false) (EvT.cmp (a := .int 3) (b := .int 0) (Ev.name rfl rfl).b Ev.cint.b rfl rfl) (fun h => by cases h) (fun _ => Ex.nil)) ?_
          refine no (Ex1.ite (q := false) (EvT.cmp (a := .int 3) (b := .int 1) (Ev.name rfl rfl).b Ev.cint.b rfl rfl) (fun h => by cases h) (fun _ => Ex.nil)) ?_
          refine no (Ex1.ite (q := false) (EvT.cmp (a := .int 3) (b := .int 2) (Ev.name rfl rfl).b Ev.cint.b rfl rfl) (fun h => by cases h) (fun _ => Ex.nil)) ?_
          refine Ex.ret (Ex1.ite (q := true) (EvT.cmp (a := .int 3) (b := .int 3) (Ev.name rfl rfl).b Ev.cint.b rfl rfl) (fun _ => ?_) (fun h => by cases h))
          exact Ex.ret (Ex1.ret (Ev.tup (.cons rfl (Ev.name rfl rfl) (.cons rfl (Ev.name rfl rfl) (.cons rfl (Ev.name rfl rfl) .nil))) h3))
        · simp at hw; subst hw
          refine no (Ex1.ite (q := false) (EvT.cmp (a := .int 4) (b := .int 0) (Ev.name rfl rfl).b Ev.cint.b rfl rfl) (fun h => by cases h) (fun _ => Ex.nil)) ?_
          refine no (Ex1.ite (q := false) (EvT.cmp (a := .int 4) (b := .int 1) (Ev.name rfl rfl).b Ev.cint.b rfl rfl) (fun h => by cases h) (fun _ => Ex.nil)) ?_
          refine no (Ex1.ite (q := false) (EvT.cmp (a := .int 4) (b := .int 2) (Ev.name rfl rfl).b Ev.cint.b rfl rfl) (fun h => by cases h) (fun _ => Ex.nil)) ?_
          refine no (Ex1.ite (q := false) (EvT.cmp (a := .int 4) (b := .int 3) (Ev.name rfl rfl).b Ev.cint.b rfl rfl) (fun h => by cases h) (fun _ => Ex.nil)) ?_
          refine Ex.ret (Ex1.ite (q := true) (EvT.cmp (a := .int 4) (b := .int 4) (Ev.name rfl rfl).b Ev.cint.b rfl rfl) (fun _ => ?_) (fun h => by cases h))
          exact Ex.ret (Ex1.ret (Ev.tup (.cons rfl (Ev.name rfl rfl) (.cons rfl (Ev.name rfl rfl) (.cons rfl (Ev.name rfl rfl) .nil))) h3))
        · simp at hw; subst hw
          refine no (Ex1.ite (q := false) (EvT.cmp (a := .int 5) (b := .int 0) (Ev.name rfl rfl).b Ev.cint.b rfl rfl) (fun h => by cases h) (fun _ => Ex.nil)) ?_
          refine no (Ex1.ite (q := false) (EvT.cmp (a := .int 5) (b := .int 1) (Ev.name rfl rfl).b Ev.cint.b rfl rfl) (fun h => by cases h) (fun _ => Ex.nil)) ?_
          refine no (Ex1.ite (q := false) (EvT.cmp (a := .int 5) (b := .int 2) (Ev.name rfl rfl).b Ev.cint.b rfl rfl) (fun h => by cases h) (fun _ => Ex.nil)) ?_
          refine no (Ex1.ite (q := false) (EvT.cmp (a := .int 5) (b := .int 3) (Ev.name rfl rfl).b Ev.cint.b rfl rfl) (fun h => by cases h) (fun _ => Ex.nil)) ?_
          refine no (Ex1.ite (q := false) (EvT.cmp (a := .int 5) (b := .int 4) (Ev.name rfl rfl).b Ev.cint.b rfl rfl) (fun h => by cases h) (fun _ => Ex.nil)) ?_
          refine Ex.ret (Ex1.ite (q := true) (EvT.cmp (a := .int 5) (b := .int 5) (Ev.name rfl rfl).b Ev.cint.b rfl rfl) (fun _ => ?_) (fun h => by cases h))
          exact Ex.ret (Ex1.ret (Ev.tup (.cons rfl (Ev.name rfl rfl) (.cons rfl (Ev.name rfl rfl) (.cons rfl (Ev.name rfl rfl) .nil))) h3))
      · rw [if_neg hi] at hw; cases hw

theorem ofHsv_ok (hT : Top c) {h s v : UInt64} {w : UInt64 × UInt64 × UInt64} (hw : ofHsv h s v = some w) : FnV c (n + 1) 13 [.float h, .float s, .float v] (tup3 w) := fun a hf => by
  refine FOk.of (n := n) (xs := ["h", "s", "v"]) hf ?_ (ofHsv_body hT hw)
  exact .three fun _ _ _ _ _ _ _ _ _ _ _ _ _ _ _ => rfl
end
end Mine
end

section
set_option autoImplicit false
set_option linter.unusedVariables false
set_option linter.unusedSimpArgs false
namespace Mine
open PySem PySem.Calls PyProof.Rows PySem.SeqAt PySem.Spec

/-- what map_table_b3 makes of a sign -/
noncomputable def b3F (q : Nat) : Str := match lookup (.int q) b3D with
  | some (.str y) => y
  | _ => Txt.lower ⟨#[q]⟩
noncomputable def b3Ok (q : Nat) : Bool := match lookup (.int q) b3D with
  | some (.str _) => true
  | none => !Builtin.Str.tooLong (Txt.lower ⟨#[q]⟩).length
  | _ => false

section
variable {c : Cx} {n : Nat} {ρ : Rho}
theorem setOf_keep {h h' : Heap} {a m : Nat} {S : Int → Bool} (x : h.SetOf (intKind c.prog c.w) a S m) (hk : ∀ b o, h.get? b = some o → h'.get? b = some o) : h'.SetOf (intKind c.prog c.w) a S m :=
  let ⟨o, es, ep, t, ho, r⟩ := x; ⟨o, es, ep, t, hk _ _ ho, r⟩

theorem bi_ord {q : Nat} : Mine.bi "ord" [.str ⟨#[q]⟩] = some (.int q) := by
  rw [bi_ord0]; rfl

theorem Ev.inB1 (hT : Top c) {e : Expr} {p pos : Pos} {q : Nat} (hk : c.ns.lookup ("b1_set" : Str) = some .globalImplicit) (h : Ev c n ρ e (.int q)) : Ev c n ρ (.Compare e [.In] [.Name "b1_set" p] pos) (.bool (b1S q)) := .mk fun A s env M₀ O rm R => by
  obtain ⟨a, m, g, hs⟩ := hT.b1
  refine wpAny_Compare1 (h.go rm R fun v s₁ x₁ R₁ d₁ => wp_gname R₁ hk g ?_ rfl) (marks_of rfl)
  obtain ⟨t, rfl⟩ := d₁.borrow.int
  refine wpAny_inSet_of (knd := intKind c.prog c.w) (k := (q : Int)) (intKind_is c.prog c.w _ t) rfl (setOf_keep hs R₁.bas.heap) ?_
  exact ⟨Ext.trans x₁ (Ext.tok _), Den.of_bool⟩

theorem Ev.getB3 (hT : Top c) {e : Expr} {p ap pos : Pos} {q : Nat} {r : T} (hk : c.ns.lookup ("b3_exceptions" : Str) = some .globalImplicit) (h : Ev c n ρ e (.int q)) (hs : notStar e = true) (hl : (ap.endLine == pos.line) = true)
    (hr : (match lookup (.int q) b3D with | some (.str y) => some (.str y) | none => some .none | _ => none) = some r) : Ev c n ρ (.Call (.Attribute (.Name "b3_exceptions" p) "get" ap) [e] [] pos) r := .mk fun A s env M₀ O rm R => by
  obtain ⟨a, g, hT3⟩ := hT.b3
  refine Call_method1 (base_of rfl) (by rw [starEach_cons hs]; rfl) hl (wp_gname R hk g ?_ rfl)
  have T₀ := hT3.keep R.bas.heap
  obtain ⟨lo, kvs, hd, hf⟩ := id T₀
  refine ⟨"dict", "dict.get", PySem.F.plainAttrs_dict, PySem.F.slot_dict_get, PySem.F.type_dict_get, hd.typeIs, hd.mapOf.noDict, ?_⟩
  refine callWith_builtin rfl (evalArgs_plain (spliced_cons (h.go rm R fun v s₂ x₂ R₂ d₂ => spliced_nil ?_)))
  obtain ⟨t, rfl⟩ := d₂.borrow.int
  refine call_get1_intTab (hT3.keep R₂.bas.heap) fun v hv => ?_
  refine ⟨Ext.trans x₂ (Ext.tok _), ?_⟩
  split at hr
  · rename_i y hy
    cases hr
    rw [hy] at hv
    obtain ⟨t', rfl⟩ := hv.str_inv
    exact Den.of_str
  · rename_i hy
    cases hr
    rw [hy] at hv
    cases hv.none_inv
    exact Den.of_none
  · cases hr

theorem Ev.lower {o : Expr} {ap pos : Pos} {x : Str} (ho : EvB c n ρ o (.str x)) (hn : noSuper o = true) (hl : (ap.endLine == pos.line) = true) (hz : Builtin.Str.tooLong (Txt.lower x).length = false) : Ev c n ρ (.Call (.Attribute o "lower" ap) [] [] pos) (.str (Txt.lower x)) := .mk fun A s env M₀ O rm R => by
  refine Call_method0 (base_of hn) hl (ho.go rm R fun ov s₁ x₁ R₁ d₁ => ?_)
  obtain ⟨t, rfl⟩ := d₁.str
  exact SB.lower hz ⟨Ext.trans x₁ (Ext.tok _), Den.of_str⟩
end
end Mine
end

section
set_option autoImplicit false
set_option linter.unusedVariables false
set_option linter.unusedSimpArgs false
namespace Mine
open PySem PySem.Calls PyProof.Rows PySem.SeqAt PySem.Spec

section
variable {c : Cx} {n : Nat} {ρ : Rho}
theorem b1_ok (hT : Top c) {q : Nat} : FnV c (n + 1) 16 [.str ⟨#[q]⟩] (.bool (b1S q)) := fun a hf => by
  refine FOk.of (n := n) (xs := ["code"]) hf ?_ ?_
  · exact .one fun _ _ _ _ _ _ _ _ _ _ _ _ _ => rfl
  · conv in (fnBody _ _) => whnf
    refine Ex.ret (Ex1.ret ?_)
    exact Ev.inB1 hT.sub rfl (Ev.bi hT.sub rfl rfl (EachB.cons rfl (Ev.name rfl rfl).b .nil) (by simp) bi_ord rfl)

theorem b3_ok (hT : Top c) {q : Nat} (hq : b3Ok q = true) : FnV c (n + 1) 18 [.str ⟨#[q]⟩] (.str (b3F q)) := fun a hf => by
  refine FOk.of (n := n) (xs := ["code"]) hf ?_ ?_
  · exact .one fun _ _ _ _ _ _ _ _ _ _ _ _ _ => rfl
  · conv in (fnBody _ _) => whnf
    unfold b3Ok at hq
    unfold b3F
    split at hq
    · rename_i y hy
      refine Ex.cons (Ex1.assign (t := .str y) (Ev.getB3 hT.sub rfl (Ev.bi (r := .int q) hT.sub rfl rfl (EachB.cons rfl (Ev.name rfl rfl).b .nil) (by simp) bi_ord rfl) rfl rfl (by rw [hy])) rfl rfl) ?_
      rw [hy]
      refine Ex.ret (Ex1.ite (q := true) (EvT.cmp (a := .str y) (b := .none) (Ev.name rfl rfl).b Ev.cnone.b rfl rfl) (fun _ => ?_) (fun h => by cases h))
      exact Ex.ret (Ex1.ret (Ev.name rfl rfl))
    · rename_i hy
      refine Ex.cons (Ex1.assign (t := .none) (Ev.getB3 hT.sub rfl (Ev.bi (r := .int q) hT.sub rfl rfl (EachB.cons rfl (Ev.name rfl rfl).b .nil) (by simp) bi_ord rfl) rfl rfl (by rw [hy])) rfl rfl) ?_
      rw [hy]
      refine Ex.cons (Ex1.ite (q := false) (EvT.cmp (a := .none) (b := .none) (Ev.name rfl rfl).b Ev.cnone.b rfl rfl) (fun h => by cases h) (fun _ => Ex.nil)) ?_
      exact Ex.ret (Ex1.ret (Ev.lower (Ev.name rfl rfl).b rfl rfl (by simpa using hq)))
    · cases hq
end
end Mine
end

section
set_option autoImplicit false
set_option linter.unusedVariables false
set_option linter.unusedSimpArgs false
namespace Mine
open PySem PySem.Calls PyProof.Rows PySem.SeqAt PySem.Spec

noncomputable def strsT (l : List Str) : T := .list (l.map .str)
/-! _law_piece -/
noncomputable def ownS (m : Nat) : Str := if m = 0 then "(" else ")"
noncomputable def othS (m : Nat) : Str := if m = 0 then ")" else "("
/-- the k-th way to write the bracket m: its text and its units -/
noncomputable def pieceF (m k : Nat) : Str × List Str :=
  if k = 0 then (ownS m, [ownS m]) else if k = 1 then ("\\" ++ othS m ++ ownS m, ["\\" ++ othS m, ownS m]) else if k = 2 then ("\"" ++ othS m ++ "\"" ++ ownS m, [ownS m])
  else if k = 3 then (ownS m ++ "\"\\\"" ++ othS m ++ "\"", [ownS m]) else if k = 4 then ("\\\\\\" ++ othS m ++ "\\\\" ++ ownS m, ["\\\\", "\\" ++ othS m, "\\\\", ownS m]) else ("\\\"" ++ ownS m, ["\\\"", ownS m])
noncomputable def pm (x : Int) : Nat := (x % 2).toNat
noncomputable def pk (x : Int) : Nat := (x / 2 % 6).toNat
noncomputable def pieceX (x : Int) : Str × List Str := pieceF (pm x) (pk x)
noncomputable def pieceT (p : Str × List Str) : T := .tup [.str p.1, strsT p.2]
theorem pm_lt (x : Int) : pm x < 2 ∧ x % 2 = (pm x : Int) := by unfold pm; lia
theorem pk_lt (x : Int) : pk x < 6 ∧ x / 2 % 6 = (pk x : Int) := by unfold pk; lia
theorem own_len (m : Nat) : (ownS m).length = 1 ∧ (othS m).length = 1 := by
  unfold ownS othS
  split <;> exact ⟨by decide, by decide⟩

section
variable {c : Cx} {n : Nat} {ρ : Rho}
theorem own_ix (m : Nat) (h : m < 2) : ixT (.str "()") (.int (m : Int)) = some (.str (ownS m)) ∧ ixT (.str ")(") (.int (m : Int)) = some (.str (othS m)) := by
  have : m = 0 ∨ m = 1 := by lia
  rcases this with rfl | rfl <;> exact ⟨rfl, rfl⟩
theorem addS_len (p q : Str) : (p ++ q).length = p.length + q.length := by
  show (p.cps ++ q.cps).size = _
  rw [Array.size_append]; rfl
theorem Ev.cat {l r : Expr} {pos : Pos} {p q : Str} (hl : Ev c n ρ l (.str p)) (hr : Ev c n ρ r (.str q)) (h : p.length + q.length ≤ 1000000) : Ev c n ρ (.BinOp l .Add r pos) (.str (p ++ q)) :=
  Ev.bin hl.b hr.b (BinOk.add_str (Nat.le_trans h (by decide)))

theorem piece_body (hT : Top c) (x : Int) : Ex (funCx c (fnScope PW 20)) n [("x", .sh (.int x))] (fnBody PW 20) (.ret (pieceT (pieceX x)) false) := by
  have hz : (1000000 : Nat) ≤ sizeLine := by decide
  conv in (fnBody _ _) => whnf
  obtain ⟨hm, em⟩ := pm_lt x
  obtain ⟨hk, ek⟩ := pk_lt x
  unfold pieceX
  generalize pm x = m at hm em ⊢
  generalize pk x = k at hk ek ⊢
  obtain ⟨i1, i2⟩ := own_ix m hm
  obtain ⟨l1, l2⟩ := own_len m
  refine Ex.cons (Ex1.assign (t := .str (ownS m)) (Ev.ix (o := .str "()") (k := .int (x % 2)) Ev.cstr.b (Ev.bin (Ev.name rfl rfl).b Ev.cint.b (BinOk.mod_int (by decide))) rfl (em ▸ i1)) rfl rfl) ?_
  refine Ex.cons (Ex1.assign (t := .str (othS m)) (Ev.ix (o := .str ")(") (k := .int (x % 2)) Ev.cstr.b (Ev.bin (Ev.name rfl rfl).b Ev.cint.b (BinOk.mod_int (by decide))) rfl (em ▸ i2)) rfl rfl) ?_
  generalize hw : ownS m = w at l1 ⊢
  generalize ho : othS m = o at l2 ⊢
  have b1 : ("\\" : Str).length = 1 := by decide
  have b2 : ("\"" : Str).length = 1 := by decide
  have b3 : ("\"\\\"" : Str).length = 3 := by decide
  have b4 : ("\\\\\\" : Str).length = 3 := by decide
  have b5 : ("\\\\" : Str).length = 2 := by decide
  have b6 : ("\\\"" : Str).length = 2 := by decide
  have e2 : 2 ≤ sizeLine := by lia
  refine Ex.ret (Ex1.ret (Ev.ix (o := .list ([(w, [w]), ("\\" ++ o ++ w, ["\\" ++ o, w]), ("\"" ++ o ++ "\"" ++ w, [w]), (w ++ "\"\\\"" ++ o ++ "\"", [w]), ("\\\\\\" ++ o ++ "\\\\" ++ w, ["\\\\", "\\" ++ o, "\\\\", w]), ("\\\"" ++ w, ["\\\"", w])].map pieceT)) (k := .int (x / 2 % 6)) (EvN.list ?_ (by show 6 ≤ sizeLine; lia)).ev.b (Ev.bin (Ev.bin (Ev.name rfl rfl).b Ev.cint.b (BinOk.div_int (by decide) (by decide))).b Ev.cint.b (BinOk.mod_int (by decide))) rfl ?_))
  · refine .cons rfl (Ev.tup (.cons rfl (Ev.name rfl rfl) (.cons rfl (EvN.list (.cons rfl (Ev.name rfl rfl) .nil) (by show 1 ≤ sizeLine; lia)).ev .nil)) e2) ?_
    refine .cons rfl (Ev.tup (.cons rfl (Ev.cat (Ev.cat Ev.cstr (Ev.name rfl rfl) (by lia)) (Ev.name rfl rfl) (by simp only [addS_len]; lia)) (.cons rfl (EvN.list (.cons rfl (Ev.cat Ev.cstr (Ev.name rfl rfl) (by lia)) (.cons rfl (Ev.name rfl rfl) .nil)) e2).ev .nil)) e2) ?_
    refine .cons rfl (Ev.tup (.cons rfl (Ev.cat (Ev.cat (Ev.cat Ev.cstr (Ev.name rfl rfl) (by lia)) Ev.cstr (by simp only [addS_len]; lia)) (Ev.name rfl rfl) (by simp only [addS_len]; lia)) (.cons rfl (EvN.list (.cons rfl (Ev.name rfl rfl) .nil) (by show 1 ≤ sizeLine; lia)).ev .nil)) e2) ?_
    refine .cons rfl (Ev.tup (.cons rfl (Ev.cat (Ev.cat (Ev.cat (Ev.name rfl rfl) Ev.cstr (by lia)) (Ev.name rfl rfl) (by simp only [addS_len]; lia)) Ev.cstr (by simp only [addS_len]; lia)) (.cons rfl (EvN.list (.cons rfl (Ev.name rfl rfl) .nil) (by show 1 ≤ sizeLine; lia)).ev .nil)) e2) ?_
    refine .cons rfl (Ev.tup (.cons rfl (Ev.cat (Ev.cat (Ev.cat Ev.cstr (Ev.name rfl rfl) (by lia)) Ev.cstr (by simp only [addS_len]; lia)) (Ev.name rfl rfl) (by simp only [addS_len]; lia)) (.cons rfl (EvN.list (.cons rfl Ev.cstr (.cons rfl (Ev.cat Ev.cstr (Ev.name rfl rfl) (by lia)) (.cons rfl Ev.cstr (.cons rfl (Ev.name rfl rfl) .nil)))) (by show 4 ≤ sizeLine; lia)).ev .nil)) e2) ?_
    exact .cons rfl (Ev.tup (.cons rfl (Ev.cat Ev.cstr (Ev.name rfl rfl) (by lia)) (.cons rfl (EvN.list (.cons rfl Ev.cstr (.cons rfl (Ev.name rfl rfl) .nil)) e2).ev .nil)) e2) .nil
  · rw [ek]
    have h6 : k = 0 ∨ k = 1 ∨ k = 2 ∨ k = 3 ∨ k = 4 ∨ k = 5 := by lia
    unfold pieceF
    rw [hw, ho]
    rcases h6 with rfl | rfl | rfl | rfl | rfl | rfl <;> rfl

theorem piece_ok (hT : Top c) (x : Int) : FnV c (n + 1) 20 [.int x] (pieceT (pieceX x)) := fun a hf => by
  refine FOk.of (n := n) (xs := ["x"]) hf ?_ (piece_body hT x)
  exact .one fun _ _ _ _ _ _ _ _ _ _ _ _ _ => rfl
end
end Mine
end

section
set_option autoImplicit false
set_option linter.unusedVariables false
set_option linter.unusedSimpArgs false
namespace Mine
open PySem PySem.Calls PyProof.Rows PySem.SeqAt PySem.Spec

theorem rangeL_eq : ∀ (m : Nat) (a : Int), rangeL a 1 m = (List.range m).map fun (k : Nat) => T.int (a + k)
  | 0, a => rfl
  | m + 1, a => by
    show T.int a :: rangeL (a + 1) 1 m = _
    rw [rangeL_eq m (a + 1), List.range_succ_eq_map, List.map_cons, List.map_map]
    congr 1
    · congr 1; lia
    · refine List.map_congr_left fun k _ => ?_
      show T.int (a + 1 + k) = T.int (a + ((k + 1 : Nat) : Int))
      congr 1; push_cast; lia
theorem rangeL0 (m : Nat) : rangeL 0 1 m = (List.range m).map fun (k : Nat) => T.int k := by
  rw [rangeL_eq]
  refine List.map_congr_left fun k _ => ?_
  show T.int (0 + (k : Int)) = T.int k
  rw [Int.zero_add]
theorem rangeN_nat {k : Nat} (h : k < 1000000) : rangeN (0, (k : Int), 1) = some k := by
  have hs : Builtin.Range.small 0 (k : Int) 1 = true := small_one (by decide) (by decide) (by lia) (by lia)
  have hr : Builtin.Range.rangeSize 0 (k : Int) 1 = (k : Int) := by rw [rangeSize_one]; split <;> lia
  unfold rangeN
  dsimp only
  rw [if_pos ⟨hs, by rw [hr]; lia⟩, hr]
  rfl
theorem cut_take {α : Type} (l : List α) (k : Nat) (h : k ≤ l.length) : cut l none (some (k : Int)) = l.take k := by
  unfold cut
  simp [clipAt_nat, Nat.min_eq_left h]
theorem nth_nat {α : Type} (l : List α) (k : Nat) (h : k < l.length) (hz : k < 1000000) : nth l (k : Int) = some l[k] := by
  unfold nth
  have h1 : small62 (k : Int) = true := by simp [small62]; lia
  have h2 : seqIndex? (k : Int) l.length = some k := by unfold seqIndex?; simp; lia
  rw [if_pos h1, h2]
  simp [h]
theorem bi_sum {l : List Int} : Mine.bi "sum" [.list (l.map .int)] = some (.int l.sum) := by
  have e : ∀ l : List Int, allInts (l.map .int) = some l := by
    intro l
    induction l with
    | nil => rfl
    | cons a l ih => simp [allInts, ih]
  rw [bi_sum0]
  show sumT _ = _
  unfold sumT
  rw [e]; rfl
section
variable {c : Cx} {n : Nat} {ρ : Rho}
theorem Ev.castE {e : Expr} {t t' : T} (h : Ev c n ρ e t) (q : t = t') : Ev c n ρ e t' := q ▸ h

/-! _law_places -/
noncomputable def placeT (us : List Str) (k : Nat) : T := .tup [.int (((us.take (k + 1)).map fun u => (u.length : Int)).sum - 1), .str (us.getD k "")]
noncomputable def placesT (us : List Str) : T := .list ((List.range us.length).map (placeT us))
theorem places_body (hT : Top c) {us : List Str} (hl : us.length ≤ 1000) (hu : ∀ u ∈ us, u.length ≤ 1000) : Ex (funCx c (fnScope PW 21)) n [("units", .sh (strsT us))] (fnBody PW 21) (.ret (placesT us) true) := by
  have hz : (1000000 : Nat) ≤ sizeLine := by decide
  conv in (fnBody _ _) => whnf
  refine Ex.ret (Ex1.retNew (EvN.comp (l := rangeL 0 1 us.length) rfl rfl (EvI.range (ts := [.int us.length]) (q := (0, (us.length : Int), 1)) (m := us.length) rfl hT.sub.range (.cons rfl (Ev.bi (r := .int us.length) hT.sub rfl rfl (.cons rfl (Ev.name (t := strsT us) rfl rfl).b .nil) (by simp) (by
      unfold strsT
      rw [bi_lenL (by rw [List.length_map]; lia), List.length_map]) rfl).b .nil) (by simp) rfl (rangeN_nat (by lia))) ?_ (by simp; lia)))
  rw [rangeL0]
  refine Turns.map1 (fun (k : Nat) => T.int k) (placeT us) rfl rfl (List.range us.length) fun k hk => ⟨_, rfl, Sub.one rfl, ?_⟩
  have hk' : k < us.length := List.mem_range.mp hk
  have hcut : cut (us.map T.str) none (some ((k : Int) + 1)) = (us.take (k + 1)).map T.str := by
    have e : (k : Int) + 1 = ((k + 1 : Nat) : Int) := by lia
    rw [e, cut_take _ _ (by rw [List.length_map]; lia), List.map_take]
  refine Ev.castE (t := .tup [.int (((us.take (k + 1)).map fun u => (u.length : Int)).sum - 1), .str us[k]]) (Ev.tup (.cons rfl (Ev.bin (a := .int ((us.take (k + 1)).map fun u => (u.length : Int)).sum) (Ev.bi hT.sub.comp rfl rfl (.cons rfl (EvN.comp (l := (us.take (k + 1)).map T.str) (out := ((us.take (k + 1)).map fun u => (u.length : Int)).map T.int) rfl rfl ?_ ?_ ?_).ev.b .nil) (by simp) bi_sum rfl).b Ev.cint.b BinOk.sub_int) (.cons rfl (Ev.ix (o := strsT us) (k := .int k) (Ev.name rfl rfl).b (Ev.name rfl rfl) rfl ?_) .nil)) (by show 2 ≤ sizeLine; lia)) ?_
  · refine hcut ▸ (EvI.list (l := cut (us.map T.str) none (some ((k : Int) + 1))) (EvN.slice (l := us.map T.str) (a := none) (b := some ((k : Int) + 1)) (Ev.name rfl rfl).b .no (.yes (Ev.bin (Ev.name rfl rfl).b Ev.cint.b BinOk.add_int)) (by rw [List.length_map]; lia)).ev.b)
  · refine Turns.cast (Turns.map1 (T.str) (fun u => T.int (u.length : Int)) rfl rfl (us.take (k + 1)) fun u hu' => ⟨_, rfl, Sub.nil, ?_⟩) rfl (by rw [List.map_map]; rfl)
    exact Ev.bi hT.sub.comp.comp rfl rfl (.cons rfl (Ev.name rfl rfl).b .nil) (by simp) (bi_len (by have := hu u (List.mem_of_mem_take hu'); lia)) rfl
  · rw [List.length_map, List.length_map, List.length_take]; lia
  · show nth (us.map T.str) (k : Int) = _
    rw [nth_nat _ k (by rw [List.length_map]; exact hk') (by lia), List.getElem_map]
  · unfold placeT
    rw [List.getD_eq_getElem?_getD, List.getElem?_eq_getElem hk']; rfl
theorem places_ok (hT : Top c) {us : List Str} (hl : us.length ≤ 1000) (hu : ∀ u ∈ us, u.length ≤ 1000) : FnN c (n + 1) 21 [strsT us] ((List.range us.length).map (placeT us)) := fun a hf => by
  refine FNew.of (n := n) (xs := ["units"]) hf ?_ (places_body hT hl hu)
  exact .one fun _ _ _ _ _ _ _ _ _ _ _ _ _ => rfl
end
end Mine
end

section
set_option autoImplicit false
set_option linter.unusedVariables false
set_option linter.unusedSimpArgs false
namespace Mine
open PySem PySem.Calls PyProof.Rows PySem.SeqAt PySem.Spec

theorem items_rangeL {w : World} {M : List Addr} {h : Heap} {a : Int} {m : Nat} {acc : Array Value} (x : ItemsOf (fun i v => ∃ t, v = .int (a + i * 1) t) acc m) : DenL w M h (rangeL a 1 m) acc.toList := by
  obtain ⟨hs, hx⟩ := x
  have key : ∀ (l : List Value) (a : Int), (∀ (i : Nat) (v : Value), l[i]? = some v → ∃ t : Tok, v = Value.int (a + i * 1) t) → DenL w M h (rangeL a 1 l.length) l := by
    intro l
    induction l with
    | nil => exact fun a _ => DenL.nil
    | cons v l ih =>
      intro a hl
      obtain ⟨t, e⟩ := hl 0 v rfl
      refine ⟨v, l, rfl, ⟨t, by rw [e]; simp⟩, ih (a + 1) fun i v' hv => ?_⟩
      obtain ⟨t', e'⟩ := hl (i + 1) v' (by simpa using hv)
      exact ⟨t', by rw [e']; congr 1; push_cast; lia⟩
  have := key acc.toList a fun i v hv => hx i v (by simpa using hv)
  rw [Array.length_toList, hs] at this
  exact this

section
variable {c : Cx} {n : Nat} {ρ : Rho}
/-- list(range(a, b)) -/
theorem EvN.listRange {p p' pos pos' : Pos} {es : List Expr} {ts : List T} {a b : Int} {m : Nat} (hk : c.ns.lookup ("list" : Str) = some .globalImplicit) (g : GV c "list" (.type "list")) (hk' : c.ns.lookup ("range" : Str) = some .globalImplicit) (g' : GV c "range" (.type "range"))
    (h : EachB c n ρ es ts) (hne : es ≠ []) (hr : rangeT ts = some (a, b, 1)) (hm : rangeN (a, b, 1) = some m) (hz : m ≤ 1000000) : EvN c n ρ (.Call (.Name "list" p) [.Call (.Name "range" p') es [] pos'] [] pos) (rangeL a 1 m) := .mk fun A s env M₀ O rm R => by
  unfold rangeN at hm
  split at hm <;> cases hm
  rename_i hs
  refine wpAny_Call_NameR (wp_gname R hk g (Pv.callWith_type1 (wpAny_items_cons (wpAny_Call_NameR (wp_gname R hk' g' (wp_callWith (f := .type "range") trivial h hne rm R fun vs s' x R' d => wp_range hr d fun s₂ r t u v x₂ hlo hir => wpAny_pure ?_) (by decide))))) (by decide))
  have e : Builtin.Range.rangeSize a b 1 = ((Builtin.Range.rangeSize a b 1).toNat : Int) := by have := hs.2; dsimp only at this; lia
  refine wp_grow (call_list_range rm.1 hir hs.1 e (by dsimp only at hz; lia) fun h' tk acc c' hk' hg' hit hsz htk => ?_)
  have y : Ext s₂ { s₂ with heap := h', toks := tk } := ⟨fun b o _ e => hk' b o e, hsz, fun _ _ e => e, id, rfl, htk⟩
  exact ⟨Ext.trans x (Ext.trans x₂ y), _, acc, rfl, Nat.le_trans x.size x₂.size, ⟨c', hg'⟩, items_rangeL hit⟩
end
end Mine
end

section
set_option autoImplicit false
set_option linter.unusedVariables false
set_option linter.unusedSimpArgs false
namespace Mine
open PySem PySem.Calls PyProof.Rows PySem.SeqAt PySem.Spec

/-! _law_signs -/
noncomputable def let3 (k : Nat) : Nat := if k = 0 then 102 else if k = 1 then 115 else 107
noncomputable def odd3 (k : Nat) : Nat := if k = 0 then 8497 else if k = 1 then 383 else 120130
noncomputable def pair3 (k : Nat) : Nat := if k = 0 then 64256 else if k = 1 then 223 else 13261
noncomputable def greatL : List Int := [119808, 119860, 119912, 120016, 120172, 120224, 120276, 120328, 120380, 120432]
noncomputable def onceL (k : Nat) : List Int := [97 + ((let3 k : Int) - 97), 65 + ((let3 k : Int) - 97), (odd3 k : Int)] ++ greatL.map fun g => g + ((let3 k : Int) - 97)
noncomputable def signsF (k : Nat) (x : Int) : List Nat := [(b1L.getD (x / 12 % 27).toNat 0).toNat, ((onceL k).getD (x / 324 % 13).toNat 0).toNat, pair3 k]
noncomputable def chrT (q : Nat) : T := .str ⟨#[q]⟩
theorem b1L_ok : b1L.length = 27 ∧ (b1L.all fun i => decide (0 ≤ i) && decide (i < 70000)) = true := by decide +kernel
theorem once_ok : ∀ k : Nat, k < 3 → (onceL k).length = 13 ∧ ((onceL k).all fun i => decide (0 ≤ i) && decide (i < 200000)) = true := by decide +kernel
theorem nothing_eq : [T.int 173, .int 847, .int 6150, .int 6155, .int 6156, .int 6157, .int 8203, .int 8204, .int 8205, .int 8288, .int 65279] ++ rangeL 65024 1 16 = b1L.map .int := by rfl
theorem bi_chr {i : Int} (h0 : 0 ≤ i) (h1 : i < 1000000) : Mine.bi "chr" [.int i] = some (chrT i.toNat) := by
  rw [bi_chr0]
  exact if_pos ⟨h0, by lia⟩

section
variable {c : Cx} {n : Nat} {ρ : Rho}
theorem ix_of {l : List Int} {i : Int} (h0 : 0 ≤ i) (h1 : i < l.length) (hz : l.length ≤ 1000) : ixT (.list (l.map .int)) (.int i) = some (.int (l.getD i.toNat 0)) := by
  obtain ⟨k, rfl⟩ : ∃ k : Nat, i = (k : Int) := ⟨i.toNat, by lia⟩
  have hk : k < l.length := by lia
  show nth (l.map T.int) (k : Int) = _
  rw [nth_nat _ k (by rw [List.length_map]; exact hk) (by lia), List.getElem_map]
  rw [Int.toNat_natCast, List.getD_eq_getElem?_getD, List.getElem?_eq_getElem hk]
  rfl
theorem let_ix (k : Nat) (h : k < 3) : ixT (.str "fsk") (.int (k : Int)) = some (.str ⟨#[let3 k]⟩) ∧ ixT (.list [.int 8497, .int 383, .int 120130]) (.int (k : Int)) = some (.int (odd3 k)) ∧ ixT (.list [.int 64256, .int 223, .int 13261]) (.int (k : Int)) = some (.int (pair3 k)) := by
  have : k = 0 ∨ k = 1 ∨ k = 2 := by lia
  rcases this with rfl | rfl | rfl <;> exact ⟨rfl, rfl, rfl⟩

theorem signs_body (hT : Top c) {k : Nat} (hk : k < 3) {x : Int} (hx : 0 ≤ x) : Ex (funCx c (fnScope PW 22)) n [("kind", .sh (.int k)), ("x", .sh (.int x))] (fnBody PW 22) (.ret (.list ((signsF k x).map chrT)) true) := by
  have hz : (1000000 : Nat) ≤ sizeLine := by decide
  conv in (fnBody _ _) => whnf
  obtain ⟨i1, i2, i3⟩ := let_ix k hk
  obtain ⟨o1, o2⟩ := once_ok k hk
  obtain ⟨c1, c2⟩ := b1L_ok
  refine Ex.cons (Ex1.assign (t := .list (b1L.map .int)) (Ev.castE (EvN.add (EvN.list (.cons rfl Ev.cint (.cons rfl Ev.cint (.cons rfl Ev.cint (.cons rfl Ev.cint (.cons rfl Ev.cint (.cons rfl Ev.cint (.cons rfl Ev.cint (.cons rfl Ev.cint (.cons rfl Ev.cint (.cons rfl Ev.cint (.cons rfl Ev.cint .nil))))))))))) (by show 11 ≤ sizeLine; lia)).ev.b (EvN.listRange (m := 16) rfl hT.sub.list rfl hT.sub.range (.cons rfl Ev.cint.b (.cons rfl Ev.cint.b .nil)) (by simp) rfl (by decide +kernel) (by decide)).ev.b (by show 27 ≤ sizeLine; lia)).ev (congrArg T.list nothing_eq)) rfl rfl) ?_
  refine Ex.cons (Ex1.assign (t := .list (greatL.map .int)) (EvN.list (ts := greatL.map .int) (.cons rfl Ev.cint (.cons rfl Ev.cint (.cons rfl Ev.cint (.cons rfl Ev.cint (.cons rfl Ev.cint (.cons rfl Ev.cint (.cons rfl Ev.cint (.cons rfl Ev.cint (.cons rfl Ev.cint (.cons rfl Ev.cint .nil)))))))))) (by show 10 ≤ sizeLine; lia)).ev rfl rfl) ?_
  refine Ex.cons (Ex1.assign (t := .int ((let3 k : Int) - 97)) (Ev.bin (Ev.bi hT.sub rfl rfl (.cons rfl (Ev.ix (o := .str "fsk") (k := .int k) Ev.cstr.b (Ev.name rfl rfl) rfl i1).b .nil) (by simp) bi_ord rfl).b Ev.cint.b BinOk.sub_int) rfl rfl) ?_
  refine Ex.cons (Ex1.assign (t := .list ((onceL k).map .int)) (Ev.castE (EvN.add (a := [.int (97 + ((let3 k : Int) - 97)), .int (65 + ((let3 k : Int) - 97)), .int (odd3 k)]) (b := (greatL.map fun g => g + ((let3 k : Int) - 97)).map .int) (EvN.list (.cons rfl (Ev.bin Ev.cint.b (Ev.name rfl rfl).b BinOk.add_int) (.cons rfl (Ev.bin Ev.cint.b (Ev.name rfl rfl).b BinOk.add_int) (.cons rfl (Ev.ix (o := .list [.int 8497, .int 383, .int 120130]) (k := .int k) (EvN.list (.cons rfl Ev.cint (.cons rfl Ev.cint (.cons rfl Ev.cint .nil))) (by show 3 ≤ sizeLine; lia)).ev.b (Ev.name rfl rfl) rfl i2) .nil))) (by show 3 ≤ sizeLine; lia)).ev.b (EvN.comp (l := greatL.map .int) rfl rfl (EvI.list (Ev.name rfl rfl).b) ?_ (by show 10 ≤ sizeLine; lia)).ev.b (by show 13 ≤ sizeLine; lia)).ev rfl) rfl rfl) ?_
  · refine Turns.cast (Turns.map1 T.int (fun g => T.int (g + ((let3 k : Int) - 97))) rfl rfl greatL fun g hg => ⟨_, rfl, Sub.one rfl, Ev.bin (Ev.name rfl rfl).b (Ev.name rfl rfl).b BinOk.add_int⟩) rfl (by rw [List.map_map]; rfl)
  have r27 : 0 ≤ x / 12 % 27 ∧ x / 12 % 27 < 27 := by lia
  have r13 : 0 ≤ x / 324 % 13 ∧ x / 324 % 13 < 13 := by lia
  have v1 : 0 ≤ b1L.getD (x / 12 % 27).toNat 0 ∧ b1L.getD (x / 12 % 27).toNat 0 < 1000000 := by
    have hlt : (x / 12 % 27).toNat < b1L.length := by lia
    have := List.all_eq_true.mp c2 _ (List.getElem_mem hlt)
    rw [List.getD_eq_getElem?_getD, List.getElem?_eq_getElem hlt]
    simp only [Bool.and_eq_true, decide_eq_true_eq] at this
    simp only [Option.getD_some]; lia
  have v2 : 0 ≤ (onceL k).getD (x / 324 % 13).toNat 0 ∧ (onceL k).getD (x / 324 % 13).toNat 0 < 1000000 := by
    have hlt : (x / 324 % 13).toNat < (onceL k).length := by lia
    have := List.all_eq_true.mp o2 _ (List.getElem_mem hlt)
    rw [List.getD_eq_getElem?_getD, List.getElem?_eq_getElem hlt]
    simp only [Bool.and_eq_true, decide_eq_true_eq] at this
    simp only [Option.getD_some]; lia
  have v3 : (pair3 k : Int) < 1000000 := by unfold pair3; split <;> (try split) <;> lia
  refine Ex.ret (Ex1.retNew (EvN.list (.cons rfl (Ev.bi hT.sub rfl rfl (.cons rfl (Ev.ix (o := .list (b1L.map .int)) (k := .int (x / 12 % 27)) (Ev.name rfl rfl).b (Ev.bin (Ev.bin (Ev.name rfl rfl).b Ev.cint.b (BinOk.div_int (by decide) (by decide))).b Ev.cint.b (BinOk.mod_int (by decide))) rfl (ix_of r27.1 (by lia) (by lia))).b .nil) (by simp) (bi_chr v1.1 v1.2) rfl) (.cons rfl (Ev.bi hT.sub rfl rfl (.cons rfl (Ev.ix (o := .list ((onceL k).map .int)) (k := .int (x / 324 % 13)) (Ev.name rfl rfl).b (Ev.bin (Ev.bin (Ev.name rfl rfl).b Ev.cint.b (BinOk.div_int (by decide) (by decide))).b Ev.cint.b (BinOk.mod_int (by decide))) rfl (ix_of r13.1 (by lia) (by lia))).b .nil) (by simp) (bi_chr v2.1 v2.2) rfl) (.cons rfl (Ev.bi hT.sub rfl rfl (.cons rfl (Ev.ix (o := .list [.int 64256, .int 223, .int 13261]) (k := .int k) (EvN.list (.cons rfl Ev.cint (.cons rfl Ev.cint (.cons rfl Ev.cint .nil))) (by show 3 ≤ sizeLine; lia)).ev.b (Ev.name rfl rfl) rfl i3).b .nil) (by simp) (bi_chr (by lia) v3) rfl) .nil))) (by show 3 ≤ sizeLine; lia)))
theorem signs_ok (hT : Top c) {k : Nat} (hk : k < 3) {x : Int} (hx : 0 ≤ x) : FnN c (n + 1) 22 [.int k, .int x] ((signsF k x).map chrT) := fun a hf => by
  refine FNew.of (n := n) (xs := ["kind", "x"]) hf ?_ (signs_body hT hk hx)
  exact .two fun _ _ _ _ _ _ _ _ _ _ _ _ _ _ => rfl
end
end Mine
end

section
set_option autoImplicit false
set_option linter.unusedVariables false
set_option linter.unusedSimpArgs false
set_option maxRecDepth 100000
namespace Mine
open PySem PySem.Calls PyProof.Rows PySem.SeqAt PySem.Spec

section
variable {prog : Program} {w : World} {A : Around} {E : Value → Shared → Prop} {s : Shared}
/-- an item of a plain list is put anew -/
theorem wp_setItem_plain {l : Addr} {vs : Array Value} {k : Nat} {K : Int} {t : Tok} {v : Value} {Q : Unit → Shared → Prop} (hl : s.heap.PlainList l vs) (hk : k < vs.size) (hz : k < 1000000) (hK : K = (k : Int))
    (hQ : ∀ h', h'.PlainList l (vs.setIfInBounds k v) → Heap.SameBut l s.heap h' → Q () { s with heap := h' }) : wpAny (model prog w) A (setItem (.ref l) (.int K t) v) Q E s := by
  obtain ⟨n, ho⟩ := hl
  have hT : s.TypeIs (.ref l) "list" := ⟨_, ho, rfl⟩
  unfold setItem
  try with_reducible refine wpAny_holding ?_
  first | refine wpAny_bind (wpAny_pure ?_) | skip
  refine wpAny_bind (wpAny_sequenceKey hT (by decide) ?_)
  refine wpAny_bind (wpAny_callSpecial?_slot (name := Str.ofString "__setitem__") hT slot_list_setitem (wpAny_call_entry slot_list_setitem hT entry_list_setitem ?_ (args_list_setitem _ _ _)))
  show wpAny _ _ (Builtin.List.listSubscript? (.int K t) >>= _) _ _ s
  refine wpAny_bind (wpAny_listSubscript_int (fitsIndex_of (by lia) (by lia)) ?_)
  subst hK
  show wpAny _ _ ((seqItemAt l k >>= fun r => pure (r.map (k, ·))) >>= _) _ _ s
  refine wpAny_bind (wpAny_bind (wpAny_seqItemAt ho rfl (wpAny_pure ?_)))
  rw [Array.getElem?_eq_getElem hk]
  show wpAny _ _ (setSeqItemAt l k v >>= _) _ _ s
  refine wpAny_bind (wpAny_setSeqItemAt ho rfl ?_)
  have fin : (s.heap.update l (Obj.mapSeq (·.setIfInBounds k v))).PlainList l (vs.setIfInBounds k v) := ⟨_, Heap.get?_update_self _ ho rfl⟩
  first
    | exact wpAny_bind (wpAny_pure (wpAny_pure ⟨.none, rfl, wpAny_pure (hQ _ fin (Heap.SameBut.update ..))⟩))
    | exact wpAny_pure ⟨.none, rfl, wpAny_pure (hQ _ fin (Heap.SameBut.update ..))⟩
end

section
variable {c : Cx} {n : Nat} {ρ : Rho}
/-- x[i] += b, x a list of the block's own -/
theorem Ex1.augIx {x : Str} {i e : Expr} {op : Operator} {p tpos pos : Pos} {l : List T} {k : Nat} {a b t : T} (hx : ρ.lookup x = some (.own l)) (hn : nameOk x = true) (hi : Ev c n ρ i (.int (k : Int))) (he : EvB c n ρ e b) (ha : l[k]? = some a) (hop : InOk c op a b t) (hz : l.length ≤ 100000) (hs : notSlice i = true) :
    Ex1 c n ρ (.AugAssign (.Subscript (.Name x p) i tpos) op e pos) (.next (put x (.own (l.set k t)) ρ)) := .mk fun A s env M₀ O rm R => by
  have hn' := hn
  unfold nameOk at hn'
  simp only [Bool.and_eq_true, Bool.not_eq_true'] at hn'
  obtain ⟨v, h1, ad, vs, e1, h2, h3, h4⟩ := R.vars x _ hx
  subst e1
  have hlen : l.length = vs.size := by simpa using h4.length
  have hkl : k < l.length := (List.getElem?_eq_some_iff.mp ha).1
  refine wpAny_AugAssign_SubscriptAny (wpAny_Name (wp_loads R h1 ?_ hn'.2) hn'.1) (by cases i <;> first | (intros; rfl) | (simp [notSlice] at hs))
  refine hi.go rm R fun iv s₁ x₁ R₁ d₁ => ?_
  obtain ⟨ti, rfl⟩ : ∃ ti, iv = .int (k : Int) ti := by simpa [Den] using d₁
  have hl₁ := h3.at (fun o => x₁.all ad o)
  have hd₁ := h4.keep x₁.all
  obtain ⟨vk, hvk, dk⟩ := hd₁.get ha
  refine wpAny_getItem_list (x := vk) hl₁.isList (by lia) (by lia) (by simpa using hvk) ?_
  refine he.go rm R₁ fun w s₂ x₂ R₂ d₂ => ?_
  refine wpAny_imp (hop A s₂ _ vk w R₂.bas R₂.lt (dk.keep x₂.all).borrow d₂) fun nv s₃ ⟨x₃, d₃⟩ => ?_
  have x23 := Ext.trans x₂ x₃
  have hl₃ := hl₁.at (fun o => x23.all ad o)
  have hd₃ := hd₁.keep x23.all
  have R₃ := R₂.ext x₃
  refine wp_setItem_plain hl₃ (by lia) (by lia) rfl fun h' hl' hs' => ?_
  have hk : ∀ b o, b ∉ nOf c env O ++ M₀ → s₃.heap.get? b = some o → h'.get? b = some o := fun b o hb e => (hs'.2 b fun q => hb (q ▸ List.mem_append_left _ (own_mem h2))).trans e
  refine ⟨Chg.trans (Ext.trans x₁ x23).chg (N' := [ad]) ⟨fun b o hb e => (hs'.2 b (by simpa using hb)).trans e, Nat.le_of_eq hs'.1.symm, fun _ _ e => e, id, rfl, Nat.le_refl _⟩ fun b hb => .inl (by simp at hb; subst hb; exact own_mem h2), rfl, O, ?_, fun a h => .inl h⟩
  refine R₃.mut hx h2 (h1.keep (Ext.trans x₁ x23).all) hs' hl' ?_
  have := DenL.mono (fun _ e => e) hk _ _ (DenL.set k hd₃ d₃)
  simpa using this
end
end Mine
end

section
set_option autoImplicit false
set_option linter.unusedVariables false
set_option linter.unusedSimpArgs false
namespace Mine
open PySem PySem.Calls PyProof.Rows PySem.SeqAt PySem.Spec

/-! _law_wider -/
noncomputable def wideStep (ways : List Int) (weight size : Nat) (acc : List Int) (p : Nat) : List Int := acc.set (p + size * weight) (acc.getD (p + size * weight) 0 + ways.getD p 0)
noncomputable def widePart (ways : List Int) (weight : Nat) (acc : List Int) (size : Nat) : List Int := (List.range ways.length).foldl (wideStep ways weight size) acc
noncomputable def wideF (ways : List Int) (sizes : List Nat) (weight : Nat) : List Int := sizes.foldl (widePart ways weight) (List.replicate (ways.length + 2 * weight) 0)
theorem wideStep_len (ways : List Int) (weight size : Nat) (acc : List Int) (p : Nat) : (wideStep ways weight size acc p).length = acc.length := by simp [wideStep]
theorem widePart_len (ways : List Int) (weight : Nat) (acc : List Int) (size : Nat) : (widePart ways weight acc size).length = acc.length := by
  unfold widePart
  generalize List.range ways.length = l
  induction l generalizing acc with
  | nil => rfl
  | cons p l ih => rw [List.foldl_cons, ih, wideStep_len]
noncomputable def intsT (l : List Int) : T := .list (l.map .int)
noncomputable def wideRho (ways : List Int) (sizes : List Nat) (weight : Nat) (acc : List Int) : Rho := [("ways", .sh (intsT ways)), ("sizes", .sh (.list (sizes.map fun (s : Nat) => T.int (s : Int)))), ("weight", .sh (.int weight)), ("wider", .own (acc.map .int))]

section
variable {c : Cx} {n : Nat} {ρ : Rho}
theorem EvN.cast {e : Expr} {l l' : List T} (h : EvN c n ρ e l) (q : l = l') : EvN c n ρ e l' := q ▸ h
theorem bi_lenI {l : List Int} (h : l.length ≤ 1000000) : Mine.bi "len" [intsT l] = some (.int l.length) := by
  unfold intsT
  rw [bi_lenL (by rw [List.length_map]; lia), List.length_map]
noncomputable def wideLoop : List Stmt := match (fnBody PW 24)[1]? with
  | some (Stmt.For _ _ b _ _) => b
  | _ => []
noncomputable def wideLoop2 : List Stmt := match wideLoop[0]? with
  | some (Stmt.For _ _ b _ _) => b
  | _ => []
theorem wide_turn2 (hT : Top c) {ways acc : List Int} {sizes : List Nat} {weight size p : Nat} (hp : p < ways.length) (hs : size ≤ 2) (hw : weight ≤ 1000) (hl : ways.length ≤ 1000) (ha : acc.length = ways.length + 2 * weight) :
    Ex (funCx c (fnScope PW 24)) n (putAll ["place"] [.int p] (putAll ["size"] [.int size] (wideRho ways sizes weight acc))) wideLoop2 (.next (putAll ["place"] [.int p] (putAll ["size"] [.int size] (wideRho ways sizes weight (wideStep ways weight size acc p))))) := by
  conv in wideLoop2 => whnf
  have hm : size * weight ≤ 2 * weight := Nat.mul_le_mul_right _ hs
  have hk : p + size * weight < acc.length := by lia
  have e1 : (p : Int) + (size : Int) * (weight : Int) = ((p + size * weight : Nat) : Int) := by push_cast; rfl
  refine Ex.weak (Ex.cons (Ex1.augIx (k := p + size * weight) (l := acc.map .int) (a := .int (acc.getD (p + size * weight) 0)) (b := .int (ways.getD p 0)) rfl rfl (Ev.castE (Ev.bin (Ev.name rfl rfl).b (Ev.bin (Ev.name rfl rfl).b (Ev.name rfl rfl).b (BinOk.mul_int (by lia))).b BinOk.add_int) (congrArg T.int e1)) (Ev.ix (o := intsT ways) (k := .int p) (Ev.name rfl rfl).b (Ev.name rfl rfl) rfl ?_).b ?_ InOk.add_int (by rw [List.length_map]; lia) rfl) Ex.nil) (Sub.cons rfl (Sub.cons rfl (Sub.cons rfl (Sub.cons ?_ (Sub.cons rfl (Sub.one rfl))))))
  · have := ix_of (l := ways) (i := (p : Int)) (by lia) (by lia) hl
    rw [Int.toNat_natCast] at this
    exact this
  · rw [List.getElem?_map, List.getElem?_eq_getElem hk, List.getD_eq_getElem?_getD, List.getElem?_eq_getElem hk]; rfl
  · unfold wideStep
    rw [List.map_set]; rfl
theorem wide_turn (hT : Top c) {ways acc : List Int} {sizes : List Nat} {weight size : Nat} (hs : size ≤ 2) (hw : weight ≤ 1000) (hl : ways.length ≤ 1000) (ha : acc.length = ways.length + 2 * weight) :
    Ex (funCx c (fnScope PW 24)) n (putAll ["size"] [.int size] (wideRho ways sizes weight acc)) wideLoop (.next (wideRho ways sizes weight (widePart ways weight acc size))) := by
  have h2 : wideLoop2 = wideLoop2 := rfl
  conv in wideLoop => whnf
  refine Ex.weak (ρ' := putAll ["size"] [.int size] (wideRho ways sizes weight (widePart ways weight acc size))) (Ex.cons (Ex1.for (EvI.range (ts := [.int ways.length]) (q := (0, (ways.length : Int), 1)) (m := ways.length) rfl hT.sub.range (.cons rfl (Ev.bi (r := .int ways.length) hT.sub rfl rfl (.cons rfl (Ev.name (t := intsT ways) rfl rfl).b .nil) (by simp) (bi_lenI (by lia)) rfl).b .nil) (by simp) rfl (rangeN_nat (by lia))) rfl ?_) Ex.nil) (Sub.cons rfl (Sub.cons rfl (Sub.cons rfl (Sub.one rfl))))
  show Loops _ _ _ _ _ (rangeL 0 1 ways.length) _
  rw [rangeL0]
  exact Loops.foldI (fun acc => putAll ["size"] [.int size] (wideRho ways sizes weight acc)) (wideStep ways weight size) (fun (k : Nat) => T.int k) (fun _ acc => acc.length = ways.length + 2 * weight) (List.range ways.length) acc ha fun s p r hp hI => ⟨by rw [wideStep_len]; exact hI, putAll ["place"] [.int p] (putAll ["size"] [.int size] (wideRho ways sizes weight s)), rfl, Ex.weak (wide_turn2 hT (List.mem_range.mp hp) hs hw hl hI) (Sub.cons rfl (Sub.cons rfl (Sub.cons rfl (Sub.cons rfl (Sub.one rfl)))))⟩

theorem wide_body (hT : Top c) {ways : List Int} {sizes : List Nat} {weight : Nat} (hs : ∀ s ∈ sizes, s ≤ 2) (hw : weight ≤ 1000) (hl : ways.length ≤ 1000) :
    Ex (funCx c (fnScope PW 24)) n [("ways", .sh (intsT ways)), ("sizes", .sh (.list (sizes.map fun (s : Nat) => T.int (s : Int)))), ("weight", .sh (.int weight))] (fnBody PW 24) (.ret (intsT (wideF ways sizes weight)) true) := by
  have hz : (1000000 : Nat) ≤ sizeLine := by decide
  conv in (fnBody _ _) => whnf
  have e0 : ((ways.length : Int) + 2 * (weight : Int)).toNat = ways.length + 2 * weight := by lia
  have hrep : List.replicate ((ways.length : Int) + 2 * (weight : Int)).toNat (T.int 0) = (List.replicate (ways.length + 2 * weight) (0 : Int)).map .int := by rw [e0, List.map_replicate]
  refine Ex.cons (ρ' := wideRho ways sizes weight (List.replicate (ways.length + 2 * weight) 0)) ?_ (Ex.cons (ρ' := wideRho ways sizes weight (wideF ways sizes weight)) (Ex1.for (EvI.listF (l := sizes.map fun (s : Nat) => T.int (s : Int)) (Ev.name rfl rfl)) rfl (Loops.foldI (wideRho ways sizes weight) (widePart ways weight) (fun (s : Nat) => T.int (s : Int)) (fun _ acc => acc.length = ways.length + 2 * weight) sizes _ (by simp) fun s z r hm hI => ⟨by rw [widePart_len]; exact hI, putAll ["size"] [.int z] (wideRho ways sizes weight s), rfl, wide_turn hT (hs z hm) hw hl hI⟩)) (Ex.ret (Ex1.retOwn rfl rfl)))
  exact Ex1.assignOwn (EvN.cast (EvN.mul1 (a := .int 0) (i := (ways.length : Int) + 2 * (weight : Int)) (EvN.list (.cons rfl Ev.cint .nil) (by show 1 ≤ sizeLine; lia)).ev.b (Ev.bin (Ev.bi (r := .int ways.length) hT.sub rfl rfl (.cons rfl (Ev.name (t := intsT ways) rfl rfl).b .nil) (by simp) (bi_lenI (by lia)) rfl).b (Ev.bin Ev.cint.b (Ev.name (t := .int weight) rfl rfl).b (BinOk.mul_int (by decide))).b BinOk.add_int).b (by lia) (by lia)) hrep) rfl rfl
theorem wide_ok (hT : Top c) {ways : List Int} {sizes : List Nat} {weight : Nat} (hs : ∀ s ∈ sizes, s ≤ 2) (hw : weight ≤ 1000) (hl : ways.length ≤ 1000) : FnN c (n + 1) 24 [intsT ways, .list (sizes.map fun (s : Nat) => T.int (s : Int)), .int weight] ((wideF ways sizes weight).map .int) := fun a hf => by
  refine FNew.of (n := n) (xs := ["ways", "sizes", "weight"]) hf ?_ (wide_body hT hs hw hl)
  exact .three fun _ _ _ _ _ _ _ _ _ _ _ _ _ _ _ => rfl
end
end Mine
end

section
set_option autoImplicit false
set_option linter.unusedVariables false
set_option linter.unusedSimpArgs false
namespace Mine
open PySem PySem.Calls PyProof.Rows PySem.SeqAt PySem.Spec

noncomputable def strL (l : List Nat) : Str := ⟨l.toArray⟩
theorem strL_app (l m : List Nat) : strL l ++ strL m = strL (l ++ m) := by
  show (⟨l.toArray ++ m.toArray⟩ : Str) = ⟨(l ++ m).toArray⟩
  simp
theorem strL_len (l : List Nat) : (strL l).length = l.length := by simp [strL, Str.length]

/-! _law_prepared -/
noncomputable def okSign (q : Nat) : Bool := b1S q || (b3Ok q && decide ((b3F q).length ≤ 4))
noncomputable def prepF (l : List Nat) : Str := Txt.join "" ((l.filter fun (q : Nat) => !b1S q).map b3F)
theorem chars_strL (l : List Nat) : charsL (strL l) = l.map fun q => .str ⟨#[q]⟩ := by
  unfold charsL strL
  simp

section
variable {c : Cx} {n : Nat} {ρ : Rho}
theorem prep_body (hT : Top c) {l : List Nat} (hl : l.length ≤ 1000) (hq : ∀ q ∈ l, okSign q = true) : Ex (funCx c (fnScope PW 23)) (n + 1) [("text", .sh (.str (strL l)))] (fnBody PW 23) (.ret (.str (prepF l)) false) := by
  have hz : (1000000 : Nat) ≤ sizeLine := by decide
  conv in (fnBody _ _) => whnf
  have hlen : ((l.filter fun (q : Nat) => !b1S q).map b3F).length ≤ 1000 := by
    rw [List.length_map]; exact Nat.le_trans (List.length_filter_le _ _) hl
  have hb3 : ∀ q ∈ l, b1S q = false → b3Ok q = true ∧ (b3F q).length ≤ 4 := fun q h1 h2 => by
    have := hq q h1
    unfold okSign at this
    rw [h2] at this
    simpa using this
  refine Ex.ret (Ex1.ret (Ev.joinS (l := (l.filter fun (q : Nat) => !b1S q).map b3F) Ev.cstr.b ?_ rfl rfl rfl ?_))
  · refine (EvN.comp (l := charsL (strL l)) (out := ((l.filter fun (q : Nat) => !b1S q).map b3F).map .str) rfl rfl (EvI.str (Ev.name rfl rfl).b) ?_ (by rw [List.length_map]; lia)).ev.b
    rw [chars_strL]
    refine Turns.cast (Turns.map2 (fun q => .str ⟨#[q]⟩) (fun q => .str (b3F q)) (fun (q : Nat) => !b1S q) rfl rfl l fun q hm => ⟨_, rfl, Sub.nil, ?_, fun hp => ?_⟩) rfl (by rw [List.map_map]; rfl)
    · exact EvT.not (EvT.val (Ev.fn 16 hT.sub.comp rfl rfl (.cons rfl (Ev.name rfl rfl) .nil) (by simp) (b1_ok hT.sub.comp)) rfl)
    · exact Ev.fn 18 hT.sub.comp rfl rfl (.cons rfl (Ev.name rfl rfl) .nil) (by simp) (b3_ok hT.sub.comp (hb3 q hm (by simpa using hp)).1)
  · have h4 := sum_le (l := ((l.filter fun (q : Nat) => !b1S q).map b3F).map (·.length)) (k := 4) fun y hy => by
      obtain ⟨z, hz, rfl⟩ := List.mem_map.mp hy
      obtain ⟨q, hq, rfl⟩ := List.mem_map.mp hz
      obtain ⟨h1, h2⟩ := List.mem_filter.mp hq
      exact (hb3 q h1 (by simpa using h2)).2
    rw [List.length_map] at h4
    have h0 : ("" : Str).length = 0 := rfl
    rw [h0, Nat.mul_zero]
    lia

theorem prep_ok (hT : Top c) {l : List Nat} (hl : l.length ≤ 1000) (hq : ∀ q ∈ l, okSign q = true) : FnV c (n + 2) 23 [.str (strL l)] (.str (prepF l)) := fun a hf => by
  refine FOk.of (n := n + 1) (xs := ["text"]) hf ?_ (prep_body hT hl hq)
  exact .one fun _ _ _ _ _ _ _ _ _ _ _ _ _ => rfl
end
end Mine
end

section
set_option autoImplicit false
set_option linter.unusedVariables false
set_option linter.unusedSimpArgs false
set_option maxRecDepth 100000
namespace Mine
open PySem PySem.Calls PyProof.Rows PySem.SeqAt PySem.Spec

/-! _law_turned -/
noncomputable def min2 (a b : Int) : Int := [b].foldl (fun x y => if decide (y < x) then y else x) a
theorem small_lt {i : Int} (h : i.natAbs < 2 ^ 100) : i.natAbs < 2 ^ 1023 := Nat.lt_of_lt_of_le h (Nat.pow_le_pow_right (by decide) (by decide))
theorem bi_min2 {a b : Int} : Mine.bi "min" [.int a, .int b] = some (.int (min2 a b)) := by
  rfl
noncomputable def leastZ (sh lv : Int) : Int := min2 (lv * (8 - sh)) (32 - lv * (8 - sh))
noncomputable def hueZ (c d : Int) (k : Nat) : UInt64 := fdivI ((k : Int) * d) c
noncomputable def paintZ (c d sh lv tn : Int) (k : Nat) : Option (UInt64 × UInt64 × UInt64) :=
  if tn % 2 = 0 then ofHsv (hueZ c d k) (fdivI sh 4) (fdivI lv 4) else some (ofHls (hueZ c d k) (fdivI (lv * (8 - sh)) 32) (fdivI (lv * sh) (leastZ sh lv)))
noncomputable def toldZ (tn : Int) (p : UInt64 × UInt64 × UInt64) : Option (UInt64 × UInt64 × UInt64) := if tn % 2 = 0 then toHls p.1 p.2.1 p.2.2 else toHsv p.1 p.2.1 p.2.2
noncomputable def big21 (x : UInt64) : Option Int := truncF (Float64.mul x (Float64.ofInt 2097152))
/-- what a step of a turn is to tell -/
structure TurnOk (c d sh lv tn : Int) (k : Nat) (p t : UInt64 × UInt64 × UInt64) : Prop where
  paint : paintZ c d sh lv tn k = some p
  told : toldZ tn p = some t
  fh : Float64.isInf (hueZ c d k) = false
  right0 : tn % 2 = 0 → eqFI (Float64.mul t.2.1 (Float64.ofInt 32)) (lv * (8 - sh)) = true ∧ eqF t.2.2 (fdivI (lv * sh) (leastZ sh lv)) = true
  right1 : tn % 2 = 1 → ∃ a b, big21 t.2.1 = some a ∧ big21 t.2.2 = some b ∧ (a + 1) / 2 = sh * 262144 ∧ (b + 1) / 2 = lv * 262144
  place : ∃ i, truncF (Float64.mul (Float64.mul t.1 (Float64.ofInt 2)) (Float64.ofInt c)) = some i ∧ (i + 1) / 2 = (k : Int) * d % c
/-- what stays in a turn -/
structure TurnIn (c d sh lv tn : Int) : Prop where
  c0 : 0 ≤ c ∧ c ≤ 1000
  d0 : 0 ≤ d ∧ d ≤ 1000
  sh0 : 1 ≤ sh ∧ sh ≤ 4
  lv0 : 1 ≤ lv ∧ lv ≤ 4
  least : leastZ sh lv ≠ 0
  f4 : Float64.isInf (fdivI sh 4) = false ∧ Float64.isInf (fdivI lv 4) = false
  f32 : Float64.isInf (fdivI (lv * (8 - sh)) 32) = false
  fs : Float64.isInf (fdivI (lv * sh) (leastZ sh lv)) = false

noncomputable def turnRho (c d sh lv tn : Int) (st : List UInt64 × Int) : Rho := [("count", .sh (.int c)), ("part", .sh (.int d)), ("share", .sh (.int sh)), ("level", .sh (.int lv)), ("turn", .sh (.int tn)), ("least", .sh (.int (leastZ sh lv))), ("hues", .own (st.1.map .float)), ("turned", .sh (.int st.2))]
noncomputable def turnStep (st : List UInt64 × Int) (x : UInt64) : List UInt64 × Int := (st.1 ++ [x], st.2 + (st.1.filter fun y => fgt y x).length)

section
variable {c : Cx} {n : Nat} {ρ : Rho}
theorem EvT.or2 {x y : Expr} {pos : Pos} {q r : Bool} (hx : EvT c n ρ x q) (hy : EvT c n ρ y r) : EvT c n ρ (.BoolOp .Or [x, y] pos) (q || r) := by
  cases q
  · cases r
    · exact EvT.boolop (.orF hx (.orF hy .orNil))
    · exact EvT.boolop (.orF hx (.orT hy))
  · exact EvT.boolop (.orT hx)
theorem c2 : (2 : Int).natAbs < 2 ^ 1023 := small_lt (by decide)
theorem c32 : (32 : Int).natAbs < 2 ^ 1023 := small_lt (by decide)
theorem c21 : ((2 : Int) ^ (21 : Int).toNat).natAbs < 2 ^ 1023 := small_lt (by decide)

noncomputable def turnLoop : List Stmt := match (fnBody PW 25)[3]? with
  | some (Stmt.For _ _ b _ _) => b
  | _ => []
theorem ints_eq (x y : Int) : ceq (.list [.int x, .int y]) (.list [.int x, .int y]) = some true := by
  show (match eqv 7 (.int x) (.int x), (match eqv 7 (.int y) (.int y), (some true : Option Bool) with | some a, some b => some (a && b) | _, _ => none) with | some a, some b => some (a && b) | _, _ => none) = some true
  rw [eqv_int, eqv_int, beq_self_eq_true, beq_self_eq_true]; rfl
theorem tup0 (t : UInt64 × UInt64 × UInt64) : ixT (tup3 t) (.int 0) = some (.float t.1) ∧ ixT (tup3 t) (.int 1) = some (.float t.2.1) ∧ ixT (tup3 t) (.int 2) = some (.float t.2.2) := ⟨rfl, rfl, rfl⟩
theorem turn_turn (hT : Top c) {cc d sh lv tn : Int} {st : List UInt64 × Int} {k : Nat} {p t : UInt64 × UInt64 × UInt64} (I : TurnIn cc d sh lv tn) (S : TurnOk cc d sh lv tn k p t) (c1 : 0 < cc) (hk : k ≤ 1000) (hl : st.1.length ≤ 1000) :
    Ex (funCx c (fnScope PW 25)) (n + 2) (putAll ["step"] [.int k] (turnRho cc d sh lv tn st)) turnLoop (.next (turnRho cc d sh lv tn (turnStep st t.1))) := by
  have hz : (1000000 : Nat) ≤ sizeLine := by decide
  obtain ⟨c1', c2'⟩ := I.c0
  obtain ⟨d1, d2⟩ := I.d0
  obtain ⟨s1, s2⟩ := I.sh0
  obtain ⟨l1, l2⟩ := I.lv0
  obtain ⟨g0, g1, g2⟩ := tup0 t
  obtain ⟨p0, p1, p2⟩ := tup0 p
  obtain ⟨i, hi, hpl⟩ := S.place
  have hk64 : ((k : Int)).natAbs < 2 ^ 64 := by rw [Int.natAbs_natCast]; exact Nat.lt_of_le_of_lt hk (by decide)
  have hc1023 : cc.natAbs < 2 ^ 1023 := small_lt (Nat.lt_of_le_of_lt (show cc.natAbs ≤ 1000 by lia) (by decide))
  have hlv : lv.natAbs < 2 ^ 64 := Nat.lt_of_le_of_lt (show lv.natAbs ≤ 4 by lia) (by decide)
  have hsh : sh.natAbs < 2 ^ 64 := Nat.lt_of_le_of_lt (show sh.natAbs ≤ 4 by lia) (by decide)
  have hcc : cc ≠ 0 := by lia
  conv in turnLoop => whnf
  refine Ex.weak (Ex.cons (ρ' := putAll ["paint", "told", "right"] [tup3 p, tup3 t, .bool true] (putAll ["step"] [.int k] (turnRho cc d sh lv tn st)))
    (Ex1.ite (q := tn % 2 == 0) (EvT.cmp (a := .int (tn % 2)) (b := .int 0) (Ev.bin (Ev.name rfl rfl).b Ev.cint.b (BinOk.mod_int (by decide))).b Ev.cint.b rfl rfl) (fun h => ?_) (fun h => ?_))
    (Ex.cons (Ex1.ite (q := !true || false) (EvT.or2 (EvT.not (EvT.val (Ev.name rfl rfl) rfl)) (EvT.cmp (a := .int ((i + 1) / 2)) (b := .int ((k : Int) * d % cc))
        (Ev.bin (Ev.bin (Ev.bi (r := .int i) hT.sub rfl rfl (EachB.cons rfl (Ev.bin (Ev.bin (Ev.ix (o := tup3 t) (k := .int 0) (Ev.name rfl rfl).b Ev.cint rfl g0).b Ev.cint.b (BinOk.mul_fi c2)).b (Ev.name rfl rfl).b (BinOk.mul_fi hc1023)).b .nil) (by simp) (bi_int hi) rfl).b Ev.cint.b BinOk.add_int).b Ev.cint.b (BinOk.div_int (by decide) (by decide))).b
        (Ev.bin (Ev.bin (Ev.name rfl rfl).b (Ev.name rfl rfl).b (BinOk.mul_int hk64)).b (Ev.name rfl rfl).b (BinOk.mod_int c1)).b ?_ rfl)) (fun h => by cases h) (fun _ => Ex.nil))
      (Ex.cons (Ex1.aug (a := .int st.2) (b := .int (((st.1.filter fun y => fgt y t.1).map T.float).length : Nat)) rfl rfl (Ev.bi (r := .int (((st.1.filter fun y => fgt y t.1).map T.float).length : Nat)) hT.sub rfl rfl (EachB.cons rfl (EvN.comp (l := st.1.map .float) (out := (st.1.filter fun y => fgt y t.1).map .float) rfl rfl (EvI.list (EvB.own rfl rfl)) ?_ ?_).ev.b .nil) (by simp) (bi_lenL ?_) rfl).b InOk.add_int rfl)
        (Ex.cons (Ex1.append (l := st.1.map .float) (t := .float t.1) rfl rfl (Ev.ix (o := tup3 t) (k := .int 0) (Ev.name rfl rfl).b Ev.cint rfl g0) rfl rfl ?_) Ex.nil))))
    (Sub.cons rfl (Sub.cons rfl (Sub.cons rfl (Sub.cons rfl (Sub.cons rfl (Sub.cons rfl (Sub.cons ?_ (Sub.one ?_))))))))
  · have he : tn % 2 = 0 := eq_of_beq h
    have hp := S.paint
    have ht := S.told
    obtain ⟨r1, r2⟩ := S.right0 he
    unfold paintZ at hp; rw [if_pos he] at hp
    unfold toldZ at ht; rw [if_pos he] at ht
    refine Ex.cons (Ex1.assign (t := tup3 p) (Ev.fn 13 hT.sub rfl rfl (.cons rfl (Ev.bin (Ev.bin (Ev.name rfl rfl).b (Ev.name rfl rfl).b (BinOk.mul_int hk64)).b (Ev.name rfl rfl).b (BinOk.tdiv_int hcc S.fh)) (.cons rfl (Ev.bin (Ev.name rfl rfl).b Ev.cint.b (BinOk.tdiv_int (by decide) I.f4.1)) (.cons rfl (Ev.bin (Ev.name rfl rfl).b Ev.cint.b (BinOk.tdiv_int (by decide) I.f4.2)) .nil))) (by simp) (ofHsv_ok hT.sub hp)) rfl rfl) ?_
    refine Ex.cons (Ex1.assign (t := tup3 t) (Ev.fn 9 hT.sub rfl rfl (.cons rfl (Ev.ix (o := tup3 p) (k := .int 0) (Ev.name rfl rfl).b Ev.cint rfl p0) (.cons rfl (Ev.ix (o := tup3 p) (k := .int 1) (Ev.name rfl rfl).b Ev.cint rfl p1) (.cons rfl (Ev.ix (o := tup3 p) (k := .int 2) (Ev.name rfl rfl).b Ev.cint rfl p2) .nil))) (by simp) (hls_ok hT.sub ht)) rfl rfl) ?_
    refine Ex.cons (Ex1.assign (t := .bool true) (Ev.boolop (.andT (Ev.cmp (a := .float (Float64.mul t.2.1 (Float64.ofInt 32))) (b := .int (lv * (8 - sh))) (Ev.bin (Ev.ix (o := tup3 t) (k := .int 1) (Ev.name rfl rfl).b Ev.cint rfl g1).b Ev.cint.b (BinOk.mul_fi c32)).b (Ev.bin (Ev.name rfl rfl).b (Ev.bin Ev.cint.b (Ev.name rfl rfl).b BinOk.sub_int).b (BinOk.mul_int hlv)).b ?_ rfl) (.one (Ev.cmp (a := .float t.2.2) (b := .float (fdivI (lv * sh) (leastZ sh lv))) (Ev.ix (o := tup3 t) (k := .int 2) (Ev.name rfl rfl).b Ev.cint rfl g2).b (Ev.bin (Ev.bin (Ev.name rfl rfl).b (Ev.name rfl rfl).b (BinOk.mul_int hlv)).b (Ev.name rfl rfl).b (BinOk.tdiv_int I.least I.fs)).b ?_ rfl)))) rfl rfl) Ex.nil
    · exact congrArg some r1
    · exact congrArg some r2
  · have he : tn % 2 = 1 := by
      have := Int.emod_nonneg tn (b := 2) (by decide)
      have := Int.emod_lt_of_pos tn (b := 2) (by decide)
      have : ¬ tn % 2 = 0 := fun q => by rw [q] at h; cases h
      lia
    have he' : ¬ tn % 2 = 0 := by lia
    have hp := S.paint
    have ht := S.told
    obtain ⟨a, b, r1, r2, r3, r4⟩ := S.right1 he
    unfold paintZ at hp; rw [if_neg he'] at hp; cases hp
    unfold toldZ at ht; rw [if_neg he'] at ht
    refine Ex.cons (Ex1.assign (Ev.fn 10 hT.sub rfl rfl (.cons rfl (Ev.bin (Ev.bin (Ev.name rfl rfl).b (Ev.name rfl rfl).b (BinOk.mul_int hk64)).b (Ev.name rfl rfl).b (BinOk.tdiv_int hcc S.fh)) (.cons rfl (Ev.bin (Ev.bin (Ev.name rfl rfl).b (Ev.bin Ev.cint.b (Ev.name rfl rfl).b BinOk.sub_int).b (BinOk.mul_int hlv)).b Ev.cint.b (BinOk.tdiv_int (by decide) I.f32)) (.cons rfl (Ev.bin (Ev.bin (Ev.name rfl rfl).b (Ev.name rfl rfl).b (BinOk.mul_int hlv)).b (Ev.name rfl rfl).b (BinOk.tdiv_int I.least I.fs)) .nil))) (by simp) (ofHls_ok hT.sub)) rfl rfl) ?_
    refine Ex.cons (Ex1.assign (t := tup3 t) (Ev.fn 12 hT.sub rfl rfl (.cons rfl (Ev.ix (k := .int 0) (Ev.name rfl rfl).b Ev.cint rfl p0) (.cons rfl (Ev.ix (k := .int 1) (Ev.name rfl rfl).b Ev.cint rfl p1) (.cons rfl (Ev.ix (k := .int 2) (Ev.name rfl rfl).b Ev.cint rfl p2) .nil))) (by simp) (hsv_ok hT.sub ht)) rfl rfl) ?_
    refine Ex.cons (Ex1.assign (t := .bool true) (Ev.cmp (a := .list [.int ((a + 1) / 2), .int ((b + 1) / 2)]) (b := .list [.int (sh * 2 ^ (18 : Int).toNat), .int (lv * 2 ^ (18 : Int).toNat)]) (EvN.comp (l := [.float t.2.1, .float t.2.2]) (out := [.int ((a + 1) / 2), .int ((b + 1) / 2)]) rfl rfl (EvI.tup (Ev.sliceT (l := [.float t.1, .float t.2.1, .float t.2.2]) (a := 1) (Ev.name rfl rfl).b Ev.cint (by decide) (by show 1 ≤ 3; decide) (by show 3 ≤ sizeLine; lia)).b) ?_ (by show 2 ≤ sizeLine; lia)).ev.b (EvN.list (.cons rfl (Ev.bin (Ev.name rfl rfl).b (Ev.bin Ev.cint.b Ev.cint.b (BinOk.pow_int (by decide) (by decide) (by decide))).b (BinOk.mul_int hsh)) (.cons rfl (Ev.bin (Ev.name rfl rfl).b (Ev.bin Ev.cint.b Ev.cint.b (BinOk.pow_int (by decide) (by decide) (by decide))).b (BinOk.mul_int hlv)) .nil)) (by show 2 ≤ sizeLine; lia)).ev.b ?_ rfl) rfl rfl) Ex.nil
    · refine Turns.map1 (fun (q : UInt64 × Int) => .float q.1) (fun q => .int ((q.2 + 1) / 2)) rfl rfl [(t.2.1, a), (t.2.2, b)] fun q hq => ⟨_, rfl, Sub.nil, ?_⟩
      have hq' : big21 q.1 = some q.2 := by
        simp only [List.mem_cons, List.not_mem_nil, or_false] at hq
        rcases hq with rfl | rfl
        · exact r1
        · exact r2
      exact Ev.bin (Ev.bin (Ev.bi (r := .int q.2) hT.sub.comp rfl rfl (EachB.cons rfl (Ev.bin (Ev.name rfl rfl).b (Ev.bin Ev.cint.b Ev.cint.b (BinOk.pow_int (by decide) (by decide) (by decide))).b (BinOk.mul_fi c21)).b .nil) (by simp) (bi_int hq') rfl).b Ev.cint.b BinOk.add_int).b Ev.cint.b (BinOk.div_int (by decide) (by decide))
    · rw [r3, r4]
      exact ints_eq (sh * 262144) (lv * 262144)
  · rw [hpl]
    show some (!((k : Int) * d % cc == (k : Int) * d % cc)) = some false
    rw [beq_self_eq_true]; rfl
  · refine Turns.cast (Turns.map2 (fun (y : UInt64) => .float y) (fun y => .float y) (fun y => fgt y t.1) rfl rfl st.1 fun y hy => ⟨_, rfl, Sub.one rfl, ?_, fun _ => Ev.name rfl rfl⟩) rfl rfl
    exact EvT.cmp (a := .float y) (b := .float t.1) (Ev.name rfl rfl).b (Ev.ix (o := tup3 t) (k := .int 0) (Ev.name rfl rfl).b Ev.cint rfl g0).b rfl rfl
  · rw [List.length_map]; exact Nat.le_trans (List.length_filter_le _ _) (by lia)
  · rw [List.length_map]; exact Nat.le_trans (List.length_filter_le _ _) (by lia)
  · rw [List.length_map]; lia
  · show _ = some (Var.own ((st.1 ++ [t.1]).map .float))
    rw [List.map_append]; rfl
  · show some (Var.sh (T.int (st.2 + _))) = some (Var.sh (T.int (st.2 + _)))
    rw [List.length_map]
end
end Mine
end

section
set_option autoImplicit false
set_option linter.unusedVariables false
set_option linter.unusedSimpArgs false
namespace Mine
open PySem PySem.Float64

/-! floats by their values -/
noncomputable def Fin' (x : UInt64) : Prop := ∃ a m e, decode x = .fin a m e
/-- a number that a float can hold -/
noncomputable def Rep (N : Nat) : Prop := ∃ t, t < infMag ∧ V t = N
theorem V_inf : V infMag = 2 ^ 2098 := by decide +kernel
theorem lt_inf_of_V {t : Nat} (h : V t < 2 ^ 2098) : t < infMag := by
  rcases Nat.lt_or_ge t infMag with h' | h'
  · exact h'
  · have := V_mono h'
    rw [V_inf] at this
    exact absurd h (Nat.not_lt.mpr this)
theorem rep_any : ∀ (k q : Nat), q ≤ 2 ^ 53 → ∃ t, V t = q * 2 ^ k
  | 0, q, h => ⟨q, by simpa using V_at (k := 0) h (.inr rfl)⟩
  | k + 1, q, h => by
    rcases Nat.lt_or_ge q (2 ^ 52) with h' | h'
    · obtain ⟨t, ht⟩ := rep_any k (2 * q) (by lia)
      exact ⟨t, by rw [ht, Nat.pow_succ, Nat.mul_comm 2 q, Nat.mul_assoc, Nat.mul_comm 2]⟩
    · exact ⟨_, V_at h (.inl h')⟩
theorem rep_of {k q : Nat} (h : q ≤ 2 ^ 53) (hk : k ≤ 2000) : Rep (q * 2 ^ k) := by
  obtain ⟨t, ht⟩ := rep_any k q h
  refine ⟨t, lt_inf_of_V ?_, ht⟩
  rw [ht]
  have h1 : 2 ^ k ≤ 2 ^ 2000 := Nat.pow_le_pow_right (by decide) hk
  have h2 : q * 2 ^ k ≤ 2 ^ 53 * 2 ^ 2000 := Nat.mul_le_mul h h1
  rw [← Nat.pow_add] at h2
  exact Nat.lt_of_le_of_lt h2 (Nat.pow_lt_pow_right (by decide) (by decide))
/-- z is S / D, rounded -/
structure Rn (z : UInt64) (S : Int) (D : Nat) : Prop where
  fin : Fin' z
  near : ∀ k, S.natAbs < D * 2 ^ (k + 53) → val z * D - S ≤ (D * 2 ^ k : Nat) ∧ S - val z * D ≤ (D * 2 ^ k : Nat)
  le : ∀ M : Int, Rep M.natAbs → S ≤ D * M → val z ≤ M
  ge : ∀ M : Int, Rep M.natAbs → D * M ≤ S → M ≤ val z

theorem dist_up {a b y : Nat} (h : dist a b ≤ y) : b ≤ a + y ∧ a ≤ b + y := by
  rw [Nat.add_comm a, Nat.add_comm b]
  exact ⟨Nat.le_add_of_sub_le (Nat.le_trans (Nat.le_add_left ..) h), Nat.le_add_of_sub_le (Nat.le_trans (Nat.le_add_right ..) h)⟩
theorem dist_of {a b : Nat} (h : a ≤ b) : dist a b = b - a ∧ dist b a = b - a := by
  unfold dist; rw [Nat.sub_eq_zero_of_le h, Nat.zero_add, Nat.add_zero]; exact ⟨rfl, rfl⟩
theorem near_le {W D n v : Nat} (h : dist W (D * n) ≤ dist W (D * v)) (hw : W ≤ D * v) (hD : 0 < D) : n ≤ v := by
  refine Nat.le_of_mul_le_mul_left ?_ hD
  rw [(dist_of hw).1] at h
  exact Nat.le_trans (dist_up h).1 (Nat.le_of_eq (Nat.add_sub_cancel' hw))
theorem near_ge {W D n v : Nat} (h : dist W (D * n) ≤ dist W (D * v)) (hw : D * v ≤ W) (hD : 0 < D) : v ≤ n := by
  refine Nat.le_of_mul_le_mul_left ?_ hD
  rw [(dist_of hw).2] at h
  have := (dist_up h).2
  generalize D * n = X at *
  generalize D * v = Y at *
  lia
theorem sgn_of {neg : Bool} {n : Nat} : sgn neg n = if neg then -(n : Int) else n := rfl

theorem rn_of_right {z : UInt64} {neg : Bool} {W D : Nat} {S : Int} (h : Right z neg W D) (hD : 0 < D) (hb : W < D * 2 ^ 2000) (hS : S.natAbs = W) (hn : S < 0 → neg = true) (hp : 0 < S → neg = false) : Rn z S D := by
  obtain ⟨t, rfl, h1, h2, h3⟩ := h
  have hlt : t < infMag := by
    rcases Nat.lt_or_ge t infMag with h' | h'
    · exact h'
    · have := h2.mp (by lia)
      have e : D * ((2 ^ 54 - 1) * 2 ^ 2045) = D * (2 ^ 54 - 1) * 2 ^ 45 * 2 ^ 2000 := by
        rw [Nat.mul_assoc (D * (2 ^ 54 - 1)), ← Nat.pow_add, Nat.mul_assoc]
      rw [e] at this
      generalize 2 ^ 2000 = P at *
      have h4 : D * 2 * P ≤ D * (2 ^ 54 - 1) * 2 ^ 45 * P := Nat.mul_le_mul_right _ (by lia)
      have h5 : D * 2 * P = 2 * (D * P) := by rw [Nat.mul_comm D 2, Nat.mul_assoc]
      lia
  have hr := h3 hlt
  have hv := val_pack neg hlt
  obtain ⟨m, e, hd, _⟩ := decode_pack neg hlt
  have near : ∀ N, Rep N → dist W (D * V t) ≤ dist W (D * N) := fun N ⟨t', _, e⟩ => e ▸ (hr t').1
  have eS : S = sgn neg W := by
    cases neg with
    | true => rw [sgn_of, if_pos rfl, ← hS, Int.ofNat_natAbs_of_nonpos (Int.not_lt.mp fun h => Bool.noConfusion (hp h)), Int.neg_neg]
    | false => rw [sgn_of, if_neg Bool.false_ne_true, ← hS, Int.natAbs_of_nonneg (Int.not_lt.mp fun h => Bool.noConfusion (hn h))]
  clear hS hn hp h1 h2 hlt hb
  suffices H : (∀ M : Int, Rep M.natAbs → S ≤ D * M → val (pack neg t) ≤ M) ∧ ∀ M : Int, Rep M.natAbs → D * M ≤ S → M ≤ val (pack neg t) by
    refine ⟨⟨_, _, _, hd⟩, fun k hk => ?_, H.1, H.2⟩
    clear H
    have hq : W / (D * 2 ^ k) ≤ 2 ^ 53 := by
      rw [eS, sgn_natAbs, Nat.pow_add, ← Nat.mul_assoc] at hk
      exact Nat.le_of_lt ((Nat.div_lt_iff_lt_mul (Nat.mul_pos hD (Nat.two_pow_pos _))).mpr (by rw [Nat.mul_comm (2 ^ 53)]; exact hk))
    obtain ⟨t', ht'⟩ := rep_any k _ hq
    have h4 := (hr t').1
    rw [ht', show D * (W / (D * 2 ^ k) * 2 ^ k) = D * 2 ^ k * (W / (D * 2 ^ k)) by ac_rfl] at h4
    have h5 := Nat.div_add_mod W (D * 2 ^ k)
    have h6 := Nat.mod_lt W (Nat.mul_pos hD (Nat.two_pow_pos k))
    rw [(dist_of (Nat.mul_div_le _ _)).2] at h4
    obtain ⟨u1, u2⟩ := dist_up (Nat.le_trans h4 (Nat.le_of_lt (show _ < D * 2 ^ k by rw [← Nat.mod_eq_sub_mul_div]; exact h6)))
    rw [hv, eS]
    have e8 : sgn neg (V t) * (D : Int) = sgn neg (D * V t) := by cases neg <;> simp [sgn_of, Int.mul_comm, Int.mul_neg]
    rw [e8]
    generalize D * V t = X at *
    generalize D * 2 ^ k = Y at *
    clear h4 h5 h6
    cases neg <;> simp only [sgn_of, if_true, Bool.false_eq_true, if_false] <;> lia
  · rw [hv, eS]
    have up : ∀ v : Nat, Rep v → W ≤ D * v → V t ≤ v := fun v hv h => near_le (near v hv) h hD
    have dn : ∀ v : Nat, Rep v → D * v ≤ W → v ≤ V t := fun v hv h => near_ge (near v hv) h hD
    clear near hr hv eS
    generalize V t = w at *
    have go : ∀ M : Int, Rep M.natAbs → ((W : Int) ≤ D * M → (w : Int) ≤ M) ∧ ((D : Int) * M ≤ W → M ≤ w) := fun M hM => by
      obtain ⟨v, rfl | rfl⟩ := Int.eq_nat_or_neg M
      · rw [Int.natAbs_natCast] at hM
        rw [← Int.natCast_mul]
        exact ⟨fun h => Int.ofNat_le.mpr (up v hM (Int.ofNat_le.mp h)), fun h => Int.ofNat_le.mpr (dn v hM (Int.ofNat_le.mp h))⟩
      · rw [Int.natAbs_neg, Int.natAbs_natCast] at hM
        rw [Int.mul_neg, ← Int.natCast_mul]
        refine ⟨fun h => ?_, fun _ => Int.le_trans (Int.neg_nonpos_of_nonneg (Int.natCast_nonneg _)) (Int.natCast_nonneg _)⟩
        have hW : W = 0 ∧ D * v = 0 := by generalize D * v = X at *; lia
        have hv0 : v = 0 := (Nat.mul_eq_zero.mp hW.2).resolve_left (Nat.ne_of_gt hD)
        subst hv0
        exact Int.ofNat_le.mpr (up 0 hM (Nat.le_of_eq hW.1))
    cases neg with
    | false => exact ⟨fun M hM => (go M hM).1, fun M hM => (go M hM).2⟩
    | true =>
      simp only [sgn_of, if_true]
      refine ⟨fun M hM h => ?_, fun M hM h => ?_⟩
      · have := (go (-M) (by rwa [Int.natAbs_neg])).2 (by rw [Int.mul_neg]; exact Int.neg_le_of_neg_le h)
        exact Int.neg_le_of_neg_le this
      · have := (go (-M) (by rwa [Int.natAbs_neg])).1 (by rw [Int.mul_neg]; exact Int.le_neg_of_le_neg h)
        exact Int.le_neg_of_le_neg this
end Mine
end

section
set_option autoImplicit false
set_option linter.unusedVariables false
set_option linter.unusedSimpArgs false
set_option exponentiation.threshold 3000
namespace Mine
open PySem PySem.Float64

theorem uu_ex : ∃ n : Nat, n = 2 ^ 1027 := ⟨_, rfl⟩
/-- chosen, so that nothing computes with it -/
noncomputable def uu : Nat := Classical.choose uu_ex
theorem uu_eq : uu = 2 ^ 1027 := Classical.choose_spec uu_ex
theorem uu_pos : 0 < uu := by rw [uu_eq]; exact Nat.two_pow_pos _
theorem two_uu (k : Nat) : 2 ^ (1027 + k) = 2 ^ k * uu := by rw [uu_eq, Nat.pow_add, Nat.mul_comm]
theorem K_uu : (2 : Nat) ^ 1074 = 140737488355328 * uu := by
  have := two_uu 47
  rw [this]
theorem B_uu (D : Nat) : D * 2 ^ (1027 + 53) = D * (9007199254740992 * uu) := by rw [two_uu 53]
theorem rep_uu {j : Nat} (h : j ≤ 2 ^ 53) : Rep (j * uu) := by rw [uu_eq]; exact rep_of h (by decide)
theorem rep_zero : Rep 0 := by simpa using rep_uu (j := 0) (by decide)
/-- the unit -/
noncomputable def KN : Nat := 140737488355328 * uu
noncomputable def KK : Int := (KN : Int)
theorem KN_uu : KN = 140737488355328 * uu := rfl
theorem KK_uu : KK = 140737488355328 * (uu : Int) := by unfold KK; rw [KN_uu, Int.natCast_mul]; rfl
theorem KN_pow : 2 ^ 1074 = KN := by rw [K_uu, KN_uu]
theorem KK_pow : (2 : Int) ^ 1074 = KK := by
  have e : ((2 ^ 1074 : Nat) : Int) = (2 : Int) ^ 1074 := Int.natCast_pow 2 1074
  rw [← e, KN_pow]; rfl
theorem KK_nat : (KN : Int) = KK := rfl
theorem KK_pos : 0 < KK := by have := uu_pos; rw [KK_uu]; lia

theorem Rn.exact {z : UInt64} {S M : Int} {D : Nat} (h : Rn z S D) (hM : Rep M.natAbs) (e : S = D * M) : val z = M :=
  Int.le_antisymm (h.le M hM (Int.le_of_eq e)) (h.ge M hM (Int.le_of_eq e.symm))
theorem Rn.near1 {z : UInt64} {S : Int} (h : Rn z S 1) (hb : S.natAbs < 9007199254740992 * uu) : val z - S ≤ uu ∧ S - val z ≤ uu := by
  have := h.near 1027 (by rw [B_uu, Nat.one_mul]; exact hb)
  rw [Nat.one_mul, ← uu_eq, show ((1 : Nat) : Int) = 1 from rfl, Int.mul_one] at this
  exact this
theorem fin_zero (a : Bool) : Fin' (zero a) ∧ val (zero a) = 0 := by
  have h0 : (0 : Nat) < infMag := by decide
  obtain ⟨m, e, h, _⟩ := decode_pack a h0
  refine ⟨⟨_, _, _, h⟩, ?_⟩
  show val (pack a 0) = 0
  rw [val_pack a h0, V_zero]
  cases a <;> rfl
theorem rn_zero (a : Bool) {D : Nat} (hD : 0 < D) : Rn (zero a) 0 D := by
  obtain ⟨h1, h2⟩ := fin_zero a
  have hD' : (0 : Int) < (D : Int) := Int.ofNat_lt.mpr hD
  refine ⟨h1, fun k _ => by rw [h2, Int.zero_mul, Int.sub_zero]; exact ⟨Int.natCast_nonneg _, Int.natCast_nonneg _⟩, fun M _ h => ?_, fun M _ h => ?_⟩
  · rw [h2]; exact Int.nonneg_of_mul_nonneg_right h hD'
  · rw [h2]; exact Int.nonpos_of_mul_nonpos_right h hD'
theorem big_uu : 9007199254740992 * uu < 1 * 2 ^ 2000 := by
  have := B_uu 1
  rw [Nat.one_mul, Nat.one_mul] at this
  rw [← this, Nat.one_mul]
  exact Nat.pow_lt_pow_right (by decide) (by decide)

theorem rn_add {x y : UInt64} (hx : Fin' x) (hy : Fin' y) (hb : (val x + val y).natAbs < 9007199254740992 * uu) : Rn (add x y) (val x + val y) 1 := by
  obtain ⟨a, m, e, hx⟩ := hx
  obtain ⟨b, k, f, hy⟩ := hy
  obtain ⟨h1, h2⟩ := add_right hx hy
  by_cases h0 : val x + val y = 0
  · rw [h1 h0, h0]; exact rn_zero _ (by decide)
  · exact rn_of_right (h2 h0) (by decide) (Nat.lt_trans hb big_uu) rfl (fun h => decide_eq_true h) (fun h => decide_eq_false (by lia))
theorem rn_sub {x y : UInt64} (hx : Fin' x) (hy : Fin' y) (hb : (val x - val y).natAbs < 9007199254740992 * uu) : Rn (sub x y) (val x - val y) 1 := by
  obtain ⟨a, m, e, hx⟩ := hx
  obtain ⟨b, k, f, hy⟩ := hy
  obtain ⟨h1, h2⟩ := sub_right hx hy
  by_cases h0 : val x - val y = 0
  · rw [h1 h0, h0]; exact rn_zero _ (by decide)
  · exact rn_of_right (h2 h0) (by decide) (Nat.lt_trans hb big_uu) rfl (fun h => decide_eq_true h) (fun h => decide_eq_false (by lia))
theorem sgn_signs {a b : Bool} {p q : Nat} : ((sgn a p * sgn b q < 0) → (a != b) = true) ∧ ((0 < sgn a p * sgn b q) → (a != b) = false) := by
  have h := Int.mul_nonneg (a := (p : Int)) (b := (q : Int)) (by lia) (by lia)
  cases a <;> cases b <;> simp only [sgn_of, if_true, Bool.false_eq_true, if_false, Int.neg_mul, Int.mul_neg, Int.neg_neg] <;> constructor <;> intro h' <;> first | rfl | (exfalso; lia)
theorem rn_mul {x y : UInt64} (hx : Fin' x) (hy : Fin' y) (hb : (val x).natAbs < 9007199254740992 * uu) (hb' : (val y).natAbs < 9007199254740992 * uu) : Rn (mul x y) (val x * val y) KN := by
  rw [← KN_pow]
  obtain ⟨a, m, e, hx⟩ := hx
  obtain ⟨b, k, f, hy⟩ := hy
  have hs := sgn_signs (a := a) (b := b) (p := m * 2 ^ (e + 1074).toNat) (q := k * 2 ^ (f + 1074).toNat)
  rw [← val_eq hx, ← val_eq hy] at hs
  refine rn_of_right (mul_right hx hy) (Nat.two_pow_pos _) ?_ (Int.natAbs_mul ..) hs.1 hs.2
  have h1 := B_uu 1
  rw [Nat.one_mul, Nat.one_mul] at h1
  rw [← h1] at hb hb'
  rw [← Nat.pow_add]
  refine Nat.lt_of_le_of_lt (Nat.mul_le_mul (Nat.le_of_lt hb) (Nat.le_of_lt hb')) ?_
  rw [← Nat.pow_add]
  exact Nat.pow_lt_pow_right (by decide) (by decide)
theorem rn_div {x y : UInt64} (hx : Fin' x) (hy : Fin' y) (hb : (val x).natAbs < 9007199254740992 * uu) (hp : (uu : Int) ≤ val y) : Rn (div x y) (val x * KK) (val y).natAbs := by
  rw [← KK_pow]
  obtain ⟨a, m, e, hx⟩ := hx
  obtain ⟨b, k, f, hy⟩ := hy
  have hu := uu_pos
  have hvy := val_eq hy
  have hk : k ≠ 0 := by
    rintro rfl
    rw [Nat.zero_mul] at hvy
    cases b <;> simp [sgn_of] at hvy <;> lia
  have hbf : b = false := by
    cases b
    · rfl
    · simp only [sgn_of, if_true] at hvy; lia
  subst hbf
  have hvx := val_eq hx
  have h2 : (0 : Int) < 2 ^ 1074 := Int.pow_pos (by decide)
  refine rn_of_right (div_right hx hy hk) (by lia) ?_ (by rw [Int.natAbs_mul]; rfl) (fun h => ?_) (fun h => ?_)
  · have h1 := B_uu 1
    rw [Nat.one_mul, Nat.one_mul] at h1
    rw [← h1] at hb
    have h5 : uu ≤ (val y).natAbs := by lia
    refine Nat.lt_of_le_of_lt (Nat.mul_le_mul_right _ (Nat.le_of_lt hb)) (Nat.lt_of_lt_of_le ?_ (Nat.mul_le_mul_right _ h5))
    rw [uu_eq, ← Nat.pow_add, ← Nat.pow_add]
    exact Nat.pow_lt_pow_right (by decide) (by decide)
  · cases a
    · rw [hvx] at h
      simp only [sgn_of, Bool.false_eq_true, if_false] at h
      have := Int.mul_nonneg (a := ((m * 2 ^ (e + 1074).toNat : Nat) : Int)) (by lia) (Int.le_of_lt h2)
      lia
    · rfl
  · cases a
    · rfl
    · rw [hvx] at h
      simp only [sgn_of, if_true] at h
      rw [Int.neg_mul] at h
      have := Int.mul_nonneg (a := ((m * 2 ^ (e + 1074).toNat : Nat) : Int)) (by lia) (Int.le_of_lt h2)
      lia
theorem rn_frac {a b : Int} (ha : a.natAbs < 1073741824) (hb : 0 < b) : Rn (fdivI a b) (a * KK) b.natAbs := by
  unfold fdivI
  have hW : a.natAbs * 2 ^ 1074 * b.natAbs = a.natAbs * 2 ^ 1074 * b.natAbs := rfl
  refine rn_of_right (ofFrac_right (W := a.natAbs * 2 ^ 1074) (D := b.natAbs) (by lia) rfl (by lia)) (by lia) ?_ ?_ (fun h => ?_) (fun h => ?_)
  · refine Nat.lt_of_lt_of_le (Nat.mul_lt_mul_of_pos_right (Nat.lt_of_lt_of_le ha (show 1073741824 ≤ 2 ^ 30 by decide)) (Nat.two_pow_pos _)) (Nat.le_trans ?_ (Nat.le_mul_of_pos_left _ (by lia)))
    rw [← Nat.pow_add]
    exact Nat.pow_le_pow_right (by decide) (by decide)
  · rw [Int.natAbs_mul, ← KK_pow, Int.natAbs_pow]; rfl
  · have := KK_pos
    have h' : a < 0 := by
      rcases Int.lt_or_le a 0 with h' | h'
      · exact h'
      · have := Int.mul_nonneg h' (Int.le_of_lt this); lia
    rw [decide_eq_true h', decide_eq_false (by lia)]; rfl
  · have := KK_pos
    have h' : 0 < a := by
      rcases Int.lt_or_le 0 a with h' | h'
      · exact h'
      · have := Int.mul_nonpos_of_nonpos_of_nonneg h' (Int.le_of_lt this); lia
    rw [decide_eq_false (by lia), decide_eq_false (by lia)]; rfl
theorem rn_ofInt {a : Int} (ha : a.natAbs < 1073741824) : Rn (ofInt a) (a * KK) 1 := by
  have := rn_frac (b := 1) ha (by decide)
  unfold fdivI at this
  have e : (decide (a < 0) != decide ((1 : Int) < 0)) = decide (a < 0) := by cases decide (a < 0) <;> rfl
  have e2 : Int.natAbs 1 = 1 := rfl
  rw [e, e2] at this
  unfold ofInt
  exact this
/-! comparisons -/
theorem cmp_val {x y : UInt64} (hx : Fin' x) (hy : Fin' y) : cmp x y = some (compare (val x) (val y)) := by
  obtain ⟨a, m, e, hx⟩ := hx
  obtain ⟨b, k, f, hy⟩ := hy
  exact cmp_right hx hy
theorem cmp_bool (p q : Int) : (compare p q == .lt) = decide (p < q) ∧ (compare p q == .gt) = decide (q < p) ∧ (compare p q == .eq) = decide (p = q) := by
  rcases Int.lt_trichotomy p q with h | h | h
  · rw [Int.compare_eq_lt.mpr h]
    exact ⟨(decide_eq_true h).symm, (decide_eq_false (by lia)).symm, (decide_eq_false (by lia)).symm⟩
  · subst h
    rw [Int.compare_eq_eq.mpr rfl]
    exact ⟨(decide_eq_false (by lia)).symm, (decide_eq_false (by lia)).symm, (decide_eq_true rfl).symm⟩
  · rw [Int.compare_eq_gt.mpr h]
    exact ⟨(decide_eq_false (by lia)).symm, (decide_eq_true h).symm, (decide_eq_false (by lia)).symm⟩
theorem flt_val {x y : UInt64} (hx : Fin' x) (hy : Fin' y) : flt x y = decide (val x < val y) := by
  unfold flt; rw [cmp_val hx hy]; exact (cmp_bool _ _).1
theorem fgt_val {x y : UInt64} (hx : Fin' x) (hy : Fin' y) : fgt x y = decide (val y < val x) := by
  unfold fgt; rw [cmp_val hx hy]; exact (cmp_bool _ _).2.1
theorem eqF_val {x y : UInt64} (hx : Fin' x) (hy : Fin' y) : eqF x y = decide (val x = val y) := by
  unfold eqF; rw [cmp_val hx hy]; exact (cmp_bool _ _).2.2
theorem isZero_val {x : UInt64} (hx : Fin' x) (h : val x ≠ 0) : isZero x = false := by
  obtain ⟨a, m, e, hx⟩ := hx
  have := val_eq hx
  cases m with
  | zero => rw [Nat.zero_mul] at this; cases a <;> simp [sgn_of] at this <;> lia
  | succ m => unfold isZero; rw [hx]; rfl
theorem isInf_fin {x : UInt64} (hx : Fin' x) : isInf x = false := by
  obtain ⟨a, m, e, hx⟩ := hx
  unfold isInf; rw [hx]
/-! the whole part -/
theorem trunc_val {x : UInt64} (hx : Fin' x) (h0 : 0 ≤ val x) : truncF x = some (val x / KK) := by
  obtain ⟨a, m, e, hx⟩ := hx
  have hv := val_eq hx
  have he := decode_ge hx
  unfold truncF
  rw [hx]
  show some (truncOf a m e) = _
  congr 1
  have key : ∀ m : Nat, floorOf false m e = ((m * 2 ^ (e + 1074).toNat : Nat) : Int) / KK := by
    intro m
    unfold floorOf
    have eK : KK = ((2 ^ 1074 : Nat) : Int) := by rw [KN_pow]; rfl
    have eP : ∀ n : Nat, (2 : Int) ^ n = ((2 ^ n : Nat) : Int) := fun n => (Int.natCast_pow 2 n).symm
    have hpos : ∀ n : Nat, (0 : Int) < ((2 ^ n : Nat) : Int) := fun n => Int.natCast_pos.mpr (Nat.two_pow_pos n)
    rw [eK]
    simp only [sgn_of, Bool.false_eq_true, if_false, eP]
    split
    · rename_i h
      rw [show (e + 1074).toNat = e.toNat + 1074 by lia, Nat.pow_add, ← Nat.mul_assoc, Int.natCast_mul _ (2 ^ 1074), Int.mul_ediv_cancel _ (Int.ne_of_gt (hpos 1074)), Int.natCast_mul]
    · rename_i h
      have e1 : (1074 : Nat) = (e + 1074).toNat + (-e).toNat := by lia
      rw [Int.fdiv_eq_ediv_of_nonneg _ (Int.le_of_lt (hpos _))]
      have e2 : (2 : Nat) ^ 1074 = 2 ^ (e + 1074).toNat * 2 ^ (-e).toNat := by rw [← Nat.pow_add, ← e1]
      rw [e2, Int.natCast_mul, Int.natCast_mul, Int.mul_comm (m : Int), Int.mul_ediv_mul_of_pos _ _ (hpos _)]
  cases a with
  | false =>
    show floorOf false m e = _
    rw [key, hv]; rfl
  | true =>
    simp only [sgn_of, if_true] at hv
    have hm : m = 0 := by
      rcases Nat.eq_zero_or_pos m with h | h
      · exact h
      · have := Nat.mul_pos h (Nat.two_pow_pos (e + 1074).toNat)
        lia
    subst hm
    show -floorOf false 0 e = _
    rw [key, hv, Nat.zero_mul]
    show -((0 : Int) / KK) = (-(0 : Int)) / KK
    rw [Int.neg_zero, Int.zero_ediv]; rfl
end Mine
end

section
set_option autoImplicit false
set_option linter.unusedVariables false
set_option linter.unusedSimpArgs false
set_option exponentiation.threshold 3000
namespace Mine
open PySem PySem.Float64

theorem abs_le {x : Int} {n : Nat} (h1 : -(n : Int) ≤ x) (h2 : x ≤ n) : x.natAbs ≤ n := by
  obtain ⟨v, rfl | rfl⟩ := Int.eq_nat_or_neg x
  · exact Int.ofNat_le.mp h2
  · rw [Int.natAbs_neg]; exact Int.ofNat_le.mp (Int.le_of_neg_le_neg h1)
theorem le_abs {x : Int} {n : Nat} (h : x.natAbs ≤ n) : x ≤ n ∧ -x ≤ n := by
  have := Int.ofNat_le.mpr h
  exact ⟨Int.le_trans Int.le_natAbs this, Int.le_trans (Int.natAbs_neg x ▸ Int.le_natAbs) this⟩
theorem le_comb {k L R s : Int} (hk : 0 < k) (e : k * (R - L) = s) (h : 0 ≤ s) : L ≤ R :=
  Int.le_of_sub_nonneg (Int.nonneg_of_mul_nonneg_right (e ▸ h) hk)
theorem nsn (a b : Int) : -a - -b = b - a := by rw [Int.sub_neg, Int.add_comm]; rfl
theorem sum2 {a b c d : Int} (h1 : a ≤ b) (h2 : c ≤ d) : 0 ≤ (b - a) + (d - c) := Int.add_nonneg (Int.sub_nonneg_of_le h1) (Int.sub_nonneg_of_le h2)
theorem KN_pos : 0 < KN := Int.ofNat_lt.mp KK_pos
theorem KN64 : 9007199254740992 * uu = 64 * KN := by rw [KN_uu, ← Nat.mul_assoc]
theorem lt_KN {x : Int} {n : Nat} (h : x.natAbs ≤ n * KN) (hn : n < 64) : x.natAbs < 9007199254740992 * uu := by
  rw [KN64]; exact Nat.lt_of_le_of_lt h (Nat.mul_lt_mul_of_pos_right hn KN_pos)
theorem KK_le {n : Nat} {x : Int} (h1 : -((n : Int) * KK) ≤ x) (h2 : x ≤ n * KK) : x.natAbs ≤ n * KN := abs_le (by rw [Int.natCast_mul]; exact h1) (by rw [Int.natCast_mul]; exact h2)

theorem rn_mulG {x y : UInt64} {A B : Nat} (hx : Fin' x) (hy : Fin' y) (hX : (val x).natAbs ≤ A * KN) (hY : (val y).natAbs ≤ B * KN) (hAB : A * B < 2 ^ 100) : Rn (mul x y) (val x * val y) KN := by
  obtain ⟨a, m, e, hx⟩ := hx
  obtain ⟨b, k, f, hy⟩ := hy
  have hs := sgn_signs (a := a) (b := b) (p := m * 2 ^ (e + 1074).toNat) (q := k * 2 ^ (f + 1074).toNat)
  rw [← val_eq hx, ← val_eq hy] at hs
  rw [← KN_pow] at hX hY ⊢
  refine rn_of_right (mul_right hx hy) (Nat.two_pow_pos _) ?_ (Int.natAbs_mul ..) hs.1 hs.2
  refine Nat.lt_of_le_of_lt (Nat.mul_le_mul hX hY) ?_
  rw [show A * 2 ^ 1074 * (B * 2 ^ 1074) = 2 ^ 1074 * (A * B * 2 ^ 1074) by ac_rfl]
  refine Nat.mul_lt_mul_of_pos_left (Nat.lt_trans (Nat.mul_lt_mul_of_pos_right hAB (Nat.two_pow_pos _)) ?_) (Nat.two_pow_pos _)
  rw [← Nat.pow_add]
  exact Nat.pow_lt_pow_right (by decide) (by decide)
/-- a product, up to 2 ^ j units -/
theorem mul_wk {z : UInt64} {X Y : Int} {A B : Nat} (j : Nat) (R : Rn z (X * Y) KN) (hX : X.natAbs ≤ A * KN) (hY : Y.natAbs ≤ B * KN) (h : A * B < 2 ^ (6 + j)) : val z * KK - X * Y ≤ KK * (2 ^ j * uu : Nat) ∧ X * Y - val z * KK ≤ KK * (2 ^ j * uu : Nat) := by
  have h4 := R.near (1027 + j) (by
    rw [Int.natAbs_mul]
    refine Nat.lt_of_le_of_lt (Nat.mul_le_mul hX hY) ?_
    rw [show A * KN * (B * KN) = KN * (A * B * KN) by ac_rfl]
    refine Nat.mul_lt_mul_of_pos_left (Nat.lt_of_lt_of_le (Nat.mul_lt_mul_of_pos_right h KN_pos) (Nat.le_of_eq ?_)) KN_pos
    rw [Nat.add_assoc, two_uu, KN_uu, Nat.add_comm 6 j, show j + 53 = j + 6 + 47 from rfl, Nat.pow_add 2 (j + 6) 47, Nat.mul_assoc])
  rw [two_uu, Int.natCast_mul KN] at h4
  exact h4
/-- a quotient, up to a unit -/
theorem div_wk {x y : UInt64} (hx : Fin' x) (hy : Fin' y) (hp : (uu : Int) ≤ val y) (hX : (val x).natAbs < 9007199254740992 * uu) (h : (val x).natAbs < 64 * (val y).natAbs) :
    Fin' (div x y) ∧ val (div x y) * val y - val x * KK ≤ val y * uu ∧ val x * KK - val (div x y) * val y ≤ val y * uu := by
  have R := rn_div hx hy hX hp
  have h4 := R.near 1027 (by
    rw [B_uu, Int.natAbs_mul, KN64, show (val y).natAbs * (64 * KN) = 64 * (val y).natAbs * KN by ac_rfl]
    exact Nat.mul_lt_mul_of_pos_right h KN_pos)
  rw [← uu_eq, Int.natCast_mul, Int.natAbs_of_nonneg (Int.le_trans (Int.natCast_nonneg _) hp)] at h4
  exact ⟨R.fin, h4⟩
/-- by a whole number -/
theorem div_c {x y : UInt64} (n : Nat) (hx : Fin' x) (hy : Fin' y) (h : val y = n * KK) (hn : 0 < n) (hb : (val x).natAbs < 9007199254740992 * uu) :
    Fin' (div x y) ∧ n * val (div x y) - val x ≤ n * (uu : Int) ∧ val x - n * val (div x y) ≤ n * (uu : Int) := by
  have hK := KK_pos
  have eD : (val y).natAbs = n * KN := by rw [h, Int.natAbs_mul, Int.natAbs_natCast]; rfl
  obtain ⟨f, u, l⟩ := div_wk hx hy (by rw [h, KK_uu, ← Int.mul_assoc]; exact Int.le_trans (Int.le_of_eq (Int.one_mul _).symm) (Int.mul_le_mul_of_nonneg_right (Int.add_one_le_of_lt (Int.mul_pos (Int.ofNat_lt.mpr hn) (by decide))) (Int.natCast_nonneg _))) hb (by
    rw [eD, show 64 * (n * KN) = n * (64 * KN) by ac_rfl, ← KN64]
    exact Nat.lt_of_lt_of_le hb (Nat.le_mul_of_pos_left _ hn))
  rw [h] at u l
  exact ⟨f, Int.le_of_mul_le_mul_right (by rw [Int.sub_mul]; rw [show (n : Int) * val (div x y) * KK = val (div x y) * (n * KK) by ac_rfl, show (n : Int) * uu * KK = n * KK * uu by ac_rfl]; exact u) hK,
    Int.le_of_mul_le_mul_right (by rw [Int.sub_mul]; rw [show (n : Int) * val (div x y) * KK = val (div x y) * (n * KK) by ac_rfl, show (n : Int) * uu * KK = n * KK * uu by ac_rfl]; exact l) hK⟩
theorem div_up {z D X N K a e u : Int} (A : z * D - X * K ≤ D * u) (q1 : (16 * X - a * N) * K ≤ e * K) (q2 : (a * K - 16 * D) * N ≤ e * K) (q3 : e * K ≤ e * (32 * D)) (hD : 0 < D) : z - N ≤ 4 * e + u :=
  Int.le_of_mul_le_mul_right (le_comb (k := 16) (R := (4 * e + u) * D) (L := (z - N) * D) (s := 16 * (D * u - (z * D - X * K)) + ((e * K - (16 * X - a * N) * K) + (e * K - (a * K - 16 * D) * N)) + 2 * (e * (32 * D) - e * K)) (by decide) (by grind)
    (Int.add_nonneg (Int.add_nonneg (Int.mul_nonneg (by decide) (Int.sub_nonneg_of_le A)) (sum2 q1 q2)) (Int.mul_nonneg (by decide) (Int.sub_nonneg_of_le q3)))) hD
/-- a share of the range -/
theorem div_app {x y : UInt64} {a N e : Int} (hx : Fin' x) (hy : Fin' y) (ha : 1 ≤ a) (ha' : a ≤ 16) (u1 : 16 * val x - a * N ≤ e) (l1 : a * N - 16 * val x ≤ e) (u2 : 16 * val y - a * KK ≤ e) (l2 : a * KK - 16 * val y ≤ e) (h0 : 0 ≤ N) (hN : N ≤ KK) (he : 1024 * e ≤ KK) :
    Fin' (div x y) ∧ val (div x y) - N ≤ 4 * e + uu ∧ N - val (div x y) ≤ 4 * e + uu := by
  have hK := KK_pos
  have hKe := KK_uu
  have hK0 := Int.le_of_lt hK
  have e0 : 0 ≤ e := Int.nonneg_of_mul_nonneg_right (le_comb (k := 1) (L := 0) (R := 2 * e) (by decide) (by grind) (sum2 u1 l1)) (by decide)
  have haK := Int.mul_le_mul_of_nonneg_right ha hK0
  rw [Int.one_mul] at haK
  have haN := Int.mul_le_mul ha' hN h0 (by decide)
  have haN0 := Int.mul_nonneg (Int.le_trans (by decide) ha) h0
  have D17 : KK ≤ 17 * val y := by clear u1 l1 haN haN0 hKe h0 hN u2; lia
  have D0 : 0 < val y := by clear u1 l1 haN haN0 hKe h0 hN u2 l2 haK he; lia
  have D32 : KK ≤ 32 * val y := Int.le_trans D17 (Int.mul_le_mul_of_nonneg_right (by decide) (Int.le_of_lt D0))
  have x1 : (val x).natAbs ≤ 2 * KN := KK_le (by clear l2 D17 D32 haK hKe u1 u2 D0; rw [show ((2 : Nat) : Int) = 2 from rfl]; lia) (by clear l2 D17 D32 haK hKe l1 u2 D0; rw [show ((2 : Nat) : Int) = 2 from rfl]; lia)
  have y1 : KN ≤ 17 * (val y).natAbs := Int.ofNat_le.mp (by rw [Int.natCast_mul, Int.natAbs_of_nonneg (Int.le_of_lt D0)]; exact D17)
  have y0 := Int.natAbs_pos.mpr (Int.ne_of_gt D0)
  obtain ⟨f, u, l⟩ := div_wk hx hy (by clear u1 l1 haN haN0 h0 hN u2 l2 haK he D17 x1 y1 y0; have := uu_pos; lia) (lt_KN x1 (by decide)) (by clear u1 l1 haN haN0 h0 hN u2 l2 haK he D17 D32 hKe D0; generalize (val y).natAbs = p at *; generalize (val x).natAbs = q at *; lia)
  have q3 := Int.mul_le_mul_of_nonneg_left D32 e0
  refine ⟨f, div_up u (Int.mul_le_mul_of_nonneg_right u1 hK0) (Int.mul_le_mul l2 hN h0 e0) q3 D0, ?_⟩
  have := div_up (z := -val (div x y)) (X := -val x) (N := -N) (a := a) (by rw [Int.neg_mul, Int.neg_mul, nsn]; exact l) (by rw [Int.mul_neg, Int.mul_neg, nsn]; exact Int.mul_le_mul_of_nonneg_right l1 hK0)
    (by rw [Int.mul_neg, ← Int.neg_mul, Int.neg_sub]; exact Int.mul_le_mul u2 hN h0 e0) q3 D0
  rwa [nsn] at this

/-! the rest by one -/
theorem isZero_iff {x : UInt64} (hx : Fin' x) : isZero x = decide (val x = 0) := by
  by_cases h : val x = 0
  · rw [decide_eq_true h]
    obtain ⟨a, m, e, hx⟩ := hx
    have := val_natAbs hx
    rw [h] at this
    have : m = 0 := (Nat.mul_eq_zero.mp this.symm).resolve_right (Nat.ne_of_gt (Nat.two_pow_pos _))
    subst this
    unfold isZero; rw [hx]; rfl
  · rw [decide_eq_false h]; exact isZero_val hx h
noncomputable def decOk (x : UInt64) (a : Bool) (m : Nat) (e : Int) : Bool := match decode x with
  | .fin a' m' e' => a' == a && m' == m && e' == e
  | _ => false
theorem decOk_ok {x : UInt64} {a : Bool} {m : Nat} {e : Int} (h : decOk x a m e = true) : decode x = .fin a m e := by
  unfold decOk at h
  split at h
  · rename_i h'
    obtain ⟨h1, h4⟩ := Bool.and_eq_true_iff.mp h
    obtain ⟨h2, h3⟩ := Bool.and_eq_true_iff.mp h1
    rw [h', eq_of_beq h2, eq_of_beq h3, eq_of_beq h4]
  · cases h
theorem f1_dec : decode f1 = .fin false (2 ^ 52) (-52) := decOk_ok (by decide +kernel)
theorem f1_val : Fin' f1 ∧ val f1 = KK := by
  refine ⟨⟨_, _, _, f1_dec⟩, ?_⟩
  rw [val_eq f1_dec, ← KK_nat, ← KN_pow]
  show ((2 ^ 52 * 2 ^ (-52 + 1074 : Int).toNat : Nat) : Int) = _
  rw [← Nat.pow_add]; rfl
theorem exp_sum {e : Int} (h : -1074 ≤ e) : (e - min e (-52)).toNat + (min e (-52) + 1074).toNat = (e + 1074).toNat ∧ 52 + ((-52 - min e (-52)).toNat + (min e (-52) + 1074).toNat) = 1074 ∧ (min e (-52) + 1074).toNat ≤ 2000 ∧ -1074 ≤ min e (-52) := by
  rcases Int.le_total e (-52) with h' | h'
  · rw [Int.min_eq_left h']; lia
  · rw [Int.min_eq_right h']; lia
theorem fmod1 {x : UInt64} {a : Bool} {m : Nat} {e : Int} (hx : decode x = .fin a m e) : Fin' (fmod x f1) ∧ val (fmod x f1) = sgn a ((val x).natAbs % KN) := by
  have hm := (decode_le hx).1
  obtain ⟨x1, x2, x3, x4⟩ := exp_sum (decode_ge hx)
  have hv := val_natAbs hx
  have e1 : fmod x f1 = ofBin a (m * 2 ^ (e - min e (-52)).toNat % (2 ^ 52 * 2 ^ (-52 - min e (-52)).toNat)) (min e (-52)) := by
    unfold fmod
    rw [hx, f1_dec]
    rfl
  have hr : (m * 2 ^ (e - min e (-52)).toNat % (2 ^ 52 * 2 ^ (-52 - min e (-52)).toNat)) * 2 ^ (min e (-52) + 1074).toNat = (val x).natAbs % KN := by
    rw [← Nat.mul_mod_mul_right, hv, ← KN_pow, Nat.mul_assoc, Nat.mul_assoc, ← Nat.pow_add, ← Nat.pow_add, ← Nat.pow_add, x1, x2]
  have hq : m * 2 ^ (e - min e (-52)).toNat % (2 ^ 52 * 2 ^ (-52 - min e (-52)).toNat) ≤ 2 ^ 53 := by
    rcases Int.le_total e (-52) with h | h
    · rw [Int.min_eq_left h, Int.sub_self]
      exact Nat.le_trans (Nat.mod_le _ _) (Nat.le_of_lt (by rw [show (0 : Int).toNat = 0 from rfl, Nat.pow_zero, Nat.mul_one]; exact hm))
    · rw [Int.min_eq_right h]
      exact Nat.le_of_lt (Nat.lt_trans (Nat.mod_lt _ (by decide)) (by decide))
  have hrep : Rep ((val x).natAbs % KN) := by rw [← hr]; exact rep_of hq x3
  generalize m * 2 ^ (e - min e (-52)).toNat % (2 ^ 52 * 2 ^ (-52 - min e (-52)).toNat) = r at *
  have R : Right (ofBin a r (min e (-52))) a ((val x).natAbs % KN) 1 := by
    unfold ofBin
    refine ofFrac_right (shift_pos _ _ _ (by decide)) ?_ (by decide)
    rw [← hr, Nat.mul_one]
    exact shift_one r (min e (-52)) 1074 x4
  have R' : Rn (ofBin a r (min e (-52))) (sgn a ((val x).natAbs % KN)) 1 := by
    refine rn_of_right R (by decide) ?_ (sgn_natAbs _ _) (fun h => ?_) (fun h => ?_)
    · refine Nat.lt_trans (Nat.mod_lt _ KN_pos) ?_
      rw [← KN_pow, Nat.one_mul]
      exact Nat.pow_lt_pow_right (by decide) (by decide)
    · cases a
      · exact absurd h (Int.not_lt.mpr (Int.natCast_nonneg _))
      · rfl
    · cases a
      · rfl
      · exact absurd h (Int.not_lt.mpr (Int.neg_nonpos_of_nonneg (Int.natCast_nonneg _)))
  rw [e1]
  exact ⟨R'.fin, R'.exact (by rw [sgn_natAbs]; exact hrep) (Int.one_mul _).symm⟩
theorem rep_KK : Rep KK.natAbs := by
  show Rep KN
  rw [KN_uu]; exact rep_uu (by decide)
theorem mod1 {x : UInt64} (hx : Fin' x) : Fin' (divmod x f1).2 ∧ (val (divmod x f1).2 - val x % KK ≤ uu ∧ val x % KK - val (divmod x f1).2 ≤ uu) ∧ 0 ≤ val (divmod x f1).2 ∧ val (divmod x f1).2 ≤ KK ∧ (0 ≤ val x → val (divmod x f1).2 = val x % KK) := by
  obtain ⟨a, m, e, hd⟩ := hx
  obtain ⟨h1, h2⟩ := fmod1 hd
  have hK := KK_pos
  obtain ⟨g1, g2⟩ := f1_val
  have e0 : (divmod x f1).2 = if isZero (fmod x f1) then copysign (zero false) f1 else if (Float64.lt f1 (zero false) != Float64.lt (fmod x f1) (zero false)) then add (fmod x f1) f1 else fmod x f1 := by
    unfold divmod
    dsimp only
    split <;> first | rfl | (split <;> rfl)
  have hsx : val x = sgn a (val x).natAbs := by rw [val_natAbs hd]; exact val_eq hd
  obtain ⟨z0, z1⟩ := fin_zero false
  have u0 : (0 : Int) ≤ uu := Int.natCast_nonneg _
  have same : ∀ {M : UInt64}, Fin' M → val M = val x % KK → Fin' M ∧ (val M - val x % KK ≤ uu ∧ val x % KK - val M ≤ uu) ∧ 0 ≤ val M ∧ val M ≤ KK ∧ (0 ≤ val x → val M = val x % KK) := fun f h => by
    rw [h, Int.sub_self]
    exact ⟨f, ⟨u0, u0⟩, Int.emod_nonneg _ (Int.ne_of_gt hK), Int.le_of_lt (Int.emod_lt_of_pos _ hK), fun _ => rfl⟩
  rw [e0, isZero_iff h1]
  clear e0
  have hmn : (((val x).natAbs % KN : Nat) : Int) = ((val x).natAbs : Int) % KK := Int.natCast_emod ..
  have z2 : val (fmod x f1) = 0 → (val x).natAbs % KN = 0 := fun h => by
    rw [h2] at h
    have := congrArg Int.natAbs h
    rwa [sgn_natAbs] at this
  by_cases h0 : val (fmod x f1) = 0
  · rw [decide_eq_true h0, if_pos rfl, show copysign (zero false) f1 = zero false by decide +kernel]
    refine same z0 (z1.trans (Int.emod_eq_zero_of_dvd (Int.dvd_natAbs.mp (Int.dvd_of_emod_eq_zero ?_))).symm)
    rw [← hmn, z2 h0]; rfl
  · rw [decide_eq_false h0, if_neg Bool.false_ne_true]
    have el1 : Float64.lt f1 (zero false) = false := (flt_val g1 z0).trans (decide_eq_false (by rw [z1, g2]; exact Int.not_lt.mpr (Int.le_of_lt hK)))
    have el2 : Float64.lt (fmod x f1) (zero false) = decide (val (fmod x f1) < 0) := (flt_val h1 z0).trans (by rw [z1])
    rw [el1, el2]
    have hp : 0 < (val x).natAbs % KN := Nat.pos_of_ne_zero fun h => h0 (by rw [h2, h]; cases a <;> rfl)
    cases a with
    | false =>
      rw [sgn_of, if_neg Bool.false_ne_true] at h2 hsx
      rw [decide_eq_false (by rw [h2]; exact Int.not_lt.mpr (Int.natCast_nonneg _)), if_neg (by decide)]
      exact same h1 (by rw [h2, hmn, ← hsx])
    | true =>
      rw [sgn_of, if_pos rfl] at h2 hsx
      have hml := Int.ofNat_lt.mpr (Nat.mod_lt (val x).natAbs KN_pos)
      rw [KK_nat] at hml
      have hpi := Int.ofNat_lt.mpr hp
      rw [decide_eq_true (by rw [h2]; exact Int.neg_neg_of_pos hpi), if_pos (by decide)]
      have em : val (fmod x f1) + val f1 = val x % KK := by
        rw [h2, g2, hsx, Int.natAbs_neg, Int.natAbs_natCast, hmn, Int.add_comm, ← Int.sub_eq_add_neg]
        rw [hmn] at hpi hml
        generalize ((val x).natAbs : Int) = n at *
        have h8 := Int.mul_ediv_add_emod n KK
        rw [show -n = (KK - n % KK) + KK * (-(n / KK) - 1) by rw [Int.mul_sub, Int.mul_neg, Int.mul_one]; clear hsx h2 hpi hml; lia, Int.add_mul_emod_self_left, Int.emod_eq_of_lt (Int.sub_nonneg_of_le (Int.le_of_lt hml)) (Int.sub_lt_self _ hpi)]
      have w1 : val x % KK ≤ KK := Int.le_of_lt (Int.emod_lt_of_pos _ hK)
      have w0 := Int.emod_nonneg (val x) (Int.ne_of_gt hK)
      have b := lt_KN (KK_le (n := 1) (Int.le_trans (Int.neg_nonpos_of_nonneg (Int.mul_nonneg (by decide) (Int.le_of_lt hK))) w0) (by rw [show ((1 : Nat) : Int) * KK = KK from Int.one_mul _]; exact w1)) (by decide)
      rw [← em] at b
      have R := rn_add h1 g1 b
      have h10 := R.near1 b
      rw [em] at R h10
      refine ⟨R.fin, h10, R.ge 0 rep_zero (by rw [Int.mul_zero]; exact w0), R.le KK rep_KK (by rw [show ((1 : Nat) : Int) * KK = KK from Int.one_mul _]; exact w1), fun h => ?_⟩
      rw [hsx] at h
      have h0' : (val x).natAbs = 0 := Int.ofNat_eq_zero.mp (Int.le_antisymm (Int.neg_nonneg.mp h) (Int.natCast_nonneg _))
      rw [h0', Nat.zero_mod] at hp
      exact absurd hp (Nat.lt_irrefl _)
end Mine
end

section
set_option autoImplicit false
set_option linter.unusedVariables false
set_option linter.unusedSimpArgs false
set_option exponentiation.threshold 3000
namespace Mine
open PySem PySem.Float64

theorem fin_of {x : UInt64} {a : Bool} {m : Nat} {e : Int} (h : decOk x a m e = true) (n : Nat) (hn : m * 2 ^ (e + 1074).toNat = n * 2 ^ 1073) : Fin' x ∧ 2 * val x = sgn a n * KK := by
  have hd := decOk_ok h
  refine ⟨⟨_, _, _, hd⟩, ?_⟩
  rw [val_eq hd, hn, sgn_mul, ← KK_nat, ← KN_pow, Int.mul_left_comm]
  congr 1
theorem half_of {x c : Int} (h : 2 * x = (2 * c) * KK) : x = c * KK := by
  rw [Int.mul_assoc] at h
  exact Int.eq_of_mul_eq_mul_left (by decide) h
theorem f2_val : Fin' f2 ∧ val f2 = 2 * KK := by
  obtain ⟨h1, h2⟩ := fin_of (x := f2) (a := false) (m := 2 ^ 52) (e := -51) (by decide +kernel) 4 (by rw [show (-51 + 1074 : Int).toNat = 1023 from rfl, ← Nat.pow_add])
  exact ⟨h1, half_of h2⟩
theorem f3_val : Fin' f3 ∧ val f3 = 3 * KK := by
  obtain ⟨h1, h2⟩ := fin_of (x := f3) (a := false) (m := 3 * 2 ^ 51) (e := -51) (by decide +kernel) 6 (by rw [show (-51 + 1074 : Int).toNat = 1023 from rfl, Nat.mul_assoc, ← Nat.pow_add])
  exact ⟨h1, half_of h2⟩
theorem f4_val : Fin' f4 ∧ val f4 = 4 * KK := by
  obtain ⟨h1, h2⟩ := fin_of (x := f4) (a := false) (m := 2 ^ 52) (e := -50) (by decide +kernel) 8 (by rw [show (-50 + 1074 : Int).toNat = 1024 from rfl, ← Nat.pow_add])
  exact ⟨h1, half_of h2⟩
theorem f6_val : Fin' f6 ∧ val f6 = 6 * KK := by
  obtain ⟨h1, h2⟩ := fin_of (x := f6) (a := false) (m := 3 * 2 ^ 51) (e := -50) (by decide +kernel) 12 (by rw [show (-50 + 1074 : Int).toNat = 1024 from rfl, Nat.mul_assoc, ← Nat.pow_add])
  exact ⟨h1, half_of h2⟩
theorem fh_val : Fin' fh ∧ 2 * val fh = KK := by
  obtain ⟨h1, h2⟩ := fin_of (x := fh) (a := false) (m := 2 ^ 52) (e := -53) (by decide +kernel) 1 (by rw [show (-53 + 1074 : Int).toNat = 1021 from rfl, ← Nat.pow_add])
  exact ⟨h1, h2.trans (Int.one_mul _)⟩

/-- m times x is t, up to n units -/
structure Fl (m : Int) (x : UInt64) (t : Int) (n : Nat) : Prop where
  fin : Fin' x
  up : m * val x - t ≤ n * (uu : Int)
  lo : t - m * val x ≤ n * (uu : Int)
theorem nuu_le {n k : Nat} (h : n ≤ k) : n * (uu : Int) ≤ k * (uu : Int) := Int.mul_le_mul_of_nonneg_right (Int.ofNat_le.mpr h) (Int.natCast_nonneg _)
theorem nuu_nn (n : Nat) : 0 ≤ n * (uu : Int) := Int.mul_nonneg (Int.natCast_nonneg _) (Int.natCast_nonneg _)
theorem nuu_add (n k : Nat) : ((n + k : Nat) : Int) * (uu : Int) = n * uu + k * uu := by rw [Int.natCast_add, Int.add_mul]
theorem nuu_KK {n : Nat} (h : n ≤ 70368744177664) : 2 * (n * (uu : Int)) ≤ KK := by
  have := nuu_le h
  rw [KK_uu, show (140737488355328 : Int) = 2 * ((70368744177664 : Nat) : Int) from rfl, Int.mul_assoc]
  exact Int.mul_le_mul_of_nonneg_left this (by decide)
theorem Fl.mono {m t : Int} {x : UInt64} {n k : Nat} (h : Fl m x t n) (hk : n ≤ k) : Fl m x t k := ⟨h.fin, Int.le_trans h.up (nuu_le hk), Int.le_trans h.lo (nuu_le hk)⟩
theorem Fl.cast {m t s : Int} {x : UInt64} {n : Nat} (h : Fl m x t n) (e : t = s) : Fl m x s n := e ▸ h
theorem sub_tri (a b c : Int) : a - b + (b - c) = a - c := by rw [← Int.add_sub_assoc, Int.sub_add_cancel]
theorem Fl.move {m t s : Int} {x : UInt64} {n k : Nat} (h : Fl m x t n) (h1 : t - s ≤ k * (uu : Int)) (h2 : s - t ≤ k * (uu : Int)) : Fl m x s (n + k) :=
  ⟨h.fin, by rw [nuu_add, ← sub_tri _ t]; exact Int.add_le_add h.up h1, by rw [Nat.add_comm, nuu_add, ← sub_tri _ t]; exact Int.add_le_add h2 h.lo⟩
theorem Fl.exact {x : UInt64} (h : Fin' x) (m : Int) : Fl m x (m * val x) 0 := ⟨h, by rw [Int.sub_self]; exact nuu_nn 0, by rw [Int.sub_self]; exact nuu_nn 0⟩
theorem Fl.of {x : UInt64} {t m : Int} (h : Fin' x) (e : m * val x = t) : Fl m x t 0 := e ▸ Fl.exact h m
/-- within n K -/
noncomputable def Wi (n : Nat) (t : Int) : Prop := -((n : Int) * KK) ≤ t ∧ t ≤ n * KK
theorem Wi.mono {n k : Nat} {t : Int} (h : Wi n t) (hk : n ≤ k) : Wi k t :=
  have e := Int.mul_le_mul_of_nonneg_right (Int.ofNat_le.mpr hk) (Int.le_of_lt KK_pos)
  ⟨Int.le_trans (Int.neg_le_neg e) h.1, Int.le_trans h.2 e⟩
theorem Wi.neg {n : Nat} {t : Int} (h : Wi n t) : Wi n (-t) := ⟨Int.neg_le_neg h.2, Int.neg_le_of_neg_le h.1⟩
theorem Wi.add {n k : Nat} {t s : Int} (h : Wi n t) (h' : Wi k s) : Wi (n + k) (t + s) := by
  unfold Wi
  rw [Int.natCast_add, Int.add_mul, Int.neg_add]
  exact ⟨Int.add_le_add h.1 h'.1, Int.add_le_add h.2 h'.2⟩
theorem Wi.sub {n k : Nat} {t s : Int} (h : Wi n t) (h' : Wi k s) : Wi (n + k) (t - s) := Int.sub_eq_add_neg ▸ h.add h'.neg
theorem Wi.of {n : Nat} {t : Int} (h0 : 0 ≤ t) (h : t ≤ n * KK) : Wi n t := ⟨Int.le_trans (Int.neg_nonpos_of_nonneg (Int.mul_nonneg (Int.natCast_nonneg _) (Int.le_of_lt KK_pos))) h0, h⟩
theorem Wi.num (n : Nat) : Wi n ((n : Int) * KK) := Wi.of (Int.mul_nonneg (Int.natCast_nonneg _) (Int.le_of_lt KK_pos)) (Int.le_refl _)
theorem Wi.one {t : Int} (h : 0 ≤ t ∧ t ≤ KK) : Wi 1 t := Wi.of h.1 (by rw [show ((1 : Nat) : Int) * KK = KK from Int.one_mul _]; exact h.2)
theorem Wi.KN {n : Nat} {x : Int} (h : Wi n x) : x.natAbs ≤ n * KN := KK_le h.1 h.2
theorem fl_wi {m t z : Int} {n w q : Nat} (hm : (q : Int) = m) (hq : 0 < q) (h1 : m * z - t ≤ n * (uu : Int)) (h2 : t - m * z ≤ n * (uu : Int)) (hb : Wi (w * q) t) (hn : n ≤ 70368744177664) : Wi (w + 1) z := by
  have h3 := nuu_KK hn
  have hK := KK_pos
  have h4 : KK ≤ m * KK := Int.le_trans (Int.le_of_eq (Int.one_mul _).symm) (Int.mul_le_mul_of_nonneg_right (hm ▸ Int.ofNat_le.mpr hq) (Int.le_of_lt hK))
  have m0 : 0 < m := hm ▸ Int.ofNat_lt.mpr hq
  obtain ⟨b1, b2⟩ := hb
  rw [Int.natCast_mul, hm, show (w : Int) * m * KK = m * (w * KK) by ac_rfl] at b1 b2
  have e : m * (((w + 1 : Nat) : Int) * KK) = m * (w * KK) + m * KK := by rw [Int.natCast_add, Int.add_mul, Int.mul_add, show ((1 : Nat) : Int) * KK = KK from Int.one_mul _]
  refine ⟨Int.le_of_mul_le_mul_left ?_ m0, Int.le_of_mul_le_mul_left ?_ m0⟩
  · rw [Int.mul_neg, e]; clear h1 b2 e m0 hm; lia
  · rw [e]; clear h2 b1 e m0 hm; lia
theorem fl_rn {m t : Int} {z : UInt64} {S : Int} {n q w : Nat} (hm : (q : Int) = m) (hq : 0 < q) (R : S.natAbs < 9007199254740992 * uu → Rn z S 1) (h1 : m * S - t ≤ n * (uu : Int)) (h2 : t - m * S ≤ n * (uu : Int)) (hb : Wi (w * q) t) (hw : w < 60) (hn : n ≤ 70368744177664) : Fl m z t (n + q) := by
  have b := lt_KN (fl_wi hm hq h1 h2 hb hn).KN (Nat.lt_trans (Nat.add_lt_add_right hw 1) (by decide))
  have r := R b
  obtain ⟨n1, n2⟩ := r.near1 b
  have m0 : 0 ≤ m := hm ▸ Int.natCast_nonneg _
  refine ⟨r.fin, ?_, ?_⟩
  · rw [Nat.add_comm, nuu_add, ← sub_tri _ (m * S), ← Int.mul_sub, hm]; exact Int.add_le_add (Int.mul_le_mul_of_nonneg_left n1 m0) h1
  · rw [nuu_add, ← sub_tri _ (m * S), ← Int.mul_sub, hm]; exact Int.add_le_add h2 (Int.mul_le_mul_of_nonneg_left n2 m0)
theorem sub_sub4 (a b c d : Int) : a - b - (c - d) = a - c + (d - b) := by grind
theorem Fl.sub {m t s : Int} {x y : UInt64} {n k q w : Nat} (hx : Fl m x t n) (hy : Fl m y s k) (hb : Wi (w * q) (t - s)) (hm : (q : Int) = m) (hq : 0 < q := by decide) (hw : w < 60 := by decide) (hn : n + k ≤ 70368744177664 := by decide) : Fl m (Float64.sub x y) (t - s) (n + k + q) := by
  refine fl_rn hm hq (rn_sub hx.fin hy.fin) ?_ ?_ hb hw hn
  · rw [nuu_add, Int.mul_sub, sub_sub4]; exact Int.add_le_add hx.up hy.lo
  · rw [Nat.add_comm, nuu_add, Int.mul_sub, show t - s - (m * val x - m * val y) = m * val y - s + (t - m * val x) by grind]; exact Int.add_le_add hy.up hx.lo
theorem Fl.add {m t s : Int} {x y : UInt64} {n k q w : Nat} (hx : Fl m x t n) (hy : Fl m y s k) (hb : Wi (w * q) (t + s)) (hm : (q : Int) = m) (hq : 0 < q := by decide) (hw : w < 60 := by decide) (hn : n + k ≤ 70368744177664 := by decide) : Fl m (Float64.add x y) (t + s) (n + k + q) := by
  refine fl_rn hm hq (rn_add hx.fin hy.fin) ?_ ?_ hb hw hn
  · rw [nuu_add, Int.mul_add, show m * val x + m * val y - (t + s) = m * val x - t + (m * val y - s) by grind]; exact Int.add_le_add hx.up hy.up
  · rw [nuu_add, Int.mul_add, show t + s - (m * val x + m * val y) = t - m * val x + (s - m * val y) by grind]; exact Int.add_le_add hx.lo hy.lo
theorem Fl.div {x y : UInt64} {a N : Int} (hx : Fl 16 x (a * N) 8016) (hy : Fl 16 y (a * KK) 8016) (ha : 1 ≤ a ∧ a ≤ 16) (h : 0 ≤ N ∧ N ≤ KK) : Fl 1 (Float64.div x y) N 32065 := by
  obtain ⟨f, u, l⟩ := div_app hx.fin hy.fin ha.1 ha.2 hx.up hx.lo hy.up hy.lo h.1 h.2 (by rw [KK_uu]; show 1024 * (8016 * (uu : Int)) ≤ _; rw [← Int.mul_assoc]; exact Int.mul_le_mul_of_nonneg_right (by decide) (Int.natCast_nonneg _))
  have e : 4 * (((8016 : Nat) : Int) * (uu : Int)) + uu = ((32065 : Nat) : Int) * uu := by show 4 * (8016 * (uu : Int)) + uu = 32065 * uu; lia
  rw [e] at u l
  exact ⟨f, by rw [Int.one_mul]; exact u, by rw [Int.one_mul]; exact l⟩
theorem Fl.divc {x y : UInt64} {t : Int} {n c w : Nat} (hx : Fl 1 x t n) (hy : Fin' y) (vy : val y = c * KK) (hc : 0 < c) (hb : Wi w t) (hw : w < 60 := by decide) (hn : n ≤ 70368744177664 := by decide) : Fl c (Float64.div x y) t (n + c) := by
  have b := lt_KN (fl_wi (q := 1) (w := w) rfl (by decide) hx.up hx.lo (by rw [Nat.mul_one]; exact hb) hn).KN (Nat.lt_trans (Nat.add_lt_add_right hw 1) (by decide))
  obtain ⟨f, d, d'⟩ := div_c c hx.fin hy vy hc b
  have u := hx.up
  have l := hx.lo
  rw [Int.one_mul] at u l
  exact ⟨f, by rw [Nat.add_comm, nuu_add, ← sub_tri _ (val x)]; exact Int.add_le_add d u, by rw [nuu_add, ← sub_tri _ (val x)]; exact Int.add_le_add l d'⟩

/-! three lamps -/
structure Sec (k x R G B : Int) : Prop where
  r : 0 ≤ R ∧ R ≤ k
  g : 0 ≤ G ∧ G ≤ k
  b : 0 ≤ B ∧ B ≤ k
  mx : R = k ∨ G = k ∨ B = k
  mn : R = 0 ∨ G = 0 ∨ B = 0
  red : R = 0 ∨ ∃ H, (H = x ∨ H = x - 6 * k) ∧ (H - (G - B) = k - R ∨ G - B - H = k - R)
  green : G = 0 ∨ x - (2 * k + (B - R)) = k - G ∨ 2 * k + (B - R) - x = k - G
  blue : B = 0 ∨ x - (4 * k + (R - G)) = k - B ∨ 4 * k + (R - G) - x = k - B
theorem both {a b D E : Int} (e : a - b = E ∨ b - a = E) (h0 : 0 ≤ E) (h : E ≤ D) : b - a ≤ D ∧ a - b ≤ D := by
  have n : ∀ {p q : Int}, p - q = E → q - p ≤ D := fun h' => by rw [← Int.neg_sub, h']; exact Int.le_trans (Int.neg_nonpos_of_nonneg h0) (Int.le_trans h0 h)
  rcases e with e | e
  · exact ⟨n e, e ▸ h⟩
  · exact ⟨e ▸ h, n e⟩
/-- a colour near to a place on the wheel -/
structure Tri (P a R G B : Int) (n : Nat) (r g b : UInt64) : Prop where
  r : Fl 16 r (P + a * R) n
  g : Fl 16 g (P + a * G) n
  b : Fl 16 b (P + a * B) n
theorem Tri.mono {P a R G B : Int} {n k : Nat} {r g b : UInt64} (T : Tri P a R G B n r g b) (h : n ≤ k) : Tri P a R G B k r g b := ⟨T.r.mono h, T.g.mono h, T.b.mono h⟩
noncomputable abbrev TriIn (a : Int) : Prop := 1 ≤ a ∧ a ≤ 16
theorem fmax_val {x y z : UInt64} (hx : Fin' x) (hy : Fin' y) (hz : Fin' z) : (fmax x y z = x ∨ fmax x y z = y ∨ fmax x y z = z) ∧ val x ≤ val (fmax x y z) ∧ val y ≤ val (fmax x y z) ∧ val z ≤ val (fmax x y z) := by
  have e : fmax x y z = if fgt z (if fgt y x then y else x) then z else (if fgt y x then y else x) := rfl
  rw [e, fgt_val hy hx]
  by_cases h : val x < val y
  · rw [decide_eq_true h, if_pos rfl, fgt_val hz hy]
    by_cases h' : val y < val z
    · rw [decide_eq_true h', if_pos rfl]; exact ⟨.inr (.inr rfl), Int.le_of_lt (Int.lt_trans h h'), Int.le_of_lt h', Int.le_refl _⟩
    · rw [decide_eq_false h', if_neg (by simp)]; exact ⟨.inr (.inl rfl), Int.le_of_lt h, Int.le_refl _, Int.not_lt.mp h'⟩
  · rw [decide_eq_false h, if_neg Bool.false_ne_true, fgt_val hz hx]
    by_cases h' : val x < val z
    · rw [decide_eq_true h', if_pos rfl]; exact ⟨.inr (.inr rfl), Int.le_of_lt h', Int.le_trans (Int.not_lt.mp h) (Int.le_of_lt h'), Int.le_refl _⟩
    · rw [decide_eq_false h', if_neg (by simp)]; exact ⟨.inl rfl, Int.le_refl _, Int.not_lt.mp h, Int.not_lt.mp h'⟩
theorem fmin_val {x y z : UInt64} (hx : Fin' x) (hy : Fin' y) (hz : Fin' z) : (fmin x y z = x ∨ fmin x y z = y ∨ fmin x y z = z) ∧ val (fmin x y z) ≤ val x ∧ val (fmin x y z) ≤ val y ∧ val (fmin x y z) ≤ val z := by
  have e : fmin x y z = if flt z (if flt y x then y else x) then z else (if flt y x then y else x) := rfl
  rw [e, flt_val hy hx]
  by_cases h : val y < val x
  · rw [decide_eq_true h, if_pos rfl, flt_val hz hy]
    by_cases h' : val z < val y
    · rw [decide_eq_true h', if_pos rfl]; exact ⟨.inr (.inr rfl), Int.le_of_lt (Int.lt_trans h' h), Int.le_of_lt h', Int.le_refl _⟩
    · rw [decide_eq_false h', if_neg (by simp)]; exact ⟨.inr (.inl rfl), Int.le_of_lt h, Int.le_refl _, Int.not_lt.mp h'⟩
  · rw [decide_eq_false h, if_neg Bool.false_ne_true, flt_val hz hx]
    by_cases h' : val z < val x
    · rw [decide_eq_true h', if_pos rfl]; exact ⟨.inr (.inr rfl), Int.le_of_lt h', Int.le_trans (Int.le_of_lt h') (Int.not_lt.mp h), Int.le_refl _⟩
    · rw [decide_eq_false h', if_neg (by simp)]; exact ⟨.inl rfl, Int.le_refl _, Int.not_lt.mp h, Int.not_lt.mp h'⟩
theorem le_move {a b c d D : Int} (h1 : a - b ≤ D) (h2 : c ≤ a) (h3 : b ≤ d) : c - d ≤ D := Int.le_trans (Int.sub_le_sub h2 h3) h1
theorem fl_top {x m : UInt64} {t s : Int} {n : Nat} (hx : Fl 16 x t n) (hm : Fl 16 m s n) (hs : s ≤ t) (h : val x ≤ val m) : Fl 16 m t n :=
  ⟨hm.fin, le_move hm.up (Int.le_refl _) hs, le_move hx.lo (Int.le_refl _) (Int.mul_le_mul_of_nonneg_left h (by decide))⟩
theorem fl_low {x m : UInt64} {t s : Int} {n : Nat} (hx : Fl 16 x t n) (hm : Fl 16 m s n) (hs : t ≤ s) (h : val m ≤ val x) : Fl 16 m t n :=
  ⟨hm.fin, le_move hx.up (Int.mul_le_mul_of_nonneg_left h (by decide)) (Int.le_refl _), le_move hm.lo hs (Int.le_refl _)⟩
/-- the greatest and the least -/
theorem tri_max {P a x R G B : Int} {n : Nat} {r g b : UInt64} (T : Tri P a R G B n r g b) (I : TriIn a) (S : Sec KK x R G B) : Fl 16 (fmax r g b) (P + a * KK) n ∧ Fl 16 (fmin r g b) (P + a * 0) n := by
  have a0 : 0 ≤ a := Int.le_trans (by decide) I.1
  obtain ⟨m0, m1, m2, m3⟩ := fmax_val T.r.fin T.g.fin T.b.fin
  obtain ⟨n0, n1, n2, n3⟩ := fmin_val T.r.fin T.g.fin T.b.fin
  have le : ∀ {X Y : Int}, X ≤ Y → P + a * X ≤ P + a * Y := fun h => Int.add_le_add_left (Int.mul_le_mul_of_nonneg_left h a0) P
  generalize fmax r g b = M at *
  generalize fmin r g b = N at *
  have hM : ∃ X, X ≤ KK ∧ Fl 16 M (P + a * X) n := by
    rcases m0 with h | h | h <;> rw [h]
    · exact ⟨R, S.r.2, T.r⟩
    · exact ⟨G, S.g.2, T.g⟩
    · exact ⟨B, S.b.2, T.b⟩
  have hN : ∃ X, 0 ≤ X ∧ Fl 16 N (P + a * X) n := by
    rcases n0 with h | h | h <;> rw [h]
    · exact ⟨R, S.r.1, T.r⟩
    · exact ⟨G, S.g.1, T.g⟩
    · exact ⟨B, S.b.1, T.b⟩
  obtain ⟨X, hX, fX⟩ := hM
  obtain ⟨Y, hY, fY⟩ := hN
  refine ⟨?_, ?_⟩
  · rcases S.mx with h | h | h
    · exact fl_top (h ▸ T.r) fX (le hX) m1
    · exact fl_top (h ▸ T.g) fX (le hX) m2
    · exact fl_top (h ▸ T.b) fX (le hX) m3
  · rcases S.mn with h | h | h
    · exact fl_low (h ▸ T.r) fY (le hY) n1
    · exact fl_low (h ▸ T.g) fY (le hY) n2
    · exact fl_low (h ▸ T.b) fY (le hY) n3
theorem Wi.times {a X : Int} (ha : TriIn a) (hX : 0 ≤ X ∧ X ≤ KK) : Wi 16 (a * X) := Wi.of (Int.mul_nonneg (Int.le_trans (by decide) ha.1) hX.1) (Int.mul_le_mul ha.2 hX.2 hX.1 (by decide))
theorem part_eq {a X Y P : Int} : P + a * X - (P + a * Y) = a * X - a * Y := by grind
theorem K0 : (0 : Int) ≤ KK ∧ KK ≤ KK := ⟨Int.le_of_lt KK_pos, Int.le_refl _⟩
theorem Z0 : (0 : Int) ≤ 0 ∧ 0 ≤ KK := ⟨Int.le_refl _, Int.le_of_lt KK_pos⟩
theorem tri_sub {P a X Y : Int} {x y : UInt64} (I : TriIn a) (hx : Fl 16 x (P + a * X) 4000) (hy : Fl 16 y (P + a * Y) 4000) (h : 0 ≤ X ∧ X ≤ KK) (h' : 0 ≤ Y ∧ Y ≤ KK) : Fl 16 (sub x y) (a * (X - Y)) 8016 :=
  (hx.sub hy (w := 2) (q := 16) (part_eq ▸ (Wi.times I h).sub (Wi.times I h')) rfl).cast (by rw [part_eq, Int.mul_sub])
theorem range_fl {P a : Int} {mx mn : UInt64} (I : TriIn a) (hM : Fl 16 mx (P + a * KK) 4000) (hN : Fl 16 mn (P + a * 0) 4000) : Fl 16 (sub mx mn) (a * KK) 8016 :=
  (tri_sub I hM hN K0 Z0).cast (by rw [Int.sub_zero])
/-- how far below the greatest one -/
theorem tri_part {P a t : Int} {mx mn y : UInt64} (I : TriIn a) (hM : Fl 16 mx (P + a * KK) 4000) (hN : Fl 16 mn (P + a * 0) 4000) (hy : Fl 16 y (P + a * t) 4000) (h0 : 0 ≤ t ∧ t ≤ KK) : Fl 1 (Float64.div (sub mx y) (sub mx mn)) (KK - t) 32065 :=
  (tri_sub I hM hy K0 h0).div (range_fl I hM hN) I ⟨Int.sub_nonneg_of_le h0.2, Int.sub_le_self _ h0.1⟩
theorem tri_top {P a t : Int} {n : Nat} {mx y : UInt64} (I : TriIn a) (hM : Fl 16 mx (P + a * KK) n) (hy : Fl 16 y (P + a * t) n) (h1 : t ≤ KK) (h : val y = val mx) : KK - t ≤ (n + n : Nat) * (uu : Int) := by
  have h2 : 1 * (KK - t) ≤ a * (KK - t) := Int.mul_le_mul_of_nonneg_right I.1 (Int.sub_nonneg_of_le h1)
  have h3 := hM.lo
  rw [← h] at h3
  rw [Int.one_mul] at h2
  refine Int.le_trans h2 ?_
  rw [nuu_add, Int.mul_sub, ← part_eq (P := P), ← sub_tri _ (16 * val y)]
  exact Int.add_le_add h3 hy.up
theorem half_no {K D : Int} (h : K ≤ D) (h2 : 2 * D ≤ K) (h0 : 0 < K) : False := by lia
theorem hue_tail {h : UInt64} {H x : Int} (hh : Fl 1 h H 80000) (hx : KK ≤ 8 * x ∧ 8 * x ≤ 47 * KK) (hH : H = x ∨ H = x - 6 * KK) (hW : Wi 10 H) : Fl 6 (divmod (Float64.div h f6) f1).2 x 80012 := by
  obtain ⟨g1, g2⟩ := f6_val
  obtain ⟨q1, q2, q3⟩ := hh.divc (c := 6) g1 g2 (by decide) hW
  obtain ⟨m1, ⟨m2, m3⟩, _, _, m5⟩ := mod1 q1
  generalize hMM : val (divmod (Float64.div h f6) f1).2 = M at *
  generalize val (Float64.div h f6) = V at *
  change 6 * V - H ≤ 80006 * (uu : Int) at q2
  change H - 6 * V ≤ 80006 * (uu : Int) at q3
  have k8 : 16 * (80006 * (uu : Int)) ≤ KK := by rw [KK_uu, ← Int.mul_assoc]; exact Int.mul_le_mul_of_nonneg_right (by decide) (Int.natCast_nonneg _)
  have e9 : 80006 * (uu : Int) + 6 * uu = 80012 * uu := by rw [← Int.add_mul]; rfl
  have u0 : 0 ≤ 6 * (uu : Int) := Int.mul_nonneg (by decide) (Int.natCast_nonneg _)
  have hK := KK_pos
  refine ⟨m1, ?_, ?_⟩ <;> (show _ ≤ 80012 * (uu : Int)) <;> rw [hMM, ← e9]
  all_goals
    clear hMM e9 hW g2
    generalize 80006 * (uu : Int) = D at *
    rcases hH with rfl | rfl
  · rw [m5 (by clear m2 m3 u0; lia), Int.emod_eq_of_lt (by clear m2 m3 u0; lia) (by clear m2 m3 u0; lia)]
    exact Int.le_trans q2 (Int.le_add_of_nonneg_right u0)
  · rw [← Int.add_emod_right, Int.emod_eq_of_lt (by clear m2 m3 u0; lia) (by clear m2 m3 u0; lia)] at m2
    clear m3 k8 m5 q3 hx; lia
  · rw [m5 (by clear m2 m3 u0; lia), Int.emod_eq_of_lt (by clear m2 m3 u0; lia) (by clear m2 m3 u0; lia)]
    exact Int.le_trans q3 (Int.le_add_of_nonneg_right u0)
  · rw [← Int.add_emod_right (a := V), Int.emod_eq_of_lt (by clear m2 m3 u0; lia) (by clear m2 m3 u0; lia)] at m3
    clear m2 k8 m5 q2 hx; lia
/-- the hue told is near to its place -/
theorem hue_app {P a x R G B : Int} {r g b : UInt64} (T : Tri P a R G B 4000 r g b) (I : TriIn a) (S : Sec KK x R G B) (hx : KK ≤ 8 * x ∧ 8 * x ≤ 47 * KK) :
    Fl 6 (hueF r g b (fmax r g b) (sub (fmax r g b) (fmin r g b))) x 80012 := by
  obtain ⟨hM, hN⟩ := tri_max T I S
  have hor := (fmax_val T.r.fin T.g.fin T.b.fin).1
  have n0 : ∀ {t : Int}, t = 0 → KK - t ≤ (4000 + 4000 : Nat) * (uu : Int) → False := fun h h' => half_no (by rw [h, Int.sub_zero] at h'; exact h') (nuu_KK (n := 4000 + 4000) (by decide)) KK_pos
  unfold hueF
  dsimp only
  generalize fmax r g b = mx at *
  generalize fmin r g b = mn at *
  have rc := tri_part I hM hN T.r S.r
  have gc := tri_part I hM hN T.g S.g
  have bc := tri_part I hM hN T.b S.b
  have wr := (Wi.one K0).sub (Wi.one S.r)
  have wg := (Wi.one K0).sub (Wi.one S.g)
  have wb := (Wi.one K0).sub (Wi.one S.b)
  generalize Float64.div (sub mx r) (sub mx mn) = rc' at *
  generalize Float64.div (sub mx g) (sub mx mn) = gc' at *
  generalize Float64.div (sub mx b) (sub mx mn) = bc' at *
  rw [eqF_val T.r.fin hM.fin, eqF_val T.g.fin hM.fin]
  have go : ∀ {h : UInt64} {H t : Int} {n : Nat}, Fl 1 h t n → n ≤ 70000 → (H = x ∨ H = x - 6 * KK) → H - t ≤ (4000 + 4000 : Nat) * (uu : Int) ∧ t - H ≤ (4000 + 4000 : Nat) * (uu : Int) → Wi 8 t → Fl 6 (divmod (Float64.div h f6) f1).2 x 80012 := fun f hn hH hd hW =>
    hue_tail ((f.move hd.2 hd.1).mono (Nat.le_trans (Nat.add_le_add_right hn _) (by decide))) hx hH ((fl_wi (m := 1) (q := 1) (w := 8) (n := 4000 + 4000) rfl (by decide) (by rw [Int.one_mul]; exact hd.1) (by rw [Int.one_mul]; exact hd.2) hW (by decide)).mono (by decide))
  by_cases er : val r = val mx
  · rw [decide_eq_true er, if_pos rfl]
    have ht := tri_top I hM T.r S.r.2 er
    rcases S.red with h | ⟨H, h1, h2⟩
    · exact (n0 h ht).elim
    · have hb := both h2 (Int.sub_nonneg_of_le S.r.2) ht
      have e := (bc.sub gc (w := 4) (q := 1) (wb.sub wg) rfl).cast (s := G - B) (by grind)
      exact go e (by decide) h1 ⟨hb.2, hb.1⟩ (((Wi.one S.g).sub (Wi.one S.b)).mono (by decide))
  · rw [decide_eq_false er, if_neg Bool.false_ne_true]
    by_cases eg : val g = val mx
    · rw [decide_eq_true eg, if_pos rfl]
      have ht := tri_top I hM T.g S.g.2 eg
      rcases S.green with h | h2
      · exact (n0 h ht).elim
      · have hb := both h2 (Int.sub_nonneg_of_le S.g.2) ht
        have e1 := (Fl.of (t := 2 * KK) f2_val.1 ((Int.one_mul _).trans f2_val.2)).add rc (w := 4) (q := 1) ((Wi.num 2).add wr) rfl
        have e := (e1.sub bc (w := 6) (q := 1) (((Wi.num 2).add wr).sub wb) rfl).cast (s := 2 * KK + (B - R)) (by grind)
        exact go e (by decide) (.inl rfl) ⟨hb.2, hb.1⟩ (((Wi.num 2).add ((Wi.one S.b).sub (Wi.one S.r))).mono (by decide))
    · rw [decide_eq_false eg, if_neg Bool.false_ne_true]
      have eb : val b = val mx := by
        rcases hor with h | h | h
        · exact absurd (congrArg val h.symm) er
        · exact absurd (congrArg val h.symm) eg
        · rw [h]
      have ht := tri_top I hM T.b S.b.2 eb
      rcases S.blue with h | h2
      · exact (n0 h ht).elim
      · have hb := both h2 (Int.sub_nonneg_of_le S.b.2) ht
        have e1 := (Fl.of (t := 4 * KK) f4_val.1 ((Int.one_mul _).trans f4_val.2)).add gc (w := 6) (q := 1) ((Wi.num 4).add wg) rfl
        have e := (e1.sub rc (w := 8) (q := 1) (((Wi.num 4).add wg).sub wr) rfl).cast (s := 4 * KK + (R - G)) (by grind)
        exact go e (by decide) (.inl rfl) ⟨hb.2, hb.1⟩ (((Wi.num 4).add ((Wi.one S.r).sub (Wi.one S.g))).mono (by decide))
end Mine
end

section
set_option autoImplicit false
set_option linter.unusedVariables false
set_option linter.unusedSimpArgs false
set_option exponentiation.threshold 3000
namespace Mine
open PySem PySem.Float64

theorem rep_KN {j : Nat} (h : j ≤ 2 ^ 53) : Rep (j * KN) := by rw [← KN_pow]; exact rep_of h (by decide)
theorem rep_jK {j : Int} (h : j.natAbs ≤ 2 ^ 53) : Rep (j * KK).natAbs := by
  rw [Int.natAbs_mul]; exact rep_KN h
theorem val_ofInt' {a : Int} (ha : a.natAbs < 1073741824) : val (ofInt a) = a * KK ∧ Fin' (ofInt a) := by
  have := rn_ofInt (a := a) ha
  exact ⟨this.exact (rep_jK (Nat.le_trans (Nat.le_of_lt ha) (by decide))) (Int.one_mul _).symm, this.fin⟩
/-- K / 32 -/
noncomputable def K32 : Int := 4398046511104 * (uu : Int)
theorem K32_eq : KK = 32 * K32 := by rw [KK_uu]; unfold K32; rw [← Int.mul_assoc]; rfl
theorem K32_pow : ((2 ^ 1069 : Nat) : Int) = K32 := by
  have e := two_uu 42
  unfold K32
  rw [show (1069 : Nat) = 1027 + 42 from rfl, e, Int.natCast_mul]; rfl
theorem K32_pos : 0 < K32 := by have := KK_pos; have := K32_eq; lia
theorem rep_32 {j : Int} (h0 : 0 ≤ j) (h : j ≤ 2048) : Rep (j * K32).natAbs := by
  have : (j * K32).natAbs = j.natAbs * 4398046511104 * uu := by
    unfold K32
    rw [Int.natAbs_mul, Int.natAbs_mul, Int.natAbs_natCast, ← Nat.mul_assoc]; rfl
  rw [this]; exact rep_uu (by lia)
theorem four {i : Int} (h : 1 ≤ i ∧ i ≤ 4) : ∃ k : Nat, k < 4 ∧ i = (k : Int) + 1 := by
  obtain ⟨n, hn⟩ := Int.eq_ofNat_of_zero_le (Int.sub_nonneg_of_le h.1)
  exact ⟨n, Int.ofNat_lt.mp (hn ▸ Int.lt_of_le_of_lt (Int.sub_le_sub_right h.2 1) (by decide)), by rw [← hn, Int.sub_add_cancel]⟩
theorem zero_val : Fin' 0 ∧ val 0 = 0 := by
  have := fin_zero false
  have e : zero false = 0 := by decide +kernel
  rwa [e] at this
/-- from a table of sixteen -/
theorem table16 {T : Int → Int → Bool} (h : ∀ i : Nat, i < 4 → ∀ j : Nat, j < 4 → T ((i : Int) + 1) ((j : Int) + 1) = true) {sh lv : Int} (hs : 1 ≤ sh ∧ sh ≤ 4) (hl : 1 ≤ lv ∧ lv ≤ 4) : T sh lv = true := by
  obtain ⟨i, hi, rfl⟩ := four hs
  obtain ⟨j, hj, rfl⟩ := four hl
  exact h i hi j hj
theorem share_in {sh lv : Int} (hs : 1 ≤ sh ∧ sh ≤ 4) (hl : 1 ≤ lv ∧ lv ≤ 4) : (1 ≤ lv * sh ∧ lv * sh ≤ 16) ∧ (0 ≤ lv * (4 - sh) ∧ lv * (4 - sh) ≤ 12) ∧ (1 ≤ lv * (8 - sh) ∧ lv * (8 - sh) ≤ 28) := by
  have := table16 (T := fun sh lv => decide ((1 ≤ lv * sh ∧ lv * sh ≤ 16) ∧ (0 ≤ lv * (4 - sh) ∧ lv * (4 - sh) ≤ 12) ∧ (1 ≤ lv * (8 - sh) ∧ lv * (8 - sh) ≤ 28))) (by decide) hs hl
  exact of_decide_eq_true this
/-- i quarters -/
theorem quarter {i : Int} (h : 1 ≤ i ∧ i ≤ 4) : Fin' (fdivI i 4) ∧ val (fdivI i 4) = i * 8 * K32 := by
  have R := rn_frac (a := i) (b := 4) (by lia) (by decide)
  refine ⟨R.fin, R.exact (M := i * 8 * K32) (rep_32 (by lia) (by lia)) ?_⟩
  rw [K32_eq]
  show i * (32 * K32) = 4 * (i * 8 * K32)
  lia
/-- the least part -/
noncomputable def pF (sh lv : Int) : UInt64 := mul (fdivI lv 4) (sub f1 (fdivI sh 4))
noncomputable def finB (x : UInt64) : Bool := match decode x with
  | .fin _ _ _ => true
  | _ => false
theorem finB_ok {x : UInt64} (h : finB x = true) : Fin' x := by
  unfold finB at h
  split at h
  · rename_i a m e hd; exact ⟨a, m, e, hd⟩
  · cases h
theorem pF_tab : ∀ i : Nat, i < 4 → ∀ j : Nat, j < 4 → (fun (sh lv : Int) => finB (pF sh lv) && decide (val (pF sh lv) = lv * (4 - sh) * 2 * ((2 ^ 1069 : Nat) : Int))) ((i : Int) + 1) ((j : Int) + 1) = true := by decide +kernel
theorem pF_val {sh lv : Int} (hs : 1 ≤ sh ∧ sh ≤ 4) (hl : 1 ≤ lv ∧ lv ≤ 4) : Fin' (pF sh lv) ∧ val (pF sh lv) = lv * (4 - sh) * 2 * K32 := by
  have := table16 (T := fun (sh lv : Int) => finB (pF sh lv) && decide (val (pF sh lv) = lv * (4 - sh) * 2 * ((2 ^ 1069 : Nat) : Int))) pF_tab hs hl
  obtain ⟨h1, h2⟩ := Bool.and_eq_true_iff.mp this
  exact ⟨finB_ok h1, by rw [of_decide_eq_true h2, K32_pow]⟩
theorem q_in {i : Int} (h : 1 ≤ i ∧ i ≤ 4) : 0 ≤ i * 8 * K32 ∧ i * 8 * K32 ≤ KK := by
  have hk0 := Int.le_of_lt K32_pos
  refine ⟨Int.mul_nonneg (Int.mul_nonneg (Int.le_trans (by decide) h.1) (by decide)) hk0, ?_⟩
  rw [K32_eq]
  exact Int.mul_le_mul_of_nonneg_right (Int.mul_le_mul_of_nonneg_right h.2 (by decide)) hk0
/-- times i quarters -/
theorem mul_q {i : Int} (hi : 1 ≤ i ∧ i ≤ 4) {x : UInt64} (fx : Fin' x) (x0 : 0 ≤ val x ∧ val x ≤ KK) : Rn (mul (fdivI i 4) x) (i * 8 * K32 * val x) KN ∧ Fl 4 (mul (fdivI i 4) x) (i * val x) 4 := by
  obtain ⟨fi, vi⟩ := quarter hi
  have b1 := (Wi.one (vi ▸ q_in hi)).KN
  have b2 := (Wi.one x0).KN
  have R := rn_mulG fi fx b1 b2 (by decide)
  obtain ⟨g1, g2⟩ := mul_wk 0 R b1 b2 (by decide)
  rw [vi] at R g1 g2
  have e4 : KK * ((4 : Nat) * (uu : Int)) = 4 * (KK * ((2 ^ 0 * uu : Nat) : Int)) := by rw [Nat.pow_zero, Nat.one_mul]; show KK * (4 * (uu : Int)) = _; ac_rfl
  refine ⟨R, R.fin, Int.le_of_mul_le_mul_left (a := KK) ?_ KK_pos, Int.le_of_mul_le_mul_left (a := KK) ?_ KK_pos⟩
  · rw [e4, show KK * (4 * val (mul (fdivI i 4) x) - i * val x) = 4 * (val (mul (fdivI i 4) x) * KK - i * 8 * K32 * val x) by rw [K32_eq]; grind]
    exact Int.mul_le_mul_of_nonneg_left g1 (by decide)
  · rw [e4, show KK * (i * val x - 4 * val (mul (fdivI i 4) x)) = 4 * (i * 8 * K32 * val x - val (mul (fdivI i 4) x) * KK) by rw [K32_eq]; grind]
    exact Int.mul_le_mul_of_nonneg_left g2 (by decide)
theorem scale {l Y U : Int} (h0 : 0 ≤ l) (h4 : l ≤ 4) (hU : 0 ≤ U) (h : Y ≤ U) : l * Y ≤ 4 * U := Int.le_trans (Int.mul_le_mul_of_nonneg_left h h0) (Int.mul_le_mul_of_nonneg_right h4 hU)
theorem low_ring (a b k : Int) : 32 * k * (a * b * 2 * k) = a * 8 * k * (b * 8 * k) := by grind
/-- v * (1 - s * w) -/
theorem side_val {sh lv : Int} (hs : 1 ≤ sh ∧ sh ≤ 4) (hl : 1 ≤ lv ∧ lv ≤ 4) {w : UInt64} (fw : Fin' w) (w0 : 0 ≤ val w) (w1 : val w ≤ KK) :
    Fl 16 (mul (fdivI lv 4) (sub f1 (mul (fdivI sh 4) w))) (lv * (4 - sh) * KK + lv * sh * (KK - val w)) 48 ∧ val (pF sh lv) ≤ val (mul (fdivI lv 4) (sub f1 (mul (fdivI sh 4) w))) ∧ val (mul (fdivI lv 4) (sub f1 (mul (fdivI sh 4) w))) ≤ val (fdivI lv 4) := by
  have hk0 := Int.le_of_lt K32_pos
  obtain ⟨fv, vv⟩ := quarter hl
  obtain ⟨g1, e1⟩ := f1_val
  obtain ⟨s0, s1⟩ := q_in hs
  obtain ⟨v0, v1⟩ := q_in hl
  obtain ⟨⟨_, hsl⟩, ⟨hp1, hp2⟩, _⟩ := share_in hs hl
  have sh0 : 0 ≤ sh := Int.le_trans (by decide) hs.1
  have lv0 : 0 ≤ lv := Int.le_trans (by decide) hl.1
  obtain ⟨R1, S1⟩ := mul_q hs fw ⟨w0, w1⟩
  have m0 : 0 ≤ val (mul (fdivI sh 4) w) := R1.ge 0 rep_zero (by rw [Int.mul_zero]; exact Int.mul_nonneg s0 w0)
  have m1 : val (mul (fdivI sh 4) w) ≤ sh * 8 * K32 := R1.le _ (rep_32 (Int.mul_nonneg sh0 (by decide)) (Int.le_trans (Int.mul_le_mul_of_nonneg_right hs.2 (by decide)) (by decide))) (by rw [Int.mul_comm, KK_nat]; exact Int.mul_le_mul_of_nonneg_right w1 s0)
  generalize mul (fdivI sh 4) w = sw at *
  have b2 : (val f1 - val sw).natAbs < 9007199254740992 * uu := lt_KN (Wi.one ⟨by rw [e1]; exact Int.sub_nonneg_of_le (Int.le_trans m1 s1), by rw [e1]; exact Int.sub_le_self _ m0⟩).KN (by decide)
  have R2 := rn_sub g1 R1.fin b2
  have Q := (Fl.of (m := 4) (t := 4 * KK) g1 (by rw [e1])).sub S1 (w := 2) (q := 4) ((Wi.num 4).sub (Wi.of (n := 4) (Int.mul_nonneg sh0 w0) (Int.mul_le_mul hs.2 w1 w0 (by decide)))) rfl
  have q0 : (4 - sh) * 8 * K32 ≤ val (sub f1 sw) := R2.ge _ (rep_32 (Int.mul_nonneg (Int.sub_nonneg_of_le hs.2) (by decide)) (Int.le_trans (Int.mul_le_mul_of_nonneg_right (Int.sub_le_self 4 sh0) (by decide)) (by decide))) (by
    rw [e1, K32_eq, show ((1 : Nat) : Int) * ((4 - sh) * 8 * K32) = 32 * K32 - sh * 8 * K32 by show 1 * _ = _; grind]
    exact Int.sub_le_sub_left m1 _)
  have q1 : val (sub f1 sw) ≤ KK := R2.le KK rep_KK (by rw [e1, show ((1 : Nat) : Int) * KK = KK from Int.one_mul _]; exact Int.sub_le_self _ m0)
  generalize sub f1 sw = qq at *
  have q00 : 0 ≤ val qq := Int.le_trans (Int.mul_nonneg (Int.mul_nonneg (Int.sub_nonneg_of_le hs.2) (by decide)) hk0) q0
  obtain ⟨R3, Z⟩ := mul_q hl R2.fin ⟨q00, q1⟩
  generalize mul (fdivI lv 4) qq = z at *
  have u8 : 0 ≤ ((0 + 4 + 4 : Nat) : Int) * (uu : Int) := nuu_nn _
  have e48 : ((48 : Nat) : Int) * (uu : Int) = 4 * (((4 : Nat) : Int) * uu) + 4 * (((0 + 4 + 4 : Nat) : Int) * (uu : Int)) := by rw [← Int.mul_assoc, ← Int.mul_assoc, ← Int.add_mul]; rfl
  refine ⟨⟨R3.fin, ?_, ?_⟩, ?_, ?_⟩
  · rw [e48, show 16 * val z - (lv * (4 - sh) * KK + lv * sh * (KK - val w)) = 4 * (4 * val z - lv * val qq) + lv * (4 * val qq - (4 * KK - sh * val w)) by grind]
    exact Int.add_le_add (Int.mul_le_mul_of_nonneg_left Z.up (by decide)) (scale lv0 hl.2 u8 Q.up)
  · rw [e48, show lv * (4 - sh) * KK + lv * sh * (KK - val w) - 16 * val z = 4 * (lv * val qq - 4 * val z) + lv * (4 * KK - sh * val w - 4 * val qq) by grind]
    exact Int.add_le_add (Int.mul_le_mul_of_nonneg_left Z.lo (by decide)) (scale lv0 hl.2 u8 Q.lo)
  · rw [(pF_val hs hl).2]
    refine R3.ge _ (rep_32 (Int.mul_nonneg hp1 (by decide)) (Int.le_trans (Int.mul_le_mul_of_nonneg_right hp2 (by decide)) (by decide))) ?_
    rw [KK_nat, K32_eq, low_ring]
    exact Int.mul_le_mul_of_nonneg_left q0 v0
  · rw [vv]
    refine R3.le _ (rep_32 (Int.mul_nonneg lv0 (by decide)) (Int.le_trans (Int.mul_le_mul_of_nonneg_right hl.2 (by decide)) (by decide))) ?_
    rw [KK_nat, Int.mul_comm KK]
    exact Int.mul_le_mul_of_nonneg_left q1 v0
end Mine
end

section
set_option autoImplicit false
set_option linter.unusedVariables false
set_option linter.unusedSimpArgs false
set_option exponentiation.threshold 3000
namespace Mine
open PySem PySem.Float64

theorem small_pow {i : Int} (h : i.natAbs < 2 ^ 100) : i.natAbs < 2 ^ 1023 := Nat.lt_of_lt_of_le h (Nat.pow_le_pow_right (by decide) (by decide))
/-- the sign and the rest of a float -/
theorem fin_pack {x : UInt64} (h : Fin' x) : ∃ neg t, x = pack neg t ∧ t < infMag := by
  obtain ⟨a, m, e, hd⟩ := h
  have hi : infMag = 2047 * 2 ^ 52 := rfl
  have hx := x.toNat_lt
  refine ⟨x.toNat / 2 ^ 63 == 1, x.toNat % 2 ^ 63, UInt64.toNat_inj.mp ?_, ?_⟩
  · rw [pack_toNat _ (Nat.mod_lt _ (by decide))]
    have h1 : x.toNat / 2 ^ 63 = 0 ∨ x.toNat / 2 ^ 63 = 1 := by lia
    rcases h1 with h1 | h1 <;> rw [h1] <;> simp <;> lia
  · unfold decode at hd
    simp only at hd
    split at hd
    · split at hd <;> cases hd
    · rename_i h1
      have h2 : x.toNat / 2 ^ 52 % 2048 ≠ 2047 := fun e => h1 (by rw [e]; rfl)
      have h3 : x.toNat % (2 ^ 52 * 2048) / 2 ^ 52 = x.toNat / 2 ^ 52 % 2048 := Nat.mod_mul_right_div_self ..
      rw [← h3] at h2
      have h4 : x.toNat % (2 ^ 52 * 2048) < 2 ^ 52 * 2048 := Nat.mod_lt _ (by decide)
      show x.toNat % (2 ^ 52 * 2048) < 2047 * 2 ^ 52
      generalize x.toNat % (2 ^ 52 * 2048) = X at *
      clear hd h1 h3
      lia
theorem V_inj {t t' : Nat} (h : V t = V t') : t = t' := by
  rcases Nat.lt_trichotomy t t' with h' | h' | h'
  · exact absurd h (Nat.ne_of_lt (V_lt h'))
  · exact h'
  · exact absurd h (Nat.ne_of_gt (V_lt h'))
theorem val_inj {x y : UInt64} (hx : Fin' x) (hy : Fin' y) (h : val x = val y) : x = y ∨ (val x = 0 ∧ (x = zero false ∨ x = zero true)) := by
  obtain ⟨a, t, rfl, ht⟩ := fin_pack hx
  obtain ⟨b, t', rfl, ht'⟩ := fin_pack hy
  rw [val_pack _ ht, val_pack _ ht'] at h
  rw [val_pack _ ht]
  have hn := congrArg Int.natAbs h
  rw [sgn_natAbs, sgn_natAbs] at hn
  obtain rfl := V_inj hn
  by_cases h0 : V t = 0
  · right
    have : t = 0 := V_inj (h0.trans V_zero.symm)
    subst this
    rw [V_zero]
    cases a
    · exact ⟨rfl, .inl rfl⟩
    · exact ⟨rfl, .inr rfl⟩
  · left
    have hp : (0 : Int) < V t := Int.ofNat_lt.mpr (Nat.pos_of_ne_zero h0)
    cases a <;> cases b <;> first | rfl | (simp only [sgn_of, if_true, Bool.false_eq_true, if_false] at h; clear hn ht ht' h0; lia)
theorem sec_at {k F : Int} (h0 : 0 ≤ F) (h1 : F ≤ k) : Sec k (0 * k + F) k F 0 ∧ Sec k (1 * k + F) (k - F) k 0 ∧ Sec k (2 * k + F) 0 k F ∧ Sec k (3 * k + F) 0 (k - F) k ∧ Sec k (4 * k + F) F 0 k ∧ Sec k (5 * k + F) k 0 (k - F) := by
  have hk : 0 ≤ k ∧ k ≤ k := ⟨Int.le_trans h0 h1, Int.le_refl _⟩
  have hz : (0 : Int) ≤ 0 ∧ 0 ≤ k := ⟨Int.le_refl _, hk.1⟩
  have hF : 0 ≤ F ∧ F ≤ k := ⟨h0, h1⟩
  have hG : 0 ≤ k - F ∧ k - F ≤ k := ⟨Int.sub_nonneg_of_le h1, Int.sub_le_self _ h0⟩
  exact ⟨⟨hk, hF, hz, .inl rfl, .inr (.inr rfl), .inr ⟨_, .inl rfl, .inl (by lia)⟩, .inr (.inr (by lia)), .inl rfl⟩,
    ⟨hG, hk, hz, .inr (.inl rfl), .inr (.inr rfl), .inr ⟨_, .inl rfl, .inl (by lia)⟩, .inr (.inl (by lia)), .inl rfl⟩,
    ⟨hz, hk, hF, .inr (.inl rfl), .inl rfl, .inl rfl, .inr (.inl (by lia)), .inr (.inr (by lia))⟩,
    ⟨hz, hG, hk, .inr (.inr rfl), .inl rfl, .inl rfl, .inr (.inl (by lia)), .inr (.inl (by lia))⟩,
    ⟨hF, hz, hk, .inr (.inr rfl), .inr (.inl rfl), .inr ⟨_, .inr rfl, .inr (by lia)⟩, .inl rfl, .inr (.inl (by lia))⟩,
    ⟨hk, hz, hG, .inl rfl, .inr (.inl rfl), .inr ⟨_, .inr rfl, .inl (by lia)⟩, .inl rfl, .inr (.inl (by lia))⟩⟩
/-- times six -/
theorem six_wk (j : Nat) {x : UInt64} {A : Nat} (fx : Fin' x) (hX : (val x).natAbs ≤ A * KN) (h : A * 6 < 2 ^ (6 + j)) (h' : A < 1000) : Rn (mul x f6) (val x * val f6) KN ∧ val (mul x f6) - 6 * val x ≤ (2 ^ j * uu : Nat) ∧ 6 * val x - val (mul x f6) ≤ (2 ^ j * uu : Nat) := by
  obtain ⟨g6, e6⟩ := f6_val
  have b2 : (val f6).natAbs ≤ 6 * KN := by rw [e6]; exact Nat.le_of_eq (Int.natAbs_mul _ _)
  have R := rn_mulG fx g6 hX b2 (Nat.lt_of_lt_of_le (Nat.mul_lt_mul_of_pos_right h' (by decide)) (by decide))
  obtain ⟨g1, g2⟩ := mul_wk j R hX b2 h
  rw [e6] at g1 g2
  refine ⟨R, Int.le_of_mul_le_mul_left (a := KK) ?_ KK_pos, Int.le_of_mul_le_mul_left (a := KK) ?_ KK_pos⟩
  · rw [Int.mul_sub, Int.mul_comm KK, show KK * (6 * val x) = val x * (6 * KK) by ac_rfl]; exact g1
  · rw [Int.mul_sub, Int.mul_comm KK (val _), show KK * (6 * val x) = val x * (6 * KK) by ac_rfl]; exact g2
/-- what hsv_to_rgb paints -/
structure Paint (sh lv y : Int) (p : UInt64 × UInt64 × UInt64) : Prop where
  tri : ∃ x R G B, Tri (lv * (4 - sh) * KK) (lv * sh) R G B 64 p.1 p.2.1 p.2.2 ∧ Sec KK x R G B ∧ (x - 6 * y ≤ 10 * (uu : Int) ∧ 6 * y - x ≤ 10 * (uu : Int))
  max : val (fmax p.1 p.2.1 p.2.2) = val (fdivI lv 4)
  min : val (fmin p.1 p.2.1 p.2.2) = val (pF sh lv)
theorem paint_of {sh lv y x R G B v p : Int} {r g b : UInt64} (hv : v = val (fdivI lv 4)) (hp : p = val (pF sh lv)) (T : Tri (lv * (4 - sh) * KK) (lv * sh) R G B 64 r g b) (S : Sec KK x R G B) (hx : x - 6 * y ≤ 10 * (uu : Int) ∧ 6 * y - x ≤ 10 * (uu : Int))
    (l1 : p ≤ val r ∧ p ≤ val g ∧ p ≤ val b) (l2 : val r ≤ v ∧ val g ≤ v ∧ val b ≤ v) (l3 : p = val r ∨ p = val g ∨ p = val b) (l4 : v = val r ∨ v = val g ∨ v = val b) : Paint sh lv y (r, g, b) := by
  subst hv hp
  obtain ⟨m0, m1, m2, m3⟩ := fmax_val T.r.fin T.g.fin T.b.fin
  obtain ⟨n0, n1, n2, n3⟩ := fmin_val T.r.fin T.g.fin T.b.fin
  refine ⟨⟨x, R, G, B, T, S, hx⟩, Int.le_antisymm ?_ ?_, Int.le_antisymm ?_ ?_⟩
  · show val (fmax r g b) ≤ _
    rcases m0 with h | h | h <;> rw [h]
    · exact l2.1
    · exact l2.2.1
    · exact l2.2.2
  · rcases l4 with h | h | h <;> rw [h]
    · exact m1
    · exact m2
    · exact m3
  · rcases l3 with h | h | h <;> rw [h]
    · exact n1
    · exact n2
    · exact n3
  · show _ ≤ val (fmin r g b)
    rcases n0 with h | h | h <;> rw [h]
    · exact l1.1
    · exact l1.2.1
    · exact l1.2.2
/-- the sector -/
theorem sector {k Z n ym i fr u : Int} (hk : 0 < k) (hu : 64 * u ≤ k) {H : Int} (hH : H = k * n + ym) (h1 : Z - 6 * H ≤ 4 * u) (h2 : 6 * H - Z ≤ 4 * u) (hZ : Z = k * i + fr) (f0 : 0 ≤ fr) (f1 : fr < k) (d0 : k ≤ 32 * ym) (d1 : 32 * ym ≤ 31 * k) : ∃ σ, i = 6 * n + σ ∧ (0 ≤ σ ∧ σ < 6) ∧ σ * k + fr - 6 * ym ≤ 4 * u ∧ 6 * ym - (σ * k + fr) ≤ 4 * u := by
  have e : (i - 6 * n) * k + fr - 6 * ym = Z - 6 * H := by rw [hZ, hH]; grind
  have e' : 6 * ym - ((i - 6 * n) * k + fr) = 6 * H - Z := by rw [hZ, hH]; grind
  rw [← e] at h1
  rw [← e'] at h2
  have l1 : -k < (i - 6 * n) * k := by clear d1 h1 f0 e e' hZ hH; lia
  have l2 : (i - 6 * n) * k < 6 * k := by clear d0 h2 f1 e e' hZ hH; lia
  refine ⟨i - 6 * n, (by lia), ⟨?_, Int.lt_of_mul_lt_mul_right l2 (Int.le_of_lt hk)⟩, h1, h2⟩
  exact Int.add_one_le_of_lt (Int.lt_of_mul_lt_mul_right (a := k) (show -1 * k < _ by rw [Int.neg_one_mul]; exact l1) (Int.le_of_lt hk))
theorem scale16 {l Y U : Int} (h : 1 ≤ l ∧ l ≤ 16) (hU : 0 ≤ U) (hY : Y ≤ U) : l * Y ≤ 16 * U := Int.le_trans (Int.mul_le_mul_of_nonneg_left hY (Int.le_trans (by decide) h.1)) (Int.mul_le_mul_of_nonneg_right h.2 hU)
theorem i_small {n σ i : Int} (hi : i = 6 * n + σ) (n0 : 0 ≤ n) (n1 : n ≤ 30) (h : 0 ≤ σ ∧ σ < 6) : i.natAbs < 1073741824 := by
  subst hi
  exact Nat.lt_of_le_of_lt (abs_le (n := 200) (by have := h.1; clear n1 h; lia) (by have := h.2; clear n0 h; lia)) (by decide)
/-- which of the six -/
noncomputable def hsvPick (σ : Int) (v p q t : UInt64) : UInt64 × UInt64 × UInt64 :=
  if σ = 0 then (v, t, p) else if σ = 1 then (q, v, p) else if σ = 2 then (p, v, t) else if σ = 3 then (p, q, v) else if σ = 4 then (t, p, v) else (v, p, q)
theorem some_ite {α : Type} {p : Prop} [Decidable p] (a b : α) : (if p then some a else some b) = some (if p then a else b) := by split <;> rfl
theorem pick_some (σ : Int) (v p q t : UInt64) : (if σ = 0 then some (v, t, p) else if σ = 1 then some (q, v, p) else if σ = 2 then some (p, v, t) else if σ = 3 then some (p, q, v) else if σ = 4 then some (t, p, v) else some (v, p, q)) = some (hsvPick σ v p q t) := by
  unfold hsvPick
  rw [some_ite, some_ite, some_ite, some_ite, some_ite]
theorem hsv_of {h s v : UInt64} {i : Int} (hz : eqF s 0 = false) (ht : truncF (mul h f6) = some i) (hi : i.natAbs < 2 ^ 1023) :
    ofHsv h s v = some (hsvPick (i % 6) v (mul v (sub f1 s)) (mul v (sub f1 (mul s (sub (mul h f6) (ofInt i))))) (mul v (sub f1 (mul s (sub f1 (sub (mul h f6) (ofInt i))))))) := by
  unfold ofHsv
  rw [hz, if_neg Bool.false_ne_true, ht]
  exact (if_pos hi).trans (pick_some ..)
theorem hsv_end {sh lv ym σ F : Int} {T Q : UInt64} (hl : 1 ≤ lv ∧ lv ≤ 4) (hs : 1 ≤ sh ∧ sh ≤ 4) (F0 : 0 ≤ F) (F1 : F ≤ KK) (hσ : 0 ≤ σ ∧ σ < 6) (hx : (σ * KK + F) - 6 * ym ≤ 10 * (uu : Int) ∧ 6 * ym - (σ * KK + F) ≤ 10 * (uu : Int))
    (t5 : Fl 16 T (lv * (4 - sh) * KK + lv * sh * F) 64) (q5 : Fl 16 Q (lv * (4 - sh) * KK + lv * sh * (KK - F)) 64) (t3 : val (pF sh lv) ≤ val T) (t4 : val T ≤ val (fdivI lv 4)) (q3 : val (pF sh lv) ≤ val Q) (q4 : val Q ≤ val (fdivI lv 4)) : Paint sh lv ym (hsvPick σ (fdivI lv 4) (pF sh lv) Q T) := by
  obtain ⟨fv, vv⟩ := quarter hl
  obtain ⟨fp, vp⟩ := pF_val hs hl
  have v5 : Fl 16 (fdivI lv 4) (lv * (4 - sh) * KK + lv * sh * KK) 64 := (Fl.of fv (by rw [vv, K32_eq]; grind)).mono (by decide)
  have p5 : Fl 16 (pF sh lv) (lv * (4 - sh) * KK + lv * sh * 0) 64 := (Fl.of fp (by rw [vp, K32_eq]; grind)).mono (by decide)
  have pv : val (pF sh lv) ≤ val (fdivI lv 4) := Int.le_trans q3 q4
  obtain ⟨S0, S1, S2, S3, S4, S5⟩ := sec_at F0 F1
  have rf : ∀ z : Int, z ≤ z := Int.le_refl
  clear vv vp fv fp
  rcases iLt6 hσ.1 hσ.2 with rfl | rfl | rfl | rfl | rfl | rfl
  · exact paint_of rfl rfl ⟨v5, t5, p5⟩ S0 hx ⟨pv, t3, rf _⟩ ⟨rf _, t4, pv⟩ (.inr (.inr rfl)) (.inl rfl)
  · exact paint_of rfl rfl ⟨q5, v5, p5⟩ S1 hx ⟨q3, pv, rf _⟩ ⟨q4, rf _, pv⟩ (.inr (.inr rfl)) (.inr (.inl rfl))
  · exact paint_of rfl rfl ⟨p5, v5, t5⟩ S2 hx ⟨rf _, pv, t3⟩ ⟨pv, rf _, t4⟩ (.inl rfl) (.inr (.inl rfl))
  · exact paint_of rfl rfl ⟨p5, q5, v5⟩ S3 hx ⟨rf _, q3, pv⟩ ⟨pv, q4, rf _⟩ (.inl rfl) (.inr (.inr rfl))
  · exact paint_of rfl rfl ⟨t5, p5, v5⟩ S4 hx ⟨t3, rf _, pv⟩ ⟨t4, pv, rf _⟩ (.inr (.inl rfl)) (.inr (.inr rfl))
  · exact paint_of rfl rfl ⟨v5, p5, q5⟩ S5 hx ⟨pv, rf _, q3⟩ ⟨rf _, pv, q4⟩ (.inr (.inl rfl)) (.inl rfl)
/-- t by f -/
theorem hsv_two {sh lv : Int} (hs : 1 ≤ sh ∧ sh ≤ 4) (hl : 1 ≤ lv ∧ lv ≤ 4) {ym σ fr : Int} {f : UInt64} (Ff : Fin' f) (F0 : 0 ≤ val f) (F1 : val f ≤ KK) (hσ : 0 ≤ σ ∧ σ < 6) (x1 : σ * KK + fr - 6 * ym ≤ 4 * (uu : Int)) (x2 : 6 * ym - (σ * KK + fr) ≤ 4 * (uu : Int)) (nf : val f - fr ≤ uu ∧ fr - val f ≤ uu) :
    Paint sh lv ym (hsvPick σ (fdivI lv 4) (pF sh lv) (mul (fdivI lv 4) (sub f1 (mul (fdivI sh 4) f))) (mul (fdivI lv 4) (sub f1 (mul (fdivI sh 4) (sub f1 f))))) := by
  obtain ⟨g1, e1⟩ := f1_val
  have u0 : (0 : Int) ≤ uu := Int.natCast_nonneg _
  have iG : 0 ≤ val f1 - val f ∧ val f1 - val f ≤ KK := by rw [e1]; exact ⟨Int.sub_nonneg_of_le F1, Int.sub_le_self _ F0⟩
  have bG := lt_KN (Wi.one iG).KN (by decide)
  have RG := rn_sub g1 Ff bG
  have nG := RG.near1 bG
  rw [e1] at nG
  obtain ⟨q1, q3, q4⟩ := side_val hs hl Ff F0 F1
  obtain ⟨t1, t3, t4⟩ := side_val hs hl RG.fin (RG.ge 0 rep_zero (by rw [Int.mul_zero]; exact iG.1)) (RG.le KK rep_KK (by rw [show ((1 : Nat) : Int) * KK = KK from Int.one_mul _]; exact iG.2))
  have ha := (share_in hs hl).1
  refine hsv_end hl hs F0 F1 hσ ?_ (t1.move (k := 16) ?_ ?_) (q1.mono (by decide)) t3 t4 q3 q4
  · clear q1 q3 q4 t1 t3 t4 nG RG bG iG
    generalize σ * KK = s at *
    exact ⟨by clear x2; lia, by clear x1; lia⟩
  · rw [show lv * (4 - sh) * KK + lv * sh * (KK - val (sub f1 f)) - (lv * (4 - sh) * KK + lv * sh * val f) = lv * sh * (KK - val f - val (sub f1 f)) by grind]; exact scale16 ha u0 nG.2
  · rw [show lv * (4 - sh) * KK + lv * sh * val f - (lv * (4 - sh) * KK + lv * sh * (KK - val (sub f1 f))) = lv * sh * (val (sub f1 f) - (KK - val f)) by grind]; exact scale16 ha u0 nG.1
theorem hsv_paint {sh lv : Int} (hs : 1 ≤ sh ∧ sh ≤ 4) (hl : 1 ≤ lv ∧ lv ≤ 4) {h : UInt64} (fh : Fin' h) (h0 : 0 ≤ val h) (h30 : val h ≤ 30 * KK) (d0 : KK ≤ 32 * (val h % KK)) (d1 : 32 * (val h % KK) ≤ 31 * KK) :
    ∃ p, ofHsv h (fdivI sh 4) (fdivI lv 4) = some p ∧ Paint sh lv (val h % KK) p := by
  have hK := KK_pos
  have hK0 := Int.le_of_lt hK
  obtain ⟨fs, vs⟩ := quarter hs
  obtain ⟨gz, ez⟩ := zero_val
  have hz : eqF (fdivI sh 4) 0 = false := by
    rw [eqF_val fs gz, ez, vs]
    exact decide_eq_false (Int.ne_of_gt (Int.mul_pos (Int.mul_pos hs.1 (by decide)) K32_pos))
  obtain ⟨R6, n6, n6'⟩ := six_wk 2 fh (Wi.of (n := 30) h0 h30).KN (by decide) (by decide)
  have p6 : 0 ≤ val (mul h f6) := R6.ge 0 rep_zero (by rw [Int.mul_zero]; exact Int.mul_nonneg h0 (by rw [f6_val.2]; exact Int.mul_nonneg (by decide) hK0))
  have hm := (Int.mul_ediv_add_emod (val (mul h f6)) KK).symm
  have hm0 := Int.emod_nonneg (val (mul h f6)) (Int.ne_of_gt hK)
  have hm1 := Int.emod_lt_of_pos (val (mul h f6)) hK
  have hn1 : val h / KK ≤ 30 := Int.le_trans (Int.ediv_le_ediv hK h30) (by rw [Int.mul_ediv_cancel _ (Int.ne_of_gt hK)]; exact Int.le_refl _)
  obtain ⟨σ, hi, hσ, x1, x2⟩ := sector hK (by rw [KK_uu]; exact Int.mul_le_mul_of_nonneg_right (by decide) (Int.natCast_nonneg _)) (Int.mul_ediv_add_emod (val h) KK).symm n6 n6' hm hm0 hm1 d0 d1
  have c4 := i_small hi (Int.ediv_nonneg h0 hK0) hn1 hσ
  obtain ⟨vi, fi⟩ := val_ofInt' c4
  have c3 : val (mul h f6) / KK % 6 = σ := by rw [hi, Int.add_comm, Int.add_mul_emod_self_left]; exact Int.emod_eq_of_lt hσ.1 hσ.2
  refine ⟨_, hsv_of hz (trunc_val R6.fin p6) (small_pow (Nat.lt_of_lt_of_le c4 (by decide))), ?_⟩
  rw [c3]
  have eS : val (mul h f6) - val (ofInt (val (mul h f6) / KK)) = val (mul h f6) % KK := by rw [vi, Int.emod_def, Int.mul_comm]
  have bS : (val (mul h f6) - val (ofInt (val (mul h f6) / KK))).natAbs < 9007199254740992 * uu := lt_KN (eS.symm ▸ Wi.one ⟨hm0, Int.le_of_lt hm1⟩).KN (by decide)
  have Rf := rn_sub R6.fin fi bS
  have nf := Rf.near1 bS
  rw [eS] at nf Rf
  exact hsv_two hs hl Rf.fin (Rf.ge 0 rep_zero (by rw [Int.mul_zero]; exact hm0)) (Rf.le KK rep_KK (by rw [show ((1 : Nat) : Int) * KK = KK from Int.one_mul _]; exact Int.le_of_lt hm1)) hσ x1 x2 nf

/-! what rgb_to_hls tells, by a table -/
noncomputable def restF (mx mn : UInt64) : Option (UInt64 × UInt64) :=
  let l := Float64.div (Float64.add mx mn) f2
  if eqF mn mx then none
  else if Float64.isZero (Float64.sub mx mn) then none
  else if fle l Mine.fh then (if Float64.isZero (Float64.add mx mn) then none else some (l, Float64.div (Float64.sub mx mn) (Float64.add mx mn)))
  else if Float64.isZero (Float64.sub (Float64.sub f2 mx) mn) then none else some (l, Float64.div (Float64.sub mx mn) (Float64.sub (Float64.sub f2 mx) mn))
theorem rest_gen {α β : Type} {X : α × β × β} {H : α} {l s1 s2 l' s' : β} : ∀ b1 b2 b3 b4 b5 : Bool, (if b1 = true then none else if b2 = true then none else if b3 = true then (if b4 = true then none else some (l, s1)) else if b5 = true then none else some (l, s2)) = some (l', s') →
    (if b1 = true then some X else if b2 = true then none else if b3 = true then (if b4 = true then none else some (H, l, s1)) else if b5 = true then none else some (H, l, s2)) = some (H, l', s') := fun b1 b2 b3 b4 b5 => by
  have go : some (l, s1) = some (l', s') → some (H, l, s1) = some (H, l', s') := fun h => congrArg (Option.map (Prod.mk H)) h
  have go2 : some (l, s2) = some (l', s') → some (H, l, s2) = some (H, l', s') := fun h => congrArg (Option.map (Prod.mk H)) h
  cases b1
  · cases b2
    · cases b3
      · cases b5
        · exact go2
        · exact fun h => nomatch h
      · cases b4
        · exact go
        · exact fun h => nomatch h
    · exact fun h => nomatch h
  · exact fun h => nomatch h
theorem hls_rest {r g b l s : UInt64} (h : restF (fmax r g b) (fmin r g b) = some (l, s)) : toHls r g b = some (hueF r g b (fmax r g b) (sub (fmax r g b) (fmin r g b)), l, s) :=
  rest_gen _ _ _ _ _ h
noncomputable def toldB (sh lv : Int) (mn : UInt64) : Bool := match restF (fdivI lv 4) mn with
  | some (l, s) => eqFI (Float64.mul l (Float64.ofInt 32)) (lv * (8 - sh)) && eqF s (fdivI (lv * sh) (leastZ sh lv))
  | none => false
theorem told_tab : ∀ i : Nat, i < 4 → ∀ j : Nat, j < 4 → (fun (sh lv : Int) => toldB sh lv (pF sh lv) && (decide (sh < 4) || (toldB sh lv (zero false) && toldB sh lv (zero true)))) ((i : Int) + 1) ((j : Int) + 1) = true := by decide +kernel
theorem told_all {sh lv : Int} (hs : 1 ≤ sh ∧ sh ≤ 4) (hl : 1 ≤ lv ∧ lv ≤ 4) {mn : UInt64} (fm : Fin' mn) (hm : val mn = val (pF sh lv)) : toldB sh lv mn = true := by
  have := table16 (T := fun (sh lv : Int) => toldB sh lv (pF sh lv) && (decide (sh < 4) || (toldB sh lv (zero false) && toldB sh lv (zero true)))) told_tab hs hl
  obtain ⟨h1, h2⟩ := Bool.and_eq_true_iff.mp this
  obtain ⟨fp, vp⟩ := pF_val hs hl
  rcases val_inj fm fp hm with h | ⟨h0, h⟩
  · rw [h]; exact h1
  · rw [hm, vp] at h0
    have : ¬ sh < 4 := fun h4 => Int.ne_of_gt (Int.mul_pos (Int.mul_pos (Int.mul_pos hl.1 (Int.sub_pos_of_lt h4)) (by decide)) K32_pos) h0
    rw [decide_eq_false this, Bool.false_or] at h2
    obtain ⟨h3, h4⟩ := Bool.and_eq_true_iff.mp h2
    rcases h with rfl | rfl
    · exact h3
    · exact h4
theorem hls_told {sh lv y : Int} (hs : 1 ≤ sh ∧ sh ≤ 4) (hl : 1 ≤ lv ∧ lv ≤ 4) {p : UInt64 × UInt64 × UInt64} (D : Paint sh lv y p) (fr : Fin' p.1) (fg : Fin' p.2.1) (fb : Fin' p.2.2) :
    ∃ l s, toHls p.1 p.2.1 p.2.2 = some (hueF p.1 p.2.1 p.2.2 (fmax p.1 p.2.1 p.2.2) (sub (fmax p.1 p.2.1 p.2.2) (fmin p.1 p.2.1 p.2.2)), l, s) ∧ eqFI (Float64.mul l (Float64.ofInt 32)) (lv * (8 - sh)) = true ∧ eqF s (fdivI (lv * sh) (leastZ sh lv)) = true := by
  have fM : Fin' (fmax p.1 p.2.1 p.2.2) := by rcases (fmax_val fr fg fb).1 with h | h | h <;> rw [h] <;> assumption
  have fN : Fin' (fmin p.1 p.2.1 p.2.2) := by rcases (fmin_val fr fg fb).1 with h | h | h <;> rw [h] <;> assumption
  obtain ⟨fv, vv⟩ := quarter hl
  have hM : fmax p.1 p.2.1 p.2.2 = fdivI lv 4 := by
    rcases val_inj fM fv D.max with h | ⟨h0, _⟩
    · exact h
    · rw [D.max, vv] at h0
      exact absurd h0 (Int.ne_of_gt (Int.mul_pos (Int.mul_pos hl.1 (by decide)) K32_pos))
  have ht := told_all hs hl fN D.min
  unfold toldB at ht
  split at ht
  · rename_i l s h
    rw [← hM] at h
    obtain ⟨h1, h2⟩ := Bool.and_eq_true_iff.mp ht
    exact ⟨l, s, hls_rest h, h1, h2⟩
  · cases ht
end Mine
end

section
set_option autoImplicit false
set_option linter.unusedVariables false
set_option linter.unusedSimpArgs false
set_option exponentiation.threshold 3000
namespace Mine
open PySem PySem.Float64

theorem Fl.wi {m t : Int} {x : UInt64} {n q w : Nat} (h : Fl m x t n) (hb : Wi (w * q) t) (hm : (q : Int) = m) (hq : 0 < q := by decide) (hn : n ≤ 70368744177664 := by decide) : Wi (w + 1) (val x) := fl_wi hm hq h.up h.lo hb hn
/-- times a share of the range -/
theorem Fl.mul {x y : UInt64} {a : Int} {n : Nat} (hx : Fl 16 x (a * KK) n) (hy : Fin' y) (ha : TriIn a) (h : 0 ≤ val y ∧ val y ≤ KK) (hn : n ≤ 70368744177664 := by decide) : Fl 16 (Float64.mul x y) (a * val y) (n + 16) := by
  have bX := (hx.wi (w := 1) (q := 16) (Wi.times ha K0) rfl (by decide) hn).KN
  have bY := (Wi.one h).KN
  have R := rn_mulG hx.fin hy bX bY (by decide)
  obtain ⟨g1, g2⟩ := mul_wk 0 R bX bY (by decide)
  have u1 : ∀ {Y : Int}, Y ≤ n * (uu : Int) → Y * val y ≤ n * (uu : Int) * KK := fun hY => Int.le_trans (Int.mul_le_mul_of_nonneg_right hY h.1) (Int.mul_le_mul_of_nonneg_left h.2 (nuu_nn n))
  have e : KK * (((n + 16 : Nat) : Int) * (uu : Int)) = 16 * (KK * ((2 ^ 0 * uu : Nat) : Int)) + n * (uu : Int) * KK := by rw [nuu_add, Nat.pow_zero, Nat.one_mul, show ((16 : Nat) : Int) = 16 from rfl]; grind
  refine ⟨R.fin, Int.le_of_mul_le_mul_left (a := KK) ?_ KK_pos, Int.le_of_mul_le_mul_left (a := KK) ?_ KK_pos⟩
  · rw [e, show KK * (16 * val (Float64.mul x y) - a * val y) = 16 * (val (Float64.mul x y) * KK - val x * val y) + (16 * val x - a * KK) * val y by grind]
    exact Int.add_le_add (Int.mul_le_mul_of_nonneg_left g1 (by decide)) (u1 hx.up)
  · rw [e, show KK * (a * val y - 16 * val (Float64.mul x y)) = 16 * (val x * val y - val (Float64.mul x y) * KK) + (a * KK - 16 * val x) * val y by grind]
    exact Int.add_le_add (Int.mul_le_mul_of_nonneg_left g2 (by decide)) (u1 hx.lo)
/-- times a whole number -/
theorem Fl.mulc {x : UInt64} {t c : Int} {n A B : Nat} (j : Nat) (hx : Fl 1 x t n) (hX : (val x).natAbs ≤ A * KN) (hc : 0 < c ∧ c ≤ B) (hB : B < 1073741824) (hA : A * B < 2 ^ (6 + j)) (hj : j ≤ 20) :
    Fl 1 (Float64.mul x (ofInt c)) (c * t) (2 ^ j + B * n) ∧ (0 ≤ val x → 0 ≤ val (Float64.mul x (ofInt c))) := by
  have hK := KK_pos
  have c0 := Int.le_of_lt hc.1
  have hcB : c.natAbs ≤ B := abs_le (Int.le_trans (Int.neg_nonpos_of_nonneg (Int.natCast_nonneg _)) c0) hc.2
  obtain ⟨vc, fc⟩ := val_ofInt' (a := c) (Nat.lt_of_le_of_lt hcB hB)
  have bY : (val (ofInt c)).natAbs ≤ B * KN := by
    rw [vc, Int.natAbs_mul]
    exact Nat.mul_le_mul hcB (Nat.le_refl _)
  have R := rn_mulG hx.fin fc hX bY (Nat.lt_of_lt_of_le hA (Nat.pow_le_pow_right (by decide) (Nat.le_trans (Nat.add_le_add_left hj 6) (by decide))))
  obtain ⟨g1, g2⟩ := mul_wk j R hX bY hA
  rw [vc] at g1 g2
  have c1 : val (Float64.mul x (ofInt c)) - c * val x ≤ (2 ^ j * uu : Nat) := Int.le_of_mul_le_mul_left (by
    rw [show KK * (val (Float64.mul x (ofInt c)) - c * val x) = val (Float64.mul x (ofInt c)) * KK - val x * (c * KK) by grind]; exact g1) hK
  have c2 : c * val x - val (Float64.mul x (ofInt c)) ≤ (2 ^ j * uu : Nat) := Int.le_of_mul_le_mul_left (by
    rw [show KK * (c * val x - val (Float64.mul x (ofInt c))) = val x * (c * KK) - val (Float64.mul x (ofInt c)) * KK by grind]; exact g2) hK
  have u := hx.up
  have l := hx.lo
  rw [Int.one_mul] at u l
  have sc : ∀ {Y : Int}, Y ≤ n * (uu : Int) → c * Y ≤ ((B * n : Nat) : Int) * uu := fun h => by
    rw [Int.natCast_mul, Int.mul_assoc]; exact Int.le_trans (Int.mul_le_mul_of_nonneg_left h c0) (Int.mul_le_mul_of_nonneg_right hc.2 (nuu_nn n))
  rw [Int.natCast_mul] at c1 c2
  refine ⟨⟨R.fin, ?_, ?_⟩, fun h0 => R.ge 0 rep_zero (by rw [Int.mul_zero, vc]; exact Int.mul_nonneg h0 (Int.mul_nonneg c0 (Int.le_of_lt hK)))⟩
  · rw [Int.one_mul, nuu_add, ← sub_tri _ (c * val x), ← Int.mul_sub]; exact Int.add_le_add c1 (sc u)
  · rw [Int.one_mul, Nat.add_comm, nuu_add, ← sub_tri _ (c * val x), ← Int.mul_sub]; exact Int.add_le_add (sc l) c2
theorem half_eq {q j : Int} (h : q = 2 * j ∨ q = 2 * j - 1) : (q + 1) / 2 = j := by
  rcases h with rfl | rfl
  · rw [Int.add_comm, Int.add_mul_ediv_left _ _ (by decide)]; exact Int.zero_add j
  · rw [Int.sub_add_cancel]; exact Int.mul_ediv_cancel_left _ (by decide)
theorem near_div {k r q j D : Int} (hD : 2 * D ≤ k) (r0 : 0 ≤ r) (r1 : r < k) (u : k * q + r - j * k ≤ D) (l : j * k - (k * q + r) ≤ D) : q = j ∨ q = j - 1 := by
  have hk : 0 < k := Int.lt_of_le_of_lt r0 r1
  have e : (q - j) * k = k * q - j * k := by rw [Int.sub_mul, Int.mul_comm k q]
  have a1 : (q - j) * k < 1 * k := by rw [e, Int.one_mul]; clear l r1 e; lia
  have a2 : -2 * k < (q - j) * k := by rw [e]; clear u r0 e; lia
  have b1 := Int.lt_of_mul_lt_mul_right a1 (Int.le_of_lt hk)
  have b2 := Int.lt_of_mul_lt_mul_right a2 (Int.le_of_lt hk)
  clear a1 a2 e u l hD r0 r1 hk
  lia
/-- the whole part of what is near to a whole number -/
theorem Fl.trunc {x : UInt64} {j : Int} {n : Nat} (h : Fl 1 x (j * KK) n) (hn : n ≤ 1000000000000) (h0 : 0 ≤ val x) : ∃ q, truncF x = some q ∧ 0 ≤ q ∧ (q = j ∨ q = j - 1) := by
  have hK := KK_pos
  refine ⟨_, trunc_val h.fin h0, Int.ediv_nonneg h0 (Int.le_of_lt hK), ?_⟩
  have d1 := Int.mul_ediv_add_emod (val x) KK
  have u := h.up
  have l := h.lo
  rw [Int.one_mul, ← d1] at u l
  exact near_div (nuu_KK (Nat.le_trans hn (by decide))) (Int.emod_nonneg (val x) (Int.ne_of_gt hK)) (Int.emod_lt_of_pos (val x) hK) u l

/-! a lamp -/
noncomputable def lampT (k x : Int) : Int := max 0 (min k (min x (4 * k - x)))
theorem lampT.le {k x z : Int} (h0 : 0 ≤ z) (h : k ≤ z ∨ x ≤ z ∨ 4 * k - x ≤ z) : lampT k x ≤ z := by
  refine Int.max_le.mpr ⟨h0, ?_⟩
  rcases h with h | h | h
  · exact Int.le_trans (Int.min_le_left ..) h
  · exact Int.le_trans (Int.le_trans (Int.min_le_right ..) (Int.min_le_left ..)) h
  · exact Int.le_trans (Int.le_trans (Int.min_le_right ..) (Int.min_le_right ..)) h
theorem lampT.ge {k x z : Int} (h1 : z ≤ k) (h2 : z ≤ x) (h3 : z ≤ 4 * k - x) : z ≤ lampT k x := Int.le_trans (Int.le_min.mpr ⟨h1, Int.le_min.mpr ⟨h2, h3⟩⟩) (Int.le_max_right ..)
theorem lampT.nn (k x : Int) : 0 ≤ lampT k x := Int.le_max_left ..
theorem lampT.lip {k x y d : Int} (h0 : 0 ≤ d) (h1 : x - y ≤ d) (h2 : y - x ≤ d) : lampT k x - lampT k y ≤ d := by
  refine Int.sub_right_le_of_le_add (Int.max_le.mpr ⟨Int.add_nonneg h0 (lampT.nn k y), ?_⟩)
  rw [Int.add_comm]
  refine Int.le_add_of_sub_right_le (lampT.ge ?_ ?_ ?_)
  · exact Int.le_trans (Int.sub_le_self _ h0) (Int.min_le_left ..)
  · exact Int.sub_right_le_of_le_add (Int.le_trans (Int.le_trans (Int.min_le_right ..) (Int.min_le_left ..)) (Int.le_add_of_sub_left_le h1))
  · refine Int.sub_right_le_of_le_add (Int.le_trans (Int.le_trans (Int.min_le_right ..) (Int.min_le_right ..)) ?_)
    clear h0 h1; lia
theorem lampT.eq {k x z : Int} (h0 : 0 ≤ z) (h : k ≤ z ∨ x ≤ z ∨ 4 * k - x ≤ z) (h1 : z = 0 ∨ (z ≤ k ∧ z ≤ x ∧ z ≤ 4 * k - x)) : lampT k x = z :=
  Int.le_antisymm (lampT.le h0 h) (h1.elim (fun e => e ▸ lampT.nn k x) fun h => lampT.ge h.1 h.2.1 h.2.2)
/-- what a lamp shows in each sixth -/
theorem lampT.at {k F : Int} (h0 : 0 ≤ F) (h1 : F ≤ k) : (∀ x, x ≤ 0 → lampT k x = 0) ∧ lampT k F = F ∧ lampT k (k + F) = k ∧ lampT k (2 * k + F) = k ∧ lampT k (3 * k + F) = k - F ∧ (∀ x, 4 * k ≤ x → lampT k x = 0) := by
  have hk := Int.le_trans h0 h1
  exact ⟨fun x h => lampT.eq (Int.le_refl _) (.inr (.inl h)) (.inl rfl), lampT.eq h0 (.inr (.inl (Int.le_refl _))) (.inr ⟨h1, Int.le_refl _, by lia⟩), lampT.eq hk (.inl (Int.le_refl _)) (.inr ⟨Int.le_refl _, Int.le_add_of_nonneg_right h0, by lia⟩),
    lampT.eq hk (.inl (Int.le_refl _)) (.inr ⟨Int.le_refl _, by lia, by lia⟩), lampT.eq (Int.sub_nonneg_of_le h1) (.inr (.inr (by lia))) (.inr ⟨Int.sub_le_self _ h0, by lia, by lia⟩), fun x h => lampT.eq (Int.le_refl _) (.inr (.inr (Int.sub_nonpos_of_le h))) (.inl rfl)⟩
noncomputable def lampsR (k x : Int) : Int := lampT k (x + 2 * k) + lampT k (x - 4 * k)
/-- the three lamps of a place -/
theorem Sec.lamps {k x : Int} (hk : 0 < k) (h0 : 0 ≤ x) (h6 : x ≤ 6 * k) : Sec k x (lampsR k x) (lampT k x) (lampT k (x - 2 * k)) := by
  have hq : ∃ i F : Int, (i = 0 ∨ i = 1 ∨ i = 2 ∨ i = 3 ∨ i = 4 ∨ i = 5) ∧ x = i * k + F ∧ 0 ≤ F ∧ F ≤ k := by
    rcases Int.lt_or_le x (6 * k) with h | h
    · refine ⟨x / k, x % k, iLt6 (Int.ediv_nonneg h0 (Int.le_of_lt hk)) (Int.ediv_lt_of_lt_mul hk h), ?_, Int.emod_nonneg x (Int.ne_of_gt hk), Int.le_of_lt (Int.emod_lt_of_pos x hk)⟩
      rw [Int.mul_comm, Int.mul_ediv_add_emod]
    · exact ⟨5, k, .inr (.inr (.inr (.inr (.inr rfl)))), Int.le_antisymm (by clear h; lia) (by clear h6; lia), Int.le_of_lt hk, Int.le_refl _⟩
  obtain ⟨i, F, hi, rfl, F0, F1⟩ := hq
  clear h0 h6
  obtain ⟨S0, S1, S2, S3, S4, S5⟩ := sec_at F0 F1
  obtain ⟨tn, t0, t1, t2, t3, tb⟩ := lampT.at F0 F1
  have k0 := Int.le_of_lt hk
  unfold lampsR
  rcases hi with rfl | rfl | rfl | rfl | rfl | rfl
  · rw [show 0 * k + F + 2 * k = 2 * k + F by lia, t2, tn (0 * k + F - 4 * k) (by lia), tn (0 * k + F - 2 * k) (by lia), show 0 * k + F = F by lia, t0, Int.add_zero]
    rwa [show 0 * k + F = F by lia] at S0
  · rw [show 1 * k + F + 2 * k = 3 * k + F by lia, t3, tn (1 * k + F - 4 * k) (by lia), tn (1 * k + F - 2 * k) (by lia), show 1 * k + F = k + F by rw [Int.one_mul], t1, Int.add_zero]
    rwa [show 1 * k + F = k + F by rw [Int.one_mul]] at S1
  · rw [tb (2 * k + F + 2 * k) (by lia), tn (2 * k + F - 4 * k) (by lia), show 2 * k + F - 2 * k = F by lia, t0, t2]
    exact S2
  · rw [tb (3 * k + F + 2 * k) (by lia), tn (3 * k + F - 4 * k) (by lia), show 3 * k + F - 2 * k = k + F by lia, t1, t3]
    exact S3
  · rw [tb (4 * k + F + 2 * k) (by lia), show 4 * k + F - 4 * k = F by lia, show 4 * k + F - 2 * k = 2 * k + F by lia, t0, t2, tb (4 * k + F) (by lia), Int.zero_add]
    exact S4
  · rw [tb (5 * k + F + 2 * k) (by lia), show 5 * k + F - 4 * k = k + F by lia, show 5 * k + F - 2 * k = 3 * k + F by lia, t1, t3, tb (5 * k + F) (by lia), Int.zero_add]
    exact S5
theorem lampR {k x z m u : Int} (hk : 0 < k) (hu : 100 * u ≤ k) (u0 : 0 ≤ u) (x0 : 0 ≤ x ∧ x ≤ 6 * k) (z0 : 0 ≤ z ∧ z ≤ 6 * k) (h1 : z - (x + 2 * k + 6 * (k * m)) ≤ 12 * u) (h2 : x + 2 * k + 6 * (k * m) - z ≤ 12 * u) : lampT k z - lampsR k x ≤ 40 * u ∧ lampsR k x - lampT k z ≤ 40 * u := by
  have u12 : 0 ≤ 12 * u := Int.mul_nonneg (by decide) u0
  have m1 : m < 1 := Int.lt_of_mul_lt_mul_left (a := k) (by rw [Int.mul_one]; clear h1; lia) (Int.le_of_lt hk)
  have m2 : -2 < m := Int.lt_of_mul_lt_mul_left (a := k) (by clear h2; lia) (Int.le_of_lt hk)
  have n1 := lampT.nn k (x + 2 * k)
  have n2 := lampT.nn k (x - 4 * k)
  unfold lampsR
  obtain rfl | rfl : m = 0 ∨ m = -1 := by clear h1 h2 n1 n2 u12 hu u0 x0 z0; lia
  · rw [Int.mul_zero, Int.mul_zero, Int.add_zero] at h1 h2
    have l1 := lampT.lip (k := k) u12 h1 h2
    have l2 := lampT.lip (k := k) u12 h2 h1
    have l3 : lampT k (x - 4 * k) ≤ 12 * u := lampT.le u12 (.inr (.inl (by clear l1 l2 h1; lia)))
    clear h1 h2
    exact ⟨by clear l2; lia, by clear l1; lia⟩
  · have e : x + 2 * k + 6 * (k * -1) = x - 4 * k := by lia
    rw [e] at h1 h2
    have l1 := lampT.lip (k := k) u12 h1 h2
    have l2 := lampT.lip (k := k) u12 h2 h1
    have l3 : lampT k (x + 2 * k) ≤ 0 := lampT.le (Int.le_refl _) (.inr (.inr (by clear l1 l2 h2; lia)))
    clear h1 h2
    exact ⟨by clear l2; lia, by clear l1; lia⟩
theorem lampB {k x z m u : Int} (hk : 0 < k) (hu : 100 * u ≤ k) (u0 : 0 ≤ u) (x0 : 0 ≤ x ∧ x ≤ 6 * k) (z0 : 0 ≤ z ∧ z ≤ 6 * k) (h1 : z - (x - 2 * k + 6 * (k * m)) ≤ 12 * u) (h2 : x - 2 * k + 6 * (k * m) - z ≤ 12 * u) : lampT k z - lampT k (x - 2 * k) ≤ 40 * u ∧ lampT k (x - 2 * k) - lampT k z ≤ 40 * u := by
  have u12 : 0 ≤ 12 * u := Int.mul_nonneg (by decide) u0
  have m1 : m < 2 := Int.lt_of_mul_lt_mul_left (a := k) (by clear h1; lia) (Int.le_of_lt hk)
  have m2 : -1 < m := Int.lt_of_mul_lt_mul_left (a := k) (by clear h2; lia) (Int.le_of_lt hk)
  obtain rfl | rfl : m = 0 ∨ m = 1 := by clear h1 h2 u12 hu u0 x0 z0; lia
  · rw [Int.mul_zero, Int.mul_zero, Int.add_zero] at h1 h2
    exact ⟨Int.le_trans (lampT.lip u12 h1 h2) (Int.mul_le_mul_of_nonneg_right (by decide) u0), Int.le_trans (lampT.lip u12 h2 h1) (Int.mul_le_mul_of_nonneg_right (by decide) u0)⟩
  · rw [Int.mul_one] at h1 h2
    have n1 := lampT.nn k z
    have n2 := lampT.nn k (x - 2 * k)
    have l1 : lampT k (x - 2 * k) ≤ 12 * u := lampT.le u12 (.inr (.inl (by clear h1 n1 n2; lia)))
    have l2 : lampT k z ≤ 12 * u := lampT.le u12 (.inr (.inr (by clear h1 n1 n2 l1; lia)))
    clear h1 h2
    exact ⟨by clear l1; lia, by clear l2; lia⟩
end Mine
end

section
set_option autoImplicit false
set_option linter.unusedVariables false
set_option linter.unusedSimpArgs false
set_option exponentiation.threshold 3000
namespace Mine
open PySem PySem.Float64

theorem fl1 : Fl 1 f1 KK 0 := Fl.of f1_val.1 ((Int.one_mul _).trans f1_val.2)
theorem f13_fl : Fl 3 f13 KK 3 := fl1.divc (c := 3) f3_val.1 f3_val.2 (by decide) (Wi.one K0)
theorem f16_fl : Fl 6 f16 KK 6 := fl1.divc (c := 6) f6_val.1 f6_val.2 (by decide) (Wi.one K0)
theorem f23_fl : Fl 3 f23 (2 * KK) 3 := (Fl.of (t := 2 * KK) f2_val.1 ((Int.one_mul _).trans f2_val.2)).divc (c := 3) f3_val.1 f3_val.2 (by decide) (Wi.num 2)
theorem Fl.move_a {x : UInt64} {P a X Y : Int} {n : Nat} (h : Fl 16 x (P + a * X) n) (ha : TriIn a) {d : Nat} (h1 : X - Y ≤ d * (uu : Int)) (h2 : Y - X ≤ d * (uu : Int)) : Fl 16 x (P + a * Y) (n + 16 * d) := by
  have e : ((16 * d : Nat) : Int) * (uu : Int) = 16 * (d * (uu : Int)) := by rw [Int.natCast_mul, Int.mul_assoc]; rfl
  refine h.move (k := 16 * d) ?_ ?_ <;> rw [e, part_eq, ← Int.mul_sub]
  · exact scale16 ha (nuu_nn d) h1
  · exact scale16 ha (nuu_nn d) h2
theorem Fl.six {x : UInt64} {t : Int} {n : Nat} (hx : Fl 16 x t n) (hX : (val x).natAbs ≤ 2 * KN) : Fl 16 (Float64.mul x f6) (6 * t) (6 * n + 16) := by
  obtain ⟨R, c1, c2⟩ := six_wk 0 hx.fin hX (by decide) (by decide)
  have e : ((6 * n + 16 : Nat) : Int) * (uu : Int) = 16 * ((2 ^ 0 * uu : Nat) : Int) + 6 * (n * (uu : Int)) := by rw [nuu_add, Int.natCast_mul, Int.mul_assoc, Nat.pow_zero, Nat.one_mul, Int.add_comm]; rfl
  refine ⟨R.fin, ?_, ?_⟩ <;> rw [e]
  · rw [show 16 * val (Float64.mul x f6) - 6 * t = 16 * (val (Float64.mul x f6) - 6 * val x) + 6 * (16 * val x - t) by grind]
    exact Int.add_le_add (Int.mul_le_mul_of_nonneg_left c1 (by decide)) (Int.mul_le_mul_of_nonneg_left hx.up (by decide))
  · rw [show 6 * t - 16 * val (Float64.mul x f6) = 16 * (6 * val x - val (Float64.mul x f6)) + 6 * (t - 16 * val x) by grind]
    exact Int.add_le_add (Int.mul_le_mul_of_nonneg_left c2 (by decide)) (Int.mul_le_mul_of_nonneg_left hx.lo (by decide))
theorem Wi.six {n : Nat} {t : Int} (h : Wi n t) : Wi (6 * n) (6 * t) := by
  unfold Wi
  rw [Int.natCast_mul, Int.mul_assoc, ← Int.mul_neg]
  exact ⟨Int.mul_le_mul_of_nonneg_left h.1 (by decide), Int.mul_le_mul_of_nonneg_left h.2 (by decide)⟩
/-- a ramp -/
theorem ramp {m1 m2 y : UInt64} {P a X : Int} (F1 : Fl 16 m1 (P + a * 0) 200) (F2 : Fl 16 m2 (P + a * KK) 200) (fy : Fin' y) (ha : TriIn a) (hP : 0 ≤ P ∧ P ≤ 16 * KK) (hy : 0 ≤ val y ∧ val y ≤ KK) (h : 6 * val y - X ≤ (20 : Nat) * (uu : Int) ∧ X - 6 * val y ≤ (20 : Nat) * (uu : Int)) :
    Fl 16 (Float64.add m1 (Float64.mul (Float64.mul (Float64.sub m2 m1) y) f6)) (P + a * X) 3200 := by
  have w := Wi.times ha hy
  have D := (F2.sub F1 (w := 2) (q := 16) (part_eq ▸ (Wi.times ha K0).sub (Wi.times ha Z0)) rfl).cast (s := a * KK) (by rw [part_eq, Int.mul_zero, Int.sub_zero])
  have M := D.mul fy ha hy
  have M6 := M.six (M.wi (w := 1) (q := 16) w rfl).KN
  have A := (F1.add M6 (w := 7) (q := 16) (by rw [Int.mul_zero, Int.add_zero]; exact (Wi.of hP.1 hP.2).add w.six) rfl).cast (s := P + a * (6 * val y)) (by rw [Int.mul_zero, Int.add_zero]; congr 1; ac_rfl)
  exact (A.move_a ha h.1 h.2).mono (by decide)
/-- the four stretches of a lamp -/
theorem lamp1 {k w v f u : Int} (hu : 100 * u ≤ k) (hv : 0 ≤ v) (u0 : 0 ≤ u) (h1 : v - w ≤ u) (h2 : w - v ≤ u) (hf : 6 * f - k ≤ 6 * u) (b : v < f) : 6 * v - lampT k (6 * w) ≤ 20 * u ∧ lampT k (6 * w) - 6 * v ≤ 20 * u :=
  ⟨Int.sub_left_le_of_le_add (Int.le_add_of_sub_right_le (lampT.ge (by clear h1 h2 hv; lia) (by clear h2 hf b; lia) (by clear h1; lia))), Int.sub_left_le_of_le_add (lampT.le (by clear hf b h1 h2; lia) (.inr (.inl (by clear h1 hf b; lia))))⟩
theorem lamp2 {k w v f g u : Int} (hu : 100 * u ≤ k) (u0 : 0 ≤ u) (h1 : v - w ≤ u) (h2 : w - v ≤ u) (hf : k - 6 * f ≤ 6 * u) (b : f ≤ v) (hg : 2 * g = k) (b2 : v < g) : k - lampT k (6 * w) ≤ 20 * u ∧ lampT k (6 * w) - k ≤ 20 * u :=
  ⟨Int.sub_left_le_of_le_add (Int.le_add_of_sub_right_le (lampT.ge (by clear hf b b2 h1 h2; lia) (by clear h2 hg b2; lia) (by clear h1 hf b; lia))), Int.sub_left_le_of_le_add (lampT.le (by clear hf b h1 h2 b2; lia) (.inl (by clear hf b h1 h2 b2; lia)))⟩
theorem lamp3 {k w v f g r u : Int} (hu : 100 * u ≤ k) (u0 : 0 ≤ u) (h1 : v - w ≤ u) (h2 : w - v ≤ u) (hf : 3 * f - 2 * k ≤ 3 * u) (hf' : 2 * k - 3 * f ≤ 3 * u) (hg : 2 * g = k) (b2 : g ≤ v) (r0 : 0 ≤ r) (r1 : r - (f - v) ≤ u) (r2 : f - v - r ≤ u) : 6 * r - lampT k (6 * w) ≤ 20 * u ∧ lampT k (6 * w) - 6 * r ≤ 20 * u :=
  ⟨Int.sub_left_le_of_le_add (Int.le_add_of_sub_right_le (lampT.ge (by clear h1 h2 hf' r2; lia) (by clear h2 hf' r2; lia) (by clear h1 hf' r2; lia))), Int.sub_left_le_of_le_add (lampT.le (by clear hf h1 h2 b2 hf' r1 r2; lia) (.inr (.inr (by clear h2 hf r1 hg b2; lia))))⟩
theorem lamp4 {k w v f u : Int} (u0 : 0 ≤ u) (h1 : v - w ≤ u) (hf' : 2 * k - 3 * f ≤ 3 * u) (b : f ≤ v) : 0 - lampT k (6 * w) ≤ 20 * u ∧ lampT k (6 * w) - 0 ≤ 20 * u := by
  have u20 : 0 ≤ 20 * u := Int.mul_nonneg (by decide) u0
  exact ⟨Int.le_trans (Int.sub_nonpos_of_le (lampT.nn ..)) u20, by rw [Int.sub_zero]; exact lampT.le u20 (.inr (.inr (by lia)))⟩
theorem u100 : 100 * (uu : Int) ≤ KK := by rw [KK_uu]; exact Int.mul_le_mul_of_nonneg_right (by decide) (Int.natCast_nonneg _)
theorem vF_app {m1 m2 h : UInt64} {P a : Int} (F1 : Fl 16 m1 (P + a * 0) 200) (F2 : Fl 16 m2 (P + a * KK) 200) (fh' : Fin' h) (ha : TriIn a) (hP : 0 ≤ P ∧ P ≤ 16 * KK) : Fl 16 (vF m1 m2 h) (P + a * lampT KK (6 * (val h % KK))) 3200 := by
  have u0 : (0 : Int) ≤ uu := Int.natCast_nonneg _
  obtain ⟨fw, ⟨w1, w1'⟩, w2, w3, _⟩ := mod1 fh'
  obtain ⟨gh, eh⟩ := fh_val
  obtain ⟨g16, u16, l16⟩ := f16_fl
  obtain ⟨g23, u23, l23⟩ := f23_fl
  have e : vF m1 m2 h = (if flt (divmod h f1).2 f16 then Float64.add m1 (Float64.mul (Float64.mul (Float64.sub m2 m1) (divmod h f1).2) f6) else if flt (divmod h f1).2 Mine.fh then m2 else if flt (divmod h f1).2 f23 then Float64.add m1 (Float64.mul (Float64.mul (Float64.sub m2 m1) (Float64.sub f23 (divmod h f1).2)) f6) else m1) := rfl
  rw [e, flt_val fw g16, flt_val fw gh, flt_val fw g23]
  clear e
  have lm : ∀ {x : UInt64} {X : Int}, Fl 16 x (P + a * X) 200 → X - lampT KK (6 * (val h % KK)) ≤ 20 * (uu : Int) ∧ lampT KK (6 * (val h % KK)) - X ≤ 20 * (uu : Int) → Fl 16 x (P + a * lampT KK (6 * (val h % KK))) 3200 := fun f d => (f.move_a (d := 20) ha d.1 d.2).mono (by decide)
  by_cases b1 : val (divmod h f1).2 < val f16
  · rw [decide_eq_true b1, if_pos rfl]
    exact ramp F1 F2 fw ha hP ⟨w2, w3⟩ (lamp1 u100 w2 u0 w1 w1' u16 b1)
  · rw [decide_eq_false b1, if_neg Bool.false_ne_true]
    by_cases b2 : val (divmod h f1).2 < val Mine.fh
    · rw [decide_eq_true b2, if_pos rfl]
      exact lm F2 (lamp2 u100 u0 w1 w1' l16 (Int.not_lt.mp b1) eh b2)
    · rw [decide_eq_false b2, if_neg Bool.false_ne_true]
      by_cases b3 : val (divmod h f1).2 < val f23
      · rw [decide_eq_true b3, if_pos rfl]
        have iG : 0 ≤ val f23 - val (divmod h f1).2 ∧ val f23 - val (divmod h f1).2 ≤ KK := ⟨Int.sub_nonneg_of_le (Int.le_of_lt b3), by
          have := u100
          change 3 * val f23 - 2 * KK ≤ 3 * (uu : Int) at u23
          clear l23 u16 l16 w1 w1' w3 b1 b2 b3 lm; lia⟩
        have bG := lt_KN (Wi.one iG).KN (by decide)
        have RG := rn_sub g23 fw bG
        have nG := RG.near1 bG
        have G0 := RG.ge 0 rep_zero (by rw [Int.mul_zero]; exact iG.1)
        exact ramp F1 F2 RG.fin ha hP ⟨G0, RG.le KK rep_KK (by rw [show ((1 : Nat) : Int) * KK = KK from Int.one_mul _]; exact iG.2)⟩ (lamp3 u100 u0 w1 w1' u23 l23 eh (Int.not_lt.mp b2) G0 nG.1 nG.2)
      · rw [decide_eq_false b3, if_neg Bool.false_ne_true]
        exact lm F1 (lamp4 u0 w1 l23 (Int.not_lt.mp b3))

/-! the two ends of the ramps, by a table -/
noncomputable def lF (sh lv : Int) : UInt64 := fdivI (lv * (8 - sh)) 32
noncomputable def sF (sh lv : Int) : UInt64 := fdivI (lv * sh) (leastZ sh lv)
noncomputable def m2F (sh lv : Int) : UInt64 := if fle (lF sh lv) Mine.fh then Float64.mul (lF sh lv) (Float64.add f1 (sF sh lv)) else Float64.sub (Float64.add (lF sh lv) (sF sh lv)) (Float64.mul (lF sh lv) (sF sh lv))
noncomputable def m1F (sh lv : Int) : UInt64 := Float64.sub (Float64.mul f2 (lF sh lv)) (m2F sh lv)
noncomputable def flB (x : UInt64) (t : Int) : Bool := finB x && decide (16 * val x - t * ((2 ^ 1074 : Nat) : Int) ≤ 200 * ((2 ^ 1027 : Nat) : Int)) && decide (t * ((2 ^ 1074 : Nat) : Int) - 16 * val x ≤ 200 * ((2 ^ 1027 : Nat) : Int))
theorem flB_ok {x : UInt64} {t : Int} (h : flB x t = true) : Fl 16 x (t * KK) 200 := by
  unfold flB at h
  obtain ⟨h1, h3⟩ := Bool.and_eq_true_iff.mp h
  obtain ⟨h1, h2⟩ := Bool.and_eq_true_iff.mp h1
  have h2 := of_decide_eq_true h2
  have h3 := of_decide_eq_true h3
  rw [KN_pow, ← uu_eq, KK_nat] at h2 h3
  exact ⟨finB_ok h1, h2, h3⟩
theorem ends_tab : ∀ i : Nat, i < 4 → ∀ j : Nat, j < 4 → (fun (sh lv : Int) => flB (m1F sh lv) (lv * (4 - sh)) && flB (m2F sh lv) (lv * (4 - sh) + lv * sh) && !eqF (sF sh lv) 0 && (!isInf (lF sh lv) && !isInf (sF sh lv) && decide (leastZ sh lv ≠ 0))) ((i : Int) + 1) ((j : Int) + 1) = true := by decide +kernel
theorem ends {sh lv : Int} (hs : 1 ≤ sh ∧ sh ≤ 4) (hl : 1 ≤ lv ∧ lv ≤ 4) : Fl 16 (m1F sh lv) (lv * (4 - sh) * KK + lv * sh * 0) 200 ∧ Fl 16 (m2F sh lv) (lv * (4 - sh) * KK + lv * sh * KK) 200 ∧ eqF (sF sh lv) 0 = false ∧ (isInf (lF sh lv) = false ∧ isInf (sF sh lv) = false ∧ leastZ sh lv ≠ 0) := by
  have := table16 (T := fun (sh lv : Int) => flB (m1F sh lv) (lv * (4 - sh)) && flB (m2F sh lv) (lv * (4 - sh) + lv * sh) && !eqF (sF sh lv) 0 && (!isInf (lF sh lv) && !isInf (sF sh lv) && decide (leastZ sh lv ≠ 0))) ends_tab hs hl
  simp only [Bool.and_eq_true, Bool.not_eq_true', decide_eq_true_eq] at this
  obtain ⟨⟨⟨h1, h2⟩, h3⟩, ⟨h4, h5⟩, h6⟩ := this
  exact ⟨(flB_ok h1).cast (by rw [Int.mul_zero, Int.add_zero]), (flB_ok h2).cast (Int.add_mul ..), h3, h4, h5, h6⟩
theorem hls_eq {sh lv : Int} (h0 : eqF (sF sh lv) 0 = false) (h : UInt64) : ofHls h (lF sh lv) (sF sh lv) = (vF (m1F sh lv) (m2F sh lv) (add h f13), vF (m1F sh lv) (m2F sh lv) h, vF (m1F sh lv) (m2F sh lv) (sub h f13)) := by
  unfold ofHls
  rw [h0, if_neg Bool.false_ne_true]
  rfl
/-- the turns that are whole -/
theorem whole {k v h f D u : Int} (n1 : v - (h + f) ≤ u) (n2 : h + f - v ≤ u) (u1 : 3 * f - D ≤ 3 * u) (u2 : D - 3 * f ≤ 3 * u) :
    6 * (v % k) - (6 * (h % k) + 2 * D + 6 * (k * (h / k - v / k))) ≤ 12 * u ∧ 6 * (h % k) + 2 * D + 6 * (k * (h / k - v / k)) - 6 * (v % k) ≤ 12 * u := by
  rw [Int.emod_def, Int.emod_def, Int.mul_sub k]
  generalize k * (h / k) = p
  generalize k * (v / k) = q
  exact ⟨by clear n2 u2; lia, by clear n1 u1; lia⟩
theorem mod6 (x : Int) : 0 ≤ 6 * (x % KK) ∧ 6 * (x % KK) ≤ 6 * KK := ⟨Int.mul_nonneg (by decide) (Int.emod_nonneg _ (Int.ne_of_gt KK_pos)), Int.mul_le_mul_of_nonneg_left (Int.le_of_lt (Int.emod_lt_of_pos _ KK_pos)) (by decide)⟩
theorem P16 {sh lv : Int} (hs : 1 ≤ sh ∧ sh ≤ 4) (hl : 1 ≤ lv ∧ lv ≤ 4) : 0 ≤ lv * (4 - sh) * KK ∧ lv * (4 - sh) * KK ≤ 16 * KK :=
  ⟨Int.mul_nonneg (share_in hs hl).2.1.1 K0.1, Int.mul_le_mul_of_nonneg_right (Int.le_trans (share_in hs hl).2.1.2 (by decide)) K0.1⟩
/-- what hls_to_rgb paints -/
theorem hls_paint {sh lv : Int} (hs : 1 ≤ sh ∧ sh ≤ 4) (hl : 1 ≤ lv ∧ lv ≤ 4) {h : UInt64} (fh : Fin' h) (h0 : 0 ≤ val h) (h30 : val h ≤ 30 * KK) :
    ∃ p R G B, ofHls h (lF sh lv) (sF sh lv) = p ∧ Tri (lv * (4 - sh) * KK) (lv * sh) R G B 4000 p.1 p.2.1 p.2.2 ∧ Sec KK (6 * (val h % KK)) R G B := by
  have u0 : (0 : Int) ≤ uu := Int.natCast_nonneg _
  obtain ⟨F1, F2, hz, _⟩ := ends hs hl
  have f3 := f13_fl
  have w3 := f3.wi (w := 1) (q := 3) ((Wi.one K0).mono (by decide)) rfl
  have wh : Wi 30 (val h) := Wi.of h0 h30
  have ha := (share_in hs hl).1
  have hP := P16 hs hl
  have b1 := lt_KN (wh.add w3).KN (by decide)
  have b2 := lt_KN (wh.sub w3).KN (by decide)
  have R1 := rn_add fh f3.fin b1
  have R2 := rn_sub fh f3.fin b2
  have n1 := R1.near1 b1
  have n2 := R2.near1 b2
  have c1 := whole (k := KK) n1.1 n1.2 f3.up f3.lo
  have c2 := whole (k := KK) (h := val h) (f := -val f13) (D := -KK) n2.1 n2.2 (by rw [Int.mul_neg, nsn]; exact f3.lo) (by rw [Int.mul_neg, nsn]; exact f3.up)
  rw [Int.mul_neg, ← Int.sub_eq_add_neg] at c2
  have hr := lampR KK_pos u100 u0 (mod6 _) (mod6 _) c1.1 c1.2
  have hb := lampB KK_pos u100 u0 (mod6 _) (mod6 _) c2.1 c2.2
  exact ⟨_, _, _, _, hls_eq hz h, ⟨((vF_app F1 F2 R1.fin ha hP).move_a (d := 40) ha hr.1 hr.2).mono (by decide), (vF_app F1 F2 fh ha hP).mono (by decide), ((vF_app F1 F2 R2.fin ha hP).move_a (d := 40) ha hb.1 hb.2).mono (by decide)⟩, Sec.lamps KK_pos (mod6 _).1 (mod6 _).2⟩
theorem le_mul1 {a b : Int} (h : 1 ≤ a) (hb : 0 ≤ b) : b ≤ a * b := Int.le_trans (Int.le_of_eq (Int.one_mul _).symm) (Int.mul_le_mul_of_nonneg_right h hb)
theorem small4 {n : Nat} (h : n ≤ 1000000) : 64 * (n * (uu : Int)) < KK := by
  have h2 := nuu_le (n := 64 * n) (k := 64000000) (Nat.mul_le_mul_left 64 h)
  rw [Int.natCast_mul, Int.mul_assoc] at h2
  refine Int.lt_of_le_of_lt h2 ?_
  rw [KK_uu]
  exact Int.mul_lt_mul_of_pos_right (by decide) (Int.ofNat_lt.mpr uu_pos)
theorem far0 {t z e : Int} (h : t - 16 * z ≤ e) (h2 : e < t) : z ≠ 0 := fun h0 => by
  rw [h0, Int.mul_zero, Int.sub_zero] at h
  exact absurd h (Int.not_le.mpr h2)
/-- what rgb_to_hsv tells -/
theorem hsv_told {sh lv x R G B : Int} (hs : 1 ≤ sh ∧ sh ≤ 4) (hl : 1 ≤ lv ∧ lv ≤ 4) {r g b : UInt64} (T : Tri (lv * (4 - sh) * KK) (lv * sh) R G B 4000 r g b) (S : Sec KK x R G B) :
    ∃ s, toHsv r g b = some (hueF r g b (fmax r g b) (sub (fmax r g b) (fmin r g b)), s, fmax r g b) ∧ Fl 1 s (sh * 8 * K32) 40000 ∧ Fl 1 (fmax r g b) (lv * 8 * K32) 40000 := by
  have ha := (share_in hs hl).1
  obtain ⟨M, N⟩ := tri_max T ha S
  have Rg := range_fl ha M N
  have haK : KK ≤ lv * sh * KK := le_mul1 ha.1 K0.1
  have hP0 := (P16 hs hl).1
  have e1 : lv * sh * KK = 4 * lv * (sh * 8 * K32) := by rw [K32_eq]; grind
  have e2 : lv * (4 - sh) * KK + lv * sh * KK = 4 * lv * KK := by grind
  have e3 : lv * (4 - sh) * KK + lv * sh * KK = 16 * (lv * 8 * K32) := by rw [K32_eq]; grind
  unfold toHsv
  dsimp only
  generalize fmax r g b = mx at *
  generalize fmin r g b = mn at *
  have hK := KK_pos
  have s4 := small4 (n := 4000) (by decide)
  have s8 := small4 (n := 8016) (by decide)
  have hne : eqF mn mx = false := by
    rw [eqF_val N.fin M.fin]
    refine decide_eq_false fun h => ?_
    have h1 := N.up
    have h2 := M.lo
    rw [h, Int.mul_zero] at h1
    generalize ((4000 : Nat) : Int) * (uu : Int) = D at *
    clear s8 e1 e2 e3 Rg N M T
    lia
  have zM : isZero mx = false := isZero_val M.fin (far0 M.lo (by generalize ((4000 : Nat) : Int) * (uu : Int) = D at *; clear s8 e1 e2 e3 Rg N M T; lia))
  have zR : isZero (Float64.sub mx mn) = false := isZero_val Rg.fin (far0 Rg.lo (by generalize ((8016 : Nat) : Int) * (uu : Int) = D at *; clear s4 e1 e2 e3 Rg N M T; lia))
  rw [hne, if_neg Bool.false_ne_true, zM, zR]
  refine ⟨_, rfl, ((Rg.cast e1).div ((M.cast e2).mono (by decide)) ⟨Int.le_trans hl.1 (le_mul1 (by decide) (Int.le_trans (by decide) hl.1)), Int.mul_le_mul_of_nonneg_left hl.2 (by decide)⟩ (q_in hs)).mono (by decide), ?_⟩
  rw [e3] at M
  have M' : Fl 1 mx (lv * 8 * K32) 4000 := ⟨M.fin, Int.le_of_mul_le_mul_left (a := 16) (by rw [Int.one_mul, Int.mul_sub]; exact Int.le_trans M.up (le_mul1 (by decide) (nuu_nn _))) (by decide), Int.le_of_mul_le_mul_left (a := 16) (by rw [Int.one_mul, Int.mul_sub]; exact Int.le_trans M.lo (le_mul1 (by decide) (nuu_nn _))) (by decide)⟩
  exact M'.mono (by decide)
theorem fl_abs {x : UInt64} {t : Int} {n A : Nat} (h : Fl 1 x t n) (h0 : 0 ≤ t) (h1 : t ≤ A * KK) (hn : n ≤ 70368744177664) : (val x).natAbs ≤ (A + 1) * KN := (h.wi (w := A) (q := 1) (by rw [Nat.mul_one]; exact Wi.of h0 h1) rfl (by decide) hn).KN
/-- near to j quarters -/
theorem big21_ok {x : UInt64} {j : Int} (h : Fl 1 x (j * 8 * K32) 40000) (hj : 1 ≤ j ∧ j ≤ 4) : ∃ A, big21 x = some A ∧ (A + 1) / 2 = j * 262144 := by
  obtain ⟨j0, j1⟩ := q_in hj
  have bX := fl_abs (A := 1) h j0 (by rw [show ((1 : Nat) : Int) * KK = KK from Int.one_mul _]; exact j1) (by decide)
  have j8 : KK ≤ 4 * (j * 8 * K32) := by
    rw [K32_eq, show 4 * (j * 8 * K32) = j * (32 * K32) by ac_rfl]
    exact Int.le_trans (Int.le_of_eq (Int.one_mul _).symm) (Int.mul_le_mul_of_nonneg_right hj.1 (by rw [← K32_eq]; exact K0.1))
  have x0 : 0 ≤ val x := by
    have l := h.lo
    have s := small4 (n := 40000) (by decide)
    rw [Int.one_mul] at l
    have hK := KK_pos
    generalize ((40000 : Nat) : Int) * (uu : Int) = D at *
    clear h j1 bX
    lia
  obtain ⟨M, m0⟩ := Fl.mulc (c := 2097152) (B := 2097152) 17 h bX (by decide) (by decide) (by decide) (by decide)
  obtain ⟨q, hq, _, hq2⟩ := (M.cast (s := (j * 524288) * KK) (by rw [K32_eq]; grind)).trunc (by decide) (m0 x0)
  exact ⟨q, hq, half_eq (by rw [← Int.mul_assoc, Int.mul_comm 2 j, Int.mul_assoc]; exact hq2)⟩
end Mine
end

section
set_option autoImplicit false
set_option linter.unusedVariables false
set_option linter.unusedSimpArgs false
set_option exponentiation.threshold 3000
namespace Mine
open PySem PySem.Float64

/-- the place that is told -/
theorem place_ok {t : UInt64} {c j : Int} (h : Fl c t (j * KK) 3000000) (hc : 1 ≤ c ∧ c ≤ 31) (h0 : 0 ≤ val t) (h1 : val t ≤ KK) :
    ∃ i, truncF (mul (mul t (ofInt 2)) (ofInt c)) = some i ∧ (i + 1) / 2 = j := by
  obtain ⟨M1, m1⟩ := Fl.mulc (c := 2) (A := 1) (B := 2) 0 ((Fl.exact h.fin 1).cast (Int.one_mul _)) (Wi.one ⟨h0, h1⟩).KN (by decide) (by decide) (by decide) (by decide)
  have b2 := fl_abs (A := 2) M1 (Int.mul_nonneg (by decide) h0) (Int.mul_le_mul_of_nonneg_left h1 (by decide)) (by decide)
  obtain ⟨M2, m2⟩ := Fl.mulc (c := c) (A := 3) (B := 31) 1 M1 b2 ⟨hc.1, hc.2⟩ (by decide) (by decide) (by decide)
  have e6 : ((6000000 : Nat) : Int) * (uu : Int) = 2 * (((3000000 : Nat) : Int) * uu) := by rw [← Int.mul_assoc]; rfl
  have M3 := M2.move (s := 2 * j * KK) (k := 6000000) (by rw [e6, show c * (2 * val t) - 2 * j * KK = 2 * (c * val t - j * KK) by grind]; exact Int.mul_le_mul_of_nonneg_left h.up (by decide))
    (by rw [e6, show 2 * j * KK - c * (2 * val t) = 2 * (j * KK - c * val t) by grind]; exact Int.mul_le_mul_of_nonneg_left h.lo (by decide))
  obtain ⟨q, hq, _, hq2⟩ := M3.trunc (by decide) (m2 (m1 h0))
  exact ⟨q, hq, half_eq hq2⟩

/-- a place but for the whole turns -/
theorem turn_off {k y n j c e : Int} (hc : 1 ≤ c ∧ c ≤ 31) (he : 32 * e ≤ k) (e0 : 0 < e) (hj : 1 ≤ j ∧ j ≤ c - 1) (h1 : c * y - (c * (n * k) + j * k) ≤ e) (h2 : c * (n * k) + j * k - c * y ≤ e) :
    k ≤ 32 * (y % k) ∧ 32 * (y % k) ≤ 31 * k ∧ c * (y % k) - j * k ≤ e ∧ j * k - c * (y % k) ≤ e := by
  have j1 := Int.mul_le_mul_of_nonneg_right hj.1 (show 0 ≤ k by lia)
  have j2 := Int.mul_le_mul_of_nonneg_right hj.2 (show 0 ≤ k by lia)
  have c31 := Int.mul_le_mul_of_nonneg_right hc.2 (show 0 ≤ k by lia)
  rw [Int.one_mul] at j1
  rw [Int.sub_mul, Int.one_mul] at j2
  have ew : c * (y - n * k) = c * y - c * (n * k) := Int.mul_sub ..
  have ey : y = y - n * k + k * n := by rw [Int.mul_comm k n, Int.sub_add_cancel]
  have w1 : k ≤ 32 * (y - n * k) := Int.le_of_mul_le_mul_left (a := c) (by rw [show c * (32 * (y - n * k)) = 32 * (c * (y - n * k)) by ac_rfl]; lia) (by lia)
  have w2 : 32 * (y - n * k) ≤ 31 * k := Int.le_of_mul_le_mul_left (a := c) (by rw [show c * (32 * (y - n * k)) = 32 * (c * (y - n * k)) by ac_rfl, show c * (31 * k) = 31 * (c * k) by ac_rfl]; lia) (by lia)
  have em : y % k = y - n * k := by
    have h := congrArg (· % k) ey
    rw [show (y - n * k + k * n) % k = (y - n * k) % k from Int.add_mul_emod_self_left .., Int.emod_eq_of_lt (a := y - n * k) (by lia) (by lia)] at h
    exact h
  rw [em]
  exact ⟨w1, w2, by lia, by lia⟩
/-- a step's hue, before the whole turns are taken off -/
theorem hue_in {c d : Int} {k : Nat} (hc : 1 ≤ c ∧ c ≤ 31) (hd : 0 ≤ d ∧ d ≤ 29) (hk : (k : Int) < c) (hj : 1 ≤ (k : Int) * d % c) :
    Fin' (hueZ c d k) ∧ (0 ≤ val (hueZ c d k) ∧ val (hueZ c d k) ≤ 30 * KK) ∧ (KK ≤ 32 * (val (hueZ c d k) % KK) ∧ 32 * (val (hueZ c d k) % KK) ≤ 31 * KK) ∧
    c * (val (hueZ c d k) % KK) - (k : Int) * d % c * KK ≤ 31 * (uu : Int) ∧ (k : Int) * d % c * KK - c * (val (hueZ c d k) % KK) ≤ 31 * (uu : Int) := by
  have hK := KK_pos
  have hKe := KK_uu
  have hu := uu_pos
  have hkd0 : 0 ≤ (k : Int) * d := Int.mul_nonneg (Int.natCast_nonneg _) hd.1
  have hkd : (k : Int) * d ≤ c * 29 := Int.mul_le_mul (Int.le_of_lt hk) hd.2 hd.1 (by lia)
  have hkK := Int.mul_le_mul_of_nonneg_right hkd (Int.le_of_lt hK)
  rw [show c * 29 * KK = 29 * (c * KK) by ac_rfl] at hkK
  have hkK0 := Int.mul_nonneg hkd0 (Int.le_of_lt hK)
  have hdm := congrArg (· * KK) (Int.mul_ediv_add_emod ((k : Int) * d) c)
  have hj1 := Int.emod_lt_of_pos ((k : Int) * d) (show 0 < c by lia)
  have R := rn_frac (a := (k : Int) * d) (b := c) (by lia) (by lia)
  have e1 : ((c.natAbs : Nat) : Int) = c := by lia
  have c1 := Int.mul_le_mul_of_nonneg_right hc.1 (Int.le_of_lt hK)
  have c2 := Int.mul_le_mul_of_nonneg_right hc.2 (show 0 ≤ (uu : Int) by lia)
  have near := R.near 1027 (by
    have h6 : ((c.natAbs * 2 ^ (1027 + 53) : Nat) : Int) = 64 * (c * KK) := by
      rw [B_uu, Int.natCast_mul, e1, hKe, Int.natCast_mul, show ((9007199254740992 : Nat) : Int) = 64 * 140737488355328 from rfl]; ac_rfl
    lia)
  have e2 : ((c.natAbs * 2 ^ 1027 : Nat) : Int) = c * uu := by rw [← uu_eq, Int.natCast_mul, e1]
  rw [e2, e1] at near
  unfold hueZ
  have h0 := R.ge 0 rep_zero (by rw [Int.mul_zero]; exact hkK0)
  have h30 := R.le (30 * KK) (rep_jK (by decide)) (by rw [e1, show c * (30 * KK) = 30 * (c * KK) by ac_rfl]; lia)
  rw [Int.add_mul, Int.mul_assoc] at hdm
  rw [← hdm] at near
  have hf := R.fin
  clear R hdm hkK hkK0 e2 e1 hkd0 hkd
  generalize val (fdivI _ c) = y at *
  generalize (k : Int) * d / c = n at *
  generalize (k : Int) * d % c = j at *
  rw [Int.mul_comm y c] at near
  obtain ⟨w1, w2, w3⟩ := turn_off (e := 31 * (uu : Int)) (n := n) (y := y) (k := KK) (j := j) (c := c) hc (by lia) (by lia) ⟨hj, by lia⟩ (by lia) (by lia)
  exact ⟨hf, ⟨h0, h30⟩, ⟨w1, w2⟩, w3⟩

/-! the first step, by looking -/
noncomputable def chk0 (sh lv : Int) : Bool := (match ofHsv 0 (fdivI sh 4) (fdivI lv 4) with
    | none => false
    | some p => (match toHls p.1 p.2.1 p.2.2 with
      | none => false
      | some t => t.1 == 0 && eqFI (Float64.mul t.2.1 (Float64.ofInt 32)) (lv * (8 - sh)) && eqF t.2.2 (fdivI (lv * sh) (leastZ sh lv))))
noncomputable def chk1 (sh lv : Int) : Bool := (match toHsv (ofHls 0 (lF sh lv) (sF sh lv)).1 (ofHls 0 (lF sh lv) (sF sh lv)).2.1 (ofHls 0 (lF sh lv) (sF sh lv)).2.2 with
    | none => false
    | some t => t.1 == 0 && (match big21 t.2.1, big21 t.2.2 with
      | some a, some b => (a + 1) / 2 == sh * 262144 && (b + 1) / 2 == lv * 262144
      | _, _ => false))
theorem chk_all : ∀ i : Nat, i < 4 → ∀ j : Nat, j < 4 → (fun (sh lv : Int) => chk0 sh lv && chk1 sh lv) ((i : Int) + 1) ((j : Int) + 1) = true := by decide +kernel
theorem hue_zero (c d : Int) (hc : 0 < c) : hueZ c d 0 = 0 := by
  unfold hueZ fdivI
  rw [show ((0 : Nat) : Int) * d = 0 from Int.zero_mul _, decide_eq_false (by decide), decide_eq_false (by lia)]
  have e : roundMag (Int.natAbs 0) c.natAbs = 0 := by unfold roundMag; rfl
  unfold ofFrac
  rw [e]
  decide +kernel
/-- what a step tells, as whole numbers -/
structure HueOk (c d sh lv tn : Int) (k : Nat) (p t : UInt64 × UInt64 × UInt64) : Prop where
  ok : TurnOk c d sh lv tn k p t
  near : Fl c t.1 ((k : Int) * d % c * KK) 3000000
theorem step_zero {c d sh lv tn : Int} (hs : 1 ≤ sh ∧ sh ≤ 4) (hl : 1 ≤ lv ∧ lv ≤ 4) (hc : 1 ≤ c ∧ c ≤ 31) : ∃ p t, HueOk c d sh lv tn 0 p t := by
  obtain ⟨h0, h1⟩ := Bool.and_eq_true_iff.mp (table16 (T := fun (sh lv : Int) => chk0 sh lv && chk1 sh lv) chk_all hs hl)
  have hz := hue_zero c d (by lia)
  obtain ⟨fz, vz⟩ := zero_val
  have hm : ((0 : Nat) : Int) * d % c = 0 := by rw [show ((0 : Nat) : Int) * d = 0 from Int.zero_mul _, Int.zero_emod]
  have nr : Fl c 0 (((0 : Nat) : Int) * d % c * KK) 3000000 := ((Fl.exact fz c).cast (by rw [vz, hm, Int.zero_mul, Int.mul_zero])).mono (by decide)
  have pl := place_ok nr hc (Int.le_of_eq vz.symm) (by rw [vz]; exact Int.le_of_lt KK_pos)
  have hi : isInf (hueZ c d 0) = false := by rw [hz]; exact isInf_fin fz
  by_cases he : tn % 2 = 0
  · unfold chk0 at h0
    split at h0
    · cases h0
    · rename_i p hp
      split at h0
      · cases h0
      · rename_i t ht
        obtain ⟨h0, t2⟩ := Bool.and_eq_true_iff.mp h0
        obtain ⟨t0, t1⟩ := Bool.and_eq_true_iff.mp h0
        have t0 := eq_of_beq t0
        refine ⟨p, t, ⟨?_, ?_, hi, fun _ => ⟨t1, t2⟩, fun h => absurd (he.symm.trans h) (by decide), t0 ▸ pl⟩, t0 ▸ nr⟩
        · unfold paintZ; rw [if_pos he, hz]; exact hp
        · unfold toldZ; rw [if_pos he]; exact ht
  · unfold chk1 at h1
    split at h1
    · cases h1
    · rename_i t ht
      obtain ⟨t0, h1⟩ := Bool.and_eq_true_iff.mp h1
      have t0 := eq_of_beq t0
      split at h1
      · rename_i a b ha hb
        obtain ⟨h2, h3⟩ := Bool.and_eq_true_iff.mp h1
        refine ⟨ofHls 0 (lF sh lv) (sF sh lv), t, ⟨?_, ?_, hi, fun h => absurd h he, fun _ => ⟨a, b, ha, hb, eq_of_beq h2, eq_of_beq h3⟩, t0 ▸ pl⟩, t0 ▸ nr⟩
        · unfold paintZ; rw [if_neg he, hz]; rfl
        · unfold toldZ; rw [if_neg he]; exact ht
      · cases h1
/-- from the hue that is told to its place -/
theorem told_place {c j w : Int} {t : UInt64} (hc : 1 ≤ c ∧ c ≤ 31) (ht : Fl 6 t (6 * w) 80022) (w0 : KK ≤ 32 * w ∧ 32 * w ≤ 31 * KK) (h1 : c * w - j * KK ≤ 31 * (uu : Int)) (h2 : j * KK - c * w ≤ 31 * (uu : Int)) :
    Fl c t (j * KK) 3000000 ∧ ∃ i, truncF (mul (mul t (ofInt 2)) (ofInt c)) = some i ∧ (i + 1) / 2 = j := by
  have hK := KK_pos
  have u0 : (0 : Int) ≤ uu := Int.natCast_nonneg _
  have c0 : 0 ≤ c := Int.le_trans (by decide) hc.1
  have d1 : val t - w ≤ 80022 * (uu : Int) := Int.le_of_mul_le_mul_left (a := 6) (by rw [Int.mul_sub]; exact Int.le_trans ht.up (le_mul1 (by decide) (nuu_nn 80022))) (by decide)
  have d2 : w - val t ≤ 80022 * (uu : Int) := Int.le_of_mul_le_mul_left (a := 6) (by rw [Int.mul_sub]; exact Int.le_trans ht.lo (le_mul1 (by decide) (nuu_nn 80022))) (by decide)
  have sc : ∀ {Y : Int}, Y ≤ 80022 * (uu : Int) → c * Y ≤ 31 * (80022 * (uu : Int)) := fun h => Int.le_trans (Int.mul_le_mul_of_nonneg_left h c0) (Int.mul_le_mul_of_nonneg_right hc.2 (nuu_nn 80022))
  have e3 : 31 * (80022 * (uu : Int)) + 31 * (uu : Int) ≤ ((3000000 : Nat) : Int) * uu := by rw [← Int.mul_assoc, ← Int.add_mul]; exact Int.mul_le_mul_of_nonneg_right (by decide) u0
  have nr : Fl c t (j * KK) 3000000 := ⟨ht.fin, by rw [← sub_tri _ (c * w), ← Int.mul_sub]; exact Int.le_trans (Int.add_le_add (sc d1) h1) e3, by rw [← sub_tri _ (c * w), ← Int.mul_sub, Int.add_comm]; exact Int.le_trans (Int.add_le_add (sc d2) h2) e3⟩
  have s8 := small4 (n := 80022) (by decide)
  change 64 * (80022 * (uu : Int)) < KK at s8
  clear sc e3 h1 h2 ht u0
  generalize 80022 * (uu : Int) = D at *
  exact ⟨nr, place_ok nr hc (by clear nr d1; lia) (by clear nr d2; lia)⟩
theorem step_more {c d sh lv tn : Int} {k : Nat} (hs : 1 ≤ sh ∧ sh ≤ 4) (hl : 1 ≤ lv ∧ lv ≤ 4) (hc : 1 ≤ c ∧ c ≤ 31) (hd : 0 ≤ d ∧ d ≤ 29) (hk : (k : Int) < c) (hj : 1 ≤ (k : Int) * d % c) : ∃ p t, HueOk c d sh lv tn k p t := by
  have hK := KK_pos
  obtain ⟨fh, ⟨h0, h30⟩, hw, w3, w4⟩ := hue_in hc hd hk hj
  have hi := isInf_fin fh
  have ha := (share_in hs hl).1
  by_cases he : tn % 2 = 0
  · obtain ⟨p, hp, D⟩ := hsv_paint hs hl fh h0 h30 hw.1 hw.2
    obtain ⟨x, R, G, B, T, S, x1, x2⟩ := D.tri
    obtain ⟨l, s, ht, r1, r2⟩ := hls_told hs hl D T.r.fin T.g.fin T.b.fin
    have F := (hue_app (T.mono (by decide)) ha S (by have s := small4 (n := 10) (by decide); change 64 * (10 * (uu : Int)) < KK at s; clear h0 h30 w3 w4 T S; lia)).move (s := 6 * (val (hueZ c d k) % KK)) (k := 10) x1 x2
    obtain ⟨nr, pl⟩ := told_place hc F hw w3 w4
    refine ⟨p, (_, l, s), ⟨?_, ?_, hi, fun _ => ⟨r1, r2⟩, fun h => absurd (he.symm.trans h) (by decide), pl⟩, nr⟩
    · unfold paintZ; rw [if_pos he]; exact hp
    · unfold toldZ; rw [if_pos he]; exact ht
  · obtain ⟨p, R, G, B, hp, T, S⟩ := hls_paint hs hl fh h0 h30
    obtain ⟨s, ht, f1, f2⟩ := hsv_told hs hl T S
    have F := (hue_app T ha S (by clear h0 h30 w3 w4 T S; lia)).mono (k := 80022) (by decide)
    obtain ⟨nr, pl⟩ := told_place hc F hw w3 w4
    obtain ⟨A, a1, a2⟩ := big21_ok f1 hs
    obtain ⟨B', b1, b2⟩ := big21_ok f2 hl
    refine ⟨p, (_, s, _), ⟨?_, ?_, hi, fun h => absurd h he, fun _ => ⟨A, B', a1, b1, a2, b2⟩, pl⟩, nr⟩
    · unfold paintZ; rw [if_neg he]; exact congrArg some hp
    · unfold toldZ; rw [if_neg he]; exact ht
theorem step_ok {c d sh lv tn : Int} {k : Nat} (hs : 1 ≤ sh ∧ sh ≤ 4) (hl : 1 ≤ lv ∧ lv ≤ 4) (hc : 1 ≤ c ∧ c ≤ 31) (hd : 0 ≤ d ∧ d ≤ 29) (hk : (k : Int) < c) (hj : k ≠ 0 → 1 ≤ (k : Int) * d % c) : ∃ p t, HueOk c d sh lv tn k p t := by
  by_cases h : k = 0
  · subst h; exact step_zero hs hl hc
  · exact step_more hs hl hc hd hk (hj h)
end Mine
end

section
set_option autoImplicit false
set_option linter.unusedVariables false
set_option linter.unusedSimpArgs false
set_option maxRecDepth 100000
namespace Mine
open PySem PySem.Calls PyProof.Rows PySem.SeqAt PySem.Spec

theorem five_of {l : List Value} (h : l.length = 5) : ∃ x y z u w, l = [x, y, z, u, w] := by
  cases l with
  | nil => cases h
  | cons x l =>
    obtain ⟨y, z, u, w, rfl⟩ := four_of (Nat.succ.inj h)
    exact ⟨x, y, z, u, w, rfl⟩
theorem BindOk.five {ps : Arguments} {x y z u w : Str} (h : ∀ nm qn body sc gl cl doc pm an code ct bi v v₂ v₃ v₄ v₅, bindArgs ⟨nm, qn, ps, body, sc, gl, cl, .none, .none, doc, pm, an, code, ct, bi⟩ ⟨[v, v₂, v₃, v₄, v₅], []⟩ = pure [(x, v), (y, v₂), (z, v₃), (u, v₄), (w, v₅)]) : BindOk ps [x, y, z, u, w] := by
  rintro ⟨⟩ h1 h2 h3 vals hl
  cases h1; cases h2; cases h3
  obtain ⟨v, v₂, v₃, v₄, v₅, rfl⟩ := five_of hl
  exact h _ _ _ _ _ _ _ _ _ _ _ _ _ _ _ _ _
noncomputable def turnsF (m : Nat) (x : Nat → UInt64) : List UInt64 × Int := (List.range m).foldl (fun st k => turnStep st (x k)) ([], 0)
section
variable {c : Cx} {n : Nat} {ρ : Rho}
theorem turned_body (hT : Top c) {m : Nat} {d sh lv tn : Int} (P X : Nat → UInt64 × UInt64 × UInt64) (I : TurnIn m d sh lv tn) (S : ∀ k < m, TurnOk m d sh lv tn k (P k) (X k)) :
    Ex (funCx c (fnScope PW 25)) (n + 2) [("count", .sh (.int m)), ("part", .sh (.int d)), ("share", .sh (.int sh)), ("level", .sh (.int lv)), ("turn", .sh (.int tn))] (fnBody PW 25) (.ret (.int (turnsF m fun k => (X k).1).2) false) := by
  have hz : (1000000 : Nat) ≤ sizeLine := by decide
  obtain ⟨c1, c2'⟩ := I.c0
  obtain ⟨s1, s2⟩ := I.sh0
  obtain ⟨l1, l2⟩ := I.lv0
  have hlv : lv.natAbs < 2 ^ 64 := Nat.lt_of_le_of_lt (show lv.natAbs ≤ 4 by lia) (by decide)
  conv in (fnBody _ _) => whnf
  refine Ex.cons (Ex1.assign (t := .int (leastZ sh lv)) (Ev.bi (r := .int (leastZ sh lv)) hT.sub rfl rfl (EachB.cons rfl (Ev.bin (Ev.name rfl rfl).b (Ev.bin Ev.cint.b (Ev.name rfl rfl).b BinOk.sub_int).b (BinOk.mul_int hlv)).b (EachB.cons rfl (Ev.bin Ev.cint.b (Ev.bin (Ev.name rfl rfl).b (Ev.bin Ev.cint.b (Ev.name rfl rfl).b BinOk.sub_int).b (BinOk.mul_int hlv)).b BinOk.sub_int).b .nil)) (by simp) bi_min2 rfl) rfl rfl) ?_
  refine Ex.cons (Ex1.assignOwn (EvN.list .nil (by show 0 ≤ sizeLine; lia)) rfl rfl) ?_
  refine Ex.cons (ρ' := turnRho m d sh lv tn ([], 0)) (Ex1.assign (t := .int 0) Ev.cint rfl rfl) ?_
  refine Ex.cons (ρ' := turnRho m d sh lv tn (turnsF m fun k => (X k).1)) (Ex1.for (EvI.range (ts := [.int m]) (q := (0, (m : Int), 1)) (m := m) rfl hT.sub.range (.cons rfl (Ev.name rfl rfl).b .nil) (by simp) rfl (rangeN_nat (by lia))) rfl ?_) (Ex.ret (Ex1.ret (Ev.name rfl rfl)))
  show Loops _ _ _ _ _ (rangeL 0 1 m) _
  rw [rangeL0]
  exact Loops.foldI (turnRho m d sh lv tn) (fun st k => turnStep st (X k).1) (fun (k : Nat) => T.int k) (fun r st => st.1.length + r = m) (List.range m) ([], 0) (by simp) fun st k r hk hI => ⟨by show (st.1 ++ [_]).length + r = m; rw [List.length_append]; simp; lia, putAll ["step"] [.int k] (turnRho m d sh lv tn st), rfl, turn_turn hT I (S k (List.mem_range.mp hk)) (by have := List.mem_range.mp hk; lia) (by have := List.mem_range.mp hk; lia) (by lia)⟩
theorem turned_ok (hT : Top c) {m : Nat} {d sh lv tn : Int} (P X : Nat → UInt64 × UInt64 × UInt64) (I : TurnIn m d sh lv tn) (S : ∀ k < m, TurnOk m d sh lv tn k (P k) (X k)) :
    FnV c (n + 3) 25 [.int m, .int d, .int sh, .int lv, .int tn] (.int (turnsF m fun k => (X k).1).2) := fun a hf => by
  refine FOk.of (n := n + 2) (xs := ["count", "part", "share", "level", "turn"]) hf ?_ (turned_body hT P X I S)
  exact .five fun _ _ _ _ _ _ _ _ _ _ _ _ _ _ _ _ _ => rfl
end
end Mine
end

section
set_option autoImplicit false
set_option linter.unusedVariables false
set_option linter.unusedSimpArgs false
namespace Mine
open PySem PySem.Calls PyProof.Rows PySem.SeqAt PySem.Spec PySem.Float64

/-- the pairs that come the wrong way round -/
noncomputable def invStep (st : List Int × Int) (x : Int) : List Int × Int := (st.1 ++ [x], st.2 + ((st.1.filter fun y => decide (x < y)).length : Int))
noncomputable def invF (l : List Int) : Int := (l.foldl invStep ([], 0)).2
noncomputable def placesJ (m d : Nat) : List Int := (List.range m).map fun (k : Nat) => ((k * d % m : Nat) : Int)
theorem inv_eq {x : Nat → UInt64} {j : Nat → Int} (m : Nat) (h : ∀ a < m, ∀ b < m, fgt (x a) (x b) = decide (j b < j a)) : ∀ (l pre : List Nat) (n : Int), (∀ a ∈ l, a < m) → (∀ a ∈ pre, a < m) →
    (l.foldl (fun st k => turnStep st (x k)) (pre.map x, n)).2 = ((l.map j).foldl invStep (pre.map j, n)).2
  | [], pre, n, _, _ => rfl
  | a :: l, pre, n, hl, hp => by
    rw [List.foldl_cons, List.map_cons, List.foldl_cons]
    have ha := hl a List.mem_cons_self
    have e1 : turnStep (pre.map x, n) (x a) = ((pre ++ [a]).map x, n + ((pre.filter fun b => decide (j a < j b)).length : Int)) := by
      unfold turnStep
      rw [List.map_append, List.filter_map, List.length_map]
      congr 4
      exact List.filter_congr fun b hb => h b (hp b hb) a ha
    have e2 : invStep (pre.map j, n) (j a) = ((pre ++ [a]).map j, n + ((pre.filter fun b => decide (j a < j b)).length : Int)) := by
      unfold invStep
      rw [List.map_append, List.filter_map, List.length_map]
      rfl
    rw [e1, e2]
    refine inv_eq m h l (pre ++ [a]) _ (fun b hb => hl b (List.mem_cons_of_mem _ hb)) fun b hb => ?_
    rcases List.mem_append.mp hb with h' | h'
    · exact hp b h'
    · simp at h'; subst h'; exact ha

section
variable {c : Cx} {n : Nat} {ρ : Rho}
/-- the whole turn: the pairs that come the wrong way round, told by whole numbers -/
theorem turned_inv (hT : Top c) {m d : Nat} {sh lv tn : Int} (hs : 1 ≤ sh ∧ sh ≤ 4) (hl : 1 ≤ lv ∧ lv ≤ 4) (hm : m ≤ 31) (hd : d ≤ 29) (hj : (placesJ m d).Nodup) :
    FnV c (n + 3) 25 [.int m, .int d, .int sh, .int lv, .int tn] (.int (invF (placesJ m d))) := by
  have hK := KK_pos
  have inj : ∀ a < m, ∀ b < m, a * d % m = b * d % m → a = b := by
    intro a ha b hb e
    have h1 := (List.getElem?_inj (l := placesJ m d) (i := a) (j := b) (by unfold placesJ; simpa using ha) hj).mp
    refine h1 ?_
    unfold placesJ
    simp [ha, hb]
    have := congrArg (Nat.cast (R := Int)) e
    push_cast at this
    exact this
  have ex : ∀ k < m, ∃ p t, HueOk m d sh lv tn k p t := fun k hk => by
    refine step_ok hs hl (by lia) (by lia) (by lia) fun h0 => ?_
    have h1 : ((k : Int) * (d : Int)) % (m : Int) = ((k * d % m : Nat) : Int) := by push_cast; rfl
    rw [h1]
    have : k * d % m ≠ 0 := fun e => h0 (inj k hk 0 (by lia) (by simpa using e))
    lia
  have hPX : ∃ P X : Nat → UInt64 × UInt64 × UInt64, ∀ k < m, HueOk m d sh lv tn k (P k) (X k) := by
    refine ⟨fun k => if h : k < m then (ex k h).choose else default, fun k => if h : k < m then (ex k h).choose_spec.choose else default, fun k hk => ?_⟩
    simp only [dif_pos hk]
    exact (ex k hk).choose_spec.choose_spec
  obtain ⟨P, X, hX⟩ := hPX
  obtain ⟨_, _, _, i1, i2, i3⟩ := ends hs hl
  have I : TurnIn m d sh lv tn := ⟨by lia, by lia, hs, hl, i3, ⟨isInf_fin (quarter hs).1, isInf_fin (quarter hl).1⟩, i1, i2⟩
  have main := turned_ok (n := n) hT P X I fun k hk => (hX k hk).ok
  have e : (turnsF m fun k => (X k).1).2 = invF (placesJ m d) := by
    unfold turnsF invF placesJ
    refine inv_eq (x := fun k => (X k).1) (j := fun k => ((k * d % m : Nat) : Int)) m (fun a ha b hb => ?_) (List.range m) [] 0 (fun a h => List.mem_range.mp h) (by simp)
    have ha' := hX a ha
    have hb' := hX b hb
    have hKe := KK_uu
    have hu := uu_pos
    rw [fgt_val ha'.near.fin hb'.near.fin]
    have na := ha'.near
    have nb := hb'.near
    have e1 : ∀ q : Nat, ((q : Int) * (d : Int)) % (m : Int) = ((q * d % m : Nat) : Int) := fun q => by push_cast; rfl
    rw [e1] at na nb
    obtain ⟨_, na, na'⟩ := na
    obtain ⟨_, nb, nb'⟩ := nb
    rw [show ((3000000 : Nat) : Int) = 3000000 from rfl] at na na' nb nb'
    have hab := inj a ha b hb
    by_cases hne : a = b
    · subst hne; exact decide_eq_decide.mpr ⟨fun h => by lia, fun h => by lia⟩
    generalize a * d % m = ja at *
    generalize b * d % m = jb at *
    generalize val (X a).1 = A at *
    generalize val (X b).1 = B at *
    have mm : (0 : Int) < m := by lia
    refine decide_eq_decide.mpr ⟨fun h => ?_, fun h => ?_⟩
    · rcases Int.lt_or_le (jb : Int) (ja : Int) with h' | h'
      · exact h'
      · exfalso
        have h1 : (m : Int) * B < m * A := Int.mul_lt_mul_of_pos_left h mm
        rcases Int.lt_or_le (ja : Int) (jb : Int) with h2 | h2
        · have h3 : ((ja : Int) + 1) * KK ≤ jb * KK := Int.mul_le_mul_of_nonneg_right (by lia) (Int.le_of_lt hK)
          rw [Int.add_mul] at h3
          lia
        · exact hne (hab (by lia))
    · have h3 : ((jb : Int) + 1) * KK ≤ ja * KK := Int.mul_le_mul_of_nonneg_right (by lia) (Int.le_of_lt hK)
      rw [Int.add_mul] at h3
      exact Int.lt_of_mul_lt_mul_left (a := (m : Int)) (by lia) (by lia)
  rw [e] at main
  exact main
end
end Mine
end

section
set_option autoImplicit false
set_option linter.unusedVariables false
set_option linter.unusedSimpArgs false
set_option maxRecDepth 100000
namespace Mine
open PySem PySem.Calls PyProof.Rows PySem.SeqAt PySem.Spec

/-! list(a generator) -/
noncomputable def lst (acc : Array Value) (k : Nat) : Obj := { cls := .type "list", dict := none, data := .seq acc k, slots := #[] }

section
variable {c : Cx} {n : Nat} {ρ : Rho}
theorem bas_chgG {s s' : Shared} {g : Nat} {N : List Addr} (B : Bas c s) (x : ChgG g N s s') (h : ∀ a ∈ N, c.H.objs.size ≤ a) : Bas c s' :=
  ⟨fun b o e => x.heap b o (fun m => absurd (Heap.lt_size e) (Nat.not_lt.mpr (h b m))) (B.heap b o e), Nat.le_trans B.size x.size, Nat.lt_of_lt_of_le B.toks x.toks, B.lim⟩

theorem gen_list_loop {A : Around} {m : Nat} (rm : Room A.in1 m) {it g S : Addr} {l : List T} {M : List Addr} {lo : Nat} {res : Value} {R' : Result → Shared → Prop} (hM : ∀ a ∈ M, c.H.objs.size ≤ a ∧ a < lo) (hlo : c.H.objs.size ≤ lo) (hS : lo ≤ S) (hz : l.length ≤ sizeLine) :
    ∀ (rest done : List T) (s : Shared) (W : List Addr) (acc : Array Value) (k : Nat), done ++ rest = l → GSt c A.in1 it g l done.length W s → Bas c s → S ∉ W → (∀ a ∈ W, lo ≤ a ∧ a < s.heap.objs.size) → lo ≤ s.heap.objs.size →
      s.heap.get? S = some (lst acc k) → DenL c.w (S :: (W ++ M)) s.heap done acc.toList →
      (∀ s' acc' k', ChgG g (S :: W) s s' → s'.heap.get? S = some (lst acc' k') → DenL c.w (S :: M) s'.heap l acc'.toList → R' (.ok (.ret res)) s') →
      codeAny (model c.prog c.w) A (.builtin "list.extend.loop" ⟨[.ref S, .ref it, res], []⟩) R' s := by
  have G : GWalk c A.in1 it g l (GSt c A.in1 it g l) := GWalk.of rm
  intro rest
  induction rest with
  | nil =>
    intro done s W acc k hl st B hSW hW hls hget hd kk
    rw [List.append_nil] at hl; subst hl
    refine codeAny_builtin F.entry_extend_loop ?_
    rw [Around.under_plainId F.plain_extend_loop _]
    show wpAny _ A.in1 (pyNext (.ref it) >>= _) _ _ s
    refine wpAny_bind (wpAny_no (G.done W s _ st B fun s' x => wpAny_pure ?_))
    refine kk s' acc k (x.mono fun a h => .inl (List.mem_cons_of_mem _ h)) (x.heap S _ hSW hget) (denL_re (fun a ha _ hm => ha ?_) (fun b o hb e => x.heap b o (fun h => hb (List.mem_cons_of_mem _ (List.mem_append_left _ h))) e) _ _ hd)
    rcases List.mem_cons.mp hm with rfl | hm
    · exact List.mem_cons_self
    · exact List.mem_cons_of_mem _ (List.mem_append_right _ hm)
  | cons t ts ih =>
    intro done s W acc k hl st B hSW hW hls hget hd kk
    have hitem : l[done.length]? = some t := by rw [← hl]; simp
    have hSs := Heap.lt_size hget
    have hlen : done.length = acc.size := hd.length
    have hdl : done.length < l.length := by rw [← hl]; simp
    refine codeAny_builtin F.entry_extend_loop ?_
    rw [Around.under_plainId F.plain_extend_loop _]
    show wpAny _ A.in1 (pyNext (.ref it) >>= _) _ _ s
    refine wpAny_bind (wpAny_no (G.item done.length t W s _ hitem st B fun v s₁ W' x₁ st₁ hW' hv => ?_))
    have hS₁ := x₁.heap S _ hSW hget
    show wpAny _ A.in1 (updateSeq S (·.push v) >>= _) _ _ _
    refine wpAny_bind ?_
    have hb : Heap.SameBut S s₁.heap (s₁.heap.update S (Obj.mapSeq (·.push v))) := Heap.SameBut.update ..
    have hSW' : S ∉ W' ++ W := fun h => (List.mem_append.mp h).elim (fun q => absurd hSs (Nat.not_lt.mpr (hW' S q).1)) hSW
    have B₁ : Bas c s₁ := bas_chgG B x₁ fun a h => Nat.le_trans hlo (hW a h).1
    have B₂ : Bas c { s₁ with heap := s₁.heap.update S (Obj.mapSeq (·.push v)) } := ⟨fun b o e => (hb.2 b fun q => absurd (Heap.lt_size e) (Nat.not_lt.mpr (q ▸ Nat.le_trans hlo hS))).trans (B₁.heap b o e), Nat.le_trans B₁.size (Nat.le_of_eq hb.1.symm), B₁.toks, B₁.lim⟩
    have x₂ : ChgG g (S :: W) s { s₁ with heap := s₁.heap.update S (Obj.mapSeq (·.push v)) } := ⟨fun b o h e => (hb.2 b fun q => h (q ▸ List.mem_cons_self)).trans (x₁.heap b o (fun q => h (List.mem_cons_of_mem _ q)) e), Nat.le_trans x₁.size (Nat.le_of_eq hb.1.symm), x₁.gens, x₁.bare, x₁.os, x₁.toks, x₁.gsz⟩
    have dv : Den c.w (S :: ((W' ++ W) ++ M)) s₁.heap t v := hv _ fun a h => by
      rcases List.mem_cons.mp h with rfl | h
      · exact .inl ⟨Nat.le_trans hlo hS, hSs⟩
      · rcases List.mem_append.mp h with h | h
        · rcases List.mem_append.mp h with h | h
          · exact .inr h
          · exact .inl ⟨Nat.le_trans hlo (hW a h).1, (hW a h).2⟩
        · exact .inl ⟨(hM a h).1, Nat.lt_of_lt_of_le (hM a h).2 hls⟩
    have d₁ : DenL c.w (S :: ((W' ++ W) ++ M)) s₁.heap done acc.toList := denL_re (fun a ha hl' hm => ?_) (fun b o hb' e => x₁.heap b o (fun h => hb' (List.mem_cons_of_mem _ (List.mem_append_left _ h))) e) _ _ hd
    have d₂ : DenL c.w (S :: ((W' ++ W) ++ M)) (s₁.heap.update S (Obj.mapSeq (·.push v))) (done ++ [t]) (acc.push v).toList := by
      rw [Array.toList_push]
      exact DenL.mono (fun _ e => e) (fun b o hb' e => (hb.2 b fun q => hb' (q ▸ List.mem_cons_self)).trans e) _ _ (d₁.app (DenL.cons dv DenL.nil))
    · refine wpAny_updateSeq hS₁ rfl (wpAny_pure ⟨plainId_quiet F.plain_extend_loop _, ih (done ++ [t]) _ (W' ++ W) (acc.push v) _ (by rw [← hl]; simp) ?_ B₂ hSW' (fun a h => ?_) (Nat.le_trans hls x₂.size) (Heap.get?_update_self (Obj.mapSeq (·.push v)) hS₁ rfl) d₂ fun s' acc' k' x hg' hd' => kk s' acc' k' (x₂.trans x fun a h => ?_) hg' hd'⟩) (by lia) (by show (acc.push v).size ≤ sizeLine + 1; rw [Array.size_push]; lia)
      · rw [List.length_append]
        exact G.frame _ _ s₁ _ st₁ (fun b h o e => (hb.2 b fun q => hSW' (q ▸ h)).trans e) B₂ (Nat.le_of_eq hb.1.symm) (fun y e => e)
      · rcases List.mem_append.mp h with h | h
        · exact ⟨Nat.le_trans hls (hW' a h).1, Nat.lt_of_lt_of_le (hW' a h).2 (Nat.le_of_eq hb.1.symm)⟩
        · exact ⟨(hW a h).1, Nat.lt_of_lt_of_le (hW a h).2 x₂.size⟩
      · rcases List.mem_cons.mp h with rfl | h
        · exact .inl List.mem_cons_self
        · rcases List.mem_append.mp h with h | h
          · exact .inr (hW' a h).1
          · exact .inl (List.mem_cons_of_mem _ h)
    · rcases List.mem_cons.mp hm with rfl | hm
      · exact ha List.mem_cons_self
      · rcases List.mem_append.mp hm with hm | hm
        · rcases List.mem_append.mp hm with hm | hm
          · exact absurd hl' (Nat.not_lt.mpr (hW' a hm).1)
          · exact ha (List.mem_cons_of_mem _ (List.mem_append_left _ hm))
        · exact ha (List.mem_cons_of_mem _ (List.mem_append_right _ hm))
theorem EvN.listGen {p pos pos' : Pos} {f : Expr} {es : List Expr} {l : List T} (hk : c.ns.lookup ("list" : Str) = some .globalImplicit) (g : GV c "list" (.type "list")) (h : EvY c n ρ (.Call f es [] pos') l) (hz : l.length ≤ sizeLine) :
    EvN c (n + 1) ρ (.Call (.Name "list" p) [.Call f es [] pos'] [] pos) l := .mk fun A s env M₀ O rm R => by
  obtain ⟨r1, r2, r3⟩ := rm
  have rm0 : Room A n := ⟨r1, by lia, by lia⟩
  have rm2 : Room A.in1.in1 n := ⟨r1, by show A.depth + n < 800; lia, by show A.units + 1 + 1 + 8 * n < 9000; lia⟩
  refine wpAny_Call_NameR (wp_gname R hk g (Pv.callWith_type1 (wpAny_items_cons (wpAny_imp (h.run A s env M₀ O rm0 R) fun x s₁ hx => wpAny_pure ?_))) (by decide))
  obtain ⟨x1, it, W, gn, rfl, hgn, hW, hst⟩ := hx
  have st := hst A.in1.in1 rm2
  have B := R.bas.ext x1
  refine callType_codes (Q₁ := fun obj s₂ => obj = .ref s₁.heap.objs.size ∧ s₂ = { s₁ with heap := s₁.heap.push { cls := .type "list", data := .seq #[] } }) F.called_list (F.typeCall_list_1 _) F.entry_list_init
    (code_list_new _ ⟨rfl, rfl⟩) fun obj s₂ h₂ => ?_
  obtain ⟨rfl, rfl⟩ := h₂
  have hS : (s₁.heap.push { cls := .type "list", data := .seq #[] }).get? s₁.heap.objs.size = some { cls := .type "list", data := .seq #[] } := Heap.get?_push_size _ rfl
  refine ⟨⟨_, hS, rfl⟩, F.args_list_init_2 _ _, ?_⟩
  generalize hSd : s₁.heap.objs.size = S at hS ⊢
  show wpAny _ A.in1.in1 (do let old ← Builtin.List.listItems (.ref S); Builtin.List.listUpdate (.ref S) (fun _ => #[]); letGo old.toList.reverse; Builtin.List.listExtendWith (.ref S) (.ref it) .none) _ _ _
  have G : GWalk c A.in1.in1 it gn l (GSt c A.in1.in1 it gn l) := GWalk.of rm2
  have hSW : S ∉ W := fun m => by have := (hW S m).2; rw [hSd] at this; exact Nat.lt_irrefl _ this
  have hSit : S ≠ it := fun q => hSW (q ▸ G.self _ _ _ st)
  have frm : ∀ h' : Heap, (∀ b, b ≠ S → h'.get? b = (s₁.heap.push { cls := .type "list", data := .seq #[] }).get? b) → h'.objs.size = (s₁.heap.push { cls := .type "list", data := .seq #[] }).objs.size → GSt c A.in1.in1 it gn l 0 W { s₁ with heap := h' } ∧ Bas c { s₁ with heap := h' } ∧ ChgG gn [S] s₁ { s₁ with heap := h' } := fun h' hk hz' => by
    have hz2 : s₁.heap.objs.size ≤ h'.objs.size := by rw [hz', Heap.size_push]; exact Nat.le_succ _
    have hkk : ∀ b o, b ≠ S → s₁.heap.get? b = some o → h'.get? b = some o := fun b o hb e => (hk b hb).trans (Heap.get?_push_of_some _ e)
    have hB : Bas c { s₁ with heap := h' } := ⟨fun b o e => hkk b o (fun q => absurd (Heap.lt_size e) (Nat.not_lt.mpr (q ▸ hSd ▸ B.size))) (B.heap b o e), Nat.le_trans B.size hz2, B.toks, B.lim⟩
    exact ⟨G.frame _ _ s₁ _ st (fun b hb o e => hkk b o (fun q => hSW (q ▸ hb)) e) hB hz2 (fun y e => e), hB, ⟨fun b o hb e => hkk b o (fun q => hb (q ▸ List.mem_cons_self)) e, hz2, fun _ _ _ e => e, id, rfl, Nat.le_refl _, Nat.le_refl _⟩⟩
  have typ : ∀ {s' : Shared}, GSt c A.in1.in1 it gn l 0 W s' → s'.TypeIs (.ref it) "generator" := fun st' => by
    obtain ⟨o, nm, qn, ho, r⟩ := st'.2.1
    exact ⟨o, ho, r.1⟩
  refine wpAny_bind ?_
  unfold Builtin.List.listItems
  refine wpAny_bind (wpAny_seqItems hS rfl (wpAny_pure ?_))
  show wpAny _ A.in1.in1 (updateSeq S (fun _ => #[]) >>= fun _ => letGo (#[] : Array Value).toList.reverse >>= fun _ => Builtin.List.listExtendWith (.ref S) (.ref it) .none) _ _ _
  refine wpAny_bind (wpAny_updateSeq hS rfl ?_)
  refine wpAny_bind (wpAny_letGo ?_)
  have hS1 := Heap.get?_update_self (Obj.mapSeq (fun _ => (#[] : Array Value))) hS rfl
  have sb1 : Heap.SameBut S _ _ := Heap.SameBut.update (s₁.heap.push { cls := .type "list", data := .seq #[] }) S (Obj.mapSeq (fun _ => (#[] : Array Value)))
  obtain ⟨st1, -, -⟩ := frm _ sb1.2 sb1.1
  unfold Builtin.List.listExtendWith
  refine wpAny_bind (wpAny_typeOf (typ st1) ?_)
  have h1 : Builtin.List.listSameRef (.ref S) (.ref it) = false := by simp [Builtin.List.listSameRef, hSit]
  have h2 : (Value.type "generator" == Value.type "list") = false := by decide
  have h3 : (Value.type "generator" == Value.type "tuple") = false := by decide
  simp only [h1, h2, h3, Bool.or_false, Bool.false_eq_true, if_false]
  refine wpAny_bind (G.iter 0 W _ _ _ st1 ?_)
  refine wpAny_bind (wpAny_holding ?_)
  unfold Builtin.List.listLengthHint
  refine wpAny_bind (wpAny_specialOf (typ st1) F.gen_no_len ?_)
  show wpAny _ _ (specialOf (Value.ref it) (Str.ofString "__length_hint__") >>= _) _ _ _
  refine wpAny_bind (wpAny_specialOf (typ st1) F.gen_no_hint ?_)
  refine wpAny_pure ?_
  show wpAny _ _ (rule "list.extend.makes-room" >>= fun _ => Builtin.List.listTouch (.ref S) >>= fun _ => again (.builtin "list.extend.loop" ⟨[.ref S, .ref it, .none], []⟩)) _ _ _
  refine wpAny_bind (wpAny_rule ?_)
  refine wpAny_bind ?_
  show wpAny _ _ (updateSeq S (·.push .none) >>= fun _ => updateSeq S (·.pop)) _ _ _
  refine wpAny_bind (wpAny_updateSeq hS1 rfl ?_)
  have hS2 := Heap.get?_update_self (Obj.mapSeq (·.push Value.none)) hS1 rfl
  have sb2 := sb1.trans (Heap.SameBut.update _ S (Obj.mapSeq (·.push Value.none)))
  refine wpAny_updateSeq (hz := by seq_fits) hS2 rfl ?_
  have hS3 := Heap.get?_update_self (Obj.mapSeq (·.pop)) hS2 rfl
  have sb3 := sb2.trans (Heap.SameBut.update _ S (Obj.mapSeq (·.pop)))
  obtain ⟨st3, B3, y3⟩ := frm _ sb3.2 sb3.1
  have hlo : s.heap.objs.size ≤ S := hSd ▸ x1.size
  refine wpAny_pure ⟨plainId_quiet F.plain_extend_loop _, gen_list_loop (M := nOf c env O ++ M₀) (lo := s.heap.objs.size) rm2 R.hi R.bas.size hlo hz l [] _ W #[] _ rfl st3 B3 hSW (fun a h => ⟨(hW a h).1, Nat.lt_of_lt_of_le (hW a h).2 y3.size⟩) (Nat.le_trans x1.size y3.size) hS3 DenL.nil fun s' acc' k' x hget hd => ⟨rfl, ?_, S, acc', rfl, hlo, ⟨k', hget⟩, hd⟩⟩
  have z : ChgG gn (S :: W) s₁ s' := (y3.mono fun a h => .inl (by simp at h; exact h ▸ List.mem_cons_self)).trans x fun a h => .inl h
  refine ChgG.back x1 z hgn fun a h => .inr ?_
  rcases List.mem_cons.mp h with rfl | h
  · exact hlo
  · exact (hW a h).1
end
end Mine
end

section
set_option autoImplicit false
set_option linter.unusedVariables false
set_option linter.unusedSimpArgs false
set_option maxRecDepth 100000
namespace Mine
open PySem PySem.Calls PyProof.Rows PySem.SeqAt PySem.Spec

/-! law: the first statements -/
theorem cut_takeM {α : Type} (l : List α) (k : Nat) : cut l none (some (k : Int)) = l.take k := by
  unfold cut
  simp only [Option.elim_none, Option.elim_some, List.drop_zero, Nat.sub_zero]
  have : clipAt l.length (k : Int) = min k l.length := by
    unfold clipAt; split <;> lia
  rw [this]
  by_cases h : k ≤ l.length
  · rw [Nat.min_eq_left h]
  · rw [Nat.min_eq_right (by lia), List.take_of_length_le (Nat.le_refl _), List.take_of_length_le (by lia)]
theorem cut_drop {α : Type} (l : List α) (k : Nat) : cut l (some (k : Int)) none = l.drop k := by
  unfold cut
  simp only [Option.elim_none, Option.elim_some]
  have : clipAt l.length (k : Int) = min k l.length := by
    unfold clipAt; split <;> lia
  rw [this]
  by_cases h : k ≤ l.length
  · rw [Nat.min_eq_left h, List.take_of_length_le (by rw [List.length_drop]; lia)]
  · rw [Nat.min_eq_right (by lia), Nat.sub_self, List.take_zero, List.drop_of_length_le (by lia)]
noncomputable def restL : List Int := [4218, 9135, 4208, 5321]
noncomputable def numsF (script : List Int) : List Int := (script.take 6).map (· % 1000000) ++ restL.drop (script.take 6).length
theorem nums_len (script : List Int) : 4 ≤ (numsF script).length ∧ (numsF script).length ≤ 6 := by
  unfold numsF restL
  have : (script.take 6).length ≤ 6 := by rw [List.length_take]; lia
  simp only [List.length_append, List.length_map, List.length_drop, List.length_cons, List.length_nil]
  lia
theorem nums_ge (script : List Int) : ∀ x ∈ numsF script, 0 ≤ x ∧ x < 1000000 := fun x hx => by
  rcases List.mem_append.mp hx with h | h
  · obtain ⟨y, _, rfl⟩ := List.mem_map.mp h
    exact ⟨Int.emod_nonneg _ (by decide), Int.emod_lt_of_pos _ (by decide)⟩
  · have := List.mem_of_mem_drop h
    simp only [restL, List.mem_cons, List.not_mem_nil, or_false] at this
    lia
theorem Ev.castB {c : Cx} {n : Nat} {ρ : Rho} {e : Expr} {t t' : T} (h : EvB c n ρ e t) (he : t = t') : EvB c n ρ e t' := by subst he; exact h
theorem EvN.castE {c : Cx} {n : Nat} {ρ : Rho} {e : Expr} {l l' : List T} (h : EvN c n ρ e l) (he : l = l') : Ev c n ρ e (.list l') := by subst he; exact h.ev

noncomputable def kindF (N : List Int) : Nat := (N.sum % 3).toNat
noncomputable def shareF (N : List Int) : Int := N.sum / 3 % 4 + 1
noncomputable def levelF (N : List Int) : Int := N.sum / 12 % 4 + 1
noncomputable def textF (N : List Int) : Str := Txt.join "" (N.map fun x => (pieceX x).1)
noncomputable def unitsF (N : List Int) : List Str := N.flatMap fun x => (pieceX x).2
noncomputable def lawRho1 (S N : List Int) : Rho := [("script", .sh (.list (S.map .int))), ("nums", .sh (intsT N)), ("size", .sh (.int N.length)), ("kind", .sh (.int (kindF N))), ("share", .sh (.int (shareF N))), ("level", .sh (.int (levelF N))), ("text", .sh (.str (textF N))), ("units", .sh (strsT (unitsF N)))]
theorem piece_len (x : Int) : (pieceX x).1.length ≤ 9 ∧ (pieceX x).2.length ≤ 4 := by
  have h1 := pm_lt x
  have h2 := pk_lt x
  unfold pieceX
  have key : ∀ m < 2, ∀ k < 6, (pieceF m k).1.length ≤ 9 ∧ (pieceF m k).2.length ≤ 4 := by decide
  exact key _ h1.1 _ h2.1
theorem units_len (N : List Int) : (unitsF N).length ≤ N.length * 4 := by
  unfold unitsF
  induction N with
  | nil => simp
  | cons x N ih =>
    rw [List.flatMap_cons, List.length_append, List.length_cons]
    have := (piece_len x).2
    lia

section
variable {c : Cx} {n : Nat} {ρ : Rho}
theorem Each.ints : ∀ {es : List Expr} {l : List Int}, litInts es = some l → Each c n ρ es (l.map .int)
  | [], _, h => by cases h; exact .nil
  | e :: es, _, h => by
    obtain ⟨i, p, q, ms, rfl, h2, rfl⟩ := litInts_cons h
    exact .cons rfl Ev.cint (Each.ints h2)
theorem law_1 (hT : Top c) {S : List Int} (hS : S.length ≤ 63) {o : Out}
    (h : Ex (funCx c (fnScope PW 26)) (n + 5) (lawRho1 S (numsF S)) ((fnBody PW 26).drop 8) o) : Ex (funCx c (fnScope PW 26)) (n + 5) [("script", .sh (.list (S.map .int)))] (fnBody PW 26) o := by
  have hz : (1000000 : Nat) ≤ sizeLine := by decide
  obtain ⟨hN4, hN6⟩ := nums_len S
  have hge := nums_ge S
  conv in (fnBody PW 26) => whnf
  have hs5 : ∀ {ρ : Rho} {v hi : Expr} {p pos : Pos}, EvB (funCx c (fnScope PW 26)) (n + 5) ρ v (.list (S.map .int)) → Part (funCx c (fnScope PW 26)) (n + 5) ρ (some hi) (some ((6 : Nat) : Int)) → EvN (funCx c (fnScope PW 26)) (n + 5) ρ (.Subscript v (.Slice none (some hi) none p) pos) ((S.take 6).map .int) := by
    intro ρ v hi p pos h1 h2
    have := EvN.slice (p := p) (pos := pos) h1 .no h2 (by rw [List.length_map]; lia)
    rw [cut_takeM, ← List.map_take] at this
    exact this
  refine Ex.cons (Ex1.assignComp (l := (S.take 6).map .int) (out := ((S.take 6).map (· % 1000000)).map .int) rfl rfl (EvI.list (hs5 (Ev.name rfl rfl).b (.yes Ev.cint)).ev.b) ?_ ?_ rfl) ?_
  · exact Turns.cast (Turns.map1 T.int (fun x => .int (x % 1000000)) rfl rfl (S.take 6) fun x hx => ⟨_, rfl, Sub.nil, Ev.bin (Ev.name rfl rfl).b Ev.cint.b (BinOk.mod_int (by decide))⟩) rfl (by rw [List.map_map]; rfl)
  · rw [List.length_map, List.length_map, List.length_take]; lia
  have hlt : (S.take 6).length ≤ 6 := by rw [List.length_take]; lia
  refine Ex.cons (Ex1.assign (t := intsT (numsF S)) (EvN.castE (EvN.add (a := ((S.take 6).map (· % 1000000)).map .int) (b := (restL.drop (S.take 6).length).map .int) (Ev.name rfl rfl).b ?_ ?_) ?_) rfl rfl) ?_
  · have hln : Mine.bi "len" [.list (((S.take 6).map (· % 1000000)).map .int)] = some (.int ((S.take 6).length : Nat)) := by
      rw [bi_lenL (by rw [List.length_map, List.length_map]; lia), List.length_map, List.length_map]
    have e := cut_drop (restL.map T.int) (S.take 6).length
    rw [← List.map_drop] at e
    exact Ev.castB (EvN.slice (l := restL.map .int) (a := some ((S.take 6).length : Int)) (EvN.list (Each.ints (l := restL) rfl) (by show 4 ≤ sizeLine; lia)).ev.b (.yes (Ev.bi hT.sub rfl rfl (EachB.cons rfl (Ev.name rfl rfl).b .nil) (by simp) hln rfl)) .no (by decide)).ev.b (by rw [e])
  · rw [List.length_map, List.length_map, List.length_map, List.length_drop]; show _ + (4 - _) ≤ sizeLine; lia
  · unfold numsF; rw [List.map_append]
  · generalize hNN : numsF S = N at hN4 hN6 hge h ⊢
    have hsum : ∀ {ρ : Rho} {p p' pos : Pos}, ρ.lookup ("nums" : Str) = some (.sh (intsT N)) → Ev (funCx c (fnScope PW 26)) (n + 5) ρ (.Call (.Name "sum" p) [.Name "nums" p'] [] pos) (.int N.sum) := fun hl => Ev.bi hT.sub rfl rfl (EachB.cons rfl (Ev.name hl rfl).b .nil) (by simp) bi_sum rfl
    have hk3 : N.sum % 3 = (kindF N : Int) := by unfold kindF; have := Int.emod_nonneg N.sum (b := 3) (by decide); lia
    refine Ex.cons (Ex1.assign (t := .int N.length) (Ev.bi (r := .int N.length) hT.sub rfl rfl (EachB.cons rfl (Ev.name rfl rfl).b .nil) (by simp) (bi_lenI (by lia)) rfl) rfl rfl) ?_
    refine Ex.cons (Ex1.assign (t := .int (kindF N)) (Ev.castE (Ev.bin (hsum rfl).b Ev.cint.b (BinOk.mod_int (by decide))) (congrArg T.int hk3)) rfl rfl) ?_
    refine Ex.cons (Ex1.assign (t := .int (shareF N)) (Ev.bin (Ev.bin (Ev.bin (hsum rfl).b Ev.cint.b (BinOk.div_int (by decide) (by decide))).b Ev.cint.b (BinOk.mod_int (by decide))).b Ev.cint.b BinOk.add_int) rfl rfl) ?_
    refine Ex.cons (Ex1.assign (t := .int (levelF N)) (Ev.bin (Ev.bin (Ev.bin (hsum rfl).b Ev.cint.b (BinOk.div_int (by decide) (by decide))).b Ev.cint.b (BinOk.mod_int (by decide))).b Ev.cint.b BinOk.add_int) rfl rfl) ?_
    refine Ex.cons (Ex1.assign (t := .str (textF N)) (Ev.joinS (l := N.map fun x => (pieceX x).1) Ev.cstr.b (EvN.comp (l := N.map .int) (out := (N.map fun x => (pieceX x).1).map .str) rfl rfl (EvI.list (Ev.name rfl rfl).b) ?_ ?_).ev.b rfl rfl rfl ?_) rfl rfl) ?_
    · exact Turns.cast (Turns.map1 T.int (fun x => .str (pieceX x).1) rfl rfl N fun x hx => ⟨_, rfl, Sub.nil, Ev.ix (o := pieceT (pieceX x)) (k := .int 0) (Ev.fn 20 hT.sub.comp rfl rfl (.cons rfl (Ev.name rfl rfl) .nil) (by simp) (piece_ok hT.sub.comp x)).b Ev.cint rfl rfl⟩) rfl (by rw [List.map_map]; rfl)
    · rw [List.length_map, List.length_map]; lia
    · have h4 := sum_le (l := (N.map fun x => (pieceX x).1).map (·.length)) (k := 9) fun y hy => by
        obtain ⟨z, hz, rfl⟩ := List.mem_map.mp hy
        obtain ⟨x, hx, rfl⟩ := List.mem_map.mp hz
        exact (piece_len x).1
      rw [List.length_map, List.length_map] at h4
      have h0 : ("" : Str).length = 0 := rfl
      rw [h0, Nat.mul_zero]
      lia
    refine Ex.cons (Ex1.assignComp (l := N.map .int) (out := (unitsF N).map .str) rfl rfl (EvI.list (Ev.name rfl rfl).b) ?_ (by rw [List.length_map]; have := units_len N; lia) rfl) (Ex.pre h (Sub.cons rfl (Sub.cons rfl (Sub.cons rfl (Sub.cons rfl (Sub.cons rfl (Sub.cons rfl (Sub.cons rfl (Sub.one rfl)))))))))
    refine Turns.cast (Turns.items T.int (fun x => ((pieceX x).2).map .str) (fun _ => true) N fun x hx => ⟨_, rfl, Sub.nil, .nil, fun _ => ?_⟩) rfl ?_
    · refine Tail.gen rfl rfl rfl (EvI.listF (l := ((pieceX x).2).map .str) (Ev.ix (o := pieceT (pieceX x)) (k := .int 1) (Ev.fn 20 hT.sub.comp rfl rfl (.cons rfl (Ev.name rfl rfl) .nil) (by simp) (piece_ok hT.sub.comp x)).b Ev.cint rfl rfl)) ?_
      exact Turns.map1 T.str T.str rfl rfl (pieceX x).2 fun u hu => ⟨_, rfl, Sub.one rfl, Ev.name rfl rfl⟩
    · rw [List.filter_eq_self.mpr (by simp)]
      unfold unitsF
      rw [List.map_flatMap]
end
end Mine
end

section
set_option autoImplicit false
set_option linter.unusedVariables false
set_option linter.unusedSimpArgs false
set_option maxRecDepth 100000
namespace Mine
open PySem PySem.Calls PyProof.Rows PySem.SeqAt PySem.Spec

noncomputable def bslS : Str := "\\"
noncomputable def joinU (N : List Int) : Str := Txt.join "" (unitsF N)
noncomputable def usF (N : List Int) : List Str := unitsF N ++ [bslS]
noncomputable def rowF (N : List Int) : List Str := N.map fun x => ownS (pm x)
noncomputable def isB (u : Str) : Bool := u == "(" || u == ")"
noncomputable def shopT (N : List Int) : T := .list (N.map fun x => .list ((signsF (kindF N) x).map chrT))
noncomputable def twoF (x : Int) : Nat := (x / 4212 % 3).toNat
noncomputable def spellStep (N : List Int) (s : List Nat × Nat) (k : Nat) : List Nat × Nat := (s.1 ++ s.1 ++ [(signsF (kindF N) (N.getD k 0)).getD (twoF (N.getD k 0)) 0], 2 * s.2 + twoF (N.getD k 0))
noncomputable def spellF (N : List Int) : List Nat × Nat := (List.range N.length).reverse.foldl (spellStep N) ([], 0)
/-- what the first half of the law rests on -/
structure PlainA (N : List Int) : Prop where
  strip : stripF (textF N) = joinU N
  joinLen : (joinU N).length ≤ 900
  textLen : (textF N).length ≤ 900
  seen : (esc (joinU N ++ bslS)).map item = (List.range (usF N).length).map (placeT (usF N))
  row : ((List.range (usF N).length).filter fun k => isB ((usF N).getD k "")).map (fun k => (usF N).getD k "") = rowF N
  unitLen : ∀ u ∈ usF N, u.length ≤ 1000
  b1 : ∀ x ∈ N, ∀ q ∈ signsF (kindF N) x, b1S q = ((⟨#[q]⟩ : Str) == ⟨#[(signsF (kindF N) x).getD 0 0]⟩)
  okS : ∀ q ∈ (spellF N).1, okSign q = true
  spell : prepF (spellF N).1 = Txt.mul ⟨#[let3 (kindF N)]⟩ (spellF N).2

noncomputable def lawRho2 (S N : List Int) : Rho := [("script", .sh (.list (S.map .int))), ("nums", .sh (intsT N)), ("size", .sh (.int N.length)), ("kind", .sh (.int (kindF N))), ("share", .sh (.int (shareF N))), ("level", .sh (.int (levelF N))), ("text", .sh (.str (textF N))), ("units", .sh (strsT (unitsF N))), ("shorn", .sh (.str (joinU N))), ("seen", .sh (placesT (usF N))), ("row", .sh (strsT (rowF N))), ("shop", .sh (shopT N))]
noncomputable def spellRho (S N : List Int) (s : List Nat × Nat) : Rho := [("script", .sh (.list (S.map .int))), ("nums", .sh (intsT N)), ("size", .sh (.int N.length)), ("kind", .sh (.int (kindF N))), ("share", .sh (.int (shareF N))), ("level", .sh (.int (levelF N))), ("text", .sh (.str (textF N))), ("units", .sh (strsT (unitsF N))), ("shorn", .sh (.str (joinU N))), ("seen", .sh (placesT (usF N))), ("row", .sh (strsT (rowF N))), ("shop", .sh (shopT N)), ("spelled", .sh (.str (strL s.1))), ("meant", .sh (.int s.2))]
theorem eqAll_refl {f : T → T → Option Bool} : ∀ {l : List T}, (∀ t ∈ l, f t t = some true) → eqAll f l l = some true
  | [], _ => rfl
  | t :: l, h => by
    show (match f t t, eqAll f l l with | some a, some b => some (a && b) | _, _ => none) = _
    rw [h t List.mem_cons_self, eqAll_refl fun u hu => h u (List.mem_cons_of_mem _ hu)]
    rfl
theorem eqv_lrefl (n : Nat) {l : List T} (h : ∀ t ∈ l, eqv n t t = some true) : eqv (n + 1) (.list l) (.list l) = some true := by
  rw [eqv_list, if_pos (beq_self_eq_true _)]
  exact eqAll_refl h
theorem eqv_trefl (n : Nat) {l : List T} (h : ∀ t ∈ l, eqv n t t = some true) : eqv (n + 1) (.tup l) (.tup l) = some true := by
  show (if l.length == l.length then eqAll (eqv n) l l else none) = _
  rw [if_pos (beq_self_eq_true _)]
  exact eqAll_refl h
theorem places_refl (us : List Str) : ceq (placesT us) (placesT us) = some true := by
  unfold placesT
  rw [ceq_list]
  refine eqv_lrefl 7 fun t ht => ?_
  obtain ⟨k, _, rfl⟩ := List.mem_map.mp ht
  refine eqv_trefl 6 fun u hu => ?_
  rcases List.mem_cons.mp hu with rfl | hu
  · rw [eqv_int, beq_self_eq_true]
  · rcases List.mem_cons.mp hu with rfl | hu
    · rw [eqv_str, beq_self_eq_true]
    · cases hu
theorem rangeL_down : ∀ m : Nat, rangeL ((m : Int) - 1) (-1) m = (List.range m).reverse.map fun (k : Nat) => T.int k
  | 0 => rfl
  | m + 1 => by
    rw [List.range_succ, List.reverse_append, List.reverse_singleton, List.singleton_append, List.map_cons, ← rangeL_down m]
    show T.int (((m + 1 : Nat) : Int) - 1) :: rangeL (((m + 1 : Nat) : Int) - 1 + -1) (-1) m = _
    rw [show (((m + 1 : Nat) : Int) - 1) = (m : Int) by lia]
    rfl

theorem spell_inv (N : List Int) {r : Nat} {s : List Nat × Nat} (k : Nat) (h : (s.1.length + 1) * 2 ^ (r + 1) ≤ 64 ∧ (s.2 + 2) * 2 ^ (r + 1) ≤ 128) : ((spellStep N s k).1.length + 1) * 2 ^ r ≤ 64 ∧ ((spellStep N s k).2 + 2) * 2 ^ r ≤ 128 := by
  have ht3 : twoF (N.getD k 0) < 3 := toNat_lt (Int.emod_nonneg _ (by decide)) (Int.emod_lt_of_pos _ (by decide))
  unfold spellStep
  rw [List.length_append, List.length_append]
  obtain ⟨h1, h2⟩ := h
  rw [Nat.pow_succ] at h1 h2
  generalize 2 ^ r = p at *
  dsimp only
  constructor
  · show (s.1.length + s.1.length + 1 + 1) * p ≤ 64
    have : (s.1.length + s.1.length + 1 + 1) * p = (s.1.length + 1) * (p * 2) := by rw [Nat.mul_comm p 2, ← Nat.mul_assoc]; congr 1; lia
    lia
  · have : (2 * s.2 + twoF (N.getD k 0) + 2) * p ≤ (s.2 + 2) * (p * 2) := by
      rw [Nat.mul_comm p 2, ← Nat.mul_assoc]
      exact Nat.mul_le_mul_right _ (by lia)
    lia

section
variable {c : Cx} {n : Nat} {ρ : Rho}
theorem law_2 (hT : Top c) {S N : List Int} (hN4 : 4 ≤ N.length) (hN6 : N.length ≤ 6) (hge : ∀ x ∈ N, 0 ≤ x ∧ x < 1000000) (P : PlainA N) {o : Out}
    (h : Ex (funCx c (fnScope PW 26)) (n + 5) (lawRho2 S N) ((fnBody PW 26).drop 18) o) : Ex (funCx c (fnScope PW 26)) (n + 5) (lawRho1 S N) ((fnBody PW 26).drop 8) o := by
  have hz : (1000000 : Nat) ≤ sizeLine := by decide
  conv in (List.drop 8 _) => whnf
  have htl : (textF N).length ≤ 1000 := Nat.le_trans P.textLen (by decide)
  have hul := units_len N
  have huu : (usF N).length = (unitsF N).length + 1 := by unfold usF; rw [List.length_append]; rfl
  have hjl := P.joinLen
  have hb : bslS.length = 1 := rfl
  -- shorn
  refine Ex.cons (Ex1.assign (t := .str (joinU N)) (Ev.fn 2 hT.sub rfl rfl (.cons rfl (Ev.name (t := .str (textF N)) rfl rfl) .nil) (by simp) (by rw [← P.strip]; exact strip_ok hT.sub htl)) rfl rfl) ?_
  -- seen
  refine Ex.cons (Ex1.assign (t := placesT (usF N)) (EvN.castE (EvN.listGen (n := n + 4) rfl hT.sub.list (EvY.esc (n := n + 2) (x := joinU N ++ bslS) hT.sub rfl rfl (Ev.bin (Ev.name rfl rfl).b Ev.cstr.b (BinOk.add_str (q := bslS) (by lia)))) ?_) P.seen) rfl rfl) ?_
  · rw [P.seen, List.length_map, List.length_range]; lia
  -- the first question
  refine Ex.cons (Ex1.ite (q := false || false) (EvT.or2 (EvT.cmp (a := .str (joinU N)) (b := .str (joinU N)) (Ev.name rfl rfl).b (Ev.joinS (l := unitsF N) Ev.cstr.b (Ev.name rfl rfl).b rfl rfl rfl ?_).b ?_ rfl) (EvT.cmp (a := placesT (usF N)) (b := placesT (usF N)) (Ev.name rfl rfl).b (Ev.b (EvN.ev (EvN.fn 21 (ts := [strsT (usF N)]) hT.sub rfl rfl (.cons rfl ?_ .nil) (by simp) (places_ok (n := n + 4) hT.sub (us := usF N) (by lia) P.unitLen)))) ?_ rfl)) (fun h => by cases h) (fun _ => Ex.nil)) ?_
  · have h4 := sum_le (l := (unitsF N).map (·.length)) (k := 1000) fun y hy => by
      obtain ⟨u, hu, rfl⟩ := List.mem_map.mp hy
      exact P.unitLen u (List.mem_append_left _ hu)
    rw [List.length_map] at h4
    have h0 : ("" : Str).length = 0 := rfl
    rw [h0, Nat.mul_zero]
    lia
  · show some (!(joinU N == joinU N)) = _
    rw [beq_self_eq_true]; rfl
  · exact EvN.castE (EvN.add (a := (unitsF N).map .str) (b := [.str bslS]) (Ev.name rfl rfl).b (EvN.list (.cons rfl Ev.cstr .nil) (by show 1 ≤ sizeLine; lia)).ev.b (by rw [List.length_map]; show _ + 1 ≤ _; lia)) (by unfold usF; rw [List.map_append]; rfl)
  · show (ceq _ _).map _ = _
    rw [places_refl]; rfl
  -- row
  refine Ex.cons (Ex1.assignComp (l := (List.range (usF N).length).map (placeT (usF N))) (out := (rowF N).map .str) rfl rfl (EvI.list (Ev.name rfl rfl).b) ?_ ?_ rfl) ?_
  · refine Turns.cast (Turns.map2 (placeT (usF N)) (fun k => .str ((usF N).getD k "")) (fun k => isB ((usF N).getD k "")) rfl rfl (List.range (usF N).length) fun k hk => ⟨_, rfl, Sub.nil, ?_, fun _ => Ev.name rfl rfl⟩) rfl ?_
    · exact EvT.or2 (EvT.cmp (a := .str ((usF N).getD k "")) (b := .str "(") (Ev.name rfl rfl).b Ev.cstr.b rfl rfl) (EvT.cmp (a := .str ((usF N).getD k "")) (b := .str ")") (Ev.name rfl rfl).b Ev.cstr.b rfl rfl)
    · rw [← P.row, List.map_map]; rfl
  · rw [List.length_map]; unfold rowF; rw [List.length_map]; lia
  -- shop
  have hk3 : kindF N < 3 := by
    unfold kindF
    exact toNat_lt (Int.emod_nonneg _ (by decide)) (Int.emod_lt_of_pos _ (by decide))
  refine Ex.cons (Ex1.assignComp (l := N.map .int) (out := N.map fun x => .list ((signsF (kindF N) x).map chrT)) rfl rfl (EvI.list (Ev.name rfl rfl).b) ?_ (by rw [List.length_map]; lia) rfl) ?_
  · exact Turns.map1 T.int (fun x => .list ((signsF (kindF N) x).map chrT)) rfl rfl N fun x hx => ⟨_, rfl, Sub.one rfl, EvN.ev (EvN.fn 22 hT.sub.comp rfl rfl (.cons rfl (Ev.name rfl rfl) (.cons rfl (Ev.name rfl rfl) .nil)) (by simp) (signs_ok (n := n + 4) hT.sub.comp hk3 (hge x hx).1))⟩
  -- the second question
  refine Ex.cons (Ex1.ite (q := false) (EvT.cmp (a := .list []) (b := .list []) (EvN.ev (EvN.comp (l := N.map fun x => .list ((signsF (kindF N) x).map chrT)) (out := []) rfl rfl (EvI.list (Ev.name rfl rfl).b) ?_ (by show 0 ≤ sizeLine; lia))).b (EvN.list .nil (by show 0 ≤ sizeLine; lia)).ev.b rfl rfl) (fun h => by cases h) (fun _ => Ex.nil)) ?_
  · refine Turns.cast (Turns.items (fun x => .list ((signsF (kindF N) x).map chrT)) (fun x => []) (fun _ => true) N fun x hx => ⟨_, rfl, Sub.nil, .nil, fun _ => ?_⟩) rfl ?_
    · refine Tail.gen rfl rfl rfl (EvI.listF (l := (signsF (kindF N) x).map chrT) (Ev.name rfl rfl)) ?_
      refine Turns.cast (Turns.map2 chrT (fun q => chrT q) (fun q => !(b1S q == ((⟨#[q]⟩ : Str) == ⟨#[(signsF (kindF N) x).getD 0 0]⟩))) rfl rfl (signsF (kindF N) x) fun q hq => ⟨_, rfl, Sub.one rfl, ?_, fun _ => Ev.name rfl rfl⟩) rfl ?_
      · refine EvT.cmp (a := .bool (b1S q)) (b := .bool ((⟨#[q]⟩ : Str) == ⟨#[(signsF (kindF N) x).getD 0 0]⟩)) (Ev.fn 16 hT.sub.comp rfl rfl (.cons rfl (Ev.name rfl rfl) .nil) (by simp) (b1_ok hT.sub.comp)).b (Ev.cmp (a := chrT q) (b := chrT ((signsF (kindF N) x).getD 0 0)) (Ev.name rfl rfl).b (Ev.ix (o := .list ((signsF (kindF N) x).map chrT)) (k := .int 0) (Ev.name rfl rfl).b Ev.cint rfl rfl).b rfl rfl).b rfl rfl
      · rw [List.filter_eq_nil_iff.mpr fun q hq => by rw [P.b1 x hx q hq]; simp]; rfl
    · simp
  -- spelled, meant
  refine Ex.cons (Ex1.assign (t := .str (strL [])) (Ev.castE Ev.cstr (by rfl)) rfl rfl) ?_
  refine Ex.cons (ρ' := spellRho S N ([], 0)) (Ex1.assign (t := .int 0) Ev.cint rfl rfl) ?_
  have hrn : rangeN ((N.length : Int) - 1, -1, -1) = some N.length := by
    have : N.length = 4 ∨ N.length = 5 ∨ N.length = 6 := by lia
    rcases this with h | h | h <;> rw [h] <;> decide
  have hfin : ((spellF N).1.length + 1) * 2 ^ 0 ≤ 64 ∧ ((spellF N).2 + 2) * 2 ^ 0 ≤ 128 := by
    have key : ∀ (l : List Nat) (s : List Nat × Nat), (s.1.length + 1) * 2 ^ l.length ≤ 64 ∧ (s.2 + 2) * 2 ^ l.length ≤ 128 → ((l.foldl (spellStep N) s).1.length + 1) * 2 ^ 0 ≤ 64 ∧ ((l.foldl (spellStep N) s).2 + 2) * 2 ^ 0 ≤ 128 := by
      intro l
      induction l with
      | nil => exact fun s h => h
      | cons k l ih => exact fun s h => ih _ (spell_inv N k h)
    refine key _ _ ?_
    rw [List.length_reverse, List.length_range]
    have : 2 ^ N.length ≤ 2 ^ 6 := Nat.pow_le_pow_right (by decide) hN6
    exact ⟨by show (0 + 1) * 2 ^ N.length ≤ 64; lia, by show (0 + 2) * 2 ^ N.length ≤ 128; lia⟩
  refine Ex.cons (ρ' := spellRho S N (spellF N)) (Ex1.for (EvI.range (ts := [.int ((N.length : Int) - 1), .int (-1), .int (-1)]) (q := ((N.length : Int) - 1, -1, -1)) (m := N.length) rfl (hT.sub (sc := fnScope PW 26)).range (EachB.cons rfl (Ev.bin (Ev.name rfl rfl).b Ev.cint.b BinOk.sub_int).b (EachB.cons rfl (Ev.neg Ev.cint).b (EachB.cons rfl (Ev.neg Ev.cint).b .nil))) (by simp) rfl hrn) rfl ?_) ?_
  · show Loops _ _ _ _ _ (rangeL ((N.length : Int) - 1) (-1) N.length) _
    rw [rangeL_down]
    refine Loops.foldI (spellRho S N) (spellStep N) (fun (k : Nat) => T.int k) (fun r s => (s.1.length + 1) * 2 ^ r ≤ 64 ∧ (s.2 + 2) * 2 ^ r ≤ 128) (List.range N.length).reverse ([], 0) ?_ fun s k r hk hI => ⟨spell_inv N k hI, putAll ["k"] [.int k] (spellRho S N s), rfl, ?_⟩
    · rw [List.length_reverse, List.length_range]
      have : 2 ^ N.length ≤ 2 ^ 6 := Nat.pow_le_pow_right (by decide) hN6
      exact ⟨by show (0 + 1) * 2 ^ N.length ≤ 64; lia, by show (0 + 2) * 2 ^ N.length ≤ 128; lia⟩
    · have hkN : k < N.length := List.mem_range.mp (List.mem_reverse.mp hk)
      have hp2 : 1 ≤ 2 ^ (r + 1) := Nat.one_le_pow _ _ (by decide)
      have hs1 : s.1.length + 1 ≤ 64 := Nat.le_trans (Nat.le_mul_of_pos_right _ hp2) hI.1
      have hmem : N.getD k 0 ∈ N := by
        rw [List.getD_eq_getElem?_getD, List.getElem?_eq_getElem hkN]; exact List.getElem_mem _
      have hx0 := (hge _ hmem).1
      have hnk : ixT (intsT N) (.int k) = some (.int (N.getD k 0)) := by
        have := ix_of (l := N) (i := (k : Int)) (by lia) (by lia) (by lia)
        rwa [Int.toNat_natCast] at this
      have hsk : ixT (shopT N) (.int k) = some (.list ((signsF (kindF N) (N.getD k 0)).map chrT)) := by
        show nth (N.map _) (k : Int) = _
        rw [nth_nat _ k (by rw [List.length_map]; exact hkN) (by lia), List.getElem_map, List.getD_eq_getElem?_getD, List.getElem?_eq_getElem hkN]
        rfl
      have ht3 : twoF (N.getD k 0) < 3 := toNat_lt (Int.emod_nonneg _ (by decide)) (Int.emod_lt_of_pos _ (by decide))
      have hte : N.getD k 0 / 4212 % 3 = (twoF (N.getD k 0) : Int) := (Int.toNat_of_nonneg (Int.emod_nonneg _ (by decide))).symm
      have hxe : ∀ {ρ : Rho} {p p' p1 p2 p3 : Pos} {k1 k2 : Nat} {q1 q2 : Pos}, ρ.lookup ("nums" : Str) = some (.sh (intsT N)) → ρ.lookup ("k" : Str) = some (.sh (.int k)) →
          Ev (funCx c (fnScope PW 26)) (n + 5) ρ (.BinOp (.BinOp (.Subscript (.Name "nums" p) (.Name "k" p') p1) .FloorDiv (.Constant (.int 4212) k1 q1) p2) .Mod (.Constant (.int 3) k2 q2) p3) (.int (twoF (N.getD k 0))) := fun h1 h2 =>
        Ev.castE (Ev.bin (Ev.bin (Ev.ix (Ev.name h1 rfl).b (Ev.name h2 rfl) rfl hnk).b Ev.cint.b (BinOk.div_int (by decide) (by decide))).b Ev.cint.b (BinOk.mod_int (by decide))) (congrArg T.int hte)
      have hix : ixT (.list ((signsF (kindF N) (N.getD k 0)).map chrT)) (.int (twoF (N.getD k 0))) = some (chrT ((signsF (kindF N) (N.getD k 0)).getD (twoF (N.getD k 0)) 0)) := by
        rcases n3 _ ht3 with h | h | h <;> rw [h] <;> rfl
      refine Ex.weak (ρ' := put "meant" (.sh (.int (spellStep N s k).2)) (put "spelled" (.sh (.str (strL (spellStep N s k).1))) (putAll ["k"] [.int k] (spellRho S N s)))) (Ex.cons (Ex1.assign (t := .str (strL (spellStep N s k).1)) (Ev.castE (Ev.bin (Ev.bin (Ev.name rfl rfl).b (Ev.name rfl rfl).b (BinOk.add_str (p := strL s.1) (q := strL s.1) (by rw [strL_len]; lia))).b (Ev.ix (o := .list ((signsF (kindF N) (N.getD k 0)).map chrT)) (Ev.ix (o := shopT N) (k := .int k) (Ev.name rfl rfl).b (Ev.name rfl rfl) rfl hsk).b (hxe rfl rfl) rfl hix).b (BinOk.add_str ?_)) ?_) rfl rfl) (Ex.cons (Ex1.assign (t := .int (spellStep N s k).2) (Ev.castE (Ev.bin (Ev.bin Ev.cint.b (Ev.name (t := .int s.2) rfl rfl).b (BinOk.mul_int (by decide))).b (hxe rfl rfl).b BinOk.add_int) ?_) rfl rfl) Ex.nil)) (Sub.cons rfl (Sub.cons rfl (Sub.cons rfl (Sub.cons rfl (Sub.cons rfl (Sub.cons rfl (Sub.cons rfl (Sub.cons rfl (Sub.cons rfl (Sub.cons rfl (Sub.cons rfl (Sub.cons rfl (Sub.cons rfl (Sub.one rfl))))))))))))))
      · rw [strL_app, strL_len, List.length_append]; show _ + 1 ≤ _; lia
      · rw [strL_app]
        exact congrArg T.str (strL_app (s.1 ++ s.1) [(signsF (kindF N) (N.getD k 0)).getD (twoF (N.getD k 0)) 0])
      · unfold spellStep
        push_cast
        rfl
  -- the third question
  · have hsl : (spellF N).1.length ≤ 63 := by have := hfin.1; lia
    have hsm : (spellF N).2 ≤ 126 := by have := hfin.2; lia
    refine Ex.cons (Ex1.ite (q := false) (EvT.cmp (a := .str (prepF (spellF N).1)) (b := .str (Txt.mul ⟨#[let3 (kindF N)]⟩ (spellF N).2)) (Ev.fn 23 (ts := [.str (strL (spellF N).1)]) hT.sub rfl rfl (.cons rfl (Ev.name rfl rfl) .nil) (by simp) (prep_ok (n := n + 3) hT.sub (by lia) P.okS)).b (Ev.bin (Ev.ix (o := .str "fsk") (k := .int (kindF N)) Ev.cstr.b (Ev.name rfl rfl) rfl (let_ix _ hk3).1).b (Ev.name (t := .int (spellF N).2) rfl rfl).b (BinOk.mul_str (by show 1 ≤ 1000; decide) (by lia) (by lia))).b ?_ rfl) (fun h => by cases h) (fun _ => Ex.nil)) (Ex.pre h (Sub.cons rfl (Sub.cons rfl (Sub.cons rfl (Sub.cons rfl (Sub.cons rfl (Sub.cons rfl (Sub.cons rfl (Sub.cons rfl (Sub.cons rfl (Sub.cons rfl (Sub.cons rfl (Sub.one rfl)))))))))))))
    rw [P.spell]
    show some (!(_ == _)) = _
    rw [beq_self_eq_true]; rfl
end
end Mine
end

section
set_option autoImplicit false
set_option linter.unusedVariables false
set_option linter.unusedSimpArgs false
set_option maxRecDepth 100000
namespace Mine
open PySem PySem.Calls PyProof.Rows PySem.SeqAt PySem.Spec

/-! law: the turns over the fronts -/
noncomputable def waysW : Nat → List Int
  | 0 => [0, 1]
  | k + 1 => wideF (waysW k) [0, 1, 2] (2 ^ k)
noncomputable def openF (N : List Int) : Nat → Nat
  | 0 => 0
  | k + 1 => openF N k + (if pm (N.getD k 0) = 0 then 2 ^ k else 0)
noncomputable def closeF (N : List Int) : Nat → Nat
  | 0 => 0
  | k + 1 => closeF N k + (if pm (N.getD k 0) = 0 then 0 else 2 ^ k)
noncomputable def hiF (N : List Int) : Nat → Int
  | 0 => 0
  | k + 1 => hiF N k + (if pm (N.getD k 0) = 0 then 1 else -1)
noncomputable def heightsF (N : List Int) (k : Nat) : List Int := (List.range k).map fun i => hiF N (i + 1)
noncomputable def minZ (l : List Int) : Int := l.foldl (fun b y => if decide (y < b) then y else b) 0
noncomputable def lowF (N : List Int) (k : Nat) : Int := -(minZ (heightsF N k))
noncomputable def frontF (N : List Int) (k : Nat) : Str := Txt.join "" ((N.take k).map fun x => (pieceX x).1)
noncomputable def lineX (N : List Int) (k : Nat) : Str := Txt.mul "(" (lowF N k) ++ frontF N k ++ Txt.mul ")" (lowF N k + hiF N k)
noncomputable def linesA (N : List Int) (k : Nat) : List Str := (List.range k).map fun i => lineX N (i + 1)
/-- what a front's numbers tell -/
structure HitOk (W : List Int) (O C : Nat) (h : Int) : Prop where
  len : O + 1 < W.length ∧ C + 1 < W.length ∧ W.length ≤ 1000
  hit : ∃ m d : Nat, W.getD C 0 = m ∧ W.getD (O + 1) 0 = d ∧ m ≤ 31 ∧ d ≤ 29 ∧ (placesJ m d).Nodup ∧ (if m = 0 then W.getD O 0 else (W.getD (C + 1) 0 + d + 4 * invF (placesJ m d) - (m : Int) * m - 2) / m) = h
structure PlainB (N : List Int) : Prop where
  wlen : ∀ k < N.length, (waysW k).length ≤ 1000
  hit : ∀ k < N.length, HitOk (waysW (k + 1)) (openF N (k + 1)) (closeF N (k + 1)) (hiF N (k + 1))
  sizes : ∀ x ∈ N, (signsF (kindF N) x).map (fun q => (prepF [q]).length) = [0, 1, 2]
  ok : ∀ x ∈ N, ∀ q ∈ signsF (kindF N) x, okSign q = true
  bound : ∀ k ≤ N.length, (0 ≤ lowF N k ∧ lowF N k ≤ 6) ∧ (-6 ≤ hiF N k ∧ hiF N k ≤ 6) ∧ 0 ≤ lowF N k + hiF N k
  front : ∀ k ≤ N.length, (frontF N k).length ≤ 100

noncomputable def loopBase (N : List Int) (k : Nat) : Rho := [("nums", .sh (intsT N)), ("size", .sh (.int N.length)), ("share", .sh (.int (shareF N))), ("level", .sh (.int (levelF N))), ("text", .sh (.str (textF N))), ("row", .sh (strsT (rowF N))), ("shop", .sh (shopT N)), ("ways", .sh (intsT (waysW k))), ("opened", .sh (.int (openF N k))), ("closed", .sh (.int (closeF N k))), ("heights", .own ((heightsF N k).map .int)), ("lines", .own ((linesA N k).map .str))]
noncomputable def loopRho (N : List Int) : Nat → Rho
  | 0 => loopBase N 0
  | k + 1 => loopBase N (k + 1) ++ ([("low", .sh (.int (lowF N (k + 1))))] : Rho)

theorem minZ_eq (l : List Int) : Mine.bi "min" [.list (.int 0 :: l.map .int)] = some (.int (minZ l)) := by
  have e : ∀ l : List Int, allInts (l.map .int) = some l := by
    intro l
    induction l with
    | nil => rfl
    | cons a l ih => simp [allInts, ih]
  rw [bi_min0]
  show minT _ = _
  unfold minT
  rw [show allInts (T.int 0 :: l.map .int) = some (0 :: l) from by
    show (allInts (l.map .int)).map (0 :: ·) = _
    rw [e]; rfl]
  rfl
theorem heights_succ (N : List Int) (k : Nat) : heightsF N (k + 1) = heightsF N k ++ [hiF N (k + 1)] := by
  unfold heightsF; rw [List.range_succ, List.map_append]; rfl
theorem linesA_succ (N : List Int) (k : Nat) : linesA N (k + 1) = linesA N k ++ [lineX N (k + 1)] := by
  unfold linesA; rw [List.range_succ, List.map_append]; rfl
theorem share_ok (N : List Int) : (1 ≤ shareF N ∧ shareF N ≤ 4) ∧ (1 ≤ levelF N ∧ levelF N ≤ 4) := by
  unfold shareF levelF; lia
theorem own_is (m : Nat) (h : m < 2) : (ownS m == "(") = decide (m = 0) ∧ (ownS m == ")") = decide (m ≠ 0) := by
  have : m = 0 ∨ m = 1 := by lia
  rcases this with rfl | rfl <;> decide
theorem mulP_all : ∀ k : Nat, k < 41 → (Txt.mul "(" ((k : Int) - 20)).length ≤ 20 ∧ (Txt.mul ")" ((k : Int) - 20)).length ≤ 20 := by decide +kernel
theorem mulP_len {i : Int} (h0 : -20 ≤ i) (h1 : i ≤ 20) : (Txt.mul "(" i).length ≤ 20 ∧ (Txt.mul ")" i).length ≤ 20 := by
  have := mulP_all (i + 20).toNat (by lia)
  rwa [show (((i + 20).toNat : Nat) : Int) - 20 = i by lia] at this

section
variable {c : Cx} {n : Nat} {ρ : Rho}
theorem Loops.upto (R : Nat → Rho) {target : Expr} {body : List Stmt} : ∀ (m s : Nat), (∀ k, s ≤ k → k < s + m → ∃ ρ₁, bindT c target (.int k) (R k) = some ρ₁ ∧ Ex c n ρ₁ body (.next (R (k + 1)))) → Loops c n target body (R s) ((List.range m).map fun (i : Nat) => T.int ((s + i : Nat) : Int)) (.next (R (s + m)))
  | 0, s, _ => .nil
  | m + 1, s, h => by
    obtain ⟨ρ₁, h1, h2⟩ := h s (Nat.le_refl _) (by lia)
    have ih := Loops.upto R m (s + 1) fun k h3 h4 => h k (by lia) (by lia)
    rw [List.range_succ_eq_map, List.map_cons, List.map_map]
    refine .next h1 h2 ?_
    rw [show s + 1 + m = s + (m + 1) by lia] at ih
    have e : ((fun (i : Nat) => T.int ((s + i : Nat) : Int)) ∘ Nat.succ) = fun (i : Nat) => T.int ((s + 1 + i : Nat) : Int) := by
      funext i
      show T.int ((s + (i + 1) : Nat) : Int) = _
      congr 2; lia
    rw [e]; exact ih
noncomputable def lawLoop : List Stmt := match (fnBody PW 26)[23]? with
  | some (Stmt.For _ _ b _ _) => b
  | _ => []
set_option maxHeartbeats 4000000 in
theorem front_turn (hT : Top c) {N : List Int} (hN4 : 4 ≤ N.length) (hN6 : N.length ≤ 6) (hge : ∀ x ∈ N, 0 ≤ x ∧ x < 1000000) (P : PlainB N) {k : Nat} (hk : k < N.length) :
    Ex (funCx c (fnScope PW 26)) (n + 5) (("k", .sh (.int k)) :: loopBase N k) lawLoop (.next (loopRho N (k + 1))) := by
  have hz : (1000000 : Nat) ≤ sizeLine := by decide
  obtain ⟨⟨l1, l2, l3⟩, m, d, e1, e2, hm, hd, hnd, hh⟩ := P.hit k hk
  obtain ⟨⟨b1, b2⟩, ⟨b3, b4⟩, b5⟩ := P.bound (k + 1) (by lia)
  have hfr := P.front (k + 1) (by lia)
  have hwl := P.wlen k hk
  have hk3 : kindF N < 3 := by
    unfold kindF
    exact toNat_lt (Int.emod_nonneg _ (by decide)) (Int.emod_lt_of_pos _ (by decide))
  obtain ⟨⟨s1, s2⟩, v1, v2⟩ := share_ok N
  have hmem : N.getD k 0 ∈ N := by
    rw [List.getD_eq_getElem?_getD, List.getElem?_eq_getElem hk]; exact List.getElem_mem _
  have hp2 : pm (N.getD k 0) < 2 := (pm_lt _).1
  have hsk : ixT (shopT N) (.int k) = some (.list ((signsF (kindF N) (N.getD k 0)).map chrT)) := by
    show nth (N.map _) (k : Int) = _
    rw [nth_nat _ k (by rw [List.length_map]; exact hk) (by lia), List.getElem_map, List.getD_eq_getElem?_getD, List.getElem?_eq_getElem hk]
    rfl
  have hrk : ixT (strsT (rowF N)) (.int k) = some (.str (ownS (pm (N.getD k 0)))) := by
    show nth ((rowF N).map T.str) (k : Int) = _
    unfold rowF
    rw [nth_nat _ k (by rw [List.length_map, List.length_map]; exact hk) (by lia), List.getElem_map, List.getElem_map, List.getD_eq_getElem?_getD, List.getElem?_eq_getElem hk]
    rfl
  have hwx : ∀ i : Nat, i < (waysW (k + 1)).length → ixT (intsT (waysW (k + 1))) (.int i) = some (.int ((waysW (k + 1)).getD i 0)) := fun i hi => by
    have := ix_of (l := waysW (k + 1)) (i := (i : Int)) (by lia) (by lia) l3
    rwa [Int.toNat_natCast] at this
  have hpow : ∀ {ρ : Rho} {p1 p2 p3 : Pos} {j1 : Nat}, ρ.lookup ("k" : Str) = some (.sh (.int k)) → Ev (funCx c (fnScope PW 26)) (n + 5) ρ (.BinOp (.Constant (.int 2) j1 p1) .Pow (.Name "k" p2) p3) (.int ((2 ^ k : Nat) : Int)) := fun hl =>
    Ev.castE (Ev.bin Ev.cint.b (Ev.name hl rfl).b (BinOk.pow_int (by lia) (by lia) (by decide))) (by
      rw [Int.toNat_natCast]; exact congrArg T.int (Int.natCast_pow 2 k).symm)
  conv in lawLoop => whnf
  -- ways
  refine Ex.cons (Ex1.assign (t := intsT (waysW (k + 1))) (EvN.ev (EvN.fn 24 (ts := [intsT (waysW k), .list ([0, 1, 2].map fun (s : Nat) => T.int (s : Int)), .int ((2 ^ k : Nat) : Int)]) hT.sub rfl rfl (.cons rfl (Ev.name rfl rfl) (.cons rfl ?_ (.cons rfl (hpow rfl) .nil))) (by simp) (wide_ok (n := n + 4) hT.sub (by decide) (by
      have : 2 ^ k ≤ 2 ^ 5 := Nat.pow_le_pow_right (by decide) (by lia)
      lia) hwl))) rfl rfl) ?_
  · refine EvN.castE (EvN.comp (l := (signsF (kindF N) (N.getD k 0)).map chrT) (out := (signsF (kindF N) (N.getD k 0)).map fun q => .int ((prepF [q]).length : Nat)) rfl rfl (EvI.list (Ev.ix (Ev.name rfl rfl).b (Ev.name rfl rfl) rfl hsk).b) ?_ (by rw [List.length_map]; show 3 ≤ sizeLine; lia)) ?_
    · refine Turns.map1 chrT (fun q => .int ((prepF [q]).length : Nat)) rfl rfl (signsF (kindF N) (N.getD k 0)) fun q hq => ⟨_, rfl, Sub.nil, ?_⟩
      have hok := P.ok _ hmem q hq
      have hlen : (prepF [q]).length ≤ 1000000 := by
        have h1 := congrArg List.length (P.sizes _ hmem)
        have h2 : (prepF [q]).length ∈ (signsF (kindF N) (N.getD k 0)).map fun q => (prepF [q]).length := List.mem_map.mpr ⟨q, hq, rfl⟩
        rw [P.sizes _ hmem] at h2
        simp at h2; lia
      exact Ev.bi (r := .int ((prepF [q]).length : Nat)) hT.sub.comp rfl rfl (EachB.cons rfl (Ev.fn 23 (ts := [.str (strL [q])]) hT.sub.comp rfl rfl (.cons rfl (Ev.name rfl rfl) .nil) (by simp) (prep_ok (n := n + 3) hT.sub.comp (by simp) (by simpa using hok))).b .nil) (by simp) (bi_len (by lia)) rfl
    · have := congrArg (List.map fun (s : Nat) => T.int (s : Int)) (P.sizes _ hmem)
      rw [List.map_map] at this
      exact this
  -- opened, closed
  refine Ex.cons (Ex1.aug (a := .int (openF N k)) (b := .int (if pm (N.getD k 0) = 0 then ((2 ^ k : Nat) : Int) else 0)) (t := .int (openF N (k + 1))) rfl rfl (Ev.ifexp (q := decide (pm (N.getD k 0) = 0)) (EvT.cmp (a := .str (ownS (pm (N.getD k 0)))) (b := .str "(") (Ev.ix (Ev.name rfl rfl).b (Ev.name rfl rfl) rfl hrk).b Ev.cstr.b (by show some _ = some _; rw [(own_is _ hp2).1]) rfl) (fun h => ?_) (fun h => ?_)).b ?_ rfl) ?_
  · rw [if_pos (of_decide_eq_true h)]; exact hpow rfl
  · rw [if_neg (of_decide_eq_false h)]; exact Ev.cint
  · have := InOk.add_int (c := funCx c (fnScope PW 26)) (a := (openF N k : Int)) (b := if pm (N.getD k 0) = 0 then ((2 ^ k : Nat) : Int) else 0)
    have e : ((openF N (k + 1) : Nat) : Int) = (openF N k : Int) + (if pm (N.getD k 0) = 0 then ((2 ^ k : Nat) : Int) else 0) := by
      rw [openF]; split <;> push_cast <;> rfl
    rw [e]; exact this
  refine Ex.cons (Ex1.aug (a := .int (closeF N k)) (b := .int (if pm (N.getD k 0) = 0 then 0 else ((2 ^ k : Nat) : Int))) (t := .int (closeF N (k + 1))) rfl rfl (Ev.ifexp (q := decide (pm (N.getD k 0) ≠ 0)) (EvT.cmp (a := .str (ownS (pm (N.getD k 0)))) (b := .str ")") (Ev.ix (Ev.name rfl rfl).b (Ev.name rfl rfl) rfl hrk).b Ev.cstr.b (by show some _ = some _; rw [(own_is _ hp2).2]) rfl) (fun h => ?_) (fun h => ?_)).b ?_ rfl) ?_
  · rw [if_neg (of_decide_eq_true h)]; exact hpow rfl
  · rw [if_pos (by simpa using h)]; exact Ev.cint
  · have := InOk.add_int (c := funCx c (fnScope PW 26)) (a := (closeF N k : Int)) (b := if pm (N.getD k 0) = 0 then 0 else ((2 ^ k : Nat) : Int))
    have e : ((closeF N (k + 1) : Nat) : Int) = (closeF N k : Int) + (if pm (N.getD k 0) = 0 then 0 else ((2 ^ k : Nat) : Int)) := by
      rw [closeF]; split <;> push_cast <;> rfl
    rw [e]; exact this
  -- a, b, c, d
  generalize hO : openF N (k + 1) = O at *
  generalize hC : closeF N (k + 1) = C at *
  refine Ex.cons (Ex1.assignT (ts := [.int ((waysW (k + 1)).getD (C + 1) 0), .int ((waysW (k + 1)).getD O 0), .int m, .int d]) (xs := ["a", "b", "c", "d"]) (Ev.tup (.cons rfl (Ev.ix (Ev.name rfl rfl).b (Ev.castE (Ev.bin (Ev.name (t := .int C) rfl rfl).b Ev.cint.b BinOk.add_int) (show T.int ((C : Int) + 1) = .int ((C + 1 : Nat) : Int) by push_cast; rfl)) rfl (hwx (C + 1) l2)) (.cons rfl (Ev.ix (k := .int (O : Nat)) (Ev.name rfl rfl).b (Ev.name rfl rfl) rfl (hwx O (by lia))) (.cons rfl (Ev.ix (k := .int (C : Nat)) (Ev.name rfl rfl).b (Ev.name rfl rfl) rfl (e1 ▸ hwx C (by lia))) (.cons rfl (Ev.ix (Ev.name rfl rfl).b (Ev.castE (Ev.bin (Ev.name (t := .int O) rfl rfl).b Ev.cint.b BinOk.add_int) (show T.int ((O : Int) + 1) = .int ((O + 1 : Nat) : Int) by push_cast; rfl)) rfl (e2 ▸ hwx (O + 1) l1)) .nil)))) (by show 4 ≤ sizeLine; lia)) rfl rfl rfl rfl rfl) ?_
  generalize (waysW (k + 1)).getD (C + 1) 0 = a at *
  generalize (waysW (k + 1)).getD O 0 = b at *
  -- turned
  refine Ex.cons (Ex1.assign (t := .int (invF (placesJ m d))) (Ev.fn 25 (ts := [.int m, .int d, .int (shareF N), .int (levelF N), .int ((k : Int) + N.sum / 48)]) hT.sub rfl rfl (.cons rfl (Ev.name rfl rfl) (.cons rfl (Ev.name rfl rfl) (.cons rfl (Ev.name rfl rfl) (.cons rfl (Ev.name rfl rfl) (.cons rfl (Ev.bin (Ev.name rfl rfl).b (Ev.bin (Ev.bi (r := .int N.sum) hT.sub rfl rfl (EachB.cons rfl (Ev.name rfl rfl).b .nil) (by simp) bi_sum rfl).b Ev.cint.b (BinOk.div_int (by decide) (by decide))).b BinOk.add_int) .nil))))) (by simp) (turned_inv (n := n + 2) hT.sub ⟨s1, s2⟩ ⟨v1, v2⟩ hm hd hnd)) rfl rfl) ?_
  refine Ex.cons (Ex1.ite (q := false) (EvT.cmp (a := .int (invF (placesJ m d))) (b := .none) (Ev.name rfl rfl).b Ev.cnone.b rfl rfl) (fun h => by cases h) (fun _ => Ex.nil)) ?_
  generalize invF (placesJ m d) = tn at *
  -- heights
  have hHl : (heightsF N k).length = k := by unfold heightsF; rw [List.length_map, List.length_range]
  have hLl : (linesA N k).length = k := by unfold linesA; rw [List.length_map, List.length_range]
  refine Ex.cons (Ex1.append (l := (heightsF N k).map .int) (t := .int (hiF N (k + 1))) rfl rfl (Ev.ifexp (q := ((m : Int) == 0)) (EvT.cmp (a := .int m) (b := .int 0) (Ev.name rfl rfl).b Ev.cint.b rfl rfl) (fun h => ?_) (fun h => ?_)) rfl rfl (by rw [List.length_map]; lia)) ?_
  · have h0 : m = 0 := by have := eq_of_beq h; lia
    rw [if_pos h0] at hh
    rw [← hh]; exact Ev.name rfl rfl
  · have h0 : m ≠ 0 := fun e => by rw [e] at h; cases h
    rw [if_neg h0] at hh
    rw [← hh]
    exact Ev.bin (Ev.bin (Ev.bin (Ev.bin (Ev.bin (Ev.name rfl rfl).b (Ev.name rfl rfl).b BinOk.add_int).b (Ev.bin Ev.cint.b (Ev.name rfl rfl).b (BinOk.mul_int (by decide))).b BinOk.add_int).b (Ev.bin (Ev.name rfl rfl).b (Ev.name rfl rfl).b (BinOk.mul_int (by lia))).b BinOk.sub_int).b Ev.cint.b BinOk.sub_int).b (Ev.name rfl rfl).b (BinOk.div_int (by lia) (by lia))
  -- low
  have ehs : (heightsF N k).map T.int ++ [.int (hiF N (k + 1))] = (heightsF N (k + 1)).map .int := by rw [heights_succ, List.map_append]; rfl
  rw [ehs]
  have hHl1 : (heightsF N (k + 1)).length = k + 1 := by unfold heightsF; rw [List.length_map, List.length_range]
  refine Ex.cons (Ex1.assign (t := .int (lowF N (k + 1))) (Ev.neg (i := minZ (heightsF N (k + 1))) (Ev.bi hT.sub rfl rfl (EachB.cons rfl (EvN.add (a := [.int 0]) (b := (heightsF N (k + 1)).map .int) (EvN.list (.cons rfl Ev.cint .nil) (by show 1 ≤ sizeLine; lia)).ev.b (EvB.own rfl rfl) (by rw [List.length_map]; show 1 + _ ≤ _; lia)).ev.b .nil) (by simp) (minZ_eq _) rfl)) rfl rfl) ?_
  -- front
  refine Ex.cons (Ex1.assign (t := .str (frontF N (k + 1))) (Ev.joinS (l := (N.take (k + 1)).map fun x => (pieceX x).1) Ev.cstr.b (EvN.comp (l := (N.take (k + 1)).map .int) (out := ((N.take (k + 1)).map fun x => (pieceX x).1).map .str) rfl rfl ?_ ?_ ?_).ev.b rfl rfl rfl ?_) rfl rfl) ?_
  · have hcut : cut (N.map T.int) none (some ((k : Int) + 1)) = (N.take (k + 1)).map T.int := by
      have e : (k : Int) + 1 = ((k + 1 : Nat) : Int) := by lia
      rw [e, cut_takeM, List.map_take]
    exact hcut ▸ (EvI.list (l := cut (N.map T.int) none (some ((k : Int) + 1))) (EvN.slice (l := N.map T.int) (a := none) (b := some ((k : Int) + 1)) (Ev.name (t := intsT N) rfl rfl).b .no (.yes (Ev.bin (Ev.name rfl rfl).b Ev.cint.b BinOk.add_int)) (by rw [List.length_map]; lia)).ev.b)
  · exact Turns.cast (Turns.map1 T.int (fun x => .str (pieceX x).1) rfl rfl (N.take (k + 1)) fun x hx => ⟨_, rfl, Sub.nil, Ev.ix (o := pieceT (pieceX x)) (k := .int 0) (Ev.fn 20 hT.sub.comp rfl rfl (.cons rfl (Ev.name rfl rfl) .nil) (by simp) (piece_ok (n := n + 4) hT.sub.comp x)).b Ev.cint rfl rfl⟩) rfl (by rw [List.map_map]; rfl)
  · rw [List.length_map, List.length_map, List.length_take]; lia
  · have h4 := sum_le (l := ((N.take (k + 1)).map fun x => (pieceX x).1).map (·.length)) (k := 9) fun y hy => by
      obtain ⟨z, hz, rfl⟩ := List.mem_map.mp hy
      obtain ⟨x, hx, rfl⟩ := List.mem_map.mp hz
      exact (piece_len x).1
    rw [List.length_map, List.length_map, List.length_take] at h4
    have h0 : ("" : Str).length = 0 := rfl
    rw [h0, Nat.mul_zero]
    lia
  -- lines
  have hhk : ixT (.list ((heightsF N (k + 1)).map .int)) (.int k) = some (.int (hiF N (k + 1))) := by
    show nth ((heightsF N (k + 1)).map T.int) (k : Int) = _
    rw [nth_nat _ k (by rw [List.length_map, hHl1]; lia) (by lia), List.getElem_map]
    unfold heightsF
    rw [List.getElem_map, List.getElem_range]
  have hm1 := mulP_len (i := lowF N (k + 1)) (by lia) (by lia)
  have hm2 := mulP_len (i := lowF N (k + 1) + hiF N (k + 1)) (by lia) (by lia)
  refine Ex.cons (Ex1.append (l := (linesA N k).map .str) (t := .str (lineX N (k + 1))) rfl rfl (Ev.cat (Ev.cat (Ev.bin Ev.cstr.b (Ev.name rfl rfl).b (BinOk.mul_str (by decide) (by lia) (by lia))) (Ev.name rfl rfl) (by lia)) (Ev.bin Ev.cstr.b (Ev.bin (Ev.name rfl rfl).b (Ev.ix (EvB.own (l := (heightsF N (k + 1)).map .int) rfl rfl) (Ev.name rfl rfl) rfl hhk).b BinOk.add_int).b (BinOk.mul_str (by decide) (by lia) (by lia))) (by rw [addS_len]; lia)) rfl rfl (by rw [List.length_map]; lia)) ?_
  have els : (linesA N k).map T.str ++ [.str (lineX N (k + 1))] = (linesA N (k + 1)).map .str := by rw [linesA_succ, List.map_append]; rfl
  rw [els]
  subst hO; subst hC
  refine Ex.weak Ex.nil ?_
  exact Sub.cons rfl (Sub.cons rfl (Sub.cons rfl (Sub.cons rfl (Sub.cons rfl (Sub.cons rfl (Sub.cons rfl (Sub.cons rfl (Sub.cons rfl (Sub.cons rfl (Sub.cons rfl (Sub.cons rfl (Sub.one rfl))))))))))))
end
end Mine
end

section
set_option autoImplicit false
set_option linter.unusedVariables false
set_option linter.unusedSimpArgs false
set_option maxRecDepth 100000
namespace Mine
open PySem PySem.Calls PyProof.Rows PySem.SeqAt PySem.Spec

noncomputable def markS : Str := "\""
noncomputable def lastA (N : List Int) : Str := Txt.mul "(" (lowF N N.length) ++ textF N ++ markS ++ Txt.mul ")" (lowF N N.length + hiF N N.length)
noncomputable def wrongA (N : List Int) : Str := if lowF N N.length > 0 then Txt.mul "(" (lowF N N.length - 1) ++ textF N ++ Txt.mul ")" (lowF N N.length + hiF N N.length - 1) else textF N ++ markS ++ Txt.mul ")" (hiF N N.length + 1)
noncomputable def givenA (N : List Int) : List Str := linesA N N.length ++ [wrongA N, lastA N]
noncomputable def twiceA (N : List Int) : List Str := ["", lineX N N.length, lineX N N.length, ""]
/-- what mail finds -/
structure PlainC (N : List Int) : Prop where
  text : checkF (textF N) = (lowF N N.length == 0 && hiF N N.length == 0)
  lines : ∀ k, 1 ≤ k → k ≤ N.length → checkF (lineX N k) = true
  wrong : checkF (wrongA N) = false
  last : checkF (lastA N) = true
  empty : checkF "" = true
  textLen : (textF N).length ≤ 100

section
variable {c : Cx} {n : Nat} {ρ : Rho}
theorem eqv_strs' (n : Nat) (l : List Str) : eqv (n + 1) (.list (l.map .str)) (.list (l.map .str)) = some true := by
  refine eqv_lrefl n fun t ht => ?_
  obtain ⟨x, _, rfl⟩ := List.mem_map.mp ht
  rw [eqv_str, beq_self_eq_true]
theorem ne_strs (l : List Str) : cmpT .NotEq (.list (l.map .str)) (.list (l.map .str)) = some false := by
  show (ceq _ _).map _ = _
  rw [ceq_list, eqv_strs' 7]; rfl
theorem fronts_loop (hT : Top c) {N : List Int} (hN4 : 4 ≤ N.length) (hN6 : N.length ≤ 6) (hge : ∀ x ∈ N, 0 ≤ x ∧ x < 1000000) (P : PlainB N) {tgt : Expr} (ht : ∀ (ρ : Rho) (k : Nat), bindT (funCx c (fnScope PW 26)) tgt (.int k) ρ = some (put "k" (.sh (.int k)) ρ)) :
    Loops (funCx c (fnScope PW 26)) (n + 5) tgt lawLoop (loopBase N 0) (rangeL 0 1 N.length) (.next (loopBase N N.length ++ ([("low", .sh (.int (lowF N N.length)))] : Rho))) := by
  have := Loops.upto (c := funCx c (fnScope PW 26)) (n := n + 5) (target := tgt) (body := lawLoop) (loopRho N) N.length 0 fun k _ hk => ⟨_, ht _ k, Ex.pre (front_turn hT hN4 hN6 hge P (k := k) (by lia)) ?_⟩
  · rw [rangeL0]
    have e : (fun (i : Nat) => T.int ((0 + i : Nat) : Int)) = fun (i : Nat) => T.int i := by funext i; rw [Nat.zero_add]
    rw [e, Nat.zero_add] at this
    obtain ⟨m, hm⟩ : ∃ m, N.length = m + 1 := ⟨N.length - 1, by lia⟩
    have e2 : loopRho N N.length = loopBase N N.length ++ ([("low", .sh (.int (lowF N N.length)))] : Rho) := by rw [hm]; rfl
    rw [e2] at this
    exact this
  · cases k with
    | zero => exact Sub.cons rfl (Sub.cons rfl (Sub.cons rfl (Sub.cons rfl (Sub.cons rfl (Sub.cons rfl (Sub.cons rfl (Sub.cons rfl (Sub.cons rfl (Sub.cons rfl (Sub.cons rfl (Sub.cons rfl (Sub.one rfl))))))))))))
    | succ k => exact Sub.cons rfl (Sub.cons rfl (Sub.cons rfl (Sub.cons rfl (Sub.cons rfl (Sub.cons rfl (Sub.cons rfl (Sub.cons rfl (Sub.cons rfl (Sub.cons rfl (Sub.cons rfl (Sub.cons rfl (Sub.one rfl))))))))))))

noncomputable def tailRho (N : List Int) : Rho := [("size", .sh (.int N.length)), ("text", .sh (.str (textF N))), ("heights", .own ((heightsF N N.length).map .int)), ("lines", .own ((linesA N N.length).map .str)), ("low", .sh (.int (lowF N N.length)))]
theorem law_tail (hT : Top c) {N : List Int} (hN4 : 4 ≤ N.length) (hN6 : N.length ≤ 6) (P : PlainB N) (Q : PlainC N) :
    Ex (funCx c (fnScope PW 26)) (n + 5) (tailRho N) ((fnBody PW 26).drop 24) (.ret (.bool true) false) := by
  have hz : (1000000 : Nat) ≤ sizeLine := by decide
  obtain ⟨⟨b1, b2⟩, ⟨b3, b4⟩, b5⟩ := P.bound N.length (Nat.le_refl _)
  have htl := Q.textLen
  have hHl : (heightsF N N.length).length = N.length := by unfold heightsF; rw [List.length_map, List.length_range]
  have hLl : (linesA N N.length).length = N.length := by unfold linesA; rw [List.length_map, List.length_range]
  have hlast : ∀ {α : Type} (f : Nat → α), ((List.range N.length).map f)[N.length - 1]? = some (f (N.length - 1)) := fun f => by
    rw [List.getElem?_map, List.getElem?_range (by lia)]; rfl
  have hhk : ixT (.list ((heightsF N N.length).map .int)) (.int ((N.length : Int) - 1)) = some (.int (hiF N N.length)) := by
    have e : (N.length : Int) - 1 = ((N.length - 1 : Nat) : Int) := by lia
    rw [e]
    show nth ((heightsF N N.length).map T.int) _ = _
    rw [nth_nat _ (N.length - 1) (by rw [List.length_map, hHl]; lia) (by lia), List.getElem_map]
    unfold heightsF
    rw [List.getElem_map, List.getElem_range, show N.length - 1 + 1 = N.length by lia]
  have hlk : ∀ l : List Str, ixT (.list (((linesA N N.length) ++ l).map .str)) (.int ((N.length : Int) - 1)) = some (.str (lineX N N.length)) := fun l => by
    have e : (N.length : Int) - 1 = ((N.length - 1 : Nat) : Int) := by lia
    rw [e]
    show nth (((linesA N N.length) ++ l).map T.str) _ = _
    rw [nth_nat _ (N.length - 1) (by rw [List.length_map, List.length_append, hLl]; lia) (by lia), List.getElem_map, List.getElem_append_left (by rw [hLl]; lia)]
    unfold linesA
    rw [List.getElem_map, List.getElem_range, show N.length - 1 + 1 = N.length by lia]
  conv in (List.drop 24 _) => whnf
  -- mail's own word
  refine Ex.cons (Ex1.ite (q := false) (EvT.cmp (a := .bool (checkF (textF N))) (b := .bool (lowF N N.length == 0 && hiF N N.length == 0)) (Ev.fn 3 hT.sub rfl rfl (.cons rfl (Ev.name rfl rfl) .nil) (by simp) (check_ok (n := n + 1) hT.sub (by lia))).b (Ev.boolop ?_).b (by rw [Q.text]; cases (lowF N N.length == 0 && hiF N N.length == 0) <;> rfl) rfl) (fun h => by cases h) (fun _ => Ex.nil)) ?_
  · cases h0 : (lowF N N.length == 0) with
    | true =>
      rw [Bool.true_and]
      exact .andT (h0 ▸ Ev.cmp (a := .int (lowF N N.length)) (b := .int 0) (Ev.name rfl rfl).b Ev.cint.b rfl rfl) (.one (Ev.cmp (a := .int (hiF N N.length)) (b := .int 0) (Ev.ix (EvB.own rfl rfl) (Ev.bin (Ev.name rfl rfl).b Ev.cint.b BinOk.sub_int) rfl hhk).b Ev.cint.b rfl rfl))
    | false =>
      rw [Bool.false_and]
      exact .andF (h0 ▸ Ev.cmp (a := .int (lowF N N.length)) (b := .int 0) (Ev.name rfl rfl).b Ev.cint.b rfl rfl)
  -- two lines more
  have hm1 := mulP_len (i := lowF N N.length) (by lia) (by lia)
  have hm2 := mulP_len (i := lowF N N.length + hiF N N.length) (by lia) (by lia)
  have hm3 := mulP_len (i := lowF N N.length - 1) (by lia) (by lia)
  have hm4 := mulP_len (i := lowF N N.length + hiF N N.length - 1) (by lia) (by lia)
  have hm5 := mulP_len (i := hiF N N.length + 1) (by lia) (by lia)
  have hmk : markS.length = 1 := rfl
  refine Ex.cons (ρ' := put "lines" (.own ((linesA N N.length ++ [wrongA N]).map .str)) (tailRho N)) (Ex1.ite (q := decide (lowF N N.length > 0)) (EvT.cmp (a := .int (lowF N N.length)) (b := .int 0) (Ev.name rfl rfl).b Ev.cint.b rfl rfl) (fun h => ?_) (fun h => ?_)) ?_
  · have e : (linesA N N.length).map T.str ++ [.str (wrongA N)] = (linesA N N.length ++ [wrongA N]).map .str := by rw [List.map_append]; rfl
    rw [← e]
    refine Ex.cons (Ex1.append (l := (linesA N N.length).map .str) (t := .str (wrongA N)) rfl rfl ?_ rfl rfl (by rw [List.length_map]; lia)) Ex.nil
    unfold wrongA
    rw [if_pos (of_decide_eq_true h)]
    exact Ev.cat (Ev.cat (Ev.bin Ev.cstr.b (Ev.bin (Ev.name rfl rfl).b Ev.cint.b BinOk.sub_int).b (BinOk.mul_str (by decide) (by lia) (by lia))) (Ev.name rfl rfl) (by lia)) (Ev.bin Ev.cstr.b (Ev.bin (Ev.bin (Ev.name rfl rfl).b (Ev.ix (EvB.own rfl rfl) (Ev.bin (Ev.name rfl rfl).b Ev.cint.b BinOk.sub_int) rfl hhk).b BinOk.add_int).b Ev.cint.b BinOk.sub_int).b (BinOk.mul_str (by decide) (by lia) (by lia))) (by rw [addS_len]; lia)
  · have e : (linesA N N.length).map T.str ++ [.str (wrongA N)] = (linesA N N.length ++ [wrongA N]).map .str := by rw [List.map_append]; rfl
    rw [← e]
    refine Ex.cons (Ex1.append (l := (linesA N N.length).map .str) (t := .str (wrongA N)) rfl rfl ?_ rfl rfl (by rw [List.length_map]; lia)) Ex.nil
    unfold wrongA
    rw [if_neg (of_decide_eq_false h)]
    exact Ev.cat (Ev.cat (Ev.name rfl rfl) Ev.cstr (by show _ + markS.length ≤ _; lia)) (Ev.bin Ev.cstr.b (Ev.bin (Ev.ix (EvB.own rfl rfl) (Ev.bin (Ev.name rfl rfl).b Ev.cint.b BinOk.sub_int) rfl hhk).b Ev.cint.b BinOk.add_int).b (BinOk.mul_str (by decide) (by lia) (by lia))) (by rw [addS_len]; show _ + markS.length + _ ≤ _; lia)
  refine Ex.cons (ρ' := put "lines" (.own ((givenA N).map .str)) (put "lines" (.own ((linesA N N.length ++ [wrongA N]).map .str)) (tailRho N))) ?_ ?_
  · have e : (linesA N N.length ++ [wrongA N]).map T.str ++ [.str (lastA N)] = (givenA N).map .str := by unfold givenA; simp
    rw [← e]
    exact Ex1.append (l := (linesA N N.length ++ [wrongA N]).map .str) (t := .str (lastA N)) rfl rfl (Ev.cat (Ev.cat (Ev.cat (Ev.bin Ev.cstr.b (Ev.name rfl rfl).b (BinOk.mul_str (by decide) (by lia) (by lia))) (Ev.name rfl rfl) (by lia)) Ev.cstr (by rw [addS_len]; show _ + markS.length ≤ _; lia)) (Ev.bin Ev.cstr.b (Ev.bin (Ev.name rfl rfl).b (Ev.ix (EvB.own rfl rfl) (Ev.bin (Ev.name rfl rfl).b Ev.cint.b BinOk.sub_int) rfl hhk).b BinOk.add_int).b (BinOk.mul_str (by decide) (by lia) (by lia))) (by rw [addS_len, addS_len]; show _ + markS.length + _ ≤ _; lia)) rfl rfl (by rw [List.length_map, List.length_append, hLl]; show _ + 1 ≤ _; lia)
  -- given, kept
  have hGl : (givenA N).length = N.length + 2 := by unfold givenA; rw [List.length_append, hLl]; rfl
  have hfr := P.front
  have hGx : ∀ x ∈ givenA N, x.length ≤ 1000 := by
    intro x hx
    unfold givenA at hx
    rcases List.mem_append.mp hx with h | h
    · unfold linesA at h
      obtain ⟨i, hi, rfl⟩ := List.mem_map.mp h
      have hi' := List.mem_range.mp hi
      obtain ⟨⟨c1, c2⟩, ⟨c3, c4⟩, c5⟩ := P.bound (i + 1) (by lia)
      have k1 := mulP_len (i := lowF N (i + 1)) (by lia) (by lia)
      have k2 := mulP_len (i := lowF N (i + 1) + hiF N (i + 1)) (by lia) (by lia)
      have k3 := hfr (i + 1) (by lia)
      unfold lineX
      rw [addS_len, addS_len]; lia
    · simp only [List.mem_cons, List.not_mem_nil, or_false] at h
      rcases h with rfl | rfl
      · unfold wrongA
        split
        · rw [addS_len, addS_len]; lia
        · rw [addS_len, addS_len]; lia
      · unfold lastA
        rw [addS_len, addS_len, addS_len]; lia
  refine Ex.cons (Ex1.assign (t := .list ((givenA N).map .str)) (EvN.copy (l := (givenA N).map .str) rfl (hT.sub (sc := fnScope PW 26)).list (EvB.own rfl rfl) rfl (by rw [List.length_map]; lia)).ev rfl rfl) ?_
  have hkept : (givenA N).map preOne = linesA N N.length ++ [none2, lastA N] := by
    have p1 : preOne (wrongA N) = none2 := by unfold preOne; rw [Q.wrong]; rfl
    have p2 : preOne (lastA N) = lastA N := by unfold preOne; rw [Q.last]; rfl
    have p3 : (linesA N N.length).map preOne = linesA N N.length := by
      have : ∀ x ∈ linesA N N.length, preOne x = x := by
        intro x hx
        unfold linesA at hx
        obtain ⟨i, hi, rfl⟩ := List.mem_map.mp hx
        have hi' := List.mem_range.mp hi
        unfold preOne; rw [Q.lines (i + 1) (by lia) (by lia)]; rfl
      exact (List.map_congr_left this).trans (List.map_id' _)
    unfold givenA
    rw [List.map_append, p3, List.map_cons, List.map_cons, p1, p2]; rfl
  refine Ex.cons (Ex1.assign (t := .list ((linesA N N.length ++ [none2, lastA N]).map .str)) (EvN.castE (EvN.fn 4 (ts := [.list ((givenA N).map .str)]) hT.sub rfl rfl (.cons rfl (Ev.name rfl rfl) .nil) (by simp) (pre_ok (n := n) hT.sub (by lia) hGx)) (by rw [hkept])) rfl rfl) ?_
  have hl1 : ixT (.list ((givenA N).map .str)) (.int ((N.length : Int) + 1)) = some (.str (lastA N)) := by
    have e : (N.length : Int) + 1 = ((N.length + 1 : Nat) : Int) := by lia
    rw [e]
    show nth ((givenA N).map T.str) _ = _
    rw [nth_nat _ (N.length + 1) (by rw [List.length_map, hGl]; lia) (by lia), List.getElem_map]
    unfold givenA
    rw [List.getElem_append_right (by rw [hLl]; lia)]
    simp [hLl]
  have hcut : cut ((givenA N).map T.str) none (some (N.length : Int)) = (linesA N N.length).map T.str := by
    rw [cut_takeM, ← List.map_take]
    unfold givenA
    rw [List.take_left' hLl]
  refine Ex.cons (Ex1.ite (q := false || false) (EvT.or2 (EvT.cmp (a := .list ((linesA N N.length ++ [none2, lastA N]).map .str)) (b := .list ((linesA N N.length ++ [none2, lastA N]).map .str)) (Ev.name rfl rfl).b (EvN.castE (EvN.add (a := (linesA N N.length).map .str) (b := [.str none2, .str (lastA N)]) (EvN.castE (EvN.slice (l := (givenA N).map .str) (a := none) (b := some (N.length : Int)) (EvB.own rfl rfl) .no (.yes (Ev.name rfl rfl)) (by rw [List.length_map]; lia)) hcut).b (EvN.list (.cons rfl Ev.cstr (.cons rfl (Ev.ix (EvB.own rfl rfl) (Ev.bin (Ev.name rfl rfl).b Ev.cint.b BinOk.add_int) rfl hl1) .nil)) (by show 2 ≤ sizeLine; lia)).ev.b (by rw [List.length_map, hLl]; show _ + 2 ≤ _; lia)) (by rw [List.map_append]; rfl)).b (ne_strs _) rfl) (EvT.cmp (a := .list ((givenA N).map .str)) (b := .list ((givenA N).map .str)) (Ev.name rfl rfl).b (EvB.own rfl rfl) (ne_strs _) rfl)) (fun h => by cases h) (fun _ => Ex.nil)) ?_
  -- twice, again
  have hlk' : ixT (.list ((givenA N).map .str)) (.int ((N.length : Int) - 1)) = some (.str (lineX N N.length)) := hlk [wrongA N, lastA N]
  refine Ex.cons (Ex1.assign (t := .list ((twiceA N).map .str)) (EvN.list (.cons rfl Ev.cstr (.cons rfl (Ev.ix (EvB.own rfl rfl) (Ev.bin (Ev.name rfl rfl).b Ev.cint.b BinOk.sub_int) rfl hlk') (.cons rfl (Ev.ix (EvB.own rfl rfl) (Ev.bin (Ev.name rfl rfl).b Ev.cint.b BinOk.sub_int) rfl hlk') (.cons rfl Ev.cstr .nil)))) (by show 4 ≤ sizeLine; lia)).ev rfl rfl) ?_
  have hlX : (lineX N N.length).length ≤ 1000 := by
    have k3 := hfr N.length (Nat.le_refl _)
    unfold lineX
    rw [addS_len, addS_len]; lia
  have hag : (twiceA N).map preOne = twiceA N := by
    have p1 : preOne (lineX N N.length) = lineX N N.length := by unfold preOne; rw [Q.lines _ (by lia) (Nat.le_refl _)]; rfl
    have p2 : preOne "" = "" := by unfold preOne; rw [Q.empty]; rfl
    unfold twiceA
    simp only [List.map_cons, List.map_nil, p1, p2]
  refine Ex.cons (Ex1.assignOwn (l := (twiceA N).map .str) (EvN.cast (EvN.fn 4 (ts := [.list ((twiceA N).map .str)]) hT.sub rfl rfl (.cons rfl (Ev.name rfl rfl) .nil) (by simp) (pre_ok (n := n) hT.sub (by show 4 ≤ 100000; lia) ?_)) (by rw [hag])) rfl rfl) ?_
  · intro x hx
    unfold twiceA at hx
    simp only [List.mem_cons, List.not_mem_nil, or_false] at hx
    have h0 : ("" : Str).length = 0 := rfl
    rcases hx with rfl | rfl | rfl | rfl <;> lia
  refine Ex.cons (Ex1.ite (q := false || false) (EvT.or2 (EvT.cmp (a := .list ((twiceA N).map .str)) (b := .list ((twiceA N).map .str)) (EvB.own rfl rfl) (Ev.name rfl rfl).b (ne_strs _) rfl) (EvT.cmp (a := .list (([] : List Str).map .str)) (b := .list (([] : List Str).map .str)) (EvN.fn 4 (ts := [.list (([] : List Str).map .str)]) hT.sub rfl rfl (.cons rfl (EvN.list .nil (by show 0 ≤ sizeLine; lia)).ev .nil) (by simp) (pre_ok (n := n) (l := []) hT.sub (by show 0 ≤ 100000; lia) (by simp))).ev.b (EvN.list .nil (by show 0 ≤ sizeLine; lia)).ev.b (ne_strs _) rfl)) (fun h => by cases h) (fun _ => Ex.nil)) ?_
  refine Ex.cons (Ex1.append (l := (twiceA N).map .str) (t := .str (textF N)) rfl rfl (Ev.name rfl rfl) rfl rfl (by show 4 ≤ sizeLine; lia)) ?_
  refine Ex.ret (Ex1.ret (Ev.cmp (a := .int 4) (b := .int 4) (Ev.bi (r := .int 4) hT.sub rfl rfl (EachB.cons rfl (Ev.name (t := .list ((twiceA N).map .str)) rfl rfl).b .nil) (by simp) (bi_lenL (l := (twiceA N).map .str) (by show 4 ≤ 16777216; lia)) rfl).b Ev.cint.b rfl rfl))
end
end Mine
end

section
set_option autoImplicit false
set_option linter.unusedVariables false
set_option linter.unusedSimpArgs false
set_option maxRecDepth 100000
namespace Mine
open PySem PySem.Calls PyProof.Rows PySem.SeqAt PySem.Spec

/-- what the plain law has to show of the numbers -/
structure PlainN (N : List Int) : Prop where
  a : PlainA N
  b : PlainB N
  c : PlainC N
section
variable {c : Cx} {n : Nat} {ρ : Rho}
theorem law_3 (hT : Top c) {S N : List Int} (hN4 : 4 ≤ N.length) (hN6 : N.length ≤ 6) (hge : ∀ x ∈ N, 0 ≤ x ∧ x < 1000000) (P : PlainN N) :
    Ex (funCx c (fnScope PW 26)) (n + 5) (lawRho2 S N) ((fnBody PW 26).drop 18) (.ret (.bool true) false) := by
  have hz : (1000000 : Nat) ≤ sizeLine := by decide
  have tail := law_tail (n := n) hT hN4 hN6 P.b P.c
  conv at tail in (List.drop 24 _) => whnf
  conv in (List.drop 18 _) => whnf
  refine Ex.cons (Ex1.assign (t := intsT (waysW 0)) (EvN.list (.cons rfl Ev.cint (.cons rfl Ev.cint .nil)) (by show 2 ≤ sizeLine; lia)).ev rfl rfl) ?_
  refine Ex.cons (Ex1.assign (t := .int (openF N 0)) Ev.cint rfl rfl) ?_
  refine Ex.cons (Ex1.assign (t := .int (closeF N 0)) Ev.cint rfl rfl) ?_
  refine Ex.cons (Ex1.assignOwn (l := (heightsF N 0).map .int) (EvN.list .nil (by show 0 ≤ sizeLine; lia)) rfl rfl) ?_
  refine Ex.cons (Ex1.assignOwn (l := (linesA N 0).map .str) (EvN.list .nil (by show 0 ≤ sizeLine; lia)) rfl rfl) ?_
  refine Ex.cons (ρ' := loopBase N N.length ++ ([("low", .sh (.int (lowF N N.length)))] : Rho)) (Ex1.pre (ρ' := loopBase N 0) (Ex1.for (EvI.range (ts := [.int N.length]) (q := (0, (N.length : Int), 1)) (m := N.length) rfl (hT.sub (sc := fnScope PW 26)).range (EachB.cons rfl (Ev.name rfl rfl).b .nil) (by simp) rfl (rangeN_nat (by lia))) rfl (fronts_loop hT hN4 hN6 hge P.b fun ρ k => rfl)) ?_) (Ex.pre tail ?_)
  · exact Sub.cons rfl (Sub.cons rfl (Sub.cons rfl (Sub.cons rfl (Sub.cons rfl (Sub.cons rfl (Sub.cons rfl (Sub.cons rfl (Sub.cons rfl (Sub.cons rfl (Sub.cons rfl (Sub.one rfl)))))))))))
  · exact Sub.cons rfl (Sub.cons rfl (Sub.cons rfl (Sub.cons rfl (Sub.one rfl))))
theorem law_ok (hT : Top c) (hP : ∀ N : List Int, 4 ≤ N.length → N.length ≤ 6 → (∀ x ∈ N, 0 ≤ x ∧ x < 1000000) → PlainN N) {S : List Int} (hS : S.length ≤ 63) : FnV c (n + 6) 26 [.list (S.map .int)] (.bool true) := fun a hf => by
  refine FOk.of (n := n + 5) (xs := ["script"]) hf ?_ ?_
  · exact .one fun _ _ _ _ _ _ _ _ _ _ _ _ _ => rfl
  · obtain ⟨h4, h6⟩ := nums_len S
    have hge := nums_ge S
    have P := hP (numsF S) h4 h6 hge
    exact law_1 hT hS (law_2 hT h4 h6 hge P.a (law_3 hT h4 h6 hge P))
end
end Mine
end

section
set_option autoImplicit false
set_option linter.unusedVariables false
set_option linter.unusedSimpArgs false
set_option maxRecDepth 100000
namespace Mine
open PySem

/-! the heights: Stern's numbers and the inversions, for each front -/
noncomputable def netN : Nat → Nat → Int
  | 0, _ => 0
  | k + 1, o => netN k (o % 2 ^ k) + (if o / 2 ^ k % 2 = 1 then 1 else -1)
noncomputable def nodupZ : List Int → Bool
  | [] => true
  | x :: l => !(l.contains x) && nodupZ l
theorem nodupZ_ok : ∀ {l : List Int}, nodupZ l = true → l.Nodup
  | [], _ => List.nodup_nil
  | x :: l, h => by
    unfold nodupZ at h
    simp only [Bool.and_eq_true, Bool.not_eq_true', List.contains_eq_mem, decide_eq_false_iff_not] at h
    exact List.nodup_cons.mpr ⟨h.1, nodupZ_ok h.2⟩
noncomputable def hitB (W : List Int) (O C : Nat) (h : Int) : Bool :=
  decide (O + 1 < W.length) && decide (C + 1 < W.length) && decide (0 ≤ W.getD C 0) && decide (W.getD C 0 ≤ 31) && decide (0 ≤ W.getD (O + 1) 0) && decide (W.getD (O + 1) 0 ≤ 29) && nodupZ (placesJ (W.getD C 0).toNat (W.getD (O + 1) 0).toNat) &&
    ((if (W.getD C 0).toNat = 0 then W.getD O 0 else (W.getD (C + 1) 0 + W.getD (O + 1) 0 + 4 * invF (placesJ (W.getD C 0).toNat (W.getD (O + 1) 0).toNat) - W.getD C 0 * W.getD C 0 - 2) / W.getD C 0) == h)
theorem hitB_ok {W : List Int} {O C : Nat} {h : Int} (hw : W.length ≤ 1000) (x : hitB W O C h = true) : HitOk W O C h := by
  unfold hitB at x
  simp only [Bool.and_eq_true, decide_eq_true_eq, beq_iff_eq] at x
  obtain ⟨⟨⟨⟨⟨⟨⟨x1, x2⟩, x3⟩, x4⟩, x5⟩, x6⟩, x7⟩, x8⟩ := x
  refine ⟨⟨x1, x2, hw⟩, (W.getD C 0).toNat, (W.getD (O + 1) 0).toNat, by lia, by lia, by lia, by lia, nodupZ_ok x7, ?_⟩
  rw [show ((W.getD C 0).toNat : Int) = W.getD C 0 by lia, show ((W.getD (O + 1) 0).toNat : Int) = W.getD (O + 1) 0 by lia]
  exact x8
noncomputable def hitK (W : List Int) (k : Nat) : Bool := decide (W.length ≤ 1000) && (List.range (2 ^ k)).all fun o => hitB W o (2 ^ k - 1 - o) (netN k o)
noncomputable def W1 : List Int := [0, 1, 1, 1]
noncomputable def W2 : List Int := [0, 1, 1, 2, 1, 2, 1, 1]
noncomputable def W3 : List Int := [0, 1, 1, 2, 1, 3, 2, 3, 1, 3, 2, 3, 1, 2, 1, 1]
noncomputable def W4 : List Int := [0, 1, 1, 2, 1, 3, 2, 3, 1, 4, 3, 5, 2, 5, 3, 4, 1, 4, 3, 5, 2, 5, 3, 4, 1, 3, 2, 3, 1, 2, 1, 1]
noncomputable def W5 : List Int := [0, 1, 1, 2, 1, 3, 2, 3, 1, 4, 3, 5, 2, 5, 3, 4, 1, 5, 4, 7, 3, 8, 5, 7, 2, 7, 5, 8, 3, 7, 4, 5, 1, 5, 4, 7, 3, 8, 5, 7, 2, 7, 5, 8, 3, 7, 4, 5, 1, 4, 3, 5, 2, 5, 3, 4, 1, 3, 2, 3, 1, 2, 1, 1]
noncomputable def W6 : List Int := [0, 1, 1, 2, 1, 3, 2, 3, 1, 4, 3, 5, 2, 5, 3, 4, 1, 5, 4, 7, 3, 8, 5, 7, 2, 7, 5, 8, 3, 7, 4, 5, 1, 6, 5, 9, 4, 11, 7, 10, 3, 11, 8, 13, 5, 12, 7, 9, 2, 9, 7, 12, 5, 13, 8, 11, 3, 10, 7, 11, 4, 9, 5, 6, 1, 6, 5, 9, 4, 11, 7, 10, 3, 11, 8, 13, 5, 12, 7, 9, 2, 9, 7, 12, 5, 13, 8, 11, 3, 10, 7, 11, 4, 9, 5, 6, 1, 5, 4, 7, 3, 8, 5, 7, 2, 7, 5, 8, 3, 7, 4, 5, 1, 4, 3, 5, 2, 5, 3, 4, 1, 3, 2, 3, 1, 2, 1, 1]
theorem w1 : waysW 1 = W1 := by decide +kernel
theorem w2 : waysW 2 = W2 := by
  show wideF (waysW 1) [0, 1, 2] (2 ^ 1) = W2
  rw [w1]; decide +kernel
theorem w3 : waysW 3 = W3 := by
  show wideF (waysW 2) [0, 1, 2] (2 ^ 2) = W3
  rw [w2]; decide +kernel
theorem w4 : waysW 4 = W4 := by
  show wideF (waysW 3) [0, 1, 2] (2 ^ 3) = W4
  rw [w3]; decide +kernel
theorem w5 : waysW 5 = W5 := by
  show wideF (waysW 4) [0, 1, 2] (2 ^ 4) = W5
  rw [w4]; decide +kernel
theorem w6 : waysW 6 = W6 := by
  show wideF (waysW 5) [0, 1, 2] (2 ^ 5) = W6
  rw [w5]; decide +kernel
theorem hit_all : ∀ k < 6, hitK (waysW (k + 1)) (k + 1) = true := by
  intro k hk
  have : k = 0 ∨ k = 1 ∨ k = 2 ∨ k = 3 ∨ k = 4 ∨ k = 5 := by lia
  rcases this with rfl | rfl | rfl | rfl | rfl | rfl
  · rw [w1]; decide +kernel
  · rw [w2]; decide +kernel
  · rw [w3]; decide +kernel
  · rw [w4]; decide +kernel
  · rw [w5]; decide +kernel
  · rw [w6]; decide +kernel
theorem open_close (N : List Int) : ∀ k, openF N k + closeF N k = 2 ^ k - 1 ∧ openF N k < 2 ^ k
  | 0 => ⟨rfl, by show 0 < 1; decide⟩
  | k + 1 => by
    obtain ⟨h1, h2⟩ := open_close N k
    rw [openF, closeF, Nat.pow_succ]
    have : 0 < 2 ^ k := Nat.two_pow_pos k
    split <;> lia
theorem net_high (N : List Int) : ∀ k, hiF N k = netN k (openF N k)
  | 0 => rfl
  | k + 1 => by
    have h2 := (open_close N k).2
    rw [hiF, netN, openF, net_high N k]
    have hp : 0 < 2 ^ k := Nat.two_pow_pos k
    split
    · rw [Nat.add_mod_right, Nat.mod_eq_of_lt h2, Nat.add_div_right _ hp, Nat.div_eq_of_lt h2]; rfl
    · rw [Nat.add_zero, Nat.mod_eq_of_lt h2, Nat.div_eq_of_lt h2]; rfl
theorem hit_ok {N : List Int} {k : Nat} (hk : k < 6) : HitOk (waysW (k + 1)) (openF N (k + 1)) (closeF N (k + 1)) (hiF N (k + 1)) := by
  have h := hit_all k hk
  unfold hitK at h
  simp only [Bool.and_eq_true, decide_eq_true_eq] at h
  obtain ⟨h1, h2⟩ := open_close N (k + 1)
  have := List.all_eq_true.mp h.2 (openF N (k + 1)) (List.mem_range.mpr h2)
  rw [show 2 ^ (k + 1) - 1 - openF N (k + 1) = closeF N (k + 1) by lia] at this
  rw [net_high]
  exact hitB_ok h.1 this
theorem ways_len : ∀ k ≤ 6, (waysW k).length ≤ 1000 := by
  intro k hk
  have : k = 0 ∨ k = 1 ∨ k = 2 ∨ k = 3 ∨ k = 4 ∨ k = 5 ∨ k = 6 := by lia
  rcases this with rfl | rfl | rfl | rfl | rfl | rfl | rfl
  · decide
  · rw [w1]; decide
  · rw [w2]; decide
  · rw [w3]; decide
  · rw [w4]; decide
  · rw [w5]; decide +kernel
  · rw [w6]; decide +kernel
theorem low_step (N : List Int) (k : Nat) : lowF N (k + 1) = (if -(hiF N (k + 1)) ≤ lowF N k then lowF N k else -(hiF N (k + 1))) := by
  unfold lowF
  rw [heights_succ]
  unfold minZ
  rw [List.foldl_append, List.foldl_cons, List.foldl_nil]
  generalize (heightsF N k).foldl _ (0 : Int) = m
  by_cases h : hiF N (k + 1) < m
  · rw [if_pos (decide_eq_true h), if_neg (by lia)]
  · rw [if_neg (by simpa using h), if_pos (by lia)]
theorem low_bound (N : List Int) : ∀ k : Nat, (0 ≤ lowF N k ∧ lowF N k ≤ k) ∧ (-(k : Int) ≤ hiF N k ∧ hiF N k ≤ k) ∧ 0 ≤ lowF N k + hiF N k
  | 0 => by
    have h1 : lowF N 0 = 0 := rfl
    have h2 : hiF N 0 = 0 := rfl
    rw [h1, h2]; decide
  | k + 1 => by
    obtain ⟨⟨h1, h2⟩, ⟨h3, h4⟩, h5⟩ := low_bound N k
    rw [low_step]
    have h6 : hiF N (k + 1) = hiF N k + 1 ∨ hiF N (k + 1) = hiF N k - 1 := by
      rw [hiF]; split
      · exact .inl rfl
      · exact .inr (by lia)
    split <;> lia
end Mine
end

section
set_option autoImplicit false
set_option linter.unusedVariables false
set_option linter.unusedSimpArgs false
namespace Mine
open PySem PySem.Calls PyProof.Rows PySem.SeqAt PySem.Spec

/-! mail's brackets, told by one pass over the signs -/
/-- the units' texts -/
noncomputable def unitsP : List Nat → Bool → List (List Nat)
  | [], e => if e then [[92]] else []
  | c :: r, true => [92, c] :: unitsP r false
  | c :: r, false => if c = 92 then unitsP r true else [c] :: unitsP r false
/-- what stands outside of marks -/
noncomputable def keepP : List Nat → Bool → Bool → List Nat
  | [], e, q => if e && !q then [92] else []
  | c :: r, true, q => (if q then [] else [92, c]) ++ keepP r false q
  | c :: r, false, q => if c = 92 then keepP r true q else if c = 34 then keepP r false (!q) else (if q then [] else [c]) ++ keepP r false q
/-- the state behind: a backslash waits, a mark is open -/
noncomputable def endP : List Nat → Bool → Bool → Bool × Bool
  | [], e, q => (e, q)
  | _ :: r, true, q => endP r false q
  | c :: r, false, q => if c = 92 then endP r true q else if c = 34 then endP r false (!q) else endP r false q
noncomputable def scanP : List Nat → Bool → Bool → Int → Option Int
  | [], _, _, o => some o
  | _ :: r, true, q, o => scanP r false q o
  | c :: r, false, q, o => if c = 92 then scanP r true q o else if c = 34 then scanP r false (!q) o else if q then scanP r false q o
      else if c = 40 then scanP r false q (o + 1) else if c = 41 then (if o - 1 < 0 then none else scanP r false q (o - 1)) else scanP r false q o
noncomputable def netP : List Nat → Bool → Bool → Int
  | [], _, _ => 0
  | _ :: r, true, q => netP r false q
  | c :: r, false, q => if c = 92 then netP r true q else if c = 34 then netP r false (!q) else if q then netP r false q
      else if c = 40 then 1 + netP r false q else if c = 41 then netP r false q - 1 else netP r false q
noncomputable def stepU (o : Int) (u : List Nat) : Option Int := if u = [40] then some (o + 1) else if u = [41] then (if o - 1 < 0 then none else some (o - 1)) else some o

theorem esc_units : ∀ (l : List Nat) (j : Int) (e : Bool) (q : Int), (escP l j e q).map (·.2) = (unitsP l e).map fun u => (⟨u.toArray⟩ : Str)
  | [], j, e, q => by cases e <;> rfl
  | c :: r, j, true, q => by
    rw [escP, unitsP, List.map_cons, List.map_cons, esc_units r]
    rfl
  | c :: r, j, false, q => by
    have hc : ((⟨#[c]⟩ : Str) == bsl) = decide (c = 92) := by
      by_cases h : c = 92
      · subst h; decide
      · rw [decide_eq_false h]
        refine beq_eq_false_iff_ne.mpr fun e => h ?_
        have : (⟨#[c]⟩ : Str) = ⟨#[92]⟩ := e.trans (by decide)
        simpa using this
    rw [escP, unitsP, hc]
    by_cases h : c = 92
    · simp only [h, decide_true, if_true]
      exact esc_units r _ _ _
    · simp only [h, decide_false, Bool.false_eq_true, if_false, List.map_cons, esc_units r]

theorem units_keep : ∀ (l : List Nat) (e q : Bool) (o : Int), (unitsP (keepP l e q) false).foldlM stepU o = scanP l e q o
  | [], e, q, o => by cases e <;> cases q <;> rfl
  | c :: r, true, q, o => by
    rw [keepP, scanP]
    cases q with
    | true => simp only [if_true, List.nil_append]; exact units_keep r false true o
    | false =>
      simp only [Bool.false_eq_true, if_false, List.cons_append, List.nil_append]
      rw [unitsP, if_pos rfl, unitsP, List.foldlM_cons]
      have : stepU o [92, c] = some o := by simp [stepU]
      rw [this]
      exact units_keep r false false o
  | c :: r, false, q, o => by
    rw [keepP, scanP]
    by_cases h : c = 92
    · simp only [h, if_true]; exact units_keep r true q o
    · by_cases h2 : c = 34
      · simp only [h2, if_true]
        rw [if_neg (by decide), if_neg (by decide)]
        exact units_keep r false (!q) o
      · simp only [h, h2, if_false]
        cases q with
        | true => simp only [if_true, List.nil_append]; exact units_keep r false true o
        | false =>
          simp only [Bool.false_eq_true, if_false, List.cons_append, List.nil_append]
          rw [unitsP, if_neg h, List.foldlM_cons]
          by_cases h3 : c = 40
          · subst h3
            simp only [stepU, if_true]
            exact units_keep r false false (o + 1)
          · by_cases h4 : c = 41
            · subst h4
              simp only [stepU]
              rw [if_neg (by decide), if_pos trivial]
              simp only [Nat.reduceEqDiff, if_false]
              by_cases h5 : o - 1 < 0
              · simp only [h5, if_true]; rfl
              · simp only [h5, if_false]
                exact units_keep r false false (o - 1)
            · have : stepU o [c] = some o := by simp [stepU, h3, h4]
              rw [this]
              simp only [h3, h4, if_false]
              exact units_keep r false false o

theorem check_fold (l : List (Int × Str)) (us : List (List Nat)) (h : l.map (·.2) = us.map fun u => (⟨u.toArray⟩ : Str)) (o : Int) : l.foldlM checkStep o = us.foldlM stepU o := by
  induction l generalizing us o with
  | nil =>
    cases us with
    | nil => rfl
    | cons _ _ => cases h
  | cons p l ih =>
    cases us with
    | nil => cases h
    | cons u us =>
      rw [List.map_cons, List.map_cons, List.cons.injEq] at h
      rw [List.foldlM_cons, List.foldlM_cons]
      have e : checkStep o p = stepU o u := by
        unfold checkStep stepU
        rw [h.1]
        have h1 : (((⟨u.toArray⟩ : Str) == "(") = true) ↔ u = [40] := by
          rw [beq_iff_eq]
          constructor
          · intro e
            have : (⟨u.toArray⟩ : Str) = ⟨#[40]⟩ := e.trans (by decide)
            have := congrArg (fun x : Str => x.cps.toList) this
            simpa using this
          · rintro rfl; decide
        have h2 : (((⟨u.toArray⟩ : Str) == ")") = true) ↔ u = [41] := by
          rw [beq_iff_eq]
          constructor
          · intro e
            have : (⟨u.toArray⟩ : Str) = ⟨#[41]⟩ := e.trans (by decide)
            have := congrArg (fun x : Str => x.cps.toList) this
            simpa using this
          · rintro rfl; decide
        simp only [h1, h2]
      rw [e]
      cases stepU o u with
      | none => rfl
      | some o' => exact ih us h.2 o'

theorem checkF_kept {x : Str} {k : List Nat} (h : stripF x = ⟨k.toArray⟩) : checkF x = (match (unitsP k false).foldlM stepU 0 with | some o => o == 0 | none => false) := by
  unfold checkF
  rw [h, check_fold _ (unitsP k false) (by unfold esc; exact esc_units k 0 false 0) 0]
  all_goals (cases (unitsP k false).foldlM stepU 0 <;> rfl)
end Mine
end

section
set_option autoImplicit false
set_option linter.unusedVariables false
set_option linter.unusedSimpArgs false
namespace Mine
open PySem PySem.Calls PyProof.Rows PySem.SeqAt PySem.Spec

theorem str_ext {x y : Str} (h : x.cps.toList = y.cps.toList) : x = y := by
  obtain ⟨a⟩ := x; obtain ⟨b⟩ := y
  congr
  exact Array.toList_inj.mp h
theorem slice_idx {x : Str} {idx : List Nat} {a b : Nat} (h : idx = (List.range (b - a)).map (a + ·)) (hab : a ≤ b) (hb : b ≤ x.length) :
    (if ((1 : Int) == 1 && idx.length == x.length) = true then x else ⟨(idx.filterMap (x.cps[·]?)).toArray⟩ : Str).cps.toList = (x.cps.toList.drop a).take (b - a) := by
  subst h
  have hl : x.cps.toList.length = x.length := by simp [Str.length]
  split
  · rename_i hc
    simp only [beq_self_eq_true, Bool.true_and, beq_iff_eq, List.length_map, List.length_range] at hc
    have ha : a = 0 := by lia
    subst ha
    rw [List.drop_zero, List.take_of_length_le (by lia)]
  · rw [List.toList_toArray]
    exact pick_run x.cps a (b - a)
theorem slice_mid {x : Str} {a b : Nat} (hab : a ≤ b) (hb : b ≤ x.length) : (Txt.slice x (some (a : Int)) (some (b : Int))).cps.toList = (x.cps.toList.drop a).take (b - a) := by
  unfold Txt.slice
  refine slice_idx ?_ hab hb
  unfold Builtin.Str.strSliceIndices
  simp only [show (1 : Int) > 0 by decide, if_true]
  rw [← sliceRange_one]
  congr 1
  · rw [if_neg (by lia)]; lia
  · rw [if_neg (by lia)]; lia
theorem slice_end {x : Str} {a : Nat} (ha : a ≤ x.length) : (Txt.slice x (some (a : Int)) none).cps.toList = x.cps.toList.drop a := by
  have hl : x.cps.toList.length = x.length := by simp [Str.length]
  have : (Txt.slice x (some (a : Int)) none).cps.toList = (x.cps.toList.drop a).take (x.length - a) := by
    unfold Txt.slice
    refine slice_idx ?_ ha (Nat.le_refl _)
    unfold Builtin.Str.strSliceIndices
    simp only [show (1 : Int) > 0 by decide, if_true]
    rw [← sliceRange_one]
    congr 1
    rw [if_neg (by lia)]; lia
  rw [this, List.take_of_length_le (by rw [List.length_drop]; lia)]

noncomputable def flatS (res : List Str) : List Nat := (res.map fun y => y.cps.toList).flatten
theorem join_flat : ∀ res : List Str, (Txt.join "" res).cps.toList = flatS res := by
  intro res
  have h : Txt.join "" res = Str.join "" res := StrLaws.glued_eq_join "" res
  rw [h]
  induction res with
  | nil => rfl
  | cons y r ih =>
    cases r with
    | nil => simp [Str.join, flatS]
    | cons z r =>
      have h2 := ih (StrLaws.glued_eq_join "" _)
      show (y.cps ++ ("" : Str).cps ++ (Str.join "" (z :: r)).cps).toList = _
      have e0 : ("" : Str).cps.toList = [] := by decide
      rw [Array.toList_append, Array.toList_append, e0, List.append_nil, h2]
      simp [flatS]
theorem flat_app1 (res : List Str) (y : Str) : flatS (res ++ [y]) = flatS res ++ y.cps.toList := by simp [flatS]

theorem isDq (u : List Nat) : ((⟨u.toArray⟩ : Str) == dq) = decide (u = [34]) := by
  by_cases h : u = [34]
  · subst h; decide
  · rw [decide_eq_false h]
    refine beq_eq_false_iff_ne.mpr fun e => h ?_
    have : (⟨u.toArray⟩ : Str) = ⟨#[34]⟩ := e.trans (by decide)
    have := congrArg (fun x : Str => x.cps.toList) this
    simpa using this

/-- where the strip stands: what it has kept is K; b is the bound up to which whole units are read -/
noncomputable def StripAt (x : Str) (b : Nat) (q : Bool) (K : List Nat) (s : Int × Option Int × List Str) : Prop :=
  ∃ st : Nat, s.1 = (st : Int) ∧ (match q with
    | false => s.2.1 = none ∧ st ≤ b ∧ flatS s.2.2 ++ (x.cps.toList.drop st).take (b - st) = K
    | true => ∃ o : Nat, s.2.1 = some (o : Int) ∧ st ≤ o ∧ o < b ∧ flatS s.2.2 ++ (x.cps.toList.drop st).take (o - st) = K)

theorem strip_more {x : Str} {b c : Nat} {K us : List Nat} {q : Bool} {s : Int × Option Int × List Str} (h : StripAt x b q K s) (hbc : b ≤ c) (hu : (x.cps.toList.drop b).take (c - b) = us) : StripAt x c q (if q then K else K ++ us) s := by
  obtain ⟨st, h1, h2⟩ := h
  refine ⟨st, h1, ?_⟩
  cases q with
  | false =>
    obtain ⟨h2, h3, h4⟩ := h2
    refine ⟨h2, by lia, ?_⟩
    simp only [Bool.false_eq_true, if_false]
    rw [← h4, ← hu, List.append_assoc]
    congr 1
    have e : c - st = (b - st) + (c - b) := by lia
    rw [e, List.take_add, List.drop_drop]
    congr 3
    lia
  | true =>
    obtain ⟨o, h2, h3, h4, h5⟩ := h2
    exact ⟨o, h2, h3, by lia, h5⟩

theorem strip_scan {x : Str} : ∀ (r : List Nat) (j : Nat) (e q : Bool) (b : Nat) (K : List Nat) (s : Int × Option Int × List Str) (qq : Int), x.cps.toList.drop j = r → j ≤ x.length → (if e then b + 1 = j ∧ x.cps.toList[b]? = some 92 else b = j) → StripAt x b q K s → (endP r e q).2 = false →
    StripAt x x.length false (K ++ keepP r e q) ((escP r j e qq).foldl (stripStep x) s)
  | [], j, e, q, b, K, s, qq, hr, hj, hb, hs, hq => by
    have hl : x.cps.toList.length = x.length := by simp [Str.length]
    have hlen : x.length ≤ j := by
      have := congrArg List.length hr
      rw [List.length_drop, hl] at this
      simp at this; lia
    have hjl : j = x.length := by lia
    obtain rfl : q = false := hq
    cases e with
    | false =>
      simp only [Bool.false_eq_true, if_false] at hb
      subst hb
      subst hjl
      simpa [escP, keepP] using hs
    | true =>
      simp only [if_true] at hb
      obtain ⟨hb, hch⟩ := hb
      have hne : (bsl == dq) = false := by decide
      have e1 : (escP [] j true qq).foldl (stripStep x) s = s := by
        simp [escP, stripStep, hne]
      rw [e1]
      have hu : (x.cps.toList.drop b).take (x.length - b) = [92] := by
        have hlt : b < x.cps.toList.length := by lia
        rw [List.drop_eq_getElem_cons hlt, List.getElem?_eq_getElem hlt] at *
        have : x.length - b = 1 := by lia
        rw [this]
        simp at hch ⊢
        exact hch
      exact strip_more hs (by lia) hu
  | c :: r, j, e, q, b, K, s, qq, hr, hj, hb, hs, hq => by
    have hl : x.cps.toList.length = x.length := by simp [Str.length]
    have hjlt : j < x.cps.toList.length := by
      have := congrArg List.length hr
      rw [List.length_drop, List.length_cons] at this
      lia
    have hcj : x.cps.toList[j] = c ∧ x.cps.toList.drop (j + 1) = r := by
      rw [List.drop_eq_getElem_cons hjlt, List.cons.injEq] at hr
      exact hr
    have hu1 : (x.cps.toList.drop j).take (j + 1 - j) = [c] := by
      rw [hr]
      have : j + 1 - j = 1 := by lia
      rw [this]; rfl
    cases e with
    | true =>
      simp only [if_true] at hb
      obtain ⟨hb, hch⟩ := hb
      have hne : (bsl ++ (⟨#[c]⟩ : Str) == dq) = false := by
        have : bsl ++ (⟨#[c]⟩ : Str) = ⟨[92, c].toArray⟩ := by
          apply str_ext
          show (bsl.cps ++ #[c]).toList = _
          rw [Array.toList_append]
          have : bsl.cps.toList = [92] := by decide
          rw [this]; rfl
        rw [this, isDq]
        simp
      rw [escP, List.foldl_cons]
      have e1 : stripStep x s ((j : Int), bsl ++ (⟨#[c]⟩ : Str)) = s := by simp [stripStep, hne]
      rw [e1]
      have hu : (x.cps.toList.drop b).take (j + 1 - b) = [92, c] := by
        have hlt : b < x.cps.toList.length := by lia
        rw [List.drop_eq_getElem_cons hlt]
        rw [List.getElem?_eq_getElem hlt] at hch
        have h2 : j + 1 - b = 2 := by lia
        rw [h2, hb, hr]
        simp at hch ⊢
        exact hch
      have hs' := strip_more hs (by lia : b ≤ j + 1) hu
      have ih := strip_scan r (j + 1) false q (j + 1) _ s (j : Int) hcj.2 (by lia) (by simp) hs' (by simpa [endP] using hq)
      rw [keepP]
      have e2 : ((j + 1 : Nat) : Int) = (j : Int) + 1 := by lia
      rw [e2] at ih
      cases q with
      | true => simpa using ih
      | false => simpa using ih
    | false =>
      simp only [Bool.false_eq_true, if_false] at hb
      subst hb
      have hc : ((⟨#[c]⟩ : Str) == bsl) = decide (c = 92) := by
        by_cases h : c = 92
        · subst h; decide
        · rw [decide_eq_false h]
          refine beq_eq_false_iff_ne.mpr fun e => h ?_
          have : (⟨#[c]⟩ : Str) = ⟨#[92]⟩ := e.trans (by decide)
          simpa using this
      have e2 : ((b + 1 : Nat) : Int) = (b : Int) + 1 := by lia
      rw [escP, hc, keepP]
      rw [endP] at hq
      by_cases h : c = 92
      · simp only [h, decide_true, if_true] at hq ⊢
        have ih := strip_scan r (b + 1) true q b K s (b : Int) hcj.2 (by lia) (by
          simp only [if_true]
          refine ⟨trivial, ?_⟩
          rw [List.getElem?_eq_getElem hjlt, hcj.1, h]) hs hq
        rw [e2] at ih
        exact ih
      · simp only [h, decide_false, Bool.false_eq_true, if_false] at hq ⊢
        rw [List.foldl_cons]
        by_cases h2 : c = 34
        · subst h2
          simp only [if_true] at hq ⊢
          have hd : ((⟨#[34]⟩ : Str) == dq) = true := by decide
          obtain ⟨st, g1, g2⟩ := hs
          cases q with
          | false =>
            obtain ⟨g2, g3, g4⟩ := g2
            have e1 : stripStep x s ((b : Int), (⟨#[34]⟩ : Str)) = (s.1, some (b : Int), s.2.2) := by simp [stripStep, hd, g2]
            rw [e1]
            have ih := strip_scan r (b + 1) false true (b + 1) K (s.1, some (b : Int), s.2.2) (b : Int) hcj.2 (by lia) (by simp) ⟨st, g1, b, rfl, g3, by lia, g4⟩ (by simpa using hq)
            rw [e2] at ih
            simpa using ih
          | true =>
            obtain ⟨o, g2, g3, g4, g5⟩ := g2
            have e1 : stripStep x s ((b : Int), (⟨#[34]⟩ : Str)) = ((b : Int) + 1, none, if s.1 == (o : Int) then s.2.2 else s.2.2 ++ [Txt.slice x (some s.1) (some (o : Int))]) := by simp [stripStep, hd, g2]
            rw [e1]
            have hK : flatS (if s.1 == (o : Int) then s.2.2 else s.2.2 ++ [Txt.slice x (some s.1) (some (o : Int))]) = K := by
              split
              · rename_i hh
                rw [g1, beq_iff_eq] at hh
                have : st = o := by lia
                subst this
                rw [← g5]; simp
              · rw [flat_app1, g1, slice_mid g3 (by lia), g5]
            have ih := strip_scan r (b + 1) false false (b + 1) K ((b : Int) + 1, none, if s.1 == (o : Int) then s.2.2 else s.2.2 ++ [Txt.slice x (some s.1) (some (o : Int))]) (b : Int) hcj.2 (by lia) (by simp) ⟨b + 1, e2.symm, rfl, Nat.le_refl _, by dsimp only; rw [hK]; simp⟩ (by simpa using hq)
            rw [e2] at ih
            simpa using ih
        · simp only [h2, if_false] at hq ⊢
          have hd : ((⟨#[c]⟩ : Str) == dq) = false := by
            have := isDq [c]
            rw [decide_eq_false (by simpa using h2)] at this
            exact this
          have e1 : stripStep x s ((b : Int), (⟨#[c]⟩ : Str)) = s := by simp [stripStep, hd]
          rw [e1]
          have hs' := strip_more hs (by lia : b ≤ b + 1) hu1
          have ih := strip_scan r (b + 1) false q (b + 1) _ s (b : Int) hcj.2 (by lia) (by simp) hs' hq
          rw [e2] at ih
          cases q with
          | true => simpa using ih
          | false => simpa using ih

theorem keep_all : ∀ (l : List Nat) (e : Bool), 34 ∉ l → keepP l e false = (if e then [92] else []) ++ l
  | [], e, _ => by cases e <;> rfl
  | c :: r, true, h => by
    have hr : 34 ∉ r := fun m => h (List.mem_cons_of_mem _ m)
    rw [keepP, keep_all r false hr]; simp
  | c :: r, false, h => by
    have hr : 34 ∉ r := fun m => h (List.mem_cons_of_mem _ m)
    have hc : c ≠ 34 := fun e => h (e ▸ List.mem_cons_self)
    rw [keepP]
    by_cases h9 : c = 92
    · subst h9
      rw [if_pos rfl, keep_all r true hr]; simp
    · rw [if_neg h9, if_neg hc, keep_all r false hr]; simp

theorem stripF_keep {x : Str} (h : (endP x.cps.toList false false).2 = false) : stripF x = ⟨(keepP x.cps.toList false false).toArray⟩ := by
  unfold stripF
  cases hq : strIn x dq with
  | false =>
    rw [if_neg (by simp)]
    have hn : 34 ∉ x.cps.toList := fun m => by
      obtain ⟨i, hi, e⟩ := List.getElem_of_mem m
      have : strIn x dq = true := by
        unfold strIn
        have hd : dq = ⟨#[34]⟩ := by decide
        rw [hd]
        exact (StrLaws.found_iff x ⟨#[34]⟩).mpr ⟨i, (StrLaws.subAt_one x 34 i).mpr (by rw [List.getElem?_eq_getElem hi, e])⟩
      rw [this] at hq; cases hq
    rw [keep_all _ _ hn]
    apply str_ext; simp
  | true =>
    rw [if_pos rfl]
    have hs := strip_scan (x := x) x.cps.toList 0 false false 0 [] (0, none, []) 0 (by simp) (Nat.zero_le _) (by simp) ⟨0, rfl, rfl, Nat.le_refl _, by simp [flatS]⟩ h
    rw [List.nil_append] at hs
    obtain ⟨st, g1, g2, g3, g4⟩ := hs
    have hl : x.cps.toList.length = x.length := by simp [Str.length]
    have g1' : (stripR x).1 = (st : Int) := g1
    have g4' : flatS (stripR x).2.2 ++ (x.cps.toList.drop st).take (x.length - st) = keepP x.cps.toList false false := g4
    rw [List.take_of_length_le (by rw [List.length_drop]; lia)] at g4'
    apply str_ext
    rw [join_flat, List.toList_toArray, ← g4', g1']
    split
    · rw [flat_app1, slice_end g3]
    · rename_i hh
      have : st = x.length := by lia
      rw [this, ← hl]; simp

theorem checkF_scan {x : Str} (h : (endP x.cps.toList false false).2 = false) : checkF x = (match scanP x.cps.toList false false 0 with | some o => o == 0 | none => false) := by
  rw [checkF_kept (stripF_keep h), units_keep]
  all_goals (cases scanP x.cps.toList false false 0 <;> rfl)
end Mine
end

section
set_option autoImplicit false
set_option linter.unusedVariables false
set_option linter.unusedSimpArgs false
namespace Mine
open PySem PySem.Calls PyProof.Rows PySem.SeqAt PySem.Spec

/-! the scan of joined texts -/
theorem end_app : ∀ (a b : List Nat) (e q : Bool), endP (a ++ b) e q = endP b (endP a e q).1 (endP a e q).2
  | [], b, e, q => rfl
  | c :: r, b, true, q => by rw [List.cons_append, endP, endP]; exact end_app r b false q
  | c :: r, b, false, q => by
    rw [List.cons_append, endP, endP]
    by_cases h : c = 92
    · simp only [h, if_true]; exact end_app r b true q
    · by_cases h2 : c = 34
      · simp only [h2, if_true]
        rw [if_neg (by decide), if_neg (by decide)]
        exact end_app r b false (!q)
      · simp only [h, h2, if_false]; exact end_app r b false q
theorem scan_app : ∀ (a b : List Nat) (e q : Bool) (o : Int), scanP (a ++ b) e q o = (scanP a e q o).bind fun o' => scanP b (endP a e q).1 (endP a e q).2 o'
  | [], b, e, q, o => rfl
  | c :: r, b, true, q, o => by rw [List.cons_append, scanP, scanP, endP]; exact scan_app r b false q o
  | c :: r, b, false, q, o => by
    rw [List.cons_append, scanP, scanP, endP]
    by_cases h : c = 92
    · simp only [h, if_true]; exact scan_app r b true q o
    · by_cases h2 : c = 34
      · simp only [h2, if_true]
        rw [if_neg (by decide), if_neg (by decide), if_neg (by decide)]
        exact scan_app r b false (!q) o
      · simp only [h, h2, if_false]
        cases q with
        | true => simpa using scan_app r b false true o
        | false =>
          simp only [Bool.false_eq_true, if_false]
          split
          · exact scan_app r b false false (o + 1)
          · split
            · split
              · rfl
              · exact scan_app r b false false (o - 1)
            · exact scan_app r b false false o
/-- a text that ends outside of marks, with no backslash waiting -/
noncomputable def Shut (l : List Nat) : Prop := endP l false false = (false, false)
theorem Shut.app {a b : List Nat} (ha : Shut a) (hb : Shut b) : Shut (a ++ b) := by unfold Shut at *; rw [end_app, ha]; exact hb
theorem Shut.scan {a b : List Nat} (ha : Shut a) (o : Int) : scanP (a ++ b) false false o = (scanP a false false o).bind (scanP b false false) := by rw [scan_app, ha]
theorem opens_ok : ∀ n : Nat, Shut (List.replicate n 40) ∧ (∀ o : Int, scanP (List.replicate n 40) false false o = some (o + n)) ∧ netP (List.replicate n 40) false false = n
  | 0 => ⟨rfl, fun o => by simp [scanP], rfl⟩
  | n + 1 => by
    obtain ⟨h1, h2, h3⟩ := opens_ok n
    refine ⟨h1, fun o => ?_, ?_⟩
    · rw [List.replicate_succ, scanP]
      simp only [Nat.reduceEqDiff, if_false, if_true, Bool.false_eq_true]
      rw [h2]; congr 1; push_cast; lia
    · rw [List.replicate_succ, netP]
      simp only [Nat.reduceEqDiff, if_false, if_true, Bool.false_eq_true]
      rw [h3]; push_cast; lia
theorem closes_ok : ∀ n : Nat, Shut (List.replicate n 41) ∧ (∀ o : Int, 0 ≤ o → scanP (List.replicate n 41) false false (o + n) = some o) ∧ netP (List.replicate n 41) false false = -(n : Int)
  | 0 => ⟨rfl, fun o _ => by simp [scanP], rfl⟩
  | n + 1 => by
    obtain ⟨h1, h2, h3⟩ := closes_ok n
    refine ⟨h1, fun o ho => ?_, ?_⟩
    · rw [List.replicate_succ, scanP]
      simp only [Nat.reduceEqDiff, if_false, if_true, Bool.false_eq_true]
      rw [if_neg (by push_cast; lia)]
      have e : o + ((n + 1 : Nat) : Int) - 1 = o + n := by push_cast; lia
      rw [e, h2 o ho]
    · rw [List.replicate_succ, netP]
      simp only [Nat.reduceEqDiff, if_false, if_true, Bool.false_eq_true]
      rw [h3]; push_cast; lia

theorem app_cps (x y : Str) : (x ++ y).cps.toList = x.cps.toList ++ y.cps.toList := by
  show (x.cps ++ y.cps).toList = _
  exact Array.toList_append ..
end Mine
end

section
set_option autoImplicit false
set_option linter.unusedVariables false
set_option linter.unusedSimpArgs false
namespace Mine
open PySem PySem.Calls PyProof.Rows PySem.SeqAt PySem.Spec

/-! a mark that no mark closes -/
theorem strip_pre {x : Str} : ∀ (r rest : List Nat) (j : Nat) (e q : Bool) (b : Nat) (K : List Nat) (s : Int × Option Int × List Str) (qq : Int), x.cps.toList.drop j = r ++ rest → j ≤ x.length → (if e then b + 1 = j ∧ x.cps.toList[b]? = some 92 else b = j) → StripAt x b q K s → (endP r e q).1 = false →
    StripAt x (j + r.length) (endP r e q).2 (K ++ keepP r e q) ((escP r j e qq).foldl (stripStep x) s)
  | [], rest, j, e, q, b, K, s, qq, hr, hj, hb, hs, hq => by
    obtain rfl : e = false := hq
    simp only [Bool.false_eq_true, if_false] at hb
    subst hb
    simpa [escP, keepP, endP] using hs
  | c :: r, rest, j, e, q, b, K, s, qq, hr, hj, hb, hs, hq => by
    have hl : x.cps.toList.length = x.length := by simp [Str.length]
    have hjlt : j < x.cps.toList.length := by
      have := congrArg List.length hr
      rw [List.length_drop, List.cons_append, List.length_cons] at this
      lia
    have hcj : x.cps.toList[j] = c ∧ x.cps.toList.drop (j + 1) = r ++ rest := by
      rw [List.drop_eq_getElem_cons hjlt, List.cons_append, List.cons.injEq] at hr
      exact hr
    have hu1 : (x.cps.toList.drop j).take (j + 1 - j) = [c] := by
      rw [hr]
      have : j + 1 - j = 1 := by lia
      rw [this]; rfl
    have elen : j + (c :: r).length = j + 1 + r.length := by rw [List.length_cons]; lia
    rw [elen]
    cases e with
    | true =>
      simp only [if_true] at hb
      obtain ⟨hb, hch⟩ := hb
      have hne : (bsl ++ (⟨#[c]⟩ : Str) == dq) = false := by
        have : bsl ++ (⟨#[c]⟩ : Str) = ⟨[92, c].toArray⟩ := by
          apply str_ext
          show (bsl.cps ++ #[c]).toList = _
          rw [Array.toList_append]
          have : bsl.cps.toList = [92] := by decide
          rw [this]; rfl
        rw [this, isDq]
        simp
      rw [escP, List.foldl_cons]
      have e1 : stripStep x s ((j : Int), bsl ++ (⟨#[c]⟩ : Str)) = s := by simp [stripStep, hne]
      rw [e1]
      have hu : (x.cps.toList.drop b).take (j + 1 - b) = [92, c] := by
        have hlt : b < x.cps.toList.length := by lia
        rw [List.drop_eq_getElem_cons hlt]
        rw [List.getElem?_eq_getElem hlt] at hch
        have h2 : j + 1 - b = 2 := by lia
        rw [h2, hb, hr]
        simp at hch ⊢
        exact hch
      have hs' := strip_more hs (by lia : b ≤ j + 1) hu
      have ih := strip_pre r rest (j + 1) false q (j + 1) _ s (j : Int) hcj.2 (by lia) (by simp) hs' (by simpa [endP] using hq)
      rw [keepP, endP]
      have e2 : ((j + 1 : Nat) : Int) = (j : Int) + 1 := by lia
      rw [e2] at ih
      cases q with
      | true => simpa using ih
      | false => simpa using ih
    | false =>
      simp only [Bool.false_eq_true, if_false] at hb
      subst hb
      have hc : ((⟨#[c]⟩ : Str) == bsl) = decide (c = 92) := by
        by_cases h : c = 92
        · subst h; decide
        · rw [decide_eq_false h]
          refine beq_eq_false_iff_ne.mpr fun e => h ?_
          have : (⟨#[c]⟩ : Str) = ⟨#[92]⟩ := e.trans (by decide)
          simpa using this
      have e2 : ((b + 1 : Nat) : Int) = (b : Int) + 1 := by lia
      rw [escP, hc, keepP, endP]
      rw [endP] at hq
      by_cases h : c = 92
      · simp only [h, decide_true, if_true] at hq ⊢
        have ih := strip_pre r rest (b + 1) true q b K s (b : Int) hcj.2 (by lia) (by
          simp only [if_true]
          refine ⟨trivial, ?_⟩
          rw [List.getElem?_eq_getElem hjlt, hcj.1, h]) hs hq
        rw [e2] at ih
        exact ih
      · simp only [h, decide_false, Bool.false_eq_true, if_false] at hq ⊢
        rw [List.foldl_cons]
        by_cases h2 : c = 34
        · subst h2
          simp only [if_true] at hq ⊢
          have hd : ((⟨#[34]⟩ : Str) == dq) = true := by decide
          obtain ⟨st, g1, g2⟩ := hs
          cases q with
          | false =>
            obtain ⟨g2, g3, g4⟩ := g2
            have e1 : stripStep x s ((b : Int), (⟨#[34]⟩ : Str)) = (s.1, some (b : Int), s.2.2) := by simp [stripStep, hd, g2]
            rw [e1]
            have ih := strip_pre r rest (b + 1) false true (b + 1) K (s.1, some (b : Int), s.2.2) (b : Int) hcj.2 (by lia) (by simp) ⟨st, g1, b, rfl, g3, by lia, g4⟩ (by simpa using hq)
            rw [e2] at ih
            simpa using ih
          | true =>
            obtain ⟨o, g2, g3, g4, g5⟩ := g2
            have e1 : stripStep x s ((b : Int), (⟨#[34]⟩ : Str)) = ((b : Int) + 1, none, if s.1 == (o : Int) then s.2.2 else s.2.2 ++ [Txt.slice x (some s.1) (some (o : Int))]) := by simp [stripStep, hd, g2]
            rw [e1]
            have hK : flatS (if s.1 == (o : Int) then s.2.2 else s.2.2 ++ [Txt.slice x (some s.1) (some (o : Int))]) = K := by
              split
              · rename_i hh
                rw [g1, beq_iff_eq] at hh
                have : st = o := by lia
                subst this
                rw [← g5]; simp
              · rw [flat_app1, g1, slice_mid g3 (by lia), g5]
            have ih := strip_pre r rest (b + 1) false false (b + 1) K ((b : Int) + 1, none, if s.1 == (o : Int) then s.2.2 else s.2.2 ++ [Txt.slice x (some s.1) (some (o : Int))]) (b : Int) hcj.2 (by lia) (by simp) ⟨b + 1, e2.symm, rfl, Nat.le_refl _, by dsimp only; rw [hK]; simp⟩ (by simpa using hq)
            rw [e2] at ih
            simpa using ih
        · simp only [h2, if_false] at hq ⊢
          have hd : ((⟨#[c]⟩ : Str) == dq) = false := by
            have := isDq [c]
            rw [decide_eq_false (by simpa using h2)] at this
            exact this
          have e1 : stripStep x s ((b : Int), (⟨#[c]⟩ : Str)) = s := by simp [stripStep, hd]
          rw [e1]
          have hs' := strip_more hs (by lia : b ≤ b + 1) hu1
          have ih := strip_pre r rest (b + 1) false q (b + 1) _ s (b : Int) hcj.2 (by lia) (by simp) hs' hq
          rw [e2] at ih
          cases q with
          | true => simpa using ih
          | false => simpa using ih
theorem esc_app : ∀ (a b : List Nat) (j : Nat) (e q : Bool) (qq : Int), (endP a e q).1 = false → ∃ qq', escP (a ++ b) j e qq = escP a j e qq ++ escP b ((j + a.length : Nat) : Int) false qq'
  | [], b, j, e, q, qq, h => by
    obtain rfl : e = false := h
    exact ⟨qq, by simp [escP]⟩
  | c :: r, b, j, true, q, qq, h => by
    obtain ⟨qq', ih⟩ := esc_app r b (j + 1) false q (j : Int) (by simpa [endP] using h)
    refine ⟨qq', ?_⟩
    rw [List.cons_append, escP, escP, show (j : Int) + 1 = ((j + 1 : Nat) : Int) by lia, ih, List.length_cons, show j + 1 + r.length = j + (r.length + 1) by lia]; rfl
  | c :: r, b, j, false, q, qq, h => by
    rw [endP] at h
    rw [List.cons_append, escP, escP, show (j : Int) + 1 = ((j + 1 : Nat) : Int) by lia, List.length_cons, show j + (r.length + 1) = j + 1 + r.length by lia]
    have hc : ((⟨#[c]⟩ : Str) == bsl) = decide (c = 92) := by
      by_cases h : c = 92
      · subst h; decide
      · rw [decide_eq_false h]
        refine beq_eq_false_iff_ne.mpr fun e => h ?_
        have : (⟨#[c]⟩ : Str) = ⟨#[92]⟩ := e.trans (by decide)
        simpa using this
    rw [hc]
    by_cases h9 : c = 92
    · simp only [h9, if_true, decide_true] at h ⊢
      exact esc_app r b (j + 1) true q _ h
    · simp only [h9, if_false, decide_false, Bool.false_eq_true] at h ⊢
      split at h
      · obtain ⟨qq', ih⟩ := esc_app r b (j + 1) false (!q) (j : Int) h
        exact ⟨qq', by rw [ih]; rfl⟩
      · obtain ⟨qq', ih⟩ := esc_app r b (j + 1) false q (j : Int) h
        exact ⟨qq', by rw [ih]; rfl⟩
/-- nothing but signs that are neither marks nor backslashes -/
theorem strip_rest {x : Str} : ∀ (r : List Nat) (j : Nat) (qq : Int) (s : Int × Option Int × List Str), (∀ c ∈ r, c ≠ 34 ∧ c ≠ 92) → (escP r j false qq).foldl (stripStep x) s = s
  | [], j, qq, s, _ => rfl
  | c :: r, j, qq, s, h => by
    obtain ⟨h1, h2⟩ := h c List.mem_cons_self
    have hc : ((⟨#[c]⟩ : Str) == bsl) = false := by
      refine beq_eq_false_iff_ne.mpr fun e => h2 ?_
      have : (⟨#[c]⟩ : Str) = ⟨#[92]⟩ := e.trans (by decide)
      simpa using this
    have hd : ((⟨#[c]⟩ : Str) == dq) = false := by
      have := isDq [c]
      rw [decide_eq_false (by simpa using h1)] at this
      exact this
    rw [escP, hc, if_neg (by simp), List.foldl_cons]
    have e1 : stripStep x s ((j : Int), (⟨#[c]⟩ : Str)) = s := by simp [stripStep, hd]
    rw [e1, show (j : Int) + 1 = ((j + 1 : Nat) : Int) by lia]
    exact strip_rest r (j + 1) _ s fun d hd => h d (List.mem_cons_of_mem _ hd)
theorem stripF_open {x : Str} {t r : List Nat} (hx : x.cps.toList = t ++ 34 :: r) (ht : Shut t) (hr : ∀ c ∈ r, c ≠ 34 ∧ c ≠ 92) : stripF x = ⟨(keepP t false false ++ 34 :: r).toArray⟩ := by
  have hl : x.cps.toList.length = x.length := by simp [Str.length]
  have hlen : x.length = t.length + (r.length + 1) := by rw [← hl, hx, List.length_append, List.length_cons]
  unfold stripF
  have hq : strIn x dq = true := by
    unfold strIn
    have hd : dq = ⟨#[34]⟩ := by decide
    rw [hd]
    exact (StrLaws.found_iff x ⟨#[34]⟩).mpr ⟨t.length, (StrLaws.subAt_one x 34 _).mpr (by rw [hx, List.getElem?_append_right (Nat.le_refl _)]; simp)⟩
  rw [hq, if_pos rfl]
  have e1 : (endP t false false).1 = false := by rw [ht]
  have hp := strip_pre (x := x) t (34 :: r) 0 false false 0 [] (0, none, []) 0 (by simpa using hx) (Nat.zero_le _) (by simp) ⟨0, rfl, rfl, Nat.le_refl _, by simp [flatS]⟩ e1
  rw [ht, List.nil_append, Nat.zero_add] at hp
  obtain ⟨qq', he⟩ := esc_app t (34 :: r) 0 false false 0 e1
  have z0 : ((0 : Nat) : Int) = 0 := rfl
  rw [z0] at hp he
  have hR : stripR x = (((escP t 0 false 0).foldl (stripStep x) (0, none, [])).1, some (t.length : Int), ((escP t 0 false 0).foldl (stripStep x) (0, none, [])).2.2) := by
    show (escP x.cps.toList 0 false 0).foldl (stripStep x) (0, none, []) = _
    rw [hx, he, List.foldl_append]
    obtain ⟨st, g1, g2, g3, g4⟩ := hp
    generalize (escP t 0 false 0).foldl (stripStep x) (0, none, []) = s at *
    have hb : ((⟨#[34]⟩ : Str) == bsl) = false := by decide
    rw [escP, hb, if_neg (by simp), List.foldl_cons]
    have hd : ((⟨#[34]⟩ : Str) == dq) = true := by decide
    have e2 : stripStep x s (((0 + t.length : Nat) : Int), (⟨#[34]⟩ : Str)) = (s.1, some (t.length : Int), s.2.2) := by
      rw [Nat.zero_add]
      simp [stripStep, hd, g2]
    rw [e2, show (((0 + t.length : Nat) : Int) + 1) = ((t.length + 1 : Nat) : Int) by lia]
    exact strip_rest r _ _ _ hr
  obtain ⟨st, g1, g2, g3, g4⟩ := hp
  apply str_ext
  rw [join_flat, List.toList_toArray, hR]
  dsimp only
  rw [g1, if_pos (by lia), flat_app1, slice_end (by lia)]
  have e3 : x.cps.toList.drop st = (x.cps.toList.drop st).take (t.length - st) ++ x.cps.toList.drop t.length := by
    conv => lhs; rw [← List.take_append_drop (t.length - st) (x.cps.toList.drop st)]
    rw [List.drop_drop, show st + (t.length - st) = t.length by lia]
  rw [e3, ← List.append_assoc, g4, hx, List.drop_left' rfl]
/-! the units of joined texts -/
noncomputable def endE : List Nat → Bool → Bool
  | [], e => e
  | _ :: r, true => endE r false
  | c :: r, false => if c = 92 then endE r true else endE r false
theorem units_app : ∀ (a b : List Nat) (e : Bool), endE a e = false → unitsP (a ++ b) e = unitsP a e ++ unitsP b false
  | [], b, e, h => by
    obtain rfl : e = false := h
    rfl
  | c :: r, b, true, h => by
    rw [List.cons_append, unitsP, unitsP, units_app r b false (by simpa [endE] using h)]; rfl
  | c :: r, b, false, h => by
    rw [endE] at h
    rw [List.cons_append, unitsP, unitsP]
    by_cases h9 : c = 92
    · simp only [h9, if_true] at h ⊢; exact units_app r b true h
    · simp only [h9, if_false] at h ⊢; rw [units_app r b false h]; rfl
theorem keep_closed : ∀ (t : List Nat) (e q : Bool), (endP t e q).1 = false → endE (keepP t e q) false = false
  | [], e, q, h => by
    obtain rfl : e = false := h
    rfl
  | c :: r, true, q, h => by
    rw [endP] at h
    rw [keepP]
    have ih := keep_closed r false q h
    cases q with
    | true => simpa using ih
    | false =>
      simp only [Bool.false_eq_true, if_false]
      rw [List.cons_append, List.cons_append, List.nil_append, endE, if_pos rfl, endE]
      exact ih
  | c :: r, false, q, h => by
    rw [endP] at h
    rw [keepP]
    by_cases h9 : c = 92
    · simp only [h9, if_true] at h ⊢; exact keep_closed r true q h
    · simp only [h9, if_false] at h ⊢
      by_cases h3 : c = 34
      · simp only [h3, if_true] at h ⊢; exact keep_closed r false (!q) h
      · simp only [h3, if_false] at h ⊢
        have ih := keep_closed r false q h
        cases q with
        | true => simpa using ih
        | false =>
          simp only [Bool.false_eq_true, if_false]
          rw [List.cons_append, List.nil_append, endE, if_neg h9]
          exact ih
theorem keep_app : ∀ (a b : List Nat) (e q : Bool), (endP a e q).1 = false → keepP (a ++ b) e q = keepP a e q ++ keepP b false (endP a e q).2
  | [], b, e, q, h => by
    obtain rfl : e = false := h
    rfl
  | c :: r, b, true, q, h => by
    rw [endP] at h ⊢
    rw [List.cons_append, keepP, keepP, keep_app r b false q h, List.append_assoc]
  | c :: r, b, false, q, h => by
    rw [endP] at h ⊢
    rw [List.cons_append, keepP, keepP]
    by_cases h9 : c = 92
    · simp only [h9, if_true] at h ⊢; exact keep_app r b true q h
    · simp only [h9, if_false] at h ⊢
      by_cases h3 : c = 34
      · simp only [h3, if_true] at h ⊢; exact keep_app r b false (!q) h
      · simp only [h3, if_false] at h ⊢; rw [keep_app r b false q h, List.append_assoc]
/-- a text, a mark that stays open, and closing brackets -/
theorem check_open {x : Str} {t : List Nat} {n : Nat} (hx : x.cps.toList = t ++ 34 :: List.replicate n 41) (ht : Shut t) : checkF x = (match (scanP t false false 0).bind (scanP (List.replicate n 41) false false) with | some o => o == 0 | none => false) := by
  have hr : ∀ c ∈ List.replicate n 41, c ≠ 34 ∧ c ≠ 92 := fun c hc => by
    have := List.eq_of_mem_replicate hc
    subst this; decide
  have e1 : (endP t false false).1 = false := by rw [ht]
  rw [checkF_kept (stripF_open hx ht hr), units_app _ _ _ (keep_closed t false false e1), List.foldlM_append, units_keep]
  have e2 : ∀ o, (unitsP (34 :: List.replicate n 41) false).foldlM stepU o = scanP (List.replicate n 41) false false o := by
    intro o
    rw [unitsP, if_neg (by decide), List.foldlM_cons]
    have : stepU o [34] = some o := by simp [stepU]
    rw [this]
    have h34 : 34 ∉ List.replicate n 41 := fun h => by have := List.eq_of_mem_replicate h; lia
    have h3 := units_keep (List.replicate n 41) false false o
    rw [keep_all _ _ h34] at h3
    exact h3
  cases scanP t false false 0 with
  | none => rfl
  | some o =>
    show (match (unitsP (34 :: List.replicate n 41) false).foldlM stepU o with | some o => o == 0 | none => false) = _
    rw [e2]; rfl
end Mine
end

section
set_option autoImplicit false
set_option linter.unusedVariables false
set_option linter.unusedSimpArgs false
namespace Mine
open PySem PySem.Calls PyProof.Rows PySem.SeqAt PySem.Spec

/-! the pieces' signs -/
noncomputable def pieceC (m k : Nat) : List Nat := (pieceF m k).1.cps.toList
noncomputable def unitC (m k : Nat) : List (List Nat) := (pieceF m k).2.map (·.cps.toList)
noncomputable def unitB (u : List Nat) : Bool := match u with
  | [c] => c != 92
  | [a, _] => a == 92
  | _ => false
theorem piece_tab : ∀ m < 2, ∀ k < 6, endP (pieceC m k) false false = (false, false) ∧ keepP (pieceC m k) false false = (unitC m k).flatten ∧ (unitC m k).all unitB = true ∧ (pieceF m k).2.filter isB = [ownS m] ∧ (pieceC m k).length ≤ 9 := by decide +kernel
theorem piece_scan (m k : Nat) (hm : m < 2) (hk : k < 6) (o : Int) : scanP (pieceC m k) false false o = if m = 0 then some (o + 1) else if o - 1 < 0 then none else some (o - 1) := by
  have h2 : m = 0 ∨ m = 1 := by lia
  have h6 : k = 0 ∨ k = 1 ∨ k = 2 ∨ k = 3 ∨ k = 4 ∨ k = 5 := by lia
  rcases h2 with rfl | rfl <;> rcases h6 with rfl | rfl | rfl | rfl | rfl | rfl <;> rfl
noncomputable def textC (N : List Int) (k : Nat) : List Nat := ((N.take k).map fun x => pieceC (pm x) (pk x)).flatten
theorem text_succ (N : List Int) {k : Nat} (hk : k < N.length) : textC N (k + 1) = textC N k ++ pieceC (pm (N.getD k 0)) (pk (N.getD k 0)) := by
  unfold textC
  rw [List.take_add_one, List.getElem?_eq_getElem hk, List.getD_eq_getElem?_getD, List.getElem?_eq_getElem hk, List.map_append, List.flatten_append]
  congr 1
  simp
theorem front_cps (N : List Int) (k : Nat) : (frontF N k).cps.toList = textC N k := by
  unfold frontF textC
  rw [join_flat]
  unfold flatS
  rw [List.map_map]; rfl
theorem text_front (N : List Int) : textF N = frontF N N.length := by
  unfold textF frontF; rw [List.take_length]
theorem text_len (N : List Int) : ∀ k ≤ N.length, (textC N k).length ≤ k * 9
  | 0, _ => by simp [textC]
  | k + 1, h => by
    rw [text_succ N (by lia), List.length_append]
    have := text_len N k (by lia)
    have := (piece_tab _ (pm_lt (N.getD k 0)).1 _ (pk_lt (N.getD k 0)).1).2.2.2.2
    lia
theorem text_scan (N : List Int) : ∀ k ≤ N.length, Shut (textC N k) ∧ ∀ o : Int, 0 ≤ o → scanP (textC N k) false false o = if lowF N k ≤ o then some (o + hiF N k) else none
  | 0, _ => ⟨by simp [textC]; rfl, fun o ho => by
      have h1 : lowF N 0 = 0 := rfl
      have h2 : hiF N 0 = 0 := rfl
      rw [h1, h2, if_pos ho, Int.add_zero]
      simp [textC, scanP]⟩
  | k + 1, h => by
    obtain ⟨s1, s2⟩ := text_scan N k (by lia)
    have hm := (pm_lt (N.getD k 0)).1
    have hk := (pk_lt (N.getD k 0)).1
    have t := (piece_tab _ hm _ hk).1
    rw [text_succ N (by lia)]
    refine ⟨s1.app t, fun o ho => ?_⟩
    rw [s1.scan, s2 o ho, low_step]
    have hb := low_bound N k
    have e : hiF N (k + 1) = hiF N k + (if pm (N.getD k 0) = 0 then 1 else -1) := rfl
    by_cases h1 : lowF N k ≤ o
    · rw [if_pos h1, Option.bind_some, piece_scan _ _ hm hk]
      by_cases h2 : pm (N.getD k 0) = 0
      · rw [if_pos h2] at e ⊢
        rw [if_pos (show -(hiF N (k + 1)) ≤ lowF N k by lia), if_pos h1]
        congr 1; lia
      · rw [if_neg h2] at e ⊢
        by_cases h3 : o + hiF N k - 1 < 0
        · rw [if_pos h3, if_neg (show ¬ -(hiF N (k + 1)) ≤ lowF N k by lia), if_neg (by lia)]
        · rw [if_neg h3]
          by_cases h4 : -(hiF N (k + 1)) ≤ lowF N k
          · rw [if_pos h4, if_pos h1]; congr 1; lia
          · rw [if_neg h4, if_pos (by lia)]; congr 1; lia
    · rw [if_neg h1, Option.bind_none]
      by_cases h3 : -(hiF N (k + 1)) ≤ lowF N k
      · rw [if_pos h3, if_neg h1]
      · rw [if_neg h3, if_neg (by lia)]
theorem mulC_all : ∀ k : Nat, k < 41 → (Txt.mul "(" ((k : Int) - 20)).cps.toList = List.replicate (k - 20) 40 ∧ (Txt.mul ")" ((k : Int) - 20)).cps.toList = List.replicate (k - 20) 41 := by decide +kernel
theorem mulC {i : Int} (h0 : -20 ≤ i) (h1 : i ≤ 20) : (Txt.mul "(" i).cps.toList = List.replicate i.toNat 40 ∧ (Txt.mul ")" i).cps.toList = List.replicate i.toNat 41 := by
  have := mulC_all (i + 20).toNat (by lia)
  rwa [show (((i + 20).toNat : Nat) : Int) - 20 = i by lia, show (i + 20).toNat - 20 = i.toNat by lia] at this
/-- brackets ahead, the text's front, brackets behind -/
theorem scan_line {N : List Int} {k : Nat} (hk : k ≤ N.length) (p q : Nat) : Shut (List.replicate p 40 ++ (textC N k ++ List.replicate q 41)) ∧ scanP (List.replicate p 40 ++ (textC N k ++ List.replicate q 41)) false false 0 = if lowF N k ≤ p then scanP (List.replicate q 41) false false (p + hiF N k) else none := by
  obtain ⟨a1, a2, a3⟩ := opens_ok p
  obtain ⟨s1, s2⟩ := text_scan N k hk
  obtain ⟨c1, c2, c3⟩ := closes_ok q
  refine ⟨a1.app (s1.app c1), ?_⟩
  rw [a1.scan, a2, Option.bind_some, s1.scan, Int.zero_add, s2 _ (by lia)]
  split <;> rfl
theorem plainC {N : List Int} (h4 : 4 ≤ N.length) (h6 : N.length ≤ 6) : PlainC N := by
  have hbd := low_bound N N.length
  obtain ⟨s1, s2⟩ := text_scan N N.length (Nat.le_refl _)
  have htx : (textF N).cps.toList = textC N N.length := by rw [text_front, front_cps]
  have mk : markS.cps.toList = [34] := by decide
  have chk : ∀ {x : Str} {k p q : Nat}, k ≤ N.length → x.cps.toList = List.replicate p 40 ++ (textC N k ++ List.replicate q 41) → checkF x = (match (if lowF N k ≤ p then scanP (List.replicate q 41) false false (p + hiF N k) else none) with | some o => o == 0 | none => false) := by
    intro x k p q hk hx
    obtain ⟨l1, l2⟩ := scan_line hk p q
    rw [checkF_scan (by rw [hx, l1]), hx, l2]
    all_goals (generalize (if lowF N k ≤ (p : Int) then scanP (List.replicate q 41) false false (p + hiF N k) else none) = z; cases z <;> rfl)
  have chk2 : ∀ {x : Str} {p q : Nat}, x.cps.toList = (List.replicate p 40 ++ textC N N.length) ++ 34 :: List.replicate q 41 → checkF x = (match (if lowF N N.length ≤ p then scanP (List.replicate q 41) false false (p + hiF N N.length) else none) with | some o => o == 0 | none => false) := by
    intro x p q hx
    obtain ⟨a1, a2, a3⟩ := opens_ok p
    rw [check_open hx (a1.app s1), a1.scan, a2, Option.bind_some, Int.zero_add, s2 _ (by lia)]
    by_cases h : lowF N N.length ≤ (p : Int)
    · rw [if_pos h, if_pos h, Option.bind_some]
      all_goals (generalize scanP (List.replicate q 41) false false (p + hiF N N.length) = z; cases z <;> rfl)
    · rw [if_neg h, if_neg h]; rfl
  refine ⟨?_, fun k h1 hk => ?_, ?_, ?_, by decide +kernel, ?_⟩
  · have := chk (x := textF N) (p := 0) (q := 0) (Nat.le_refl _) (by rw [htx]; simp)
    rw [this]
    by_cases h : lowF N N.length ≤ 0
    · rw [if_pos (by lia)]
      have h0 : lowF N N.length = 0 := by lia
      rw [h0]
      show ((((0 : Nat) : Int) + hiF N N.length) == 0) = _
      rw [show ((0 : Nat) : Int) + hiF N N.length = hiF N N.length by lia]; rfl
    · rw [if_neg (by lia), beq_eq_false_iff_ne.mpr (show lowF N N.length ≠ 0 by lia)]; rfl
  · have hb := low_bound N k
    have := chk (x := lineX N k) (p := (lowF N k).toNat) (q := (lowF N k + hiF N k).toNat) hk (by
      unfold lineX
      rw [app_cps, app_cps, front_cps, (mulC (by lia) (by lia)).1, (mulC (by lia) (by lia)).2, List.append_assoc])
    rw [this, if_pos (by lia)]
    have c2 := (closes_ok (lowF N k + hiF N k).toNat).2.1 0 (Int.le_refl _)
    rw [show ((lowF N k).toNat : Int) + hiF N k = 0 + ((lowF N k + hiF N k).toNat : Int) by lia, c2]; rfl
  · unfold wrongA
    split
    · rename_i h
      have := chk (x := Txt.mul "(" (lowF N N.length - 1) ++ textF N ++ Txt.mul ")" (lowF N N.length + hiF N N.length - 1)) (p := (lowF N N.length - 1).toNat) (q := (lowF N N.length + hiF N N.length - 1).toNat) (Nat.le_refl _) (by
        rw [app_cps, app_cps, htx, (mulC (by lia) (by lia)).1, (mulC (by lia) (by lia)).2, List.append_assoc])
      rw [this, if_neg (by lia)]
    · rename_i h
      have h0 : lowF N N.length = 0 := by lia
      have := chk2 (x := textF N ++ markS ++ Txt.mul ")" (hiF N N.length + 1)) (p := 0) (q := (hiF N N.length + 1).toNat) (by
        rw [app_cps, app_cps, htx, mk, (mulC (by lia) (by lia)).2, List.append_assoc]; rfl)
      rw [this, if_pos (by lia)]
      have e : (hiF N N.length + 1).toNat = (hiF N N.length).toNat + 1 := by lia
      rw [e, List.replicate_succ', ]
      have c1 := closes_ok (hiF N N.length).toNat
      rw [c1.1.scan]
      have c2 := c1.2.1 0 (Int.le_refl _)
      rw [show ((0 : Nat) : Int) + hiF N N.length = 0 + ((hiF N N.length).toNat : Int) by lia, c2]; rfl
  · have := chk2 (x := lastA N) (p := (lowF N N.length).toNat) (q := (lowF N N.length + hiF N N.length).toNat) (by
      unfold lastA
      rw [app_cps, app_cps, app_cps, htx, mk, (mulC (by lia) (by lia)).1, (mulC (by lia) (by lia)).2, List.append_assoc]; rfl)
    rw [this, if_pos (by lia)]
    have c2 := (closes_ok (lowF N N.length + hiF N N.length).toNat).2.1 0 (Int.le_refl _)
    rw [show ((lowF N N.length).toNat : Int) + hiF N N.length = 0 + ((lowF N N.length + hiF N N.length).toNat : Int) by lia, c2]; rfl
  · have h1 : (textF N).length = (textF N).cps.toList.length := by simp [Str.length]
    have := text_len N N.length (Nat.le_refl _)
    rw [h1, htx]; lia
end Mine
end

section
set_option autoImplicit false
set_option linter.unusedVariables false
set_option linter.unusedSimpArgs false
namespace Mine
open PySem PySem.Calls PyProof.Rows PySem.SeqAt PySem.Spec

/-! what the signs are read as -/
noncomputable def readC (q : Nat) : List Nat := if b1S q then [] else (b3F q).cps.toList
theorem prep_cps : ∀ l : List Nat, (prepF l).cps.toList = l.flatMap readC := by
  intro l
  unfold prepF
  rw [join_flat]
  unfold flatS
  induction l with
  | nil => rfl
  | cons q l ih =>
    rw [List.flatMap_cons, ← ih]
    unfold readC
    cases h : b1S q with
    | true => rw [List.filter_cons_of_neg (by simp [h]), if_pos rfl]; rfl
    | false => rw [List.filter_cons_of_pos (by simp [h]), if_neg (by simp)]; rfl
noncomputable def signOk (k q i : Nat) : Bool := okSign q && (b1S q == (i == 0)) && (readC q == List.replicate i (let3 k))
theorem sign0 : ∀ k < 3, ∀ i < 27, signOk k (b1L.getD i 0).toNat 0 = true := by decide +kernel
theorem sign1 : ∀ k < 3, ∀ i < 13, signOk k ((onceL k).getD i 0).toNat 1 = true := by decide +kernel
theorem sign2 : ∀ k < 3, signOk k (pair3 k) 2 = true := by decide +kernel
theorem kind_lt (N : List Int) : kindF N < 3 := by
  unfold kindF
  exact toNat_lt (Int.emod_nonneg _ (by decide)) (Int.emod_lt_of_pos _ (by decide))
theorem signs_ok3 {k : Nat} (hk : k < 3) (x : Int) : ∀ i < 3, signOk k ((signsF k x).getD i 0) i = true := by
  have h0 := sign0 k hk (x / 12 % 27).toNat (by lia)
  have h1 := sign1 k hk (x / 324 % 13).toNat (by lia)
  have h2 := sign2 k hk
  intro i hi
  rcases n3 i hi with rfl | rfl | rfl
  · exact h0
  · exact h1
  · exact h2
theorem signs_mem {k : Nat} {x : Int} {q : Nat} (h : q ∈ signsF k x) : ∃ i < 3, q = (signsF k x).getD i 0 := by
  unfold signsF at h ⊢
  simp only [List.mem_cons, List.not_mem_nil, or_false] at h
  rcases h with h | h | h
  · exact ⟨0, by decide, h⟩
  · exact ⟨1, by decide, h⟩
  · exact ⟨2, by decide, h⟩
theorem signOk_of {k q i : Nat} (h : signOk k q i = true) : okSign q = true ∧ b1S q = (i == 0) ∧ readC q = List.replicate i (let3 k) := by
  unfold signOk at h
  simp only [Bool.and_eq_true, beq_iff_eq] at h
  exact ⟨h.1.1, h.1.2, h.2⟩
theorem one_eq (a b : Nat) : ((⟨#[a]⟩ : Str) == ⟨#[b]⟩) = decide (a = b) := by
  by_cases h : a = b
  · subst h; rw [decide_eq_true rfl, beq_self_eq_true]
  · rw [decide_eq_false h]
    refine beq_eq_false_iff_ne.mpr fun e => h ?_
    simpa using e
theorem b1_first {k : Nat} (hk : k < 3) (x : Int) : ∀ q ∈ signsF k x, b1S q = ((⟨#[q]⟩ : Str) == ⟨#[(signsF k x).getD 0 0]⟩) := by
  intro q hq
  obtain ⟨i, hi, rfl⟩ := signs_mem hq
  rw [one_eq]
  have h0 := (signOk_of (signs_ok3 hk x 0 (by decide))).2.1
  have h := (signOk_of (signs_ok3 hk x i hi)).2.1
  by_cases e : i = 0
  · subst e; rw [h0, decide_eq_true rfl]; rfl
  · rw [h, beq_eq_false_iff_ne.mpr e]
    refine (decide_eq_false fun e' => ?_).symm
    rw [e', h0] at h
    rw [beq_eq_false_iff_ne.mpr e] at h
    cases h
theorem sizes_ok {k : Nat} (hk : k < 3) (x : Int) : (signsF k x).map (fun q => (prepF [q]).length) = [0, 1, 2] := by
  have key : ∀ i < 3, (prepF [(signsF k x).getD i 0]).length = i := fun i hi => by
    have h1 : (prepF [(signsF k x).getD i 0]).length = (prepF [(signsF k x).getD i 0]).cps.toList.length := by simp [Str.length]
    rw [h1, prep_cps, List.flatMap_cons, List.flatMap_nil, List.append_nil, (signOk_of (signs_ok3 hk x i hi)).2.2, List.length_replicate]
  have e : signsF k x = [(signsF k x).getD 0 0, (signsF k x).getD 1 0, (signsF k x).getD 2 0] := rfl
  rw [e]
  simp only [List.map_cons, List.map_nil]
  rw [key 0 (by decide), key 1 (by decide), key 2 (by decide)]
theorem two_lt (x : Int) : twoF x < 3 := toNat_lt (Int.emod_nonneg _ (by decide)) (Int.emod_lt_of_pos _ (by decide))
theorem spell_ok (N : List Int) : (∀ q ∈ (spellF N).1, okSign q = true) ∧ (spellF N).1.flatMap readC = List.replicate (spellF N).2 (let3 (kindF N)) := by
  unfold spellF
  have key : ∀ (l : List Nat) (s : List Nat × Nat), ((∀ q ∈ s.1, okSign q = true) ∧ s.1.flatMap readC = List.replicate s.2 (let3 (kindF N))) → ((∀ q ∈ (l.foldl (spellStep N) s).1, okSign q = true) ∧ (l.foldl (spellStep N) s).1.flatMap readC = List.replicate (l.foldl (spellStep N) s).2 (let3 (kindF N))) := by
    intro l
    induction l with
    | nil => exact fun s h => h
    | cons k l ih =>
      intro s h
      rw [List.foldl_cons]
      refine ih _ ?_
      have hs := signOk_of (signs_ok3 (kind_lt N) (N.getD k 0) (twoF (N.getD k 0)) (two_lt _))
      unfold spellStep
      refine ⟨fun q hq => ?_, ?_⟩
      · simp only [List.mem_append, List.mem_singleton] at hq
        rcases hq with (hq | hq) | hq
        · exact h.1 q hq
        · exact h.1 q hq
        · rw [hq]; exact hs.1
      · rw [List.flatMap_append, List.flatMap_append, h.2, List.flatMap_cons, List.flatMap_nil, List.append_nil, hs.2.2, List.replicate_append_replicate, List.replicate_append_replicate]
        congr 1; lia
  exact key _ _ ⟨by simp, rfl⟩
theorem plainB {N : List Int} (h4 : 4 ≤ N.length) (h6 : N.length ≤ 6) : PlainB N := by
  refine ⟨fun k hk => ways_len k (by lia), fun k hk => hit_ok (by lia), fun x hx => sizes_ok (kind_lt N) x, fun x hx q hq => ?_, fun k hk => ?_, fun k hk => ?_⟩
  · obtain ⟨i, hi, rfl⟩ := signs_mem hq
    exact (signOk_of (signs_ok3 (kind_lt N) x i hi)).1
  · have := low_bound N k
    lia
  · have h1 : (frontF N k).length = (frontF N k).cps.toList.length := by simp [Str.length]
    have := text_len N k hk
    rw [h1, front_cps]; lia

/-! the units -/
noncomputable def unitsC (N : List Int) : List (List Nat) := N.flatMap fun x => unitC (pm x) (pk x)
theorem unitsF_C (N : List Int) : (unitsF N).map (·.cps.toList) = unitsC N := by
  unfold unitsF unitsC
  rw [List.map_flatMap]; rfl
theorem text_keep (N : List Int) : ∀ k ≤ N.length, keepP (textC N k) false false = ((N.take k).flatMap fun x => (unitC (pm x) (pk x)).flatten)
  | 0, _ => by simp [textC]; rfl
  | k + 1, h => by
    have ih := text_keep N k (by lia)
    have hs := (text_scan N k (by lia)).1
    have t := (piece_tab _ (pm_lt (N.getD k 0)).1 _ (pk_lt (N.getD k 0)).1).2.1
    rw [text_succ N (by lia), keep_app _ _ _ _ (by rw [hs]), hs, ih, t, List.take_add_one, List.flatMap_append]
    congr 1
    rw [List.getElem?_eq_getElem (by lia), List.getD_eq_getElem?_getD, List.getElem?_eq_getElem (by lia)]
    simp
theorem flat_flat {α β : Type} (f : α → List (List β)) : ∀ l : List α, (l.flatMap fun x => (f x).flatten) = (l.flatMap f).flatten
  | [] => rfl
  | a :: l => by rw [List.flatMap_cons, List.flatMap_cons, List.flatten_append, flat_flat f l]
theorem joinU_cps (N : List Int) : (joinU N).cps.toList = (unitsC N).flatten := by
  unfold joinU
  rw [join_flat]
  unfold flatS
  rw [unitsF_C]
noncomputable def encU : List (List Nat) → Nat → List (Int × Str)
  | [], _ => []
  | u :: r, j => (((j + u.length : Nat) : Int) - 1, ⟨u.toArray⟩) :: encU r (j + u.length)
theorem esc_enc : ∀ (us : List (List Nat)) (j : Nat) (qq : Int), us.all unitB = true → escP (us.flatten ++ [92]) j false qq = encU (us ++ [[92]]) j
  | [], j, qq, _ => by
    have hb : ((⟨#[92]⟩ : Str) == bsl) = true := by decide
    show escP [92] j false qq = _
    rw [escP, hb, if_pos rfl, escP, if_pos rfl]
    show [((j : Int), bsl)] = [(((j + 1 : Nat) : Int) - 1, (⟨#[92]⟩ : Str))]
    rw [show (((j + 1 : Nat) : Int) - 1) = (j : Int) by lia, show bsl = (⟨#[92]⟩ : Str) by decide]
  | u :: us, j, qq, h => by
    rw [List.all_cons, Bool.and_eq_true] at h
    obtain ⟨h1, h2⟩ := h
    rw [List.flatten_cons, List.cons_append, encU]
    match u, h1 with
    | [c], h1 =>
      have hc : c ≠ 92 := by simpa [unitB] using h1
      have hb : ((⟨#[c]⟩ : Str) == bsl) = false := by
        have : bsl = (⟨#[92]⟩ : Str) := by decide
        rw [this, one_eq]; exact decide_eq_false hc
      show escP (c :: (us.flatten ++ [92])) j false qq = _
      rw [escP, hb, if_neg (by simp), show (j : Int) + 1 = ((j + 1 : Nat) : Int) by lia, esc_enc us (j + 1) _ h2]
      show _ = (((j + 1 : Nat) : Int) - 1, _) :: _
      rw [show (((j + 1 : Nat) : Int) - 1) = (j : Int) by lia]; rfl
    | [a, b], h1 =>
      have ha : a = 92 := by simpa [unitB] using h1
      subst ha
      have hb : ((⟨#[92]⟩ : Str) == bsl) = true := by decide
      show escP (92 :: b :: (us.flatten ++ [92])) j false qq = _
      rw [escP, hb, if_pos rfl, escP, show (j : Int) + 1 + 1 = ((j + 2 : Nat) : Int) by lia, esc_enc us (j + 2) _ h2]
      show _ = (((j + 2 : Nat) : Int) - 1, _) :: _
      rw [show (((j + 2 : Nat) : Int) - 1) = (j : Int) + 1 by lia]
      rw [show bsl = (⟨#[92]⟩ : Str) by decide]; rfl
theorem enc_places : ∀ (us : List Str) (j : Nat), (encU (us.map (·.cps.toList)) j).map item = (List.range us.length).map fun k => T.tup [.int ((j : Int) + ((us.take (k + 1)).map fun u => (u.length : Int)).sum - 1), .str (us.getD k "")]
  | [], j => rfl
  | u :: us, j => by
    rw [List.map_cons, encU, List.map_cons, enc_places us, List.length_cons, List.range_succ_eq_map, List.map_cons, List.map_map]
    have hl : u.cps.toList.length = u.length := by simp [Str.length]
    congr 1
    refine List.map_congr_left fun k _ => ?_
    show _ = T.tup [.int ((j : Int) + (((u :: us).take (k + 1 + 1)).map fun u => (u.length : Int)).sum - 1), .str ((u :: us).getD (k + 1) "")]
    rw [List.take_succ_cons, List.map_cons, List.sum_cons, hl]
    congr 4
    push_cast; lia
theorem units_all (N : List Int) : (unitsC N).all unitB = true := by
  unfold unitsC
  rw [List.all_flatMap]
  refine List.all_eq_true.mpr fun x _ => ?_
  exact (piece_tab _ (pm_lt x).1 _ (pk_lt x).1).2.2.1
theorem plainA {N : List Int} (h4 : 4 ≤ N.length) (h6 : N.length ≤ 6) : PlainA N := by
  have htx : (textF N).cps.toList = textC N N.length := by rw [text_front, front_cps]
  have hsh := (text_scan N N.length (Nat.le_refl _)).1
  have hkeep : keepP (textC N N.length) false false = (unitsC N).flatten := by
    rw [text_keep N _ (Nat.le_refl _), List.take_length, flat_flat]; rfl
  have hul := units_len N
  have hu2 : ∀ u ∈ unitsF N, u.length ≤ 2 := by
    intro u hu
    have h1 : u.cps.toList ∈ unitsC N := by rw [← unitsF_C]; exact List.mem_map.mpr ⟨u, hu, rfl⟩
    have h2 := List.all_eq_true.mp (units_all N) _ h1
    have h3 : u.length = u.cps.toList.length := by simp [Str.length]
    rw [h3]
    generalize u.cps.toList = v at h2
    unfold unitB at h2
    split at h2 <;> simp at h2 ⊢
  have hstrip : stripF (textF N) = joinU N := by
    rw [stripF_keep (by rw [htx, hsh]), htx, hkeep]
    apply str_ext
    rw [List.toList_toArray, joinU_cps]
  have hjl : (joinU N).length ≤ 900 := by
    have h1 : (joinU N).length = (joinU N).cps.toList.length := by simp [Str.length]
    rw [h1, joinU_cps, ← hkeep]
    have h3 : ∀ (l : List Nat) (e q : Bool), (keepP l e q).length ≤ l.length + (if e then 1 else 0) := by
      intro l
      induction l with
      | nil => intro e q; cases e <;> cases q <;> simp [keepP]
      | cons c r ih =>
        intro e q
        cases e with
        | true => rw [keepP]; have := ih false q; cases q <;> simp at * <;> lia
        | false =>
          rw [keepP]
          split
          · have := ih true q; simp at *; lia
          · split
            · have := ih false (!q); simp at *; lia
            · have := ih false q; cases q <;> simp at * <;> lia
    have := h3 (textC N N.length) false false
    have := text_len N N.length (Nat.le_refl _)
    simp at *; lia
  refine ⟨hstrip, hjl, ?_, ?_, ?_, fun u hu => ?_, fun x hx => b1_first (kind_lt N) x, (spell_ok N).1, ?_⟩
  · have h1 : (textF N).length = (textF N).cps.toList.length := by simp [Str.length]
    have := text_len N N.length (Nat.le_refl _)
    rw [h1, htx]; lia
  · have e1 : (joinU N ++ bslS).cps.toList = (unitsC N).flatten ++ [92] := by rw [app_cps, joinU_cps]; rfl
    have e2 : esc (joinU N ++ bslS) = escP ((unitsC N).flatten ++ [92]) ((0 : Nat) : Int) false 0 := by
      unfold esc; rw [e1]; rfl
    rw [e2, esc_enc _ _ _ (units_all N)]
    have e3 : unitsC N ++ [[92]] = (usF N).map (·.cps.toList) := by
      unfold usF; rw [List.map_append, unitsF_C]; rfl
    rw [e3, enc_places]
    refine List.map_congr_left fun k _ => ?_
    unfold placeT
    congr 3
    lia
  · have h0 : ((List.range (usF N).length).filter fun k => isB ((usF N).getD k "")).map (fun k => (usF N).getD k "") = (usF N).filter isB := by
      have h : usF N = (List.range (usF N).length).map fun k => (usF N).getD k "" := by
        apply List.ext_getElem
        · simp
        · intro i h1 h2
          simp [List.getD_eq_getElem?_getD, List.getElem?_eq_getElem h1]
      conv => rhs; rw [h, List.filter_map]
      rfl
    rw [h0]
    unfold usF
    rw [List.filter_append]
    have e4 : List.filter isB [bslS] = [] := by decide
    rw [e4, List.append_nil]
    unfold unitsF rowF
    rw [List.filter_flatMap]
    have e5 : ∀ l : List Int, (l.flatMap fun x => ((pieceX x).2).filter isB) = l.map fun x => ownS (pm x) := by
      intro l
      induction l with
      | nil => rfl
      | cons x l ih =>
        rw [List.flatMap_cons, ih, List.map_cons]
        have := (piece_tab _ (pm_lt x).1 _ (pk_lt x).1).2.2.2.1
        unfold pieceX
        rw [this]; rfl
    exact e5 N
  · unfold usF at hu
    rcases List.mem_append.mp hu with h | h
    · exact Nat.le_trans (hu2 u h) (by decide)
    · simp at h; subst h; decide
  · apply str_ext
    rw [prep_cps, (spell_ok N).2, mul_one_list]
    simp
theorem plain {N : List Int} (h4 : 4 ≤ N.length) (h6 : N.length ≤ 6) : PlainN N := ⟨plainA h4 h6, plainB h4 h6, plainC h4 h6⟩
end Mine
end

section
set_option autoImplicit false
namespace Mine
open PySem PySem.W
set_option maxRecDepth 100000
theorem opening_eq : opening PW = plainProg PW.main.scope.names := by rfl
theorem fence_eq : ∀ s, fenceModules? PW s = some s := fun s => by rfl
theorem boot_isNs (P : Params) : (boot_heap P).isNs mainGlobals = true := by kernel_rfl
theorem boot_isNsB (P : Params) : (boot_heap P).isNs builtinsNs = true := by kernel_rfl
theorem boot_isNsC (P : Params) : (boot_heap P).isNs cStatics = true := by kernel_rfl
theorem boot_isNsM (P : Params) : (boot_heap P).isNs sysModules = true := by kernel_rfl
theorem boot_blt (P : Params) : (boot_heap P).bltView = bltViewBooted := by kernel_rfl
theorem boot_keysM (P : Params) : (boot_heap P).nsKeys mainGlobals = ([("__name__" : Str), ("__doc__" : Str), ("__package__" : Str), ("__loader__" : Str), ("__spec__" : Str), ("__annotations__" : Str), ("__builtins__" : Str), ("__file__" : Str), ("__cached__" : Str)] : List Str) := by kernel_rfl
theorem boot_keysC (P : Params) : (boot_heap P).nsKeys cStatics = [] := by kernel_rfl
theorem boot_blts (P : Params) : (boot_heap P).nsMap mainGlobals "__builtins__" = some (.ref 4) := by kernel_rfl
theorem boot_bmod (P : Params) : ∃ o, (boot_heap P).get? 4 = some o ∧ o.cls = .type "module" ∧ o.dict = some builtinsNs ∧ o.data = .plain := ⟨_, rfl, rfl, rfl, rfl⟩
end Mine
end

section
set_option autoImplicit false
set_option linter.unusedVariables false
namespace Mine
open PySem PySem.Calls PyProof.Rows

noncomputable abbrev HP := Heap → Value → Prop
noncomputable def Stable (N : Addr) (P : HP) : Prop := ∀ (h h' : Heap) (v : Value), (∀ b o, N ≤ b → h.get? b = some o → h'.get? b = some o) → P h v → P h' v

/-- the top under way: what its names hold so far -/
structure TopI (h₀ : Heap) (mg₀ : Str → Option Value) (cd Pl : Addr) (h : Heap) (mg : Str → Option Value) (ps : Array Value) (poss : List (Nat × Nat)) (facts : List (Str × HP)) (names : List Str) : Prop where
  main : h.Main mg cd Pl ps
  keep : ∀ b o, b ≠ Pl → b ≠ mainGlobals → h₀.get? b = some o → h.get? b = some o
  got : ∀ p ∈ facts, ∃ v, mg p.1 = some v ∧ p.2 h v
  stab : ∀ p ∈ facts, Stable h₀.objs.size p.2
  others : ∀ x, x ∉ names → mg x = mg₀ x
  pos : ∀ q : Pos, (q.line, q.col) ∉ poss → codeAmong q ps.toList = none
  size : h₀.objs.size ≤ h.objs.size
  lowP : Pl < h₀.objs.size
  lowG : mainGlobals < h₀.objs.size

theorem codeAmong_other {pos q : Pos} {c : Value} (l : List Value) (h : TriplesOk l) (hq : (q.line, q.col) ≠ (pos.line, pos.col)) (hn : codeAmong q l = none) : codeAmong q (l ++ [rawInt pos.line, rawInt pos.col, c]) = none := by
  fun_induction TriplesOk l with
  | case1 =>
    simp only [List.nil_append, codeAmong, rawInt]
    rw [if_neg]
    intro h
    simp only [Bool.and_eq_true, beq_iff_eq] at h
    apply hq
    obtain ⟨h1, h2⟩ := h
    rw [Prod.mk.injEq]
    lia
  | case2 a t b u x rest ih =>
    simp only [List.cons_append, codeAmong] at hn ⊢
    split at hn
    · cases hn
    · rename_i hc; rw [if_neg hc]; exact ih h hn
  | case3 l h1 h2 => exact h.elim

section
variable {M : Model} {A : Around} {E : Value → Shared → Prop} {s : Shared} {prog : Program} {cd Pl F : Addr} {h₀ : Heap} {mg₀ mg : Str → Option Value} {ps : Array Value}
  {poss : List (Nat × Nat)} {facts : List (Str × HP)} {names : List Str} {Q : Flow → Shared → Prop}

theorem TopI.start {h : Heap} (m : h.Main mg cd Pl #[]) : TopI h mg cd Pl h mg #[] [] [] [] :=
  ⟨m, fun _ _ _ _ e => e, (fun _ hp => nomatch hp), (fun _ hp => nomatch hp), fun _ _ => rfl, fun _ _ => rfl, Nat.le_refl _, m.code.lt.2, m.g.lt⟩

theorem TopI.bind {h h' : Heap} {ps' : Array Value} {poss' : List (Nat × Nat)} {x : Str} {v : Value} {P : HP} (X : TopI h₀ mg₀ cd Pl h mg ps poss facts names) (hx : ∀ p ∈ facts, p.1 ≠ x)
    (hm : h'.Main (fun y => if y = x then some v else mg y) cd Pl ps') (keep : ∀ b o, b ≠ Pl → b ≠ mainGlobals → h.get? b = some o → h'.get? b = some o) (hsz : h₀.objs.size ≤ h'.objs.size)
    (hpos : ∀ q : Pos, (q.line, q.col) ∉ poss' → codeAmong q ps'.toList = none) (hP : P h' v) (st : Stable h₀.objs.size P) :
    TopI h₀ mg₀ cd Pl h' (fun y => if y = x then some v else mg y) ps' poss' ((x, P) :: facts) (x :: names) := by
  have ab : ∀ b o, h₀.objs.size ≤ b → h.get? b = some o → h'.get? b = some o := fun b o hb => keep b o (Nat.ne_of_gt (Nat.lt_of_lt_of_le X.lowP hb)) (Nat.ne_of_gt (Nat.lt_of_lt_of_le X.lowG hb))
  refine ⟨hm, fun b o hP hG e => keep b o hP hG (X.keep b o hP hG e), ?_, ?_, ?_, hpos, hsz, X.lowP, X.lowG⟩
  · intro p hp
    rcases List.mem_cons.mp hp with rfl | hp
    · exact ⟨v, if_pos rfl, hP⟩
    · obtain ⟨w, hw, hq⟩ := X.got p hp
      exact ⟨w, (if_neg (hx p hp)).trans hw, X.stab p hp _ _ _ ab hq⟩
  · intro p hp
    rcases List.mem_cons.mp hp with rfl | hp
    · exact st
    · exact X.stab p hp
  · intro y hy
    rw [List.mem_cons, not_or] at hy
    exact (if_neg hy.1).trans (X.others y hy.2)

theorem TopI.grown {h h₁ : Heap} (X : TopI h₀ mg₀ cd Pl h mg ps poss facts names) (hk : ∀ b o, h.get? b = some o → h₁.get? b = some o) (hsz : h.objs.size ≤ h₁.objs.size) :
    TopI h₀ mg₀ cd Pl h₁ mg ps poss facts names := by
  obtain ⟨bm, o, hbm, hne0, hneG, hneP, hbo, hrest⟩ := X.main.bmod
  exact ⟨⟨X.main.g.keeps hk, X.main.code.keeps hk, X.main.low, ⟨bm, o, hbm, hne0, hneG, hneP, hk _ _ hbo, hrest⟩⟩, fun b o hP hG e => hk b o (X.keep b o hP hG e),
    fun p hp => let ⟨v, a, b⟩ := X.got p hp; ⟨v, a, X.stab p hp _ _ _ (fun b o _ => hk b o) b⟩, X.stab, X.others, X.pos, Nat.le_trans X.size hsz, X.lowP, X.lowG⟩

theorem storedMain {h h' : Heap} {x : Str} {v : Value} (hm : h.Main mg cd Pl ps) (hnb : x ≠ "__builtins__") (hg' : h'.Ns mainGlobals (fun y => if y = x then some v else mg y)) (hs' : Heap.SameBut mainGlobals h h') :
    h'.Main (fun y => if y = x then some v else mg y) cd Pl ps :=
  let ⟨bm, o, hbm, hne0, hneG, hneP, hbo, hrest⟩ := hm.bmod
  ⟨hg', hm.code.sameBut hs' (Nat.ne_of_gt hm.low.1) (Nat.ne_of_gt hm.low.2), hm.low,
    ⟨bm, o, (if_neg (Ne.symm hnb)).trans hbm, hne0, hneG, hneP, (hs'.2 _ hneG).trans hbo, hrest⟩⟩

theorem TopI.store {x : Str} {pos' pos : Pos} {value : Expr} {P : HP} (X : TopI h₀ mg₀ cd Pl s.heap mg ps poss facts names)
    (hloc : prog.main.scope.names.lookup x = some .local) (hx : ∀ p ∈ facts, p.1 ≠ x)
    (hval : ∀ Q' : Value → Shared → Prop, (∀ v h₁ tk, (∀ b o, s.heap.get? b = some o → h₁.get? b = some o) → s.heap.objs.size ≤ h₁.objs.size → P h₁ v → Q' v { s with heap := h₁, toks := tk }) → wpAny M A (eval value (mainEnv prog cd F)) Q' E s)
    (st : Stable h₀.objs.size P)
    (k : ∀ h' mg' tk, TopI h₀ mg₀ cd Pl h' mg' ps poss ((x, P) :: facts) (x :: names) → 0 < tk → Q .next { s with heap := h', toks := tk })
    (hnb : x ≠ "__builtins__") (hmod : prog.main.scope.kind = .module)
    (hs : swapsWith value (some (.Name x pos')) pos.line (mainEnv prog cd F) = pure false) :
    wpAny M A (exec (.Assign [.Name x pos'] value pos) (mainEnv prog cd F)) Q E s := by
  refine wpAny_Assign_Name (hval _ fun v h₁ tk hk hsz hP => ?_) hs
  have X₁ := X.grown hk hsz
  refine wpAny_storeName_local (env := mainEnv prog cd F) hloc X₁.main.g (fun h' hg' hs' => ?_)
    (by show (prog.main.scope.kind == .class || (prog.main.scope.kind == .module && mainGlobals != mainGlobals)) = false; rw [hmod]; rfl)
  have kp : ∀ b o, b ≠ mainGlobals → h₁.get? b = some o → h'.get? b = some o := fun b o hb e => (hs'.2 b hb).trans e
  exact k h' _ (tk + 1) (X₁.bind hx (storedMain X₁.main hnb hg' hs') (fun b o _ hG => kp b o hG) (Nat.le_trans X₁.size (Nat.le_of_eq hs'.1.symm)) X₁.pos (st _ _ _ (fun b o hb => kp b o (Nat.ne_of_gt (Nat.lt_of_lt_of_le X.lowG hb))) hP) st) (Nat.succ_pos _)

noncomputable def FunP (N : Addr) (name : Str) (params : Arguments) (body : List Stmt) (scope : Scope) : HP := fun h v =>
  ∃ a c' pm, v = .ref a ∧ N ≤ a ∧ N ≤ c' ∧ h.get? a = some { cls := .type "function", data := .func (plainDef name params body scope pm (.ref c')) } ∧ h.CodeRec (.ref c') name
theorem FunP.stable {N : Addr} {name : Str} {params : Arguments} {body : List Stmt} {scope : Scope} : Stable N (FunP N name params body scope) := fun h h' v hk hx => by
  obtain ⟨a, c', pm, e, h1, h2, h3, h4⟩ := hx
  exact ⟨a, c', pm, e, h1, h2, hk _ _ h1 h3, h4.at fun o => hk _ o h2⟩

theorem TopI.defn {name : Str} {params : Arguments} {body : List Stmt} {scope : Scope} {pos : Pos} (X : TopI h₀ mg₀ cd Pl s.heap mg ps poss facts names)
    (hexec : PlainDefTree name params body scope pos) (hfree : ∀ x ∈ scope.names, x.2 ≠ .free) (hdoc : docOf body = none)
    (hloc : prog.main.scope.names.lookup name = some .local)
    (hq : qualnameIn { scope := prog.main.scope, locals := mainGlobals, globals := mainGlobals, cells := [] } name name = name)
    (hx : ∀ p ∈ facts, p.1 ≠ name) (hp : (pos.line, pos.col) ∉ poss)
    (k : ∀ h' mg' ps' tk, TopI h₀ mg₀ cd Pl h' mg' ps' ((pos.line, pos.col) :: poss) ((name, FunP h₀.objs.size name params body scope) :: facts) (name :: names) → 0 < tk → Q .next { s with heap := h', toks := tk })
    (hnb : name ≠ "__builtins__") (hmod : prog.main.scope.kind = .module) :
    wpAny M A (exec (.FunctionDef name params body [] none [] scope none name pos) (mainEnv prog cd F)) Q E s := by
  have hq' : qualnameIn (mainEnv prog cd F) name name = name := hq
  rw [hexec, hq']
  refine wpAny_bind (wpAny_standAt (wpAny_bind (wpAny_holding (wpAny_makeFunction_plainN (c := cd) (Pl := Pl) hfree hdoc X.main.g rfl X.main.code (X.pos _ hp) (Nat.ne_of_lt X.main.low.2) X.main.bmod ?_))))
  intro c' h₁ tk ext above below code rec _
  have hG : ∀ b o, b ≠ Pl → s.heap.get? b = some o → (h₁.push { cls := .type "function", data := .func (plainDef name params body scope ((mg "__name__").getD .none) (.ref c')) }).get? b = some o := fun b o hb e => Heap.get?_push_of_some _ (ext b o hb e)
  have up : s.heap.objs.size ≤ h₁.objs.size := Nat.le_trans above (Nat.le_of_lt below)
  have X₁ : TopI h₀ mg₀ cd Pl (h₁.push { cls := .type "function", data := .func (plainDef name params body scope ((mg "__name__").getD .none) (.ref c')) }) mg (ps ++ #[rawInt pos.line, rawInt pos.col, .ref c']) ((pos.line, pos.col) :: poss) facts names := by
    obtain ⟨bm, o, hbm, hne0, hneG, hneP, hbo, hrest⟩ := X.main.bmod
    refine ⟨⟨(X.main.g.extBut ext (Nat.ne_of_lt X.main.low.2)).push _, code.push _, X.main.low, ⟨bm, o, hbm, hne0, hneG, hneP, hG _ _ hneP hbo, hrest⟩⟩, fun b o hP hg e => hG b o hP (X.keep b o hP hg e),
      fun p hp => ?_, X.stab, X.others, fun q hq => ?_, by rw [Heap.size_push]; exact Nat.le_trans X.size (Nat.le_succ_of_le up), X.lowP, X.lowG⟩
    · obtain ⟨v, a, b⟩ := X.got p hp
      exact ⟨v, a, X.stab p hp _ _ _ (fun b o hb => hG b o (Nat.ne_of_gt (Nat.lt_of_lt_of_le X.lowP hb))) b⟩
    · rw [List.mem_cons, not_or] at hq
      obtain ⟨_, _, _, _, _, _, _, _, _, _, _, _, _, _, _, _, _, _, _, tr, _⟩ := X.main.code
      have e : (ps ++ #[rawInt pos.line, rawInt pos.col, .ref c']).toList = ps.toList ++ [rawInt pos.line, rawInt pos.col, .ref c'] := by simp
      rw [e]
      exact codeAmong_other _ tr hq.1 (X.pos q hq.2)
  refine wpAny_bind (wpAny_standAt (wpAny_bind (wpAny_bindName (wpAny_storeName_local (env := mainEnv prog cd F) hloc X₁.main.g (fun h' hg' hs' => wpAny_pure ?_)
    (by show (prog.main.scope.kind == .class || (prog.main.scope.kind == .module && mainGlobals != mainGlobals)) = false; rw [hmod]; rfl)))))
  have kp : ∀ b o, b ≠ mainGlobals → _ → h'.get? b = some o := fun b o hb e => (hs'.2 b hb).trans e
  have lo : ∀ {b : Addr}, h₀.objs.size ≤ b → b ≠ mainGlobals := fun hb => Nat.ne_of_gt (Nat.lt_of_lt_of_le X.lowG hb)
  refine k h' _ _ (tk + 1) (X₁.bind hx (storedMain X₁.main hnb hg' hs') (fun b o _ hG => kp b o hG) (Nat.le_trans X₁.size (Nat.le_of_eq hs'.1.symm)) X₁.pos ?_ FunP.stable) (Nat.succ_pos _)
  have ha : h₀.objs.size ≤ h₁.objs.size := Nat.le_trans X.size up
  have hc : h₀.objs.size ≤ c' := Nat.le_trans X.size above
  exact ⟨_, c', _, rfl, ha, hc, kp _ _ (lo ha) (Heap.get?_push_size _ rfl), rec.at fun o e => kp _ o (lo hc) (Heap.get?_push_of_some _ e)⟩
end
end Mine
end

section
set_option autoImplicit false
set_option linter.unusedVariables false
namespace Mine
open PySem PySem.Calls PyProof.Rows

section
variable {prog : Program} {w : World} {A : Around} {E : Value → Shared → Prop} {s : Shared}

/-- an entry of its own is put behind the others -/
theorem wp_dictPut_new {d : Addr} {kvs : List (Int × Value)} {k : Int} {key v : Value} {Q : Unit → Shared → Prop} (hkey : (intKind prog w).is k key = true) (hm : s.heap.DictOf (intKind prog w) d kvs) (hnew : k ∉ kvs.map (·.1)) (hsz : kvs.length ≤ sizeLine)
    (hQ : ∀ h', h'.DictOf (intKind prog w) d (kvs ++ [(k, v)]) → Heap.SameBut d s.heap h' → Q () { s with heap := h' }) :
    wpAny (model prog w) A (dictPut d ((intKind prog w).hash k) key v) Q E s := by
  obtain ⟨o, es, ep, ho, hc, hd, hk, hp, hn⟩ := hm
  have hz : es.size ≤ sizeLine := by
    have := hp.length
    rw [Array.length_toList] at this
    lia
  unfold dictPut
  refine wpAny_bind (wpAny_dictFind_of hkey ho hd hk ?_)
  have hidx : (es.findIdx? fun e => (intKind prog w).is k e.key) = none := by
    have e1 : (es.toList.findIdx? fun e => (intKind prog w).is k e.key) = none := by
      rw [hp.findIdx k, List.findIdx?_eq_none_iff]
      intro x hx
      exact decide_eq_false fun e => hnew (List.mem_map.mpr ⟨x, hx, e⟩)
    rw [← e1]
    obtain ⟨l⟩ := es
    simp
  rw [hidx]
  refine wpAny_updateDictKeys (hz := hz) ho hd (hQ _ ⟨_, _, ep + 1, Heap.get?_update_self _ ho (Obj.isFreed_of_dict (Obj.data_mapDictKeys hd _)), hc.mapDictKeys _, Obj.data_mapDictKeys hd _, hk.push hkey _, ?_, ?_⟩ (Heap.SameBut.update ..))
  · have := hp.append hkey ((intKind prog w).hash k) v
    rw [Array.toList_push]
    exact this
  · rw [List.map_append, List.nodup_append]
    refine ⟨hn, by simp, fun a ha b hb e => ?_⟩
    simp only [List.map_cons, List.map_nil, List.mem_singleton] at hb
    subst hb
    subst e
    exact hnew ha

theorem wp_merge {d o : Addr} {kvs more : List (Int × Value)} {Q : Unit → Shared → Prop} (hdo : d ≠ o) (hoS : (o == sysModules) = false)
    (hd : s.heap.DictOf (intKind prog w) d kvs) (ho : s.heap.DictOf (intKind prog w) o more) (hne : kvs ≠ []) (hnd : ((kvs ++ more).map (·.1)).Nodup) (hsz : kvs.length + more.length ≤ sizeLine)
    (hQ : ∀ h', h'.DictOf (intKind prog w) d (kvs ++ more) → Heap.SameBut d s.heap h' → Q () { s with heap := h' }) :
    wpAny (model prog w) A (mergeMapping d (.ref o) false) Q E s := by
  obtain ⟨od, esd, epd, hod, hcd, hdd, hkd, hpd, hnd'⟩ := id hd
  obtain ⟨oo, eso, epo, hoo, hco, hdo', hko, hpo, hno⟩ := id ho
  have hlen : more.length = eso.size := by rw [← hpo.length]; simp
  have hnemp : esd.isEmpty = false := by
    cases he : esd.isEmpty with
    | false => rfl
    | true =>
      have h0 : esd = #[] := Array.isEmpty_iff.mp he
      have h1 := hpd.length
      rw [h0] at h1
      exact absurd (List.length_eq_zero_iff.mp (by simpa using h1.symm)) hne
  unfold mergeMapping
  dsimp only
  refine wpAny_bind (wpAny_isInstance ho.typeIs isSubtype_dict_dict ?_)
  simp only [if_true]
  refine wpAny_bind (wpAny_specialOf ho.typeIs F.slot_dict_iter.lookup ?_)
  simp only [beq_self_eq_true]
  refine wpAny_bind (wpAny_pure ?_)
  dsimp only
  rw [hoS]
  simp only [Bool.false_eq_true, if_false]
  refine wpAny_bind (wpAny_dictEntries hod hdd ?_)
  rw [hnemp]
  simp only [Bool.false_eq_true, if_false]
  refine wpAny_bind (wpAny_dictEntries hoo hdo' ?_)
  refine wpAny_bind (wpAny_dictEpoch hoo hdo' ?_)
  refine wpAny_bind ?_
  refine wpAny_forIn_list _ (fun rest _ s' => ∃ h' i, s' = { s with heap := h' } ∧ rest = List.range' i (eso.size - i) ∧ i ≤ eso.size ∧ h'.DictOf (intKind prog w) d (kvs ++ more.take i) ∧ h'.get? o = some oo ∧ Heap.SameBut d s.heap h') _ ?_ ?_ _ _ ⟨s.heap, 0, rfl, by simp [List.range_eq_range'], Nat.zero_le _, by simpa using hd, hoo, Heap.SameBut.refl _ _⟩
  · rintro x rest b s' ⟨h', i, rfl, hr, hi, hd', hoo', hs'⟩
    have hlt : i < eso.size := by
      rcases Nat.lt_or_ge i eso.size with h | h
      · exact h
      · rw [Nat.sub_eq_zero_of_le h] at hr; simp at hr
    obtain ⟨rfl, hrest⟩ : x = i ∧ rest = List.range' (i + 1) (eso.size - (i + 1)) := by
      have e : eso.size - i = (eso.size - (i + 1)) + 1 := by lia
      rw [e, List.range'_succ] at hr
      injection hr with h1 h2
      exact ⟨h1, h2⟩
    refine wpAny_bind (wpAny_dictEntries hoo' hdo' ?_)
    rw [Array.getElem?_eq_getElem hlt]
    have hlt' : x < more.length := by rw [hlen]; exact hlt
    have hkv : more[x]? = some more[x] := List.getElem?_eq_getElem hlt'
    obtain ⟨hkey, hval⟩ := hpo.get? (e := eso[x]) (k := more[x].1) (v := more[x].2) (by simp [hlt]) hkv
    obtain ⟨k', hkey', hhash⟩ := hko eso[x] (Array.getElem_mem hlt)
    obtain rfl : k' = more[x].1 := (intKind prog w).inj _ _ _ hkey' hkey
    have htk : more.take (x + 1) = more.take x ++ [more[x]] := by rw [List.take_add_one, hkv]; rfl
    have hfresh : more[x].1 ∉ (kvs ++ more.take x).map (·.1) := by
      intro hm
      have e : (kvs ++ more).map (·.1) = (kvs ++ more.take x).map (·.1) ++ (more.drop x).map (·.1) := by
        rw [← List.map_append, List.append_assoc, List.take_append_drop]
      rw [e, List.nodup_append] at hnd
      exact hnd.2.2 _ hm _ (List.mem_map.mpr ⟨more[x], by rw [List.drop_eq_getElem_cons hlt']; exact List.mem_cons_self, rfl⟩) rfl
    have hz : (kvs ++ more.take x).length ≤ sizeLine := by
      rw [List.length_append, List.length_take]; lia
    dsimp only
    refine wpAny_bind (wpAny_holding ?_)
    rw [hhash, hval]
    refine ((wp_dictPut_new hkey hd' hfresh hz fun h'' hd'' hs'' => ?_))
    have hoo'' : h''.get? o = some oo := (hs''.2 o (Ne.symm hdo)).trans hoo'
    refine wpAny_bind (wpAny_dictEpoch hoo'' hdo' ?_)
    rw [if_neg (by simp)]
    refine wpAny_pure ⟨h'', x + 1, rfl, hrest, hlt, ?_, hoo'', hs'.trans hs''⟩
    rw [htk, ← List.append_assoc]
    exact hd''
  · rintro b s' ⟨h', i, rfl, hr, hi, hd', hoo', hs'⟩
    have hin : i = eso.size := by
      rcases Nat.lt_or_ge i eso.size with h | h
      · have e : eso.size - i = (eso.size - (i + 1)) + 1 := by lia
        rw [e, List.range'_succ] at hr; exact nomatch hr
      · exact Nat.le_antisymm hi h
    refine wpAny_pure (hQ h' ?_ hs')
    rw [hin, ← hlen, List.take_length] at hd'; exact hd'
end
end Mine
end

section
set_option autoImplicit false
set_option linter.unusedVariables false
namespace Mine
open PySem PySem.Calls PyProof.Rows PySem.Spec PyProof.V

section
variable {prog : Program} {w : World} {A : Around} {E : Value → Shared → Prop} {s : Shared}

/-- pairs of trees that are literals, int keys -/
noncomputable def Lits (prog : Program) (w : World) (A : Around) (E : Value → Shared → Prop) : List (Sem Value × Sem Value) → List (PyData × PyData) → Prop
  | [], D => D = []
  | p :: ps, D => ∃ (i : Int) (dv : PyData) (D' : List (PyData × PyData)), D = (.int i, dv) :: D' ∧ (∀ (s : Shared) (Q : Value → Shared → Prop), (∀ t tk, Q (.int i t) { s with toks := tk }) → wpAny (model prog w) A p.1 Q E s) ∧
      (∀ (s : Shared) (Q : Value → Shared → Prop), (∀ x tk, Flat x dv → Q x { s with toks := tk }) → wpAny (model prog w) A p.2 Q E s) ∧ Lits prog w A E ps D'

theorem Lits.app {ps qs : List (Sem Value × Sem Value)} {C D : List (PyData × PyData)} (h : Lits prog w A E ps C) (h' : Lits prog w A E qs D) : Lits prog w A E (ps ++ qs) (C ++ D) := by
  induction ps generalizing C with
  | nil => cases h; exact h'
  | cons p ps ih =>
    obtain ⟨i, dv, D', rfl, h1, h2, h3⟩ := h
    exact ⟨i, dv, D' ++ D, rfl, h1, h2, ih h3⟩
theorem Lits.length {ps : List (Sem Value × Sem Value)} {D : List (PyData × PyData)} (h : Lits prog w A E ps D) : D.length = ps.length := by
  induction ps generalizing D with
  | nil => cases h; rfl
  | cons p ps ih => obtain ⟨i, dv, D', rfl, h1, h2, h3⟩ := h; simp [ih h3]
theorem Lits.keyed {ps : List (Sem Value × Sem Value)} {D : List (PyData × PyData)} (h : Lits prog w A E ps D) : intKeyed D = true := by
  induction ps generalizing D with
  | nil => cases h; rfl
  | cons p ps ih => obtain ⟨i, dv, D', rfl, h1, h2, h3⟩ := h; show intKeyed D' = true; exact ih h3

theorem keys_app {C D : List (PyData × PyData)} (h : intKeyed C = true) : intKeysOf (C ++ D) = intKeysOf C ++ intKeysOf D := by
  induction C with
  | nil => rfl
  | cons p C ih =>
    obtain ⟨k, v⟩ := p
    cases k <;> simp [intKeyed] at h
    simp [intKeysOf, ih h]
theorem flat_keys {kvs : List (Int × Value)} {D : List (PyData × PyData)} (h : FlatPairs PyData.int kvs D) : kvs.map (·.1) = intKeysOf D ∧ intKeyed D = true ∧ D.length = kvs.length := by
  induction h with
  | nil => exact ⟨rfl, rfl, rfl⟩
  | cons _ _ ih => exact ⟨by simp [intKeysOf, ih.1], ih.2.1, by simp [ih.2.2]⟩
theorem flat_app {kvs more : List (Int × Value)} {C D : List (PyData × PyData)} (h : FlatPairs PyData.int kvs C) (h' : FlatPairs PyData.int more D) : FlatPairs PyData.int (kvs ++ more) (C ++ D) := by
  induction h with
  | nil => exact h'
  | cons f _ ih => exact .cons f ih

theorem wp_pairs : ∀ (ps : List (Sem Value × Sem Value)) (D : List (PyData × PyData)) (s : Shared) (Q : List (Value × Value) → Shared → Prop), Lits prog w A E ps D → (∀ vs tk, ReadAs vs D → Q vs { s with toks := tk }) → wpAny (model prog w) A (evalPairs ps) Q E s
  | [], _, s, Q, rfl, k => evalPairs_nil (k [] s.toks .nil)
  | (a, b) :: ps, _, s, Q, ⟨i, dv, D', rfl, h1, h2, h3⟩, k => evalPairs_cons (h1 _ _ fun t tk => h2 _ _ fun x tk' f => wp_pairs ps D' _ _ h3 fun vs tk'' r => k _ tk'' (.cons (Flat.int i t) f r))

theorem stored_new {kvs : List (Int × Value)} {k : Int} {v : Value} (h : k ∉ kvs.map (·.1)) : stored kvs k v = kvs ++ [(k, v)] := by
  unfold stored
  rw [if_neg]
  intro e
  obtain ⟨x, hx, e⟩ := List.any_eq_true.mp e
  exact h (List.mem_map.mpr ⟨x, hx, of_decide_eq_true e⟩)

theorem wp_stores {d : Addr} {f : Sem Value × Sem Value → PUnit → Sem (ForInStep PUnit)} (hf : ∀ k v u, f (k, v) u = (do
        let kv ← k
        let vv ← holding [kv] v
        holding [kv, vv] (dictSet d kv vv)
        pure (.yield PUnit.unit))) : ∀ (ps : List (Sem Value × Sem Value)) (D : List (PyData × PyData)) (s : Shared) (kvs : List (Int × Value)) (C : List (PyData × PyData)) (Q : PUnit → Shared → Prop), Lits prog w A E ps D → s.heap.DictOf (intKind prog w) d kvs → FlatPairs PyData.int kvs C →
      (intKeysOf (C ++ D)).Nodup → kvs.length + ps.length ≤ sizeLine → (∀ h' tk kvs', h'.DictOf (intKind prog w) d kvs' → FlatPairs PyData.int kvs' (C ++ D) → Heap.SameBut d s.heap h' → Q PUnit.unit { s with heap := h', toks := tk }) →
      wpAny (model prog w) A (forIn ps PUnit.unit f) Q E s
  | [], _, s, kvs, C, Q, rfl, hd, fl, hn, hz, k => by
    rw [List.forIn_nil]
    exact wpAny_pure (k s.heap s.toks kvs hd (by simpa using fl) (Heap.SameBut.refl _ _))
  | (a, b) :: ps, _, s, kvs, C, Q, ⟨i, dv, D', rfl, h1, h2, h3⟩, hd, fl, hn, hz, k => by
    rw [List.forIn_cons, hf]
    rw [List.length_cons] at hz
    have hkeys := flat_keys fl
    have hnew : i ∉ kvs.map (·.1) := by
      rw [hkeys.1]
      rw [keys_app hkeys.2.1, List.nodup_append] at hn
      exact fun m => hn.2.2 i m i List.mem_cons_self rfl
    refine wpAny_bind (wpAny_bind (h1 _ _ fun t tk => ?_))
    refine wpAny_bind (wpAny_holding (h2 _ _ fun x tk' fx => ?_))
    refine wpAny_bind (wpAny_holding (wpAny_dictSet_pairs (knd := intKind prog w) (k := i) (hsz := by lia) (intKind_is _ _ _ _) hd fun h₁ hd₁ hs₁ => wpAny_pure ?_))
    rw [stored_new hnew] at hd₁
    have e : C ++ (PyData.int i, dv) :: D' = (C ++ [(.int i, dv)]) ++ D' := by simp
    refine wp_stores hf ps D' _ _ (C ++ [(.int i, dv)]) Q h3 hd₁ (flat_app fl (.cons fx .nil)) (e ▸ hn) (by rw [List.length_append]; simp; lia) fun h' tk'' kvs' hd' fl' hs' => ?_
    rw [e] at k
    exact k h' tk'' kvs' hd' fl' (hs₁.trans hs')

theorem wp_sub {ps : List (Sem Value × Sem Value)} {D : List (PyData × PyData)} {Q : Addr → Shared → Prop} (h : Lits prog w A E ps D) (hn : (intKeysOf D).Nodup) (hz : ps.length ≤ 17)
    (k : ∀ h' tk kvs, h'.DictOf (intKind prog w) s.heap.objs.size kvs → FlatPairs PyData.int kvs D → (∀ b o, s.heap.get? b = some o → h'.get? b = some o) → s.heap.objs.size < h'.objs.size → Q s.heap.objs.size { s with heap := h', toks := tk }) :
    wpAny (model prog w) A (subDict ps) Q E s := by
  have fin : ∀ h' : Heap, Heap.SameBut s.heap.objs.size (s.heap.push { cls := .type "dict", data := .dict #[] }) h' → (∀ b o, s.heap.get? b = some o → h'.get? b = some o) ∧ s.heap.objs.size < h'.objs.size := fun h' hs =>
    ⟨fun b o e => (hs.2 b (Nat.ne_of_lt (Heap.lt_size e))).trans (Heap.get?_push_of_some _ e), by rw [hs.1, Heap.size_push]; exact Nat.lt_succ_self _⟩
  by_cases hl : ps.length ≤ 15
  · refine wpAny_subDict (knd := intKind prog w) hl (wp_pairs ps D _ _ h fun vs tk r => ?_)
    obtain ⟨h1, h2, h3⟩ := r.int h.keyed
    exact display_done_int h1 (h2 ▸ hn) (Heap.DictOf.new _) fun h' hm hsb => k h' _ _ hm h3 (fin h' hsb).1 (fin h' hsb).2
  · unfold subDict
    refine wpAny_bind (wpAny_alloc (wpAny_bind (wpAny_holding ?_)))
    rw [if_neg hl]
    refine wpAny_bind (wpAny_rule ?_)
    refine wpAny_bind (wp_stores (d := s.heap.objs.size) (fun _ _ _ => rfl) ps D _ [] [] _ h (Heap.DictOf.new _) .nil (by simpa using hn) (by rw [sizeLine_eq]; simp; lia) fun h' tk kvs hd fl hs => ?_)
    exact wpAny_pure (wpAny_pure (k h' tk kvs hd (by simpa using fl) (fin h' hs).1 (fin h' hs).2))

/-- what the display has made so far -/
noncomputable def Made (prog : Program) (w : World) (s : Shared) (main : Option Addr) (C : List (PyData × PyData)) (s' : Shared) : Prop :=
  ∃ h' tk, s' = { s with heap := h', toks := tk } ∧ (∀ b o, s.heap.get? b = some o → h'.get? b = some o) ∧ s.heap.objs.size ≤ h'.objs.size ∧
    match main with
    | none => C = []
    | some d => s.heap.objs.size ≤ d ∧ C ≠ [] ∧ ∃ kvs, h'.DictOf (intKind prog w) d kvs ∧ FlatPairs PyData.int kvs C

theorem wp_first {s' : Shared} {ps : List (Sem Value × Sem Value)} {D : List (PyData × PyData)} {Q : Option Addr → Shared → Prop} (m : Made prog w s none [] s') (h : Lits prog w A E ps D) (hn : (intKeysOf D).Nodup) (hz : ps.length ≤ 17) (h0 : ps ≠ [])
    (k : ∀ a s'', Made prog w s (some a) D s'' → Q (some a) s'') : wpAny (model prog w) A (do let d ← subDict ps; pure (some d)) Q E s' := by
  obtain ⟨h', tk, rfl, kp, sz, _⟩ := m
  refine wpAny_bind (wp_sub h hn hz fun h₁ tk₁ kvs hd fl kp₁ sz₁ => wpAny_pure (k _ _ ⟨h₁, tk₁, rfl, fun b o e => kp₁ b o (kp b o e), by dsimp only at sz₁; lia, sz, fun e => ?_, kvs, hd, fl⟩))
  have := h.length
  rw [e] at this
  exact h0 (List.length_eq_zero_iff.mp this.symm)

theorem wp_next {s' : Shared} {a : Addr} {ps : List (Sem Value × Sem Value)} {C D : List (PyData × PyData)} {Q : Option Addr → Shared → Prop} {K : Addr → Value → Sem Unit} (low : sysModules < s.heap.objs.size) (m : Made prog w s (some a) C s') (h : Lits prog w A E ps D) (hn : (intKeysOf (C ++ D)).Nodup) (hz : ps.length ≤ 17) (hC : C.length ≤ 100000)
    (k : ∀ s'', Made prog w s (some a) (C ++ D) s'' → Q (some a) s'') :
    wpAny (model prog w) A (do let sub ← holding [.ref a] (subDict ps); (holding [.ref a, .ref sub] (mergeMapping a (.ref sub) false)).onRaise (K sub); pure (some a)) Q E s' := by
  obtain ⟨h', tk, rfl, kp, sz, la, hne, kvs, hd, fl⟩ := m
  have hk := flat_keys fl
  have hD : (intKeysOf D).Nodup := by
    rw [keys_app hk.2.1, List.nodup_append] at hn; exact hn.2.1
  refine wpAny_bind (wpAny_holding (wp_sub h hD hz fun h₁ tk₁ more hd₁ fl₁ kp₁ sz₁ => ?_))
  have hlt : a < h'.objs.size := by obtain ⟨o, _, _, ho, _⟩ := hd; exact Heap.lt_size ho
  have hk₁ := flat_keys fl₁
  have hd' : h₁.DictOf (intKind prog w) a kvs := hd.keep kp₁
  refine wpAny_bind (wpAny_onRaise (wpAny_holding (wp_merge (Nat.ne_of_lt hlt) (beq_eq_false_iff_ne.mpr (Nat.ne_of_gt (Nat.lt_of_lt_of_le low sz))) hd' hd₁ ?_ ?_ ?_ fun h₂ hd₂ hs₂ => wpAny_pure ?_)))
  · intro e; subst e; exact hne (by simpa using hk.2.2)
  · rw [List.map_append, hk.1, hk₁.1, ← keys_app hk.2.1]; exact hn
  · rw [sizeLine_eq]
    have h1 := hk.2.2
    have h2 := hk₁.2.2
    have h3 := h.length
    lia
  · refine k _ ⟨h₂, tk₁, rfl, fun b o e => ?_, Nat.le_trans sz (by rw [hs₂.1]; exact Nat.le_of_lt sz₁), la, by simp [hne], _, hd₂, flat_app fl fl₁⟩
    have hb : b ≠ a := Nat.ne_of_lt (Nat.lt_of_lt_of_le (Heap.lt_size e) la)
    exact (hs₂.2 b hb).trans (kp₁ b o (kp b o e))

theorem nodup_part {C D X : List (PyData × PyData)} (hC : intKeyed C = true) (hD : intKeyed D = true) (h : (intKeysOf (C ++ D ++ X)).Nodup) : (intKeysOf (C ++ D)).Nodup ∧ (intKeysOf D).Nodup := by
  have hCD : intKeyed (C ++ D) = true := by
    clear h
    induction C with
    | nil => exact hD
    | cons p C ih => obtain ⟨k, v⟩ := p; cases k <;> simp [intKeyed] at hC; exact ih hC
  rw [keys_app hCD, List.nodup_append] at h
  refine ⟨h.1, ?_⟩
  have := h.1
  rw [keys_app hC, List.nodup_append] at this
  exact this.2.1

theorem Made.keyed {s s' : Shared} {main : Option Addr} {C : List (PyData × PyData)} (m : Made prog w s main C s') : intKeyed C = true := by
  obtain ⟨h', tk, rfl, kp, sz, m⟩ := m
  cases main with
  | none => rw [m]; rfl
  | some a => obtain ⟨_, _, kvs, _, fl⟩ := m; exact (flat_keys fl).2.1

theorem wp_gather (f : (Option (Sem Value) × Sem Value) → (Option Addr × List (Sem Value × Sem Value)) → Sem (ForInStep (Option Addr × List (Sem Value × Sem Value))))
    (D : List (PyData × PyData)) (hn : (intKeysOf D).Nodup)
    (short : ∀ (p : Sem Value × Sem Value) (st : Option Addr × List (Sem Value × Sem Value)), st.2.length + 1 < 17 → f (some p.1, p.2) st = pure (.yield (st.1, st.2 ++ [p])))
    (long : ∀ (p : Sem Value × Sem Value) (st : Option Addr × List (Sem Value × Sem Value)) (C Dr X : List (PyData × PyData)) (s' : Shared) (Q : ForInStep (Option Addr × List (Sem Value × Sem Value)) → Shared → Prop), st.2.length + 1 = 17 → D = C ++ Dr ++ X → Made prog w s st.1 C s' → Lits prog w A E (st.2 ++ [p]) Dr →
      (∀ a s'', Made prog w s (some a) (C ++ Dr) s'' → Q (.yield (some a, [])) s'') → wpAny (model prog w) A (f (some p.1, p.2) st) Q E s') :
    ∀ (ps : List (Sem Value × Sem Value)) (st : Option Addr × List (Sem Value × Sem Value)) (C Dr X : List (PyData × PyData)) (s' : Shared) (Q : Option Addr × List (Sem Value × Sem Value) → Shared → Prop), D = C ++ Dr ++ X → st.2.length < 17 → Made prog w s st.1 C s' → Lits prog w A E st.2 Dr → Lits prog w A E ps X →
      (∀ st' C' Dr' s'', D = C' ++ Dr' → st'.2.length < 17 → Made prog w s st'.1 C' s'' → Lits prog w A E st'.2 Dr' → Q st' s'') → wpAny (model prog w) A (forIn (ps.map fun p => (some p.1, p.2)) st f) Q E s'
  | [], st, C, Dr, X, s', Q, hD, hl, m, lr, lx, k => by
    obtain rfl : X = [] := lx
    exact wpAny_pure (k st C Dr s' (by simpa using hD) hl m lr)
  | p :: ps, st, C, Dr, X, s', Q, hD, hl, m, lr, ⟨i, dv, X', e, h1, h2, h3⟩, k => by
    subst e
    have lp : Lits prog w A E (st.2 ++ [p]) (Dr ++ [(.int i, dv)]) := lr.app ⟨i, dv, [], rfl, h1, h2, rfl⟩
    have hD' : D = C ++ (Dr ++ [(.int i, dv)]) ++ X' := by rw [hD]; simp
    rw [List.map_cons, List.forIn_cons]
    by_cases hs : st.2.length + 1 < 17
    · rw [short p st hs]
      exact wpAny_bind (wpAny_pure (wp_gather f D hn short long ps (st.1, st.2 ++ [p]) C _ X' s' Q hD' (by simpa using hs) m lp h3 k))
    · refine wpAny_bind (long p st C _ X' s' _ (by lia) hD' m lp fun a s'' m' => ?_)
      exact wp_gather f D hn short long ps (some a, []) _ [] X' s'' Q (by simpa using hD') (by simp) m' rfl h3 k

theorem wp_display {ps : List (Sem Value × Sem Value)} {D : List (PyData × PyData)} {Q : Value → Shared → Prop} (h : Lits prog w A E ps D) (hn : (intKeysOf D).Nodup) (h0 : ps ≠ []) (hz : ps.length ≤ 100000) (low : sysModules < s.heap.objs.size)
    (k : ∀ a h' tk kvs, s.heap.objs.size ≤ a → s.heap.objs.size ≤ h'.objs.size → h'.DictOf (intKind prog w) a kvs → FlatPairs PyData.int kvs D → (∀ b o, s.heap.get? b = some o → h'.get? b = some o) → Q (.ref a) { s with heap := h', toks := tk }) :
    wpAny (model prog w) A (dictDisplay (ps.map fun p => (some p.1, p.2))) Q E s := by
  have hne : D ≠ [] := fun e => h0 (List.length_eq_zero_iff.mp (by rw [← h.length, e]; rfl))
  have hlD : D.length ≤ 100000 := by rw [h.length]; exact hz
  have last : ∀ a s'', Made prog w s (some a) D s'' → wpAny (model prog w) A (pure (Value.ref a)) Q E s'' := by
    rintro a s'' ⟨h', tk, rfl, kp, sz, la, _, kvs, hd, fl⟩
    exact wpAny_pure (k a h' tk kvs la sz hd fl kp)
  unfold dictDisplay
  dsimp only
  refine wpAny_bind (wp_gather (s := s) _ D hn ?_ ?_ ps (none, []) [] [] D s _ (by simp) (by simp) ⟨s.heap, s.toks, rfl, fun _ _ e => e, Nat.le_refl _, rfl⟩ rfl h ?_)
  · intro p st hs
    have hne : ((st.2 ++ [(p.1, p.2)]).length == 17) = false := by simp; lia
    simp only [hne, Bool.false_eq_true, if_false]
  · intro p st C Dr X s' Q hl hD m lp k
    have hne : ((st.2 ++ [(p.1, p.2)]).length == 17) = true := by simp; lia
    have hz' : (st.2 ++ [p]).length ≤ 17 := by simp; lia
    have hnd := nodup_part m.keyed lp.keyed (hD ▸ hn)
    have hem : (st.2 ++ [(p.1, p.2)]).isEmpty = false := by simp
    simp only [hne, if_true]
    obtain ⟨main, run⟩ := st
    dsimp only at hem m lp hz' ⊢
    rw [hem]
    simp only [Bool.false_eq_true, if_false]
    cases main with
    | none =>
      obtain rfl : C = [] := by obtain ⟨_, _, _, _, _, e⟩ := m; exact e
      exact wpAny_bind (wp_first m lp hnd.2 hz' (by simp) fun a s'' m' => wpAny_pure (k a s'' (by simpa using m')))
    | some a => exact wpAny_bind (wp_next low m lp hnd.1 hz' (by rw [hD] at hlD; simp at hlD; lia) fun s'' m' => wpAny_pure (k a s'' m'))
  · intro st C Dr s' hD hl m lr
    obtain ⟨main, run⟩ := st
    dsimp only at m lr hl ⊢
    cases hr : run with
    | nil =>
      subst hr
      obtain rfl : Dr = [] := lr
      rw [List.append_nil] at hD
      subst hD
      simp only [List.isEmpty_nil, if_true]
      cases main with
      | none => exact absurd (by obtain ⟨_, _, _, _, _, e⟩ := m; exact e) hne
      | some a => exact wpAny_bind (wpAny_pure (last a s' m))
    | cons p r =>
      rw [← hr]
      have hem : run.isEmpty = false := by rw [hr]; rfl
      rw [hem]
      simp only [Bool.false_eq_true, if_false]
      have hnd := nodup_part (X := []) m.keyed lr.keyed (by rw [List.append_nil, ← hD]; exact hn)
      cases main with
      | none =>
        obtain rfl : C = [] := by obtain ⟨_, _, _, _, _, e⟩ := m; exact e
        rw [List.nil_append] at hD
        subst hD
        exact wpAny_bind (wp_first m lr hnd.2 (Nat.le_of_lt hl) (by rw [hr]; simp) fun a s'' m' => last a s'' m')
      | some a => exact wpAny_bind (wp_next low m lr hnd.1 (Nat.le_of_lt hl) (by rw [hD] at hlD; simp at hlD; lia) fun s'' m' => last a s'' (hD ▸ m'))
end
end Mine
end

section
set_option autoImplicit false
set_option linter.unusedVariables false
set_option linter.unusedSimpArgs false
namespace Mine
open PySem PySem.Calls PyProof.Rows PySem.Spec PyProof.V

section
variable {prog : Program} {w : World} {A : Around} {E : Value → Shared → Prop} {s : Shared} {env : Env} {cd F : Addr}

theorem spliced_ints : ∀ (es : List Expr) (ns : List Int) (pos : Pos) (s : Shared) (Q : List Value → Shared → Prop), litInts es = some ns → (∀ vs tk, IntsAre vs ns → Q vs { s with toks := tk }) → wpAny (model prog w) A (spliced (backTo pos (starEach es env))) Q E s
  | [], ns, pos, s, Q, h, k => by
    cases h
    exact wpAny_pure (k [] s.toks .nil)
  | e :: r, ns, pos, s, Q, h, k => by
    obtain ⟨i, p, q, ms, rfl, hr, rfl⟩ := litInts_cons h
    exact wpAny_items_cons (wpAny_Constant_int (spliced_ints r ms pos _ _ hr fun vs tk x => k _ tk (.cons i _ x)))

/-- a type of the built-ins is called at the top -/
theorem wp_topType {x : Str} {T : String} {p pos : Pos} {e : Expr} {rest : List Expr} {mg mb : Str → Option Value} {Q : Value → Shared → Prop} (hmod : prog.main.scope.kind = .module) (hg : s.heap.Ns mainGlobals mg) (hm : mg x = none) (hb : s.heap.Ns builtinsNs mb) (hv : mb x = some (.type T))
    (h : wpAny (model prog w) A (spliced (backTo pos (starEach (e :: rest) (mainEnv prog cd F)))) (fun vs s₁ => wpAny (model prog w) A (call (.type T) vs) Q E s₁) E s)
    (he : starEach (e :: rest) (mainEnv prog cd F) = (false, eval e (mainEnv prog cd F)) :: starEach rest (mainEnv prog cd F))
    (hplain : (backTo pos (starEach rest (mainEnv prog cd F))).any (·.1) = false) (hd : (x == ("__debug__" : Str)) = false) :
    wpAny (model prog w) A (eval (.Call (.Name x p) (e :: rest) [] pos) (mainEnv prog cd F)) Q E s :=
  wpAny_Call_NameR (Name_module hmod rfl (loadGlobal_builtin (env := mainEnv prog cd F) hg hm hb hv (Pv.callWith_type1 h he hplain)) hd)

theorem ints_of_items {a : Int} {n : Nat} {acc : Array Value} (h : ItemsOf (fun i v => ∃ t, v = .int (a + i * 1) t) acc n) : IntsAre acc.toList ((List.range n).map fun (i : Nat) => a + (i : Int)) := by
  obtain ⟨hs, h⟩ := h
  have key : ∀ (l : List Value) (k : Nat), (∀ (j : Nat) (v : Value), l[j]? = some v → ∃ t : Tok, v = Value.int (a + ((k + j : Nat) : Int) * 1) t) → IntsAre l ((List.range' k l.length).map fun (i : Nat) => a + (i : Int)) := by
    intro l
    induction l with
    | nil => exact fun k _ => .nil
    | cons v l ih =>
      intro k hk
      obtain ⟨t, rfl⟩ := hk 0 v rfl
      rw [List.length_cons, List.range'_succ, List.map_cons, Int.mul_one]
      exact .cons _ t (ih (k + 1) fun j v hj => by
        obtain ⟨t, e⟩ := hk (j + 1) v (by simpa using hj)
        exact ⟨t, by rw [e]; congr 4; lia⟩)
  have := key acc.toList 0 fun j v hj => by
    obtain ⟨t, e⟩ := h j v (by simpa using hj)
    exact ⟨t, by rw [e, Nat.zero_add]⟩
  rw [List.range_eq_range', ← hs]
  simpa using this

theorem eval_set {p1 p2 p3 p4 p5 p6 p7 p8 p9 p10 : Pos} {k5 k6 : Nat} {es : List Expr} {ns : List Int} {a b : Int} {n : Nat} {mg mb : Str → Option Value} {Q : Value → Shared → Prop}
    (hmod : prog.main.scope.kind = .module) (hh : A.handled = none) (hg : s.heap.Ns mainGlobals mg) (hb : s.heap.Ns builtinsNs mb)
    (g1 : mg "set" = none) (g2 : mg "list" = none) (g3 : mg "range" = none) (b1 : mb "set" = some (.type "set")) (b2 : mb "list" = some (.type "list")) (b3 : mb "range" = some (.type "range"))
    (hes : litInts es = some ns) (hsm : Builtin.Range.small a b 1 = true) (hn : Builtin.Range.rangeSize a b 1 = (n : Int)) (hz : n ≤ 1000) (hz' : ns.length ≤ 1000)
    (k : ∀ (h' : Heap) (tk : Tok) (x : Addr) (m : Nat), s.heap.objs.size ≤ x → h'.SetOf (intKind prog w) x (fun i => (ns ++ (List.range n).map fun (j : Nat) => a + (j : Int)).any (· == i)) m → (∀ b o, s.heap.get? b = some o → h'.get? b = some o) → s.heap.objs.size ≤ h'.objs.size → Q (.ref x) { s with heap := h', toks := tk }) :
    wpAny (model prog w) A (eval (.Call (.Name "set" p1) [.BinOp (.List es p2) .Add (.Call (.Name "list" p3) [.Call (.Name "range" p4) [.Constant (.int a) k5 p5, .Constant (.int b) k6 p6] [] p7] [] p8) p9] [] p10) (mainEnv prog cd F)) Q E s := by
  refine wp_topType hmod hg g1 hb b1 ?_ rfl rfl (by decide)
  refine wpAny_items_cons ?_
  refine wpAny_BinOp (wpAny_List (spliced_ints es ns p2 _ _ hes fun vs tk hvs => ?_))
  have hvl : vs.length = ns.length := hvs.length
  refine ⟨by rw [hvl, sizeLine_eq]; lia, ?_⟩
  dsimp only
  refine wp_topType hmod (hg.push _) g2 (hb.push _) b2 ?_ rfl rfl (by decide)
  refine wpAny_items_cons ?_
  refine wp_topType hmod (hg.push _) g3 (hb.push _) b3 ?_ rfl rfl (by decide)
  refine wpAny_items_cons (wpAny_Constant_int (wpAny_items_cons (wpAny_Constant_int (wpAny_pure ?_))))
  refine call_range_2 ?_
  dsimp only
  refine wpAny_pure ?_
  refine call_list_range hh (IsRange.new ..) hsm hn (by lia) fun h₁ tk₁ acc cc hk₁ hl₁ hit => ?_
  have hints := ints_of_items hit
  have hal : acc.size = n := hit.1
  refine P.add_list (hl := hk₁ _ _ (Heap.get?_push_of_some _ (Heap.get?_push_size _ rfl))) (hb := hl₁) ?_ (by rw [sizeLine_eq, List.size_toArray, hvl, hal]; lia)
  refine wpAny_pure ?_
  have hi : IntsAre (vs.toArray ++ acc).toList (ns ++ (List.range n).map fun (j : Nat) => a + (j : Int)) := by
    rw [Array.toList_append]; exact hvs.append hints
  have hsz : (vs.toArray ++ acc).size = (ns ++ (List.range n).map fun (j : Nat) => a + (j : Int)).length := by
    rw [← hi.length, Array.length_toList]
  refine call_set_list (items := vs.toArray ++ acc) hh ⟨_, Heap.get?_push_size _ rfl, rfl, 0, rfl⟩ hi ?_ fun h₂ tk₂ hset hk₂ => ?_
  · have : (vs.toArray ++ acc).size ≤ 2000 := by rw [Array.size_append, List.size_toArray, hvl, hal]; lia
    unfold scanBound; lia
  have hup : s.heap.objs.size ≤ h₁.objs.size := by
    have := Heap.lt_size hl₁
    simp only [Heap.size_push] at this
    exact Nat.le_trans (Nat.le_add_right _ 2) (Nat.le_of_lt this)
  obtain ⟨o, es', ep, tt, ho, rest⟩ := id hset
  have hlt := Heap.lt_size ho
  simp only [Heap.size_push] at hlt hk₂
  have hlt' : (h₁.objs.size + 1 : Nat) ≤ h₂.objs.size := Nat.le_of_lt (Nat.lt_of_le_of_lt (Nat.le_refl _) hlt)
  refine k h₂ tk₂ _ _ ?_ (SetOf_congr hset (fun i => ?_) rfl) (fun b o e => ?_) ?_
  · simp only [Heap.size_push]; lia
  · rw [firstMet_any, hsz]
    congr 1
    generalize (ns ++ (List.range n).map fun (j : Nat) => a + (j : Int)) = L
    apply List.ext_getElem
    · simp
    · intro j h1 h2
      simp at h1
      simp [List.getD_eq_getElem?_getD, List.getElem?_eq_getElem h1]
  · have e2 := hk₁ b o (Heap.get?_push_of_some _ (Heap.get?_push_of_some _ e))
    exact hk₂ b o (Nat.lt_of_lt_of_le (Heap.lt_size e) (Nat.le_succ_of_le hup)) (Heap.get?_push_of_some _ e2)
  · lia
end
end Mine
end

section
set_option autoImplicit false
set_option linter.unusedVariables false
set_option linter.unusedSimpArgs false
namespace Mine
open PySem PySem.Calls PyProof.Rows PySem.Spec PyProof.V

noncomputable def stName (i : Nat) : Str := match PW.main.body[i]? with
  | some (.FunctionDef x _ _ _ _ _ _ _ _ _) => x
  | some (.Assign [.Name x _] _ _) => x
  | _ => ""
noncomputable def stPos (i : Nat) : Pos := match PW.main.body[i]? with
  | some (.FunctionDef _ _ _ _ _ _ _ _ _ p) => p
  | some (.Assign _ _ p) => p
  | _ => default
noncomputable def stPos' (i : Nat) : Pos := match PW.main.body[i]? with
  | some (.Assign [.Name _ p] _ _) => p
  | _ => default
noncomputable def stVal (i : Nat) : Expr := match PW.main.body[i]? with
  | some (.Assign _ v _) => v
  | _ => default
noncomputable def isDef (i : Nat) : Bool := match PW.main.body[i]? with
  | some (.FunctionDef _ _ _ _ _ _ _ _ _ _) => true
  | _ => false

noncomputable def FloatP (f : UInt64) : HP := fun _ v => ∃ u : Tok, u ≠ 0 ∧ v = .float f u
noncomputable def SetP (w : World) (N : Addr) : HP := fun h v => ∃ a m, v = .ref a ∧ N ≤ a ∧ h.SetOf (intKind PW w) a b1S m
noncomputable def DictP (w : World) (N : Addr) : HP := fun h v => ∃ a kvs, v = .ref a ∧ N ≤ a ∧ h.DictOf (intKind PW w) a kvs ∧ FlatPairs PyData.int kvs b3D
theorem FloatP.stable {N : Addr} {f : UInt64} : Stable N (FloatP f) := fun _ _ _ _ h => h
theorem SetP.stable {N : Addr} {w : World} : Stable N (SetP w N) := fun h h' v hk hx => by
  obtain ⟨a, m, e, hN, o, es, ep, t, ho, r⟩ := hx
  exact ⟨a, m, e, hN, o, es, ep, t, hk _ _ hN ho, r⟩
theorem DictP.stable {N : Addr} {w : World} : Stable N (DictP w N) := fun h h' v hk hx => by
  obtain ⟨a, kvs, e, hN, ⟨o, es, ep, ho, r⟩, fl⟩ := hx
  exact ⟨a, kvs, e, hN, ⟨o, es, ep, hk _ _ hN ho, r⟩, fl⟩

/-- what the i-th statement binds -/
noncomputable def factOf (w : World) (N : Addr) (i : Nat) : Option (Str × HP) :=
  if isDef i then some (stName i, FunP N (stName i) (fnArgs PW i) (fnBody PW i) (fnScope PW i))
  else if i = 6 then some ("ONE_THIRD", FloatP f13) else if i = 7 then some ("ONE_SIXTH", FloatP f16) else if i = 8 then some ("TWO_THIRD", FloatP f23)
  else if i = 15 then some ("b1_set", SetP w N) else if i = 17 then some ("b3_exceptions", DictP w N) else none
noncomputable def factL (w : World) (N : Addr) : Nat → List (Str × HP)
  | 0 => []
  | i + 1 => (factOf w N i).toList ++ factL w N i
noncomputable def namesL : Nat → List Str
  | 0 => []
  | i + 1 => stName i :: namesL i
noncomputable def possL : Nat → List (Nat × Nat)
  | 0 => []
  | i + 1 => (if isDef i then [((stPos i).line, (stPos i).col)] else []) ++ possL i
noncomputable def nmS : Str := "__name__"
noncomputable def fnamesL (i : Nat) : List Str := (namesL i).filter fun x => x != nmS

theorem factL_names {w : World} {N : Addr} {x : Str} : ∀ i, i ≤ 27 → ((List.range i).all fun j => (factOf w N j).all fun p => p.1 == stName j && p.1 != nmS) = true → ∀ p ∈ factL w N i, p.1 ∈ fnamesL i
  | 0, _, _, p, hp => nomatch hp
  | i + 1, hi, ha, p, hp => by
    rw [List.range_succ, List.all_append, Bool.and_eq_true] at ha
    unfold factL at hp
    rcases List.mem_append.mp hp with h | h
    · have h2 := ha.2
      simp only [List.all_cons, List.all_nil, Bool.and_true] at h2
      rw [Option.mem_toList] at h
      rw [h] at h2
      simp only [Option.all_some, Bool.and_eq_true, beq_iff_eq] at h2
      refine List.mem_filter.mpr ⟨?_, h2.2⟩
      rw [h2.1]
      exact List.mem_cons_self
    · have := factL_names (x := x) i (by lia) ha.1 p h
      unfold fnamesL at this ⊢
      rw [List.mem_filter] at this ⊢
      exact ⟨List.mem_cons_of_mem _ this.1, this.2⟩
theorem facts_all (w : World) (N : Addr) : ((List.range 27).all fun j => (factOf w N j).all fun p => p.1 == stName j && p.1 != nmS) = true := by kernel_rfl

section
variable {w : World} {A : Around} {E : Value → Shared → Prop} {s : Shared} {cd Pl F : Addr} {h₀ : Heap} {mg₀ mg mb : Str → Option Value} {ps : Array Value} {Q : Flow → Shared → Prop}

noncomputable abbrev At (w : World) (h₀ : Heap) (mg₀ : Str → Option Value) (cd Pl : Addr) (i : Nat) (h : Heap) (mg : Str → Option Value) (ps : Array Value) : Prop := TopI h₀ mg₀ cd Pl h mg ps (possL i) (factL w h₀.objs.size i) (namesL i)

theorem fresh_of {N : Addr} {i : Nat} {x : Str} (hi : i ≤ 27) (h : (fnamesL i).contains x = false) : ∀ p ∈ factL w N i, p.1 ≠ x := fun p hp e => by
  have ha := facts_all w N
  have : ((List.range i).all fun j => (factOf w N j).all fun p => p.1 == stName j && p.1 != nmS) = true := by
    rw [List.all_eq_true] at ha ⊢
    intro j hj
    exact ha j (List.mem_range.mpr (Nat.lt_of_lt_of_le (List.mem_range.mp hj) hi))
  have := factL_names (x := x) i hi this p hp
  rw [e] at this
  rw [List.contains_iff_mem.mpr this] at h
  cases h

theorem hmodPW : PW.main.scope.kind = .module := by rfl

theorem step_def (i : Nat) (X : At w h₀ mg₀ cd Pl i s.heap mg ps)
    (hst : PW.main.body.drop i = .FunctionDef (stName i) (fnArgs PW i) (fnBody PW i) [] none [] (fnScope PW i) none (stName i) (stPos i) :: PW.main.body.drop (i + 1))
    (hexec : PlainDefTree (stName i) (fnArgs PW i) (fnBody PW i) (fnScope PW i) (stPos i)) (hfree : ((fnScope PW i).names.all fun x => x.2 != .free) = true) (hdoc : docOf (fnBody PW i) = none)
    (hloc : PW.main.scope.names.lookup (stName i) = some .local)
    (hq : qualnameIn { scope := PW.main.scope, locals := mainGlobals, globals := mainGlobals, cells := [] } (stName i) (stName i) = stName i)
    (hi : i ≤ 27) (hd : isDef i = true) (hx : (fnamesL i).contains (stName i) = false) (hp : (possL i).contains ((stPos i).line, (stPos i).col) = false) (hnb : stName i ≠ "__builtins__")
    (k : ∀ h' mg' ps' tk, At w h₀ mg₀ cd Pl (i + 1) h' mg' ps' → 0 < tk → wpAny (model PW w) A (execs (PW.main.body.drop (i + 1)) (mainEnv PW cd F)) Q E { s with heap := h', toks := tk }) :
    wpAny (model PW w) A (execs (PW.main.body.drop i) (mainEnv PW cd F)) Q E s := by
  rw [hst]
  refine wpAny_execs_cons (TopI.defn X hexec (fun x hx e => ?_) hdoc hloc hq (fresh_of hi hx) (fun m => ?_) (fun h' mg' ps' tk X' h0 => ?_) hnb hmodPW)
  · have := List.all_eq_true.mp hfree x hx
    rw [e] at this
    cases this
  · rw [List.contains_iff_mem.mpr m] at hp; cases hp
  · refine k h' mg' ps' tk ?_ h0
    have e1 : factL w h₀.objs.size (i + 1) = (stName i, FunP h₀.objs.size (stName i) (fnArgs PW i) (fnBody PW i) (fnScope PW i)) :: factL w h₀.objs.size i := by
      rw [factL]; unfold factOf; rw [hd]; rfl
    have e2 : possL (i + 1) = ((stPos i).line, (stPos i).col) :: possL i := by rw [possL, hd]; rfl
    unfold At
    rw [e1, e2]
    exact X'

theorem TopI.less {facts facts' : List (Str × HP)} {names : List Str} {poss : List (Nat × Nat)} {h : Heap} (X : TopI h₀ mg₀ cd Pl h mg ps poss facts names) (hs : ∀ p ∈ facts', p ∈ facts) : TopI h₀ mg₀ cd Pl h mg ps poss facts' names :=
  ⟨X.main, X.keep, fun p hp => X.got p (hs p hp), fun p hp => X.stab p (hs p hp), X.others, X.pos, X.size, X.lowP, X.lowG⟩

theorem step_val (i : Nat) (P : HP) (X : At w h₀ mg₀ cd Pl i s.heap mg ps)
    (hst : PW.main.body.drop i = .Assign [.Name (stName i) (stPos' i)] (stVal i) (stPos i) :: PW.main.body.drop (i + 1))
    (hloc : PW.main.scope.names.lookup (stName i) = some .local) (hi : i ≤ 27) (hd : isDef i = false) (hx : (fnamesL i).contains (stName i) = false)
    (hf : ∀ p, factOf w h₀.objs.size i = some p → p = (stName i, P))
    (hval : ∀ Q' : Value → Shared → Prop, (∀ v h₁ tk, (∀ b o, s.heap.get? b = some o → h₁.get? b = some o) → s.heap.objs.size ≤ h₁.objs.size → P h₁ v → Q' v { s with heap := h₁, toks := tk }) → wpAny (model PW w) A (eval (stVal i) (mainEnv PW cd F)) Q' E s)
    (st : Stable h₀.objs.size P) (hnb : stName i ≠ "__builtins__") (hs : swapsWith (stVal i) (some (.Name (stName i) (stPos' i))) (stPos i).line (mainEnv PW cd F) = pure false)
    (k : ∀ h' mg' tk, At w h₀ mg₀ cd Pl (i + 1) h' mg' ps → 0 < tk → wpAny (model PW w) A (execs (PW.main.body.drop (i + 1)) (mainEnv PW cd F)) Q E { s with heap := h', toks := tk }) :
    wpAny (model PW w) A (execs (PW.main.body.drop i) (mainEnv PW cd F)) Q E s := by
  rw [hst]
  refine wpAny_execs_cons (TopI.store X hloc (fresh_of hi hx) hval st (fun h' mg' tk X' h0 => ?_) hnb hmodPW hs)
  refine k h' mg' tk ?_ h0
  have e2 : possL (i + 1) = possL i := by rw [possL, hd]; rfl
  unfold At
  rw [e2, factL]
  refine X'.less fun p hp => ?_
  rcases List.mem_append.mp hp with h | h
  · rw [Option.mem_toList] at h
    rw [hf p h]
    exact List.mem_cons_self
  · exact List.mem_cons_of_mem _ h

theorem wp_fdiv {p1 p2 p3 : Pos} {k1 k2 : Nat} {x y : UInt64} {env : Env} (hy : Float64.isZero y = false) (Q' : Value → Shared → Prop)
    (k : ∀ v h₁ tk, (∀ b o, s.heap.get? b = some o → h₁.get? b = some o) → s.heap.objs.size ≤ h₁.objs.size → FloatP (Float64.div x y) h₁ v → Q' v { s with heap := h₁, toks := tk }) :
    wpAny (model PW w) A (eval (.BinOp (.Constant (.float x) k1 p1) .Div (.Constant (.float y) k2 p2) p3) env) Q' E s :=
  wpAny_BinOp (wpAny_Constant_float (wpAny_Constant_float (AutoFloatOps.truediv_1 (by rw [hy]; simp) (k _ _ _ (fun _ _ e => e) (Nat.le_refl _) ⟨_, Nat.succ_ne_zero _, rfl⟩))))

theorem wp_cstr {p : Pos} {k : Nat} {x : Str} {env : Env} (Q' : Value → Shared → Prop)
    (h : ∀ v h₁ tk, (∀ b o, s.heap.get? b = some o → h₁.get? b = some o) → s.heap.objs.size ≤ h₁.objs.size → True → Q' v { s with heap := h₁, toks := tk }) :
    wpAny (model PW w) A (eval (.Constant (.str x) k p) env) Q' E s :=
  wpAny_Constant_str (h _ _ _ (fun _ _ e => e) (Nat.le_refl _) trivial)

theorem lits_of {env : Env} {pos : Pos} : ∀ (keys : List (Option Expr)) (values : List Expr) (D : List (PyData × PyData)), litPairs keys values = some D → intKeyed D = true → Lits PW w A E (pairTrees keys values env pos) D
  | [], [], D, hD, _ => by cases hD; rfl
  | some k :: ks, v :: vs, D, hD, hi => by
    simp only [litPairs, Option.bind_eq_bind, Option.pure_def] at hD
    cases hk : tabLit k with
    | none => simp [hk] at hD
    | some dk =>
      cases hv : tabLit v with
      | none => simp [hk, hv] at hD
      | some dv =>
        cases hr : litPairs ks vs with
        | none => simp [hk, hv, hr] at hD
        | some r =>
          simp only [hk, hv, hr, Option.bind_some, Option.some.injEq] at hD
          subst hD
          cases dk with
          | int i =>
            refine ⟨i, dv, r, rfl, fun s Q h => eval_lit hk fun x tk fx => ?_, fun s Q h => wpAny_bind (eval_lit hv fun x tk fx => wpAny_bind (wpAny_standAt (wpAny_pure (h x tk fx)))), lits_of ks vs r hr hi⟩
            obtain ⟨t, rfl⟩ := fx.int_inv
            exact h t tk
          | _ => simp [intKeyed] at hi
  | [], _ :: _, _, hD, _ => by simp [litPairs] at hD
  | none :: _, _, _, hD, _ => by simp [litPairs] at hD
  | some _ :: _, [], _, hD, _ => by simp [litPairs] at hD

theorem wp_dict {keys : List (Option Expr)} {values : List Expr} {pos : Pos} {N : Addr} (hN : N ≤ s.heap.objs.size) (hD : litPairs keys values = some b3D) (hi : intKeyed b3D = true) (hn : (intKeysOf b3D).Nodup)
    (hall : keys.all (·.isSome) = true) (hl : keys.length = values.length) (h0 : keys ≠ []) (hz : keys.length ≤ 100000) (low : sysModules < s.heap.objs.size) {env : Env} (Q' : Value → Shared → Prop)
    (k : ∀ v h₁ tk, (∀ b o, s.heap.get? b = some o → h₁.get? b = some o) → s.heap.objs.size ≤ h₁.objs.size → DictP w N h₁ v → Q' v { s with heap := h₁, toks := tk }) :
    wpAny (model PW w) A (eval (.Dict keys values pos) env) Q' E s := by
  have hlen := pairTrees_length keys values env pos hall hl
  rw [arm_eval_Dict, zip_pairTrees keys values env pos hall hl]
  refine wpAny_bind (wpAny_standAt (wp_display (lits_of keys values _ hD hi) hn ?_ (by rw [hlen]; exact hz) low fun a h' tk kvs la sz hd fl kp => ?_))
  · intro e
    rw [e] at hlen
    exact h0 (List.length_eq_zero_iff.mp hlen.symm)
  · exact k _ h' tk kp sz ⟨a, kvs, rfl, Nat.le_trans hN la, hd, fl⟩

theorem wp_b1set {N : Addr} {p1 p2 p3 p4 p5 p6 p7 p8 p9 p10 : Pos} {k5 k6 : Nat} {es : List Expr} {ns : List Int} {a b : Int} {n : Nat} {mg mb : Str → Option Value} (hN : N ≤ s.heap.objs.size)
    (hh : A.handled = none) (hg : s.heap.Ns mainGlobals mg) (hb : s.heap.Ns builtinsNs mb)
    (g1 : mg "set" = none) (g2 : mg "list" = none) (g3 : mg "range" = none) (b1 : mb "set" = some (.type "set")) (b2 : mb "list" = some (.type "list")) (b3 : mb "range" = some (.type "range"))
    (hes : litInts es = some ns) (hsm : Builtin.Range.small a b 1 = true) (hn : Builtin.Range.rangeSize a b 1 = (n : Int)) (hz : n ≤ 1000) (hz' : ns.length ≤ 1000) (hb1 : (ns ++ (List.range n).map fun (j : Nat) => a + (j : Int)) = b1L) (Q' : Value → Shared → Prop)
    (k : ∀ v h₁ tk, (∀ b o, s.heap.get? b = some o → h₁.get? b = some o) → s.heap.objs.size ≤ h₁.objs.size → SetP w N h₁ v → Q' v { s with heap := h₁, toks := tk }) :
    wpAny (model PW w) A (eval (.Call (.Name "set" p1) [.BinOp (.List es p2) .Add (.Call (.Name "list" p3) [.Call (.Name "range" p4) [.Constant (.int a) k5 p5, .Constant (.int b) k6 p6] [] p7] [] p8) p9] [] p10) (mainEnv PW cd F)) Q' E s :=
  eval_set hmodPW hh hg hb g1 g2 g3 b1 b2 b3 hes hsm hn hz hz' fun h' tk x m hx hs kp sz => k _ h' tk kp sz ⟨x, m, rfl, Nat.le_trans hN hx, SetOf_congr hs (fun i => by
    rw [hb1]
    unfold b1S
    rw [List.contains_eq_any_beq]
    congr 1
    funext y
    rw [Bool.beq_comm]) rfl⟩
end
end Mine
end

section
set_option autoImplicit false
set_option linter.unusedVariables false
set_option maxRecDepth 100000
namespace Mine
open PySem PySem.Calls PyProof.Rows PySem.Spec PyProof.V

noncomputable def dKeys : Expr → List (Option Expr)
  | .Dict k _ _ => k
  | _ => []
noncomputable def dVals : Expr → List Expr
  | .Dict _ v _ => v
  | _ => []
noncomputable def dPos : Expr → Pos
  | .Dict _ _ p => p
  | _ => default
theorem b3_keyed : intKeyed b3D = true := by kernel_rfl
noncomputable def upB : List Int → Bool
  | a :: b :: r => decide (a < b) && upB (b :: r)
  | _ => true
theorem upB_lt : ∀ (l : List Int) (a : Int), upB (a :: l) = true → ∀ x ∈ l, a < x
  | [], _, _, x, hx => nomatch hx
  | b :: r, a, h, x, hx => by
    simp only [upB, Bool.and_eq_true, decide_eq_true_eq] at h
    rcases List.mem_cons.mp hx with rfl | hx
    · exact h.1
    · exact Int.lt_trans h.1 (upB_lt r b h.2 x hx)
theorem upB_nodup : ∀ l : List Int, upB l = true → l.Nodup
  | [], _ => List.nodup_nil
  | a :: l, h => by
    refine List.nodup_cons.mpr ⟨fun m => absurd (upB_lt l a h a m) (Int.lt_irrefl a), upB_nodup l ?_⟩
    cases l with
    | nil => rfl
    | cons b r => simp only [upB, Bool.and_eq_true] at h; exact h.2
theorem b3_nodup : (intKeysOf b3D).Nodup := upB_nodup _ (by kernel_rfl)
noncomputable def dictOk (e : Expr) (D : List (PyData × PyData)) : Bool := match e with
  | .Dict keys values _ => (keys.all (·.isSome)) && keys.length == values.length && !keys.isEmpty && keys.length.ble 100000
  | _ => false
theorem b3_lits : litPairs (dKeys (stVal 17)) (dVals (stVal 17)) = some b3D := by kernel_rfl
theorem b3_dok : dictOk (stVal 17) b3D = true := by kernel_rfl
theorem dict_shape (e : Expr) (D : List (PyData × PyData)) (h : dictOk e D = true) (hl : litPairs (dKeys e) (dVals e) = some D) :
    ∃ keys values pos, e = .Dict keys values pos ∧ litPairs keys values = some D ∧ keys.all (·.isSome) = true ∧ keys.length = values.length ∧ keys ≠ [] ∧ keys.length ≤ 100000 := by
  cases e <;> simp only [dictOk, Bool.false_eq_true] at h
  rename_i keys values pos
  simp only [Bool.and_eq_true, beq_iff_eq, Bool.not_eq_true', Nat.ble_eq] at h
  exact ⟨keys, values, pos, rfl, hl, h.1.1.1, h.1.1.2, fun e => by rw [e] at h; exact absurd h.1.2 (by simp), h.2⟩
theorem b3_shape : ∃ keys values pos, stVal 17 = .Dict keys values pos ∧ litPairs keys values = some b3D ∧ keys.all (·.isSome) = true ∧ keys.length = values.length ∧ keys ≠ [] ∧ keys.length ≤ 100000 := dict_shape (stVal 17) b3D b3_dok b3_lits
theorem b1_shape : ∃ (p1 p2 p3 p4 p5 p6 p7 p8 p9 p10 : Pos) (k5 k6 : Nat) (es : List Expr), stVal 15 = .Call (.Name "set" p1) [.BinOp (.List es p2) .Add (.Call (.Name "list" p3) [.Call (.Name "range" p4) [.Constant (.int 65024) k5 p5, .Constant (.int 65040) k6 p6] [] p7] [] p8) p9] [] p10 ∧ litInts es = some [173, 847, 6150, 6155, 6156, 6157, 8203, 8204, 8205, 8288, 65279] :=
  ⟨_, _, _, _, _, _, _, _, _, _, _, _, _, rfl, by kernel_rfl⟩
theorem b1_is : ([173, 847, 6150, 6155, 6156, 6157, 8203, 8204, 8205, 8288, 65279] : List Int) ++ (List.range 16).map (fun (j : Nat) => (65024 : Int) + (j : Int)) = b1L := by decide +kernel
theorem b1_small : Builtin.Range.small 65024 65040 1 = true := by decide +kernel
theorem b1_n : Builtin.Range.rangeSize 65024 65040 1 = ((16 : Nat) : Int) := by decide +kernel
theorem b1_ns : ([173, 847, 6150, 6155, 6156, 6157, 8203, 8204, 8205, 8288, 65279] : List Int).length ≤ 1000 := by decide

theorem top_w0 (cd F : Addr) : swapsWith (stVal 0) (some (.Name (stName 0) (stPos' 0))) (stPos 0).line (mainEnv PW cd F) = pure false := by kernel_rfl
theorem top_f0 (w : World) (N : Addr) : factOf w N 0 = none := by kernel_rfl
theorem top_s0 : PW.main.body.drop 0 = .Assign [.Name (stName 0) (stPos' 0)] (stVal 0) (stPos 0) :: PW.main.body.drop (0 + 1) := by kernel_rfl
theorem top_s1 : PW.main.body.drop 1 = .FunctionDef (stName 1) (fnArgs PW 1) (fnBody PW 1) [] none [] (fnScope PW 1) none (stName 1) (stPos 1) :: PW.main.body.drop (1 + 1) := by kernel_rfl
theorem top_t1 : PlainDefTree (stName 1) (fnArgs PW 1) (fnBody PW 1) (fnScope PW 1) (stPos 1) := fun _ => rfl
theorem top_s2 : PW.main.body.drop 2 = .FunctionDef (stName 2) (fnArgs PW 2) (fnBody PW 2) [] none [] (fnScope PW 2) none (stName 2) (stPos 2) :: PW.main.body.drop (2 + 1) := by kernel_rfl
theorem top_t2 : PlainDefTree (stName 2) (fnArgs PW 2) (fnBody PW 2) (fnScope PW 2) (stPos 2) := fun _ => rfl
theorem top_s3 : PW.main.body.drop 3 = .FunctionDef (stName 3) (fnArgs PW 3) (fnBody PW 3) [] none [] (fnScope PW 3) none (stName 3) (stPos 3) :: PW.main.body.drop (3 + 1) := by kernel_rfl
theorem top_t3 : PlainDefTree (stName 3) (fnArgs PW 3) (fnBody PW 3) (fnScope PW 3) (stPos 3) := fun _ => rfl
theorem top_s4 : PW.main.body.drop 4 = .FunctionDef (stName 4) (fnArgs PW 4) (fnBody PW 4) [] none [] (fnScope PW 4) none (stName 4) (stPos 4) :: PW.main.body.drop (4 + 1) := by kernel_rfl
theorem top_t4 : PlainDefTree (stName 4) (fnArgs PW 4) (fnBody PW 4) (fnScope PW 4) (stPos 4) := fun _ => rfl
theorem top_w5 (cd F : Addr) : swapsWith (stVal 5) (some (.Name (stName 5) (stPos' 5))) (stPos 5).line (mainEnv PW cd F) = pure false := by kernel_rfl
theorem top_f5 (w : World) (N : Addr) : factOf w N 5 = none := by kernel_rfl
theorem top_s5 : PW.main.body.drop 5 = .Assign [.Name (stName 5) (stPos' 5)] (stVal 5) (stPos 5) :: PW.main.body.drop (5 + 1) := by kernel_rfl
theorem top_w6 (cd F : Addr) : swapsWith (stVal 6) (some (.Name (stName 6) (stPos' 6))) (stPos 6).line (mainEnv PW cd F) = pure false := by kernel_rfl
theorem top_f6 (w : World) (N : Addr) : factOf w N 6 = some (stName 6, FloatP f13) := by kernel_rfl
theorem top_s6 : PW.main.body.drop 6 = .Assign [.Name (stName 6) (stPos' 6)] (stVal 6) (stPos 6) :: PW.main.body.drop (6 + 1) := by kernel_rfl
theorem top_w7 (cd F : Addr) : swapsWith (stVal 7) (some (.Name (stName 7) (stPos' 7))) (stPos 7).line (mainEnv PW cd F) = pure false := by kernel_rfl
theorem top_f7 (w : World) (N : Addr) : factOf w N 7 = some (stName 7, FloatP f16) := by kernel_rfl
theorem top_s7 : PW.main.body.drop 7 = .Assign [.Name (stName 7) (stPos' 7)] (stVal 7) (stPos 7) :: PW.main.body.drop (7 + 1) := by kernel_rfl
theorem top_w8 (cd F : Addr) : swapsWith (stVal 8) (some (.Name (stName 8) (stPos' 8))) (stPos 8).line (mainEnv PW cd F) = pure false := by kernel_rfl
theorem top_f8 (w : World) (N : Addr) : factOf w N 8 = some (stName 8, FloatP f23) := by kernel_rfl
theorem top_s8 : PW.main.body.drop 8 = .Assign [.Name (stName 8) (stPos' 8)] (stVal 8) (stPos 8) :: PW.main.body.drop (8 + 1) := by kernel_rfl
theorem top_s9 : PW.main.body.drop 9 = .FunctionDef (stName 9) (fnArgs PW 9) (fnBody PW 9) [] none [] (fnScope PW 9) none (stName 9) (stPos 9) :: PW.main.body.drop (9 + 1) := by kernel_rfl
theorem top_t9 : PlainDefTree (stName 9) (fnArgs PW 9) (fnBody PW 9) (fnScope PW 9) (stPos 9) := fun _ => rfl
theorem top_s10 : PW.main.body.drop 10 = .FunctionDef (stName 10) (fnArgs PW 10) (fnBody PW 10) [] none [] (fnScope PW 10) none (stName 10) (stPos 10) :: PW.main.body.drop (10 + 1) := by kernel_rfl
theorem top_t10 : PlainDefTree (stName 10) (fnArgs PW 10) (fnBody PW 10) (fnScope PW 10) (stPos 10) := fun _ => rfl
theorem top_s11 : PW.main.body.drop 11 = .FunctionDef (stName 11) (fnArgs PW 11) (fnBody PW 11) [] none [] (fnScope PW 11) none (stName 11) (stPos 11) :: PW.main.body.drop (11 + 1) := by kernel_rfl
theorem top_t11 : PlainDefTree (stName 11) (fnArgs PW 11) (fnBody PW 11) (fnScope PW 11) (stPos 11) := fun _ => rfl
theorem top_s12 : PW.main.body.drop 12 = .FunctionDef (stName 12) (fnArgs PW 12) (fnBody PW 12) [] none [] (fnScope PW 12) none (stName 12) (stPos 12) :: PW.main.body.drop (12 + 1) := by kernel_rfl
theorem top_t12 : PlainDefTree (stName 12) (fnArgs PW 12) (fnBody PW 12) (fnScope PW 12) (stPos 12) := fun _ => rfl
theorem top_s13 : PW.main.body.drop 13 = .FunctionDef (stName 13) (fnArgs PW 13) (fnBody PW 13) [] none [] (fnScope PW 13) none (stName 13) (stPos 13) :: PW.main.body.drop (13 + 1) := by kernel_rfl
theorem top_t13 : PlainDefTree (stName 13) (fnArgs PW 13) (fnBody PW 13) (fnScope PW 13) (stPos 13) := fun _ => rfl
theorem top_w14 (cd F : Addr) : swapsWith (stVal 14) (some (.Name (stName 14) (stPos' 14))) (stPos 14).line (mainEnv PW cd F) = pure false := by kernel_rfl
theorem top_f14 (w : World) (N : Addr) : factOf w N 14 = none := by kernel_rfl
theorem top_s14 : PW.main.body.drop 14 = .Assign [.Name (stName 14) (stPos' 14)] (stVal 14) (stPos 14) :: PW.main.body.drop (14 + 1) := by kernel_rfl
theorem top_w15 (cd F : Addr) : swapsWith (stVal 15) (some (.Name (stName 15) (stPos' 15))) (stPos 15).line (mainEnv PW cd F) = pure false := by kernel_rfl
theorem top_f15 (w : World) (N : Addr) : factOf w N 15 = some (stName 15, SetP w N) := by kernel_rfl
theorem top_s15 : PW.main.body.drop 15 = .Assign [.Name (stName 15) (stPos' 15)] (stVal 15) (stPos 15) :: PW.main.body.drop (15 + 1) := by kernel_rfl
theorem top_s16 : PW.main.body.drop 16 = .FunctionDef (stName 16) (fnArgs PW 16) (fnBody PW 16) [] none [] (fnScope PW 16) none (stName 16) (stPos 16) :: PW.main.body.drop (16 + 1) := by kernel_rfl
theorem top_t16 : PlainDefTree (stName 16) (fnArgs PW 16) (fnBody PW 16) (fnScope PW 16) (stPos 16) := fun _ => rfl
theorem top_w17 (cd F : Addr) : swapsWith (stVal 17) (some (.Name (stName 17) (stPos' 17))) (stPos 17).line (mainEnv PW cd F) = pure false := by kernel_rfl
theorem top_f17 (w : World) (N : Addr) : factOf w N 17 = some (stName 17, DictP w N) := by kernel_rfl
theorem top_s17 : PW.main.body.drop 17 = .Assign [.Name (stName 17) (stPos' 17)] (stVal 17) (stPos 17) :: PW.main.body.drop (17 + 1) := by kernel_rfl
theorem top_s18 : PW.main.body.drop 18 = .FunctionDef (stName 18) (fnArgs PW 18) (fnBody PW 18) [] none [] (fnScope PW 18) none (stName 18) (stPos 18) :: PW.main.body.drop (18 + 1) := by kernel_rfl
theorem top_t18 : PlainDefTree (stName 18) (fnArgs PW 18) (fnBody PW 18) (fnScope PW 18) (stPos 18) := fun _ => rfl
theorem top_w19 (cd F : Addr) : swapsWith (stVal 19) (some (.Name (stName 19) (stPos' 19))) (stPos 19).line (mainEnv PW cd F) = pure false := by kernel_rfl
theorem top_f19 (w : World) (N : Addr) : factOf w N 19 = none := by kernel_rfl
theorem top_s19 : PW.main.body.drop 19 = .Assign [.Name (stName 19) (stPos' 19)] (stVal 19) (stPos 19) :: PW.main.body.drop (19 + 1) := by kernel_rfl
theorem top_s20 : PW.main.body.drop 20 = .FunctionDef (stName 20) (fnArgs PW 20) (fnBody PW 20) [] none [] (fnScope PW 20) none (stName 20) (stPos 20) :: PW.main.body.drop (20 + 1) := by kernel_rfl
theorem top_t20 : PlainDefTree (stName 20) (fnArgs PW 20) (fnBody PW 20) (fnScope PW 20) (stPos 20) := fun _ => rfl
theorem top_s21 : PW.main.body.drop 21 = .FunctionDef (stName 21) (fnArgs PW 21) (fnBody PW 21) [] none [] (fnScope PW 21) none (stName 21) (stPos 21) :: PW.main.body.drop (21 + 1) := by kernel_rfl
theorem top_t21 : PlainDefTree (stName 21) (fnArgs PW 21) (fnBody PW 21) (fnScope PW 21) (stPos 21) := fun _ => rfl
theorem top_s22 : PW.main.body.drop 22 = .FunctionDef (stName 22) (fnArgs PW 22) (fnBody PW 22) [] none [] (fnScope PW 22) none (stName 22) (stPos 22) :: PW.main.body.drop (22 + 1) := by kernel_rfl
theorem top_t22 : PlainDefTree (stName 22) (fnArgs PW 22) (fnBody PW 22) (fnScope PW 22) (stPos 22) := fun _ => rfl
theorem top_s23 : PW.main.body.drop 23 = .FunctionDef (stName 23) (fnArgs PW 23) (fnBody PW 23) [] none [] (fnScope PW 23) none (stName 23) (stPos 23) :: PW.main.body.drop (23 + 1) := by kernel_rfl
theorem top_t23 : PlainDefTree (stName 23) (fnArgs PW 23) (fnBody PW 23) (fnScope PW 23) (stPos 23) := fun _ => rfl
theorem top_s24 : PW.main.body.drop 24 = .FunctionDef (stName 24) (fnArgs PW 24) (fnBody PW 24) [] none [] (fnScope PW 24) none (stName 24) (stPos 24) :: PW.main.body.drop (24 + 1) := by kernel_rfl
theorem top_t24 : PlainDefTree (stName 24) (fnArgs PW 24) (fnBody PW 24) (fnScope PW 24) (stPos 24) := fun _ => rfl
theorem top_s25 : PW.main.body.drop 25 = .FunctionDef (stName 25) (fnArgs PW 25) (fnBody PW 25) [] none [] (fnScope PW 25) none (stName 25) (stPos 25) :: PW.main.body.drop (25 + 1) := by kernel_rfl
theorem top_t25 : PlainDefTree (stName 25) (fnArgs PW 25) (fnBody PW 25) (fnScope PW 25) (stPos 25) := fun _ => rfl
theorem top_s26 : PW.main.body.drop 26 = .FunctionDef (stName 26) (fnArgs PW 26) (fnBody PW 26) [] none [] (fnScope PW 26) none (stName 26) (stPos 26) :: PW.main.body.drop (26 + 1) := by kernel_rfl
theorem top_t26 : PlainDefTree (stName 26) (fnArgs PW 26) (fnBody PW 26) (fnScope PW 26) (stPos 26) := fun _ => rfl

section
variable {w : World} {A : Around} {E : Value → Shared → Prop} {s : Shared} {cd Pl F : Addr} {h₀ : Heap} {mg₀ mg mb : Str → Option Value} {Q : Flow → Shared → Prop}
theorem wp_b3 {N : Addr} (hN : N ≤ s.heap.objs.size) (low : sysModules < s.heap.objs.size) {env : Env} (Q' : Value → Shared → Prop)
    (k : ∀ v h₁ tk, (∀ b o, s.heap.get? b = some o → h₁.get? b = some o) → s.heap.objs.size ≤ h₁.objs.size → DictP w N h₁ v → Q' v { s with heap := h₁, toks := tk }) :
    wpAny (model PW w) A (eval (stVal 17) env) Q' E s := by
  obtain ⟨keys, values, pos, e, hl, ha, hlen, h0, hz⟩ := b3_shape
  rw [e]
  exact wp_dict hN hl b3_keyed b3_nodup ha hlen h0 hz low Q' k
theorem wp_b1 {N : Addr} (hN : N ≤ s.heap.objs.size) (hh : A.handled = none) (hg : s.heap.Ns mainGlobals mg) (hb : s.heap.Ns builtinsNs mb)
    (g1 : mg "set" = none) (g2 : mg "list" = none) (g3 : mg "range" = none) (b1 : mb "set" = some (.type "set")) (b2 : mb "list" = some (.type "list")) (b3 : mb "range" = some (.type "range")) (Q' : Value → Shared → Prop)
    (k : ∀ v h₁ tk, (∀ b o, s.heap.get? b = some o → h₁.get? b = some o) → s.heap.objs.size ≤ h₁.objs.size → SetP w N h₁ v → Q' v { s with heap := h₁, toks := tk }) :
    wpAny (model PW w) A (eval (stVal 15) (mainEnv PW cd F)) Q' E s := by
  obtain ⟨p1, p2, p3, p4, p5, p6, p7, p8, p9, p10, k5, k6, es, e, hes⟩ := b1_shape
  rw [e]
  exact wp_b1set hN hh hg hb g1 g2 g3 b1 b2 b3 hes b1_small b1_n (by omega) b1_ns b1_is Q' k
theorem go_def (i : Nat) {h : Heap} {tk : Tok} {mg : Str → Option Value} {ps : Array Value} (X : At w h₀ mg₀ cd Pl i h mg ps)
    (hst : PW.main.body.drop i = .FunctionDef (stName i) (fnArgs PW i) (fnBody PW i) [] none [] (fnScope PW i) none (stName i) (stPos i) :: PW.main.body.drop (i + 1))
    (hexec : PlainDefTree (stName i) (fnArgs PW i) (fnBody PW i) (fnScope PW i) (stPos i)) (hfree : ((fnScope PW i).names.all fun x => x.2 != .free) = true) (hdoc : docOf (fnBody PW i) = none)
    (hloc : PW.main.scope.names.lookup (stName i) = some .local)
    (hq : qualnameIn { scope := PW.main.scope, locals := mainGlobals, globals := mainGlobals, cells := [] } (stName i) (stName i) = stName i)
    (hi : i ≤ 27) (hd : isDef i = true) (hx : (fnamesL i).contains (stName i) = false) (hp : (possL i).contains ((stPos i).line, (stPos i).col) = false) (hnb : stName i ≠ "__builtins__")
    (k : ∀ h' mg' ps' tk, At w h₀ mg₀ cd Pl (i + 1) h' mg' ps' → 0 < tk → wpAny (model PW w) A (execs (PW.main.body.drop (i + 1)) (mainEnv PW cd F)) Q E { s with heap := h', toks := tk }) :
    wpAny (model PW w) A (execs (PW.main.body.drop i) (mainEnv PW cd F)) Q E { s with heap := h, toks := tk } :=
  step_def (s := { s with heap := h, toks := tk }) i X hst hexec hfree hdoc hloc hq hi hd hx hp hnb k
theorem go_val (i : Nat) (P : HP) {h : Heap} {tk : Tok} {mg : Str → Option Value} {ps : Array Value} (X : At w h₀ mg₀ cd Pl i h mg ps)
    (hst : PW.main.body.drop i = .Assign [.Name (stName i) (stPos' i)] (stVal i) (stPos i) :: PW.main.body.drop (i + 1))
    (hloc : PW.main.scope.names.lookup (stName i) = some .local) (hi : i ≤ 27) (hd : isDef i = false) (hx : (fnamesL i).contains (stName i) = false)
    (hf : ∀ p, factOf w h₀.objs.size i = some p → p = (stName i, P))
    (hval : ∀ Q' : Value → Shared → Prop, (∀ v h₁ tk₁, (∀ b o, h.get? b = some o → h₁.get? b = some o) → h.objs.size ≤ h₁.objs.size → P h₁ v → Q' v { s with heap := h₁, toks := tk₁ }) → wpAny (model PW w) A (eval (stVal i) (mainEnv PW cd F)) Q' E { s with heap := h, toks := tk })
    (st : Stable h₀.objs.size P) (hnb : stName i ≠ "__builtins__") (hs : swapsWith (stVal i) (some (.Name (stName i) (stPos' i))) (stPos i).line (mainEnv PW cd F) = pure false)
    (k : ∀ h' mg' tk, At w h₀ mg₀ cd Pl (i + 1) h' mg' ps → 0 < tk → wpAny (model PW w) A (execs (PW.main.body.drop (i + 1)) (mainEnv PW cd F)) Q E { s with heap := h', toks := tk }) :
    wpAny (model PW w) A (execs (PW.main.body.drop i) (mainEnv PW cd F)) Q E { s with heap := h, toks := tk } :=
  step_val (s := { s with heap := h, toks := tk }) i P X hst hloc hi hd hx hf hval st hnb hs k
set_option maxHeartbeats 4000000 in
theorem top_walk' {h : Heap} {tk : Tok} (X : At w h₀ mg₀ cd Pl 0 h mg #[]) (hh : A.handled = none) (hb : h₀.Ns builtinsNs mb) (g1 : mg₀ "set" = none) (g2 : mg₀ "list" = none) (g3 : mg₀ "range" = none)
    (b1 : mb "set" = some (.type "set")) (b2 : mb "list" = some (.type "list")) (b3 : mb "range" = some (.type "range")) (lowP : builtinsNs ≠ Pl) (lowS : sysModules < h₀.objs.size)
    (fin : ∀ h' mg' ps' tk, At w h₀ mg₀ cd Pl 27 h' mg' ps' → 0 < tk → Q .next { s with heap := h', toks := tk }) :
    wpAny (model PW w) A (execs (PW.main.body.drop 0) (mainEnv PW cd F)) Q E { s with heap := h, toks := tk } := by
  refine @go_val w A E s cd Pl F h₀ mg₀ Q 0 (fun _ _ => True) _ _ _ _ X top_s0 (by kernel_rfl) (by omega) (by kernel_rfl) (by kernel_rfl) (fun p h => nomatch (top_f0 w h₀.objs.size).symm.trans h) (fun Q' h => wp_cstr Q' h) (fun _ _ _ _ h => h) (by decide +kernel) (top_w0 _ _) fun h' mg' tk X _ => ?_
  refine @go_def w A E s cd Pl F h₀ mg₀ Q 1 _ _ _ _ X top_s1 top_t1 (by kernel_rfl) (by kernel_rfl) (by kernel_rfl) (by kernel_rfl) (by omega) (by kernel_rfl) (by kernel_rfl) (by kernel_rfl) (by decide +kernel) fun h' mg' ps' tk X _ => ?_
  refine @go_def w A E s cd Pl F h₀ mg₀ Q 2 _ _ _ _ X top_s2 top_t2 (by kernel_rfl) (by kernel_rfl) (by kernel_rfl) (by kernel_rfl) (by omega) (by kernel_rfl) (by kernel_rfl) (by kernel_rfl) (by decide +kernel) fun h' mg' ps' tk X _ => ?_
  refine @go_def w A E s cd Pl F h₀ mg₀ Q 3 _ _ _ _ X top_s3 top_t3 (by kernel_rfl) (by kernel_rfl) (by kernel_rfl) (by kernel_rfl) (by omega) (by kernel_rfl) (by kernel_rfl) (by kernel_rfl) (by decide +kernel) fun h' mg' ps' tk X _ => ?_
  refine @go_def w A E s cd Pl F h₀ mg₀ Q 4 _ _ _ _ X top_s4 top_t4 (by kernel_rfl) (by kernel_rfl) (by kernel_rfl) (by kernel_rfl) (by omega) (by kernel_rfl) (by kernel_rfl) (by kernel_rfl) (by decide +kernel) fun h' mg' ps' tk X _ => ?_
  refine @go_val w A E s cd Pl F h₀ mg₀ Q 5 (fun _ _ => True) _ _ _ _ X top_s5 (by kernel_rfl) (by omega) (by kernel_rfl) (by kernel_rfl) (fun p h => nomatch (top_f5 w h₀.objs.size).symm.trans h) (fun Q' h => wp_cstr Q' h) (fun _ _ _ _ h => h) (by decide +kernel) (top_w5 _ _) fun h' mg' tk X _ => ?_
  refine @go_val w A E s cd Pl F h₀ mg₀ Q 6 (FloatP f13) _ _ _ _ X top_s6 (by kernel_rfl) (by omega) (by kernel_rfl) (by kernel_rfl) (fun p h => Option.some.inj (h.symm.trans (top_f6 w h₀.objs.size))) (fun Q' h => wp_fdiv (by kernel_rfl) Q' h) FloatP.stable (by decide +kernel) (top_w6 _ _) fun h' mg' tk X _ => ?_
  refine @go_val w A E s cd Pl F h₀ mg₀ Q 7 (FloatP f16) _ _ _ _ X top_s7 (by kernel_rfl) (by omega) (by kernel_rfl) (by kernel_rfl) (fun p h => Option.some.inj (h.symm.trans (top_f7 w h₀.objs.size))) (fun Q' h => wp_fdiv (by kernel_rfl) Q' h) FloatP.stable (by decide +kernel) (top_w7 _ _) fun h' mg' tk X _ => ?_
  refine @go_val w A E s cd Pl F h₀ mg₀ Q 8 (FloatP f23) _ _ _ _ X top_s8 (by kernel_rfl) (by omega) (by kernel_rfl) (by kernel_rfl) (fun p h => Option.some.inj (h.symm.trans (top_f8 w h₀.objs.size))) (fun Q' h => wp_fdiv (by kernel_rfl) Q' h) FloatP.stable (by decide +kernel) (top_w8 _ _) fun h' mg' tk X _ => ?_
  refine @go_def w A E s cd Pl F h₀ mg₀ Q 9 _ _ _ _ X top_s9 top_t9 (by kernel_rfl) (by kernel_rfl) (by kernel_rfl) (by kernel_rfl) (by omega) (by kernel_rfl) (by kernel_rfl) (by kernel_rfl) (by decide +kernel) fun h' mg' ps' tk X _ => ?_
  refine @go_def w A E s cd Pl F h₀ mg₀ Q 10 _ _ _ _ X top_s10 top_t10 (by kernel_rfl) (by kernel_rfl) (by kernel_rfl) (by kernel_rfl) (by omega) (by kernel_rfl) (by kernel_rfl) (by kernel_rfl) (by decide +kernel) fun h' mg' ps' tk X _ => ?_
  refine @go_def w A E s cd Pl F h₀ mg₀ Q 11 _ _ _ _ X top_s11 top_t11 (by kernel_rfl) (by kernel_rfl) (by kernel_rfl) (by kernel_rfl) (by omega) (by kernel_rfl) (by kernel_rfl) (by kernel_rfl) (by decide +kernel) fun h' mg' ps' tk X _ => ?_
  refine @go_def w A E s cd Pl F h₀ mg₀ Q 12 _ _ _ _ X top_s12 top_t12 (by kernel_rfl) (by kernel_rfl) (by kernel_rfl) (by kernel_rfl) (by omega) (by kernel_rfl) (by kernel_rfl) (by kernel_rfl) (by decide +kernel) fun h' mg' ps' tk X _ => ?_
  refine @go_def w A E s cd Pl F h₀ mg₀ Q 13 _ _ _ _ X top_s13 top_t13 (by kernel_rfl) (by kernel_rfl) (by kernel_rfl) (by kernel_rfl) (by omega) (by kernel_rfl) (by kernel_rfl) (by kernel_rfl) (by decide +kernel) fun h' mg' ps' tk X _ => ?_
  refine @go_val w A E s cd Pl F h₀ mg₀ Q 14 (fun _ _ => True) _ _ _ _ X top_s14 (by kernel_rfl) (by omega) (by kernel_rfl) (by kernel_rfl) (fun p h => nomatch (top_f14 w h₀.objs.size).symm.trans h) (fun Q' h => wp_cstr Q' h) (fun _ _ _ _ h => h) (by decide +kernel) (top_w14 _ _) fun h' mg' tk X _ => ?_
  refine @go_val w A E s cd Pl F h₀ mg₀ Q 15 (SetP w h₀.objs.size) _ _ _ _ X top_s15 (by kernel_rfl) (by omega) (by kernel_rfl) (by kernel_rfl) (fun p h => Option.some.inj (h.symm.trans (top_f15 w h₀.objs.size)))
    (fun Q' h => wp_b1 X.size hh X.main.g (hb.at fun o e => X.keep _ o lowP (by decide) e) ((X.others "set" (by decide +kernel)).trans g1) ((X.others "list" (by decide +kernel)).trans g2) ((X.others "range" (by decide +kernel)).trans g3) b1 b2 b3 Q' h) SetP.stable (by decide +kernel) (top_w15 _ _) fun h' mg' tk X _ => ?_
  refine @go_def w A E s cd Pl F h₀ mg₀ Q 16 _ _ _ _ X top_s16 top_t16 (by kernel_rfl) (by kernel_rfl) (by kernel_rfl) (by kernel_rfl) (by omega) (by kernel_rfl) (by kernel_rfl) (by kernel_rfl) (by decide +kernel) fun h' mg' ps' tk X _ => ?_
  refine @go_val w A E s cd Pl F h₀ mg₀ Q 17 (DictP w h₀.objs.size) _ _ _ _ X top_s17 (by kernel_rfl) (by omega) (by kernel_rfl) (by kernel_rfl) (fun p h => Option.some.inj (h.symm.trans (top_f17 w h₀.objs.size)))
    (fun Q' h => @wp_b3 w A E _ _ X.size (Nat.lt_of_lt_of_le lowS X.size) _ Q' h) DictP.stable (by decide +kernel) (top_w17 _ _) fun h' mg' tk X _ => ?_
  refine @go_def w A E s cd Pl F h₀ mg₀ Q 18 _ _ _ _ X top_s18 top_t18 (by kernel_rfl) (by kernel_rfl) (by kernel_rfl) (by kernel_rfl) (by omega) (by kernel_rfl) (by kernel_rfl) (by kernel_rfl) (by decide +kernel) fun h' mg' ps' tk X _ => ?_
  refine @go_val w A E s cd Pl F h₀ mg₀ Q 19 (fun _ _ => True) _ _ _ _ X top_s19 (by kernel_rfl) (by omega) (by kernel_rfl) (by kernel_rfl) (fun p h => nomatch (top_f19 w h₀.objs.size).symm.trans h) (fun Q' h => wp_cstr Q' h) (fun _ _ _ _ h => h) (by decide +kernel) (top_w19 _ _) fun h' mg' tk X _ => ?_
  refine @go_def w A E s cd Pl F h₀ mg₀ Q 20 _ _ _ _ X top_s20 top_t20 (by kernel_rfl) (by kernel_rfl) (by kernel_rfl) (by kernel_rfl) (by omega) (by kernel_rfl) (by kernel_rfl) (by kernel_rfl) (by decide +kernel) fun h' mg' ps' tk X _ => ?_
  refine @go_def w A E s cd Pl F h₀ mg₀ Q 21 _ _ _ _ X top_s21 top_t21 (by kernel_rfl) (by kernel_rfl) (by kernel_rfl) (by kernel_rfl) (by omega) (by kernel_rfl) (by kernel_rfl) (by kernel_rfl) (by decide +kernel) fun h' mg' ps' tk X _ => ?_
  refine @go_def w A E s cd Pl F h₀ mg₀ Q 22 _ _ _ _ X top_s22 top_t22 (by kernel_rfl) (by kernel_rfl) (by kernel_rfl) (by kernel_rfl) (by omega) (by kernel_rfl) (by kernel_rfl) (by kernel_rfl) (by decide +kernel) fun h' mg' ps' tk X _ => ?_
  refine @go_def w A E s cd Pl F h₀ mg₀ Q 23 _ _ _ _ X top_s23 top_t23 (by kernel_rfl) (by kernel_rfl) (by kernel_rfl) (by kernel_rfl) (by omega) (by kernel_rfl) (by kernel_rfl) (by kernel_rfl) (by decide +kernel) fun h' mg' ps' tk X _ => ?_
  refine @go_def w A E s cd Pl F h₀ mg₀ Q 24 _ _ _ _ X top_s24 top_t24 (by kernel_rfl) (by kernel_rfl) (by kernel_rfl) (by kernel_rfl) (by omega) (by kernel_rfl) (by kernel_rfl) (by kernel_rfl) (by decide +kernel) fun h' mg' ps' tk X _ => ?_
  refine @go_def w A E s cd Pl F h₀ mg₀ Q 25 _ _ _ _ X top_s25 top_t25 (by kernel_rfl) (by kernel_rfl) (by kernel_rfl) (by kernel_rfl) (by omega) (by kernel_rfl) (by kernel_rfl) (by kernel_rfl) (by decide +kernel) fun h' mg' ps' tk X _ => ?_
  refine @go_def w A E s cd Pl F h₀ mg₀ Q 26 _ _ _ _ X top_s26 top_t26 (by kernel_rfl) (by kernel_rfl) (by kernel_rfl) (by kernel_rfl) (by omega) (by kernel_rfl) (by kernel_rfl) (by kernel_rfl) (by decide +kernel) fun h' mg' ps' tk X h0 => ?_
  have e : PW.main.body.drop (26 + 1) = [] := by kernel_rfl
  rw [e]
  exact wpAny_execs_nil (fin _ _ _ _ X h0)
theorem top_walk (X : At w h₀ mg₀ cd Pl 0 s.heap mg #[]) (hh : A.handled = none) (hb : h₀.Ns builtinsNs mb) (g1 : mg₀ "set" = none) (g2 : mg₀ "list" = none) (g3 : mg₀ "range" = none)
    (b1 : mb "set" = some (.type "set")) (b2 : mb "list" = some (.type "list")) (b3 : mb "range" = some (.type "range")) (lowP : builtinsNs ≠ Pl) (lowS : sysModules < h₀.objs.size)
    (fin : ∀ h' mg' ps' tk, At w h₀ mg₀ cd Pl 27 h' mg' ps' → 0 < tk → Q .next { s with heap := h', toks := tk }) :
    wpAny (model PW w) A (execs PW.main.body (mainEnv PW cd F)) Q E s := top_walk' (s := s) (h := s.heap) (tk := s.toks) X hh hb g1 g2 g3 b1 b2 b3 lowP lowS fin
end
end Mine
end

section
set_option autoImplicit false
set_option linter.unusedVariables false
set_option maxRecDepth 100000
namespace Mine
open PySem PySem.Calls PyProof.Rows PySem.W

theorem before_ret {M : Model} {r : Result} : ∀ (n : Nat) (s : Shared) (t : Sem PySem.Fin) (c : Code) (p : Pos) (st : List Frame) (s' : Shared), M.runN n s ⟨t, c, p, st⟩ = .halted (outcomeOf r) s' → ∃ m c' p', M.runN m s ⟨t, c, p, st⟩ = .running s' ⟨leafOf r, c', p', []⟩
  | 0, _, _, _, _, _, _, h => by cases h
  | n + 1, s, t, c, p, st, s', h => by
    rw [runN_succ] at h
    cases hs : M.step s ⟨t, c, p, st⟩ with
    | go s₁ th =>
      rw [hs] at h
      obtain ⟨t₁, c₁, p₁, st₁⟩ := th
      obtain ⟨m, c', p', hm⟩ := before_ret n s₁ t₁ c₁ p₁ st₁ s' h
      exact ⟨m + 1, c', p', by rw [runN_succ, hs]; exact hm⟩
    | halt o s₁ =>
      rw [hs] at h
      injection h with h1 h2
      subst h1 h2
      obtain ⟨rfl, rfl, rfl, _⟩ := step_halt_result hs
      exact ⟨0, c, p, rfl⟩
section
variable {den : Code → Sem PySem.Fin} {prog : Program} {w : World}
theorem calm_running : ∀ (n : Nat) (s : Shared) (t : Thread) (s' : Shared) (t' : Thread), runNI den prog w n s t = .running s' t' → runNK den prog w n s t = .running s' t'
  | 0, _, _, _, _, h => by injection h with h1 h2; subst h1 h2; rfl
  | n + 1, s, t, s', t', h => by
    rw [runNI] at h
    rw [runNK]
    cases hl : t.loud with
    | true => rw [stepI_loud den prog w hl] at h; cases h
    | false =>
      rw [stepI_quiet den prog w hl] at h
      cases hs : PySem.stepK den prog w s t with
      | go s₁ t₁ => rw [hs] at h; exact calm_running n s₁ t₁ s' t' h
      | halt o s₁ => rw [hs] at h; cases h
theorem real_running {n : Nat} {s s' : Shared} {t : Thread} {f : Flow} {c : Code} {p : Pos} (h : runNI den prog w n s t = .running s' ⟨.pure (.done f), c, p, []⟩) (hg : s'.gens = #[]) :
    ∃ t₁, runN den prog w n s t = .running s' t₁ ∧ through t₁ = true := by
  have hk := calm_running n s t s' _ h
  have e := runNK_same den prog w n (s₁ := s) (s₂ := s) (t₁ := t) (t₂ := t) rfl rfl
  rw [hk] at e
  cases hr : runN den prog w n s t with
  | halted o s₁ => rw [hr] at e; cases e
  | running s₁ t₁ =>
    rw [hr] at e
    injection e with e1 e2
    obtain rfl : s₁ = s' := Shared.eq_of_forget_eq (by first | exact e1 | exact e1.symm) hg
    refine ⟨t₁, rfl, ?_⟩
    obtain ⟨cu, co, po, st⟩ := t₁
    have h1 : cu = .pure (.done f) := by first | exact congrArg Thread.cur e2 | exact (congrArg Thread.cur e2).symm
    have h2 : forgetAll st = [] := by first | exact congrArg Thread.stack e2 | exact (congrArg Thread.stack e2).symm
    subst h1
    cases st with
    | nil => rfl
    | cons a r => cases h2
end

theorem run_through {prog : Program} {w : World} {t : Sem Fin} {s : Shared} {P : Shared → Prop} (hz : s.asleep)
    (h : wpAny (model prog w) callerA t (fun fin s' => ∃ f, fin = .done f ∧ (P s' ∧ s'.gens = #[])) (fun _ _ => False) s) :
    ∃ s₁, (∃ n t₁, schedN (denote table) prog w n (.single s ⟨t, .builtin "claim.caller" {}, default, []⟩) = .running (.single s₁ t₁) ∧ through t₁ = true) ∧ P s₁ ∧ s₁.gens = #[] ∧ s₁.heap.life = s.heap.life := by
  have h2 := wp_of_wpAny_done (R := fun r s' => ((∃ f, r = .ok f) ∧ P s' ∧ s'.gens = #[]) ∧ leftWithCleanup s'.gens = false) caller_in
    (wpAny_mono h (fun fin s' ⟨f, e, x⟩ => ⟨f, e, ⟨⟨f, rfl⟩, x⟩, by rw [x.2]; simp [leftWithCleanup]⟩) fun _ _ x => x.elim) default
  obtain ⟨n, r, s', hn, ⟨f, rfl⟩, hP, hg⟩ := (wp_iff_halts (M := model prog w) t (fun r s' => (∃ f, r = .ok f) ∧ P s' ∧ s'.gens = #[]) default s).mp h2
  obtain ⟨s'', hr, hf, hc⟩ := runNI_real _ _ _ hn (outcomeOf_ends _)
  obtain rfl : s'' = s' := Shared.eq_of_forget_eq hf hg
  have hne : ∀ k s₂, runN (denote table) prog w k s ⟨t, .builtin "claim.caller" {}, default, []⟩ ≠ .halted (.unsupported "lifetime:generator-with-cleanup-left-suspended") s₂ := by
    intro k s₂ hk
    have a := runN_mono (denote table) prog w n k s _ _ s'' hr
    have b := runN_mono (denote table) prog w k n s _ _ s₂ hk
    rw [Nat.add_comm, b] at a
    injection a with a1 _
    cases a1
  obtain ⟨m, c', p', hm0⟩ := before_ret n s _ _ _ _ s'' hn
  obtain ⟨t₁, hm, ht⟩ := real_running hm0 hg
  refine ⟨s'', ⟨m, t₁, ?_, ht⟩, hP, hg, runN_life _ _ _ hr⟩
  have hm' : runN (denote table) prog w m s ⟨t, .builtin "claim.caller" {}, default, []⟩ = .running s'' t₁ := hm
  rw [schedN_eq_runN (denote table) prog w s _ hz ⟨hc, hne⟩ m, hm']
  rfl

/-- what stands behind the top -/
structure Behind2 (w : World) (s₀ s₁ : Shared) : Prop where
  made : ∃ h₀ cd Pl mg ps, At w h₀ (s₀.heap.nsMap mainGlobals) cd Pl 27 s₁.heap mg ps ∧ s₀.heap.objs.size ≤ h₀.objs.size
  keep : ∀ b o, s₀.heap.get? b = some o → b ≠ mainGlobals → s₁.heap.get? b = some o
  toks : 0 < s₁.toks
  os : s₁.os = s₀.os

theorem top_wp {w : World} {s : Shared} {bm : Addr} {o : Obj} (hg : s.heap.isNs mainGlobals = true) (hb : s.heap.isNs builtinsNs = true)
    (g1 : s.heap.nsMap mainGlobals "set" = none) (g2 : s.heap.nsMap mainGlobals "list" = none) (g3 : s.heap.nsMap mainGlobals "range" = none)
    (b1 : s.heap.nsMap builtinsNs "set" = some (.type "set")) (b2 : s.heap.nsMap builtinsNs "list" = some (.type "list")) (b3 : s.heap.nsMap builtinsNs "range" = some (.type "range"))
    (hs : sysModules < s.heap.objs.size) (m1 : s.heap.nsMap mainGlobals "__builtins__" = some (.ref bm)) (m2 : bm ≠ builtinsNs) (m3 : bm ≠ mainGlobals) (m4 : s.heap.get? bm = some o) (m5 : o.cls = .type "module" ∧ o.dict = some builtinsNs ∧ o.data = .plain) (hgen : s.gens = #[]) :
    wpAny (model PW w) callerA (topStub PW).cur (fun fin s' => ∃ f, fin = .done f ∧ (Behind2 w s s' ∧ s'.gens = #[])) (fun _ _ => False) s := by
  have hlo := (Heap.Ns.of_isNs hg).lt
  have hlb := (Heap.Ns.of_isNs hb).lt
  unfold topStub
  refine wpAny_bind (wpAny_moduleCode fun cd Pl h₁ tk₁ hk₁ hc hP hcode => ?_)
  unfold newBodyFrame
  refine wpAny_bind (wpAny_bind (wpAny_nsGet ((Heap.Ns.of_isNs hg).keeps hk₁) (wpAny_alloc ?_)))
  generalize hH : (({ s with heap := h₁, toks := tk₁ } : Shared).heap.push _) = H
  have hkH : ∀ b o, s.heap.get? b = some o → H.get? b = some o := fun b o e => by rw [← hH]; exact Heap.get?_push_of_some _ (hk₁ b o e)
  have hlt := Heap.lt_size (hk₁ _ _ m4)
  have hsz : s.heap.objs.size ≤ H.objs.size := by
    rw [← hH, Heap.size_push]
    exact Nat.le_succ_of_le (Nat.le_trans hP (Nat.le_of_lt hcode.lt.2))
  have hM : H.Main (s.heap.nsMap mainGlobals) cd Pl #[] := ⟨(Heap.Ns.of_isNs hg).keeps hkH, by rw [← hH]; exact hcode.push _, ⟨Nat.lt_of_lt_of_le hlo hc, Nat.lt_of_lt_of_le hlo hP⟩,
    bm, o, m1, m2, m3, Nat.ne_of_lt (Nat.lt_of_lt_of_le (Heap.lt_size m4) hP), hkH _ _ m4, m5⟩
  refine wpAny_bind (wpAny_run (codeAny_body (by kernel_rfl) (by kernel_rfl) ?_))
  have eb : behindTheImports PW = PW.main.body := by kernel_rfl
  rw [eb]
  refine wpAny_mono (E := fun _ _ => False) (top_walk (w := w) (h₀ := H) (cd := cd) (Pl := Pl) (F := h₁.objs.size) (mb := s.heap.nsMap builtinsNs) (TopI.start hM) rfl ((Heap.Ns.of_isNs hb).keeps hkH) g1 g2 g3 b1 b2 b3
    (Nat.ne_of_lt (Nat.lt_of_lt_of_le hlb hP)) (Nat.lt_of_lt_of_le hs hsz) fun h' mg' ps' tk X h0 => ?_) (fun _ _ x => x) fun _ _ x => x.elim
  refine wpAny_pure ⟨_, rfl, ⟨⟨H, cd, Pl, mg', ps', X, hsz⟩, fun b o e hb => X.keep b o (Nat.ne_of_lt (Nat.lt_of_lt_of_le (Heap.lt_size e) hP)) hb (hkH b o e), h0, rfl⟩, hgen⟩
end Mine
end

section
set_option autoImplicit false
set_option linter.unusedVariables false
set_option maxRecDepth 100000
namespace Mine
open PySem PySem.Calls PyProof.Rows PySem.W

theorem mem_factL {w : World} {N : Addr} {p : Str × HP} : ∀ (k i : Nat), i < k → factOf w N i = some p → p ∈ factL w N k
  | 0, i, h, _ => absurd h (Nat.not_lt_zero i)
  | k + 1, i, h, e => by
    unfold factL
    rcases Nat.lt_succ_iff_lt_or_eq.mp h with h | rfl
    · exact List.mem_append_right _ (mem_factL k i h e)
    · exact List.mem_append_left _ (by rw [Option.mem_toList]; exact e)

theorem fn_def (i : Nat) (h : fnName PW i ≠ "") : isDef i = true ∧ stName i = fnName PW i := by
  unfold fnName at h
  unfold isDef stName fnName
  split at h
  · rename_i e; simp only [e]; exact ⟨trivial, trivial⟩
  · exact absurd rfl h

noncomputable def biAll : List Str := ["len", "abs", "ord", "chr", "int", "sum", "max", "min", "enumerate", "range", "list"]
theorem bi_fresh : (biAll.all fun x => !(namesL 27).contains x) = true := by decide +kernel
theorem bi_boot : (biNames.all fun x => bootBuiltins x == some (biV x) && x != nmS) = true := by decide +kernel
theorem bi_sub : (biNames.all fun x => biAll.contains x) = true := by decide +kernel
theorem boot_enum : bootBuiltins "enumerate" = some (.type "enumerate") := by decide +kernel
theorem boot_rng : bootBuiltins "range" = some (.type "range") := by decide +kernel
theorem nm_e : ("enumerate" : Str) ≠ "__name__" ∧ ("range" : Str) ≠ "__name__" ∧ ("list" : Str) ≠ "__name__" ∧ ("set" : Str) ≠ "__name__" := by decide +kernel

theorem top_of {w : World} {h₀ h : Heap} {mg₀ mg mb : Str → Option Value} {cd Pl : Addr} {ps : Array Value} {ns : List (Str × NameKind)} {cel : List Str} (X : At w h₀ mg₀ cd Pl 27 h mg ps)
    (hb : h.Ns builtinsNs mb) (hbi : ∀ x : Str, x ≠ "__name__" → mb x = bootBuiltins x) (lowS : sysModules < h₀.objs.size) (g : ∀ x ∈ biAll, mg₀ x = none) : Top ⟨PW, w, h, ns, cel⟩ := by
  have gl : ∀ {x : Str} {P : HP} (i : Nat), i < 27 → factOf w h₀.objs.size i = some (x, P) → ∃ v, GV ⟨PW, w, h, ns, cel⟩ x v ∧ P h v := fun {x P} i hi e => by
    obtain ⟨v, e1, e2⟩ := X.got _ (mem_factL 27 i hi e)
    exact ⟨v, .inl ⟨mg, X.main.g, e1⟩, e2⟩
  have bl : ∀ {x : Str} {v : Value}, x ∈ biAll → x ≠ "__name__" → bootBuiltins x = some v → GV ⟨PW, w, h, ns, cel⟩ x v := fun {x v} hx hn e =>
    .inr ⟨⟨mg, X.main.g, (X.others x (fun m => by
      have := List.all_eq_true.mp bi_fresh x hx
      rw [List.contains_iff_mem.mpr m] at this
      cases this)).trans (g x hx)⟩, mb, hb, (hbi x hn).trans e⟩
  refine ⟨fun i hi hn => ?_, fun f hf => ?_, bl (by decide +kernel) nm_e.1 boot_enum, bl (by decide +kernel) nm_e.2.1 boot_rng, bl (by decide +kernel) nm_e.2.2.1 Pv.boot_list, ?_, ?_, ?_, ?_, ?_⟩
  · obtain ⟨d1, d2⟩ := fn_def i hn
    have hi' : i < 27 := hi
    obtain ⟨v, hv, a, c', pm, rfl, ha, hc, hget, hrec⟩ := gl (x := stName i) (P := FunP h₀.objs.size (stName i) (fnArgs PW i) (fnBody PW i) (fnScope PW i)) i hi' (by unfold factOf; rw [d1]; rfl)
    rw [d2] at hv
    exact ⟨a, hv, _, _, hget, rfl, rfl, rfl, rfl, rfl, rfl, rfl, rfl, rfl, hrec⟩
  · have h1 := List.all_eq_true.mp bi_boot f hf
    have h2 := List.all_eq_true.mp bi_sub f hf
    simp only [Bool.and_eq_true, beq_iff_eq, bne_iff_ne] at h1
    exact bl (List.contains_iff_mem.mp h2) h1.2 h1.1
  · obtain ⟨v, hv, a, m, rfl, ha, hs⟩ := gl 15 (by lia) (top_f15 w h₀.objs.size)
    exact ⟨a, m, hv, hs⟩
  · obtain ⟨v, hv, a, kvs, rfl, ha, hd, fl⟩ := gl 17 (by lia) (top_f17 w h₀.objs.size)
    refine ⟨a, hv, beq_eq_false_iff_ne.mpr (Nat.ne_of_gt (Nat.lt_of_lt_of_le lowS ha)), kvs, hd, fl⟩
  · obtain ⟨v, hv, u, hu, rfl⟩ := gl 6 (by lia) (top_f6 w h₀.objs.size)
    exact ⟨u, hu, hv⟩
  · obtain ⟨v, hv, u, hu, rfl⟩ := gl 7 (by lia) (top_f7 w h₀.objs.size)
    exact ⟨u, hu, hv⟩
  · obtain ⟨v, hv, u, hu, rfl⟩ := gl 8 (by lia) (top_f8 w h₀.objs.size)
    exact ⟨u, hu, hv⟩
end Mine
end

section
set_option autoImplicit false
set_option linter.unusedVariables false
set_option maxRecDepth 100000
namespace Mine
open PySem PySem.Calls PyProof.Rows PySem.W

/-! the arguments -/
theorem has_int {d : WData} (h : WShape.has [] d .int = true) : ∃ i, d = .int i := by
  cases d with
  | int i => exact ⟨i, rfl⟩
  | _ => exact absurd (show false = true from h) (by decide)
theorem has_ints : ∀ (xs : List WData), WShape.hasItems [] xs .int = true → ∃ is : List Int, xs = is.map .int
  | [], _ => ⟨[], rfl⟩
  | x :: xs, h => by
    obtain ⟨h1, h2⟩ := Bool.and_eq_true_iff.mp (show (WShape.has [] x .int && WShape.hasItems [] xs .int) = true from h)
    obtain ⟨i, rfl⟩ := has_int h1
    obtain ⟨is, rfl⟩ := has_ints xs h2
    exact ⟨i :: is, rfl⟩
theorem has_list {d : WData} (h : WShape.has [] d (.list .int) = true) : ∃ is : List Int, d = .list (is.map .int) := by
  cases d with
  | list xs =>
    have h : (WShape.hasItems [] xs .int || false) = true := h
    rw [Bool.or_false] at h
    obtain ⟨is, rfl⟩ := has_ints xs h
    exact ⟨is, rfl⟩
  | _ => exact absurd (show false = true from h) (by decide)

noncomputable abbrev LR : OpenLaw := PySem.Challenge.rw_rw0119_01
theorem pre_args {args : List WData} (h : LR.row.claim.pre args = true) : ∃ is : List Int, args = [.list (is.map .int)] ∧ is.length ≤ 63 := by
  obtain ⟨h1, h2⟩ := Bool.and_eq_true_iff.mp h
  have h1 : WShape.hasAll [] args [.list .int] = true := h1
  cases args with
  | nil => cases h1
  | cons d r =>
    have h1 := Bool.and_eq_true_iff.mp (show (WShape.has [] d (.list .int) && WShape.hasAll [] r []) = true from h1)
    cases r with
    | cons _ _ => exact absurd (show false = true from h1.2) (by decide)
    | nil =>
      obtain ⟨is, rfl⟩ := has_list h1.1
      refine ⟨is, rfl, ?_⟩
      have h2 : WTm.holds [] (.and (.not (.lt (.lit (.int ((63 : Nat) : Int))) (.len (.arg 0)))) (.lit (.bool true))) { args := [.list (is.map .int)] } = true := h2
      have e : WTm.holds [] (.and (.not (.lt (.lit (.int ((63 : Nat) : Int))) (.len (.arg 0)))) (.lit (.bool true))) { args := [.list (is.map .int)] } = !decide (((63 : Nat) : Int) < (((is.map WData.int).length : Nat) : Int)) := by
        have e1 : WTm.value [] (.lt (.lit (.int ((63 : Nat) : Int))) (.len (.arg 0))) { args := [.list (is.map .int)] } = some (.bool (decide (((63 : Nat) : Int) < (((is.map WData.int).length : Nat) : Int)))) := rfl
        generalize decide (((63 : Nat) : Int) < (((is.map WData.int).length : Nat) : Int)) = b at e1
        have e2 : ∀ (t : WTm) (c : WCtx), WTm.value [] t c = some (.bool b) → WTm.holds [] (.and (.not t) (.lit (.bool true))) c = !b := by
          intro t c h
          have e3 : WTm.value [] (.not t) c = some (.bool (!b)) := by
            show (match WTm.value [] t c with | some (.bool b) => some (WData.bool (!b)) | _ => none) = _
            rw [h]
          have e4 : WTm.value [] (.and (.not t) (.lit (.bool true))) c = some (.bool (!b)) := by
            show (match WTm.value [] (.not t) c with
              | some (.bool false) => some (WData.bool false)
              | some (.bool true) => (match WTm.value [] (.lit (.bool true)) c with
                | some (.bool x) => some (WData.bool x)
                | _ => none)
              | _ => none) = _
            rw [e3]
            cases b <;> rfl
          show (match WTm.value [] (.and (.not t) (.lit (.bool true))) c with | some (.bool true) => true | _ => false) = _
          rw [e4]
          cases b <;> rfl
        exact e2 _ _ e1
      rw [e] at h2
      simp at h2
      lia

theorem lay_ints {cl : Str → Option Addr} {P : Params} {ord : List DictEntry → List DictEntry} : ∀ (is : List Int) (s : Shared), ∃ vs, layAllW [] cl P ord (is.map .int) s = some (vs, { s with toks := s.toks + is.length }) ∧ vs.length = is.length ∧ ∀ (M : List Addr) (h : Heap) (w : World), DenL w M h (is.map .int) vs
  | [], s => ⟨[], rfl, rfl, fun _ _ _ => rfl⟩
  | i :: is, s => by
    obtain ⟨vs, h1, h2, h3⟩ := lay_ints is { s with toks := s.toks + 1 }
    refine ⟨.int i s.toks :: vs, ?_, by simp [h2], fun M h w => ⟨_, _, rfl, ⟨_, rfl⟩, h3 M h w⟩⟩
    rw [List.map_cons, layAllW, layW]
    dsimp only
    rw [h1]
    simp only [List.length_cons, Nat.add_assoc, Nat.add_comm 1]

theorem lay_list {cl : Str → Option Addr} {P : Params} {ord : List DictEntry → List DictEntry} (is : List Int) (s : Shared) : ∃ vs, layAllW [] cl P ord [.list (is.map .int)] s = some ([.ref s.heap.objs.size], { s with heap := s.heap.push { cls := .type "list", data := .seq vs.toArray }, toks := s.toks + is.length }) ∧
    ∀ (M : List Addr) (h : Heap) (w : World), DenL w M h (is.map .int) vs := by
  obtain ⟨vs, h1, _, h3⟩ := lay_ints (cl := cl) (P := P) (ord := ord) is s
  refine ⟨vs, ?_, h3⟩
  rw [layAllW, layW, h1]
  rfl
end Mine
end

section
set_option autoImplicit false
set_option linter.unusedVariables false
set_option maxRecDepth 100000
namespace Mine
open PySem PySem.Calls PyProof.Rows PySem.W

theorem boots (w : World) : ∃ s s₀, AfterRun (opening PW) w s ∧ fenceModules? PW s = some s₀ ∧ s₀.heap = boot_heap w.params ∧ s₀.gens = #[] ∧ s₀.asleep := by
  have h := boot_open (p := PW) (N := 600) opening_eq (by decide) fence_eq w
  rw [← table_eq_tree] at h
  obtain ⟨s₀, h1, e⟩ := Option.map_eq_some_iff.mp h
  unfold fencedOpening at h1
  obtain ⟨s, h4, h5⟩ := Option.bind_eq_some_iff.mp h1
  have A := AfterImport.of_importEnds h4
  exact ⟨s, s₀, A, h5, congrArg Prod.fst e, congrArg (fun x => x.2.1) e, Shared.asleep_of_life (fence_lifeW h5) A.life⟩

theorem boot_no (P : Params) {x : Str} (h : ([("__name__" : Str), ("__doc__" : Str), ("__package__" : Str), ("__loader__" : Str), ("__spec__" : Str), ("__annotations__" : Str), ("__builtins__" : Str), ("__file__" : Str), ("__cached__" : Str)] : List Str).contains x = false) : (boot_heap P).nsMap mainGlobals x = none := by
  refine Heap.nsMap_none fun m => ?_
  rw [boot_keysM] at m
  rw [List.contains_iff_mem.mpr m] at h
  cases h
theorem boot_bi (P : Params) {x : Str} (hx : x ≠ "__name__") : (boot_heap P).nsMap builtinsNs x = bootBuiltins x := Heap.of_bltView (boot_isNsB P) (boot_blt P) x hx
theorem boot_low (P : Params) : sysModules < (boot_heap P).objs.size := (Heap.Ns.of_isNs (boot_isNsM P)).lt
theorem boot_st (P : Params) (x : Str) : (boot_heap P).nsMap cStatics x = none := Heap.nsMap_none (by rw [boot_keysC]; exact fun h => nomatch h)

theorem bound_all : ((namesL 27).all fun x => PW.boundNames.contains x) = true := by decide +kernel
theorem laid_none : (laidNames.all fun x => !(namesL 27).contains x) = true := by decide +kernel
theorem top_ran {w : World} {s₀ s₁ : Shared} (he : s₀.heap = boot_heap w.params) (hrun : ∃ n t, schedN (denote table) PW w n (.single s₀ (topStub PW)) = .running (.single s₁ t) ∧ through t = true)
    (B : Behind2 w s₀ s₁) (hg : s₁.gens = #[]) (hl : s₁.heap.life = s₀.heap.life) : TopRan PW w s₀ s₁ := by
  obtain ⟨h₀, cd, Pl, mg, ps, X, hsz⟩ := B.made
  have n1 : s₀.heap.isNs mainGlobals = true := he ▸ boot_isNs _
  have n2 : s₀.heap.isNs builtinsNs = true := he ▸ boot_isNsB _
  have n3 : s₀.heap.isNs cStatics = true := he ▸ boot_isNsC _
  have st : ∀ key, staticOf s₁.heap key = staticOf s₀.heap key := fun key => by
    obtain ⟨o, _, _, ho, _⟩ := Heap.Ns.of_isNs n3
    unfold staticOf
    rw [ho, B.keep _ _ ho (by decide)]
  have st0 : ∀ key, staticOf s₀.heap key = none := fun key => by rw [Pin.staticOf_eq n3, he]; exact boot_st _ _
  have gl : ∀ x, globalOf s₁.heap x = mg x := fun x => Claim2Try.globalOf_of_ns X.main.g x
  have gl0 : ∀ x, globalOf s₀.heap x = s₀.heap.nsMap mainGlobals x := fun x => Pin.globalOf_eq n1 x
  refine ⟨hrun, hl, Shared.rest_eq B.os, fun b o e hn => B.keep b o e fun q => hn (.inl q), fun key v hk => ?_, fun key => .inl (st key), Pin.keysAreStrs_of_ns X.main.g, fun x hx => ?_, ?_, fun g hm => ?_, fun x v hx => ?_, fun x hx => ?_⟩
  · rw [st, st0] at hk; cases hk
  · have : builtinOf s₁.heap x = builtinOf s₀.heap x := by
      obtain ⟨o, _, _, ho, _⟩ := Heap.Ns.of_isNs n2
      unfold builtinOf
      rw [ho, B.keep _ _ ho (by decide)]
    rw [this]
    exact (Pin.builtinOf_eq n2 x).trans (by rw [he]; exact boot_bi _ hx)
  · obtain ⟨bm, o, h1, h2, h3, h4, h5, h6, h7, h8⟩ := X.main.bmod
    exact ⟨bm, o, (gl _).trans h1, h5, h6, h7⟩
  · rw [hg] at hm; simp at hm
  · by_cases hm : x ∈ namesL 27
    · exact .inr (List.contains_iff_mem.mp (List.all_eq_true.mp bound_all x hm))
    · rw [gl, X.others x hm] at hx
      refine .inl ?_
      cases hc : startupNames.contains x with
      | true => exact List.contains_iff_mem.mp hc
      | false => rw [he, boot_no _ hc] at hx; cases hx
  · rw [gl, gl0]
    refine X.others x fun m => ?_
    have := List.all_eq_true.mp laid_none x hx
    rw [List.contains_iff_mem.mpr m] at this
    cases this
end Mine
end

section
set_option autoImplicit false
set_option linter.unusedVariables false
set_option maxRecDepth 100000
namespace Mine
open PySem PySem.Calls PyProof.Rows PySem.W

theorem law_nm : stName 26 = ("law" : Str) := by kernel_rfl
theorem law_d : isDef 26 = true := by kernel_rfl
theorem law_the : PW.theDef "law" = some (fnArgs PW 26, fnBody PW 26, fnScope PW 26) := by kernel_rfl
theorem law_df : (fnArgs PW 26).defaults = [] := by kernel_rfl
theorem law_kw : kwWritten? (fnArgs PW 26).kwonlyargs (fnArgs PW 26).kw_defaults = some [] := by kernel_rfl

theorem law_at {w : World} {h₀ h : Heap} {mg₀ mg : Str → Option Value} {cd Pl : Addr} {ps : Array Value} (X : At w h₀ mg₀ cd Pl 27 h mg ps) :
    ∃ a c' pm, mg "law" = some (.ref a) ∧ h.get? a = some { cls := .type "function", data := .func (plainDef "law" (fnArgs PW 26) (fnBody PW 26) (fnScope PW 26) pm (.ref c')) } ∧ h.CodeRec (.ref c') "law" := by
  obtain ⟨v, e1, a, c', pm, e, _, _, h1, h2⟩ := X.got _ (mem_factL (w := w) (N := h₀.objs.size) (p := (stName 26, FunP h₀.objs.size (stName 26) (fnArgs PW 26) (fnBody PW 26) (fnScope PW 26))) 27 26 (by lia) (by unfold factOf; rw [law_d]; rfl))
  subst e
  rw [law_nm] at h1 h2
  exact ⟨a, c', pm, (congrArg mg law_nm).symm.trans e1, h1, h2⟩

theorem law_open : opensWell PW = true := by kernel_rfl
theorem law_bare : PW.bare := ⟨rfl, rfl, rfl, rfl, rfl, by kernel_rfl⟩
theorem law_frees : (frees LR.row.toRowW && LR.row.toRowW.within.isEmpty) = true := by kernel_rfl
theorem law_promised : LR.row.toRowW.promised := ⟨[.list []], by kernel_rfl, by kernel_rfl⟩

theorem law_call (hP : ∀ N : List Int, 4 ≤ N.length → N.length ≤ 6 → (∀ x ∈ N, 0 ≤ x ∧ x < 1000000) → PlainN N) {w : World} {s₀ s₁ : Shared} (he : s₀.heap = boot_heap w.params) (B : Behind2 w s₀ s₁) (hg : s₁.gens = #[]) (hz : s₁.asleep) {gens : Prop} {kept : Heap → Prop} {free : Addr → Prop} (hk : ∀ h', kept h') :
    LR.row.toRowW.claim.CallFrom (callStub LR.row.name) w free gens kept s₁ := by
  obtain ⟨h₀, cd, Pl, mg, ps, X, hsz⟩ := B.made
  have n2 : s₀.heap.isNs builtinsNs = true := he ▸ boot_isNsB _
  have n3 : s₀.heap.isNs cStatics = true := he ▸ boot_isNsC _
  obtain ⟨hfr, hwi⟩ := Bool.and_eq_true_iff.mp law_frees
  obtain ⟨hsame, hu, ha, hap, hm⟩ := frees_parts hfr
  have hi := ident_freeW hu ha hap
  have hwi : LR.row.toRowW.claim.within = [] := List.isEmpty_iff.mp hwi
  refine ClaimW.callFrom_of_specG (c := LR.row.toRowW.claim) (tree := fun vs => (callStub LR.row.name vs).cur) hz hg fun args hpre hlay ord hord => ?_
  obtain ⟨is, rfl, hlen⟩ := pre_args hpre
  obtain ⟨vs, hlaid, hden⟩ := lay_list (cl := classAt s₁.heap) (P := w.params) (ord := ord) is s₁
  refine ⟨_, _, hlaid, ?_⟩
  obtain ⟨as, hrd, hin, hold⟩ := reads_layAllW hord _ _ _ hlaid hlay _ (fun _ _ e => e)
  have keeps : ∀ b o, s₁.heap.get? b = some o → (s₁.heap.push { cls := .type "list", data := .seq vs.toArray }).get? b = some o := fun b o e => Heap.get?_push_of_some _ e
  have L : Laid [] w s₁ { s₁ with heap := s₁.heap.push { cls := .type "list", data := .seq vs.toArray }, toks := s₁.toks + is.length } [.list (is.map .int)] [.ref s₁.heap.objs.size] as := ⟨⟨ord, hord, hlaid⟩, hrd, hin, hold, keeps, hg, rfl⟩
  have X₂ : At w h₀ (s₀.heap.nsMap mainGlobals) cd Pl 27 (s₁.heap.push { cls := .type "list", data := .seq vs.toArray }) mg ps := X.grown keeps (by rw [Heap.size_push]; exact Nat.le_succ _)
  obtain ⟨a, c', pm, e1, e2, e3⟩ := law_at X₂
  have lowS : sysModules < h₀.objs.size := Nat.lt_of_lt_of_le (by rw [he]; exact boot_low _) hsz
  have hbn := ((Heap.Ns.of_isNs n2).at fun o e => B.keep _ o e (by decide)).keeps keeps
  have hT : Top ⟨PW, w, s₁.heap.push { cls := .type "list", data := .seq vs.toArray }, [], []⟩ := top_of X₂ hbn (fun x hx => by rw [he]; exact boot_bi _ hx) lowS fun x hx => by
    rw [he]
    refine boot_no _ ?_
    have : (biAll.all fun x => !([("__name__" : Str), ("__doc__" : Str), ("__package__" : Str), ("__loader__" : Str), ("__spec__" : Str), ("__annotations__" : Str), ("__builtins__" : Str), ("__file__" : Str), ("__cached__" : Str)] : List Str).contains x) = true := by decide +kernel
    simpa using List.all_eq_true.mp this x hx
  have hf : FOk ⟨PW, w, s₁.heap.push { cls := .type "list", data := .seq vs.toArray }, [], []⟩ (0 + 6) (.ref a) [.list (is.map .int)] (.bool true) := law_ok hT hP hlen a ⟨_, _, e2, rfl, rfl, rfl, rfl, rfl, rfl, rfl, rfl, rfl, e3⟩
  have hB : Bas ⟨PW, w, s₁.heap.push { cls := .type "list", data := .seq vs.toArray }, [], []⟩ { s₁ with heap := s₁.heap.push { cls := .type "list", data := .seq vs.toArray }, toks := s₁.toks + is.length } :=
    ⟨fun _ _ e => e, Nat.le_refl _, Nat.lt_of_lt_of_le B.toks (Nat.le_add_right _ _), _, ((Heap.Ns.of_isNs n3).at fun o e => B.keep _ o e (by decide)).keeps keeps, by rw [he]; exact boot_st _ _, by rw [he]; exact boot_st _ _⟩
  have hcall := hf.run callerA _ [] [.ref s₁.heap.objs.size] ⟨rfl, by decide, by decide⟩ hB (fun x hx => nomatch hx) ⟨_, _, rfl, ⟨s₁.heap.objs.size, vs.toArray, rfl, by simp, ⟨0, Heap.get?_push_size _ rfl⟩, by simpa using hden _ _ _⟩, rfl⟩
  refine wpAny_bind (wpAny_nsGet X₂.main.g ?_)
  have e1' : mg LR.row.name = some (.ref a) := e1
  rw [e1']
  refine wpAny_bind (wpAny_mono hcall (fun v s' ⟨x, d⟩ => wpAny_pure ⟨_, rfl, ?_⟩) fun _ _ x => x.elim)
  have hv : v = .bool true := d
  subst hv
  have g : GoodWG LR.row.toRowW.claim (classAt s₁.heap) (ExcName.means s₁.heap) [.list (is.map .int)] { s₁ with heap := s₁.heap.push { cls := .type "list", data := .seq vs.toArray }, toks := s₁.toks + is.length } (.ok (.ret (.bool true))) s' :=
    ⟨.inl ⟨_, .bool true, [], rfl, fun _ => rfl, .bool true, (by kernel_rfl), fun _ => ⟨List.nodup_nil, fun _ h => nomatch h⟩⟩, .of_keep x.all, x.os, x.bare (by rw [hg]; exact .empty)⟩
  have z := g.laid (c := LR.row.toRowW.claim) hsame hwi hi L
  exact ⟨z.1, z.2.1, z.2.2, hk _⟩
end Mine
namespace Mine
open PySem PySem.Calls PyProof.Rows PySem.W
theorem law_row (hP : ∀ N : List Int, 4 ≤ N.length → N.length ≤ 6 → (∀ x ∈ N, 0 ≤ x ∧ x < 1000000) → PlainN N) (said : LR.row.wellSaid = true) : LR.row.Holds := by
  refine ⟨said, law_promised, ⟨law_bare, law_open, rfl⟩, law_promised.witness, fun w => ?_⟩
  obtain ⟨s', s₀, A, hf, he, hg0, hz0⟩ := boots w
  refine ⟨⟨s', A⟩, fun s hs => ?_⟩
  obtain rfl : s = s' := AfterImport.unique hs A
  have m := boot_bmod w.params
  obtain ⟨o, m4, m5, m6, m7⟩ := m
  have low := boot_low w.params
  have n1 : s₀.heap.isNs mainGlobals = true := he ▸ boot_isNs _
  have n2 : s₀.heap.isNs builtinsNs = true := he ▸ boot_isNsB _
  obtain ⟨s₁, hrun, B, hg, hl⟩ := run_through hz0 (top_wp (w := w) (s := s₀) (bm := 4) (o := o) n1 n2 (by rw [he]; exact boot_no _ (by decide +kernel)) (by rw [he]; exact boot_no _ (by decide +kernel)) (by rw [he]; exact boot_no _ (by decide +kernel))
    (by rw [he]; exact (boot_bi _ nm_e.2.2.2).trans Pv.boot_set) (by rw [he]; exact (boot_bi _ nm_e.2.2.1).trans Pv.boot_list) (by rw [he]; exact (boot_bi _ nm_e.2.1).trans boot_rng)
    (by rw [he]; exact low) (by rw [he]; exact boot_blts _) (by decide) (by decide) (by rw [he]; exact m4) ⟨m5, m6, m7⟩ hg0)
  have T : TopRan PW w s₀ s₁ := top_ran he hrun B hg hl
  refine ⟨s₀, hf, hg0, s₁, T, fun n hn => ?_, fun x hx => absurd (show x ∈ ([] : List (Str × List (Str × WShape))) from hx) (by simp), fun x hx => absurd (show x ∈ ([] : List (Str × List (Str × WShape))) from hx) (by simp), law_call hP he B hg (Shared.asleep_of_life hl hz0) fun h' (q : false = true) => absurd q (by decide)⟩
  obtain rfl : n = "law" := by
    have hn : n ∈ (["law"] : List Str) := hn
    simpa using hn
  obtain ⟨h₀, cd, Pl, mg, ps, X, _⟩ := B.made
  obtain ⟨a, c', pm, e1, e2, e3⟩ := law_at X
  exact ⟨a, _, _, _, _, _, (Claim2Try.globalOf_of_ns X.main.g _).trans e1, e2, rfl, law_the, rfl, rfl, rfl, rfl, rfl, rfl, rfl, rfl, .inl ⟨law_df, rfl⟩, [], law_kw, .inl ⟨rfl, rfl⟩⟩
theorem law_said : PySem.Challenge.rw_rw0119_01.wellSaid = true := by kernel_rfl
theorem law_holds (hP : ∀ N : List Int, 4 ≤ N.length → N.length ≤ 6 → (∀ x ∈ N, 0 ≤ x ∧ x < 1000000) → PlainN N) : PySem.Challenge.rw_rw0119_01.Holds := ⟨law_said, law_row hP (row_said law_said)⟩
end Mine
end

section
set_option maxRecDepth 100000
set_option maxHeartbeats 4000000 in
theorem PySem.Challenge.cw_rw0119_01_holds : PySem.Challenge.rw_rw0119_01.Holds :=
  Mine.law_holds fun N h4 h6 _ => Mine.plain h4 h6
end
