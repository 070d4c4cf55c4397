import PyProof.Rows.All
import Wide.All
import OpenK.AllK
import Wide.FinOn
import PySem.Challenge.RW_rw0119_02
set_option Elab.async false

section
set_option autoImplicit false
namespace Mine
open PySem PySem.Calls PyProof.Rows

theorem n3 : ∀ k : Nat, k < 3 → (k = 0 ∨ k = 1 ∨ k = 2) := by decide
theorem n4 : ∀ k : Nat, k < 4 → (k = 0 ∨ k = 1 ∨ k = 2 ∨ k = 3) := by decide
theorem n5 : ∀ k : Nat, k < 5 → (k = 0 ∨ k = 1 ∨ k = 2 ∨ k = 3 ∨ k = 4) := by decide
theorem n6 : ∀ k : Nat, k < 6 → (k = 0 ∨ k = 1 ∨ k = 2 ∨ k = 3 ∨ k = 4 ∨ k = 5) := by decide
theorem toNat_lt {i : Int} {n : Nat} (h0 : 0 ≤ i) (h : i < n) : i.toNat < n := (Int.toNat_lt h0).mpr h
theorem iLt3 {i : Int} (h0 : 0 ≤ i) (h : i < 3) : i = 0 ∨ i = 1 ∨ i = 2 := by
  have e := Int.toNat_of_nonneg h0
  rcases n3 _ (toNat_lt h0 h) with h | h | h <;> rw [h] at e
  · exact .inl e.symm
  · exact .inr (.inl e.symm)
  · exact .inr (.inr e.symm)
theorem iLt6 {i : Int} (h0 : 0 ≤ i) (h : i < 6) : i = 0 ∨ i = 1 ∨ i = 2 ∨ i = 3 ∨ i = 4 ∨ i = 5 := by
  have e := Int.toNat_of_nonneg h0
  rcases n6 _ (toNat_lt h0 h) with h | h | h | h | h | h <;> rw [h] at e
  · exact .inl e.symm
  · exact .inr (.inl e.symm)
  · exact .inr (.inr (.inl e.symm))
  · exact .inr (.inr (.inr (.inl e.symm)))
  · exact .inr (.inr (.inr (.inr (.inl e.symm))))
  · exact .inr (.inr (.inr (.inr (.inr e.symm))))

/-- plain data -/
inductive T where
  | none
  | bool (b : Bool)
  | int (i : Int)
  | float (x : UInt64)
  | str (s : Str)
  | tup (l : List T)
  | list (l : List T)
  | sdict (l : List (Str × Int))
  deriving Inhabited

/-- the entries of a dict of strs and ints, as the model lays them -/
def SEnts (w : World) : List (Str × Int) → List DictEntry → Prop
  | [], es => es = []
  | kv :: l, es => ∃ e r, es = e :: r ∧ e.hash = hashStr w kv.1 ∧ (∃ t, e.key = .str kv.1 t) ∧ (∃ t, e.val = .int kv.2 t) ∧ SEnts w l r

mutual
/-- the value v means the datum t in the heap h; no list or tuple of it lies at an address of M -/
def Den (w : World) (M : List Addr) (h : Heap) : T → Value → Prop
  | .none, v => v = .none
  | .bool b, v => v = .bool b
  | .int i, v => ∃ t, v = .int i t
  | .float x, v => ∃ t, t ≠ 0 ∧ v = .float x t
  | .str s, v => ∃ t, v = .str s t
  | .tup l, v => ∃ a vs, v = .ref a ∧ a ∉ M ∧ h.IsTuple a vs ∧ DenL w M h l vs.toList
  | .list l, v => ∃ a vs, v = .ref a ∧ a ∉ M ∧ h.PlainList a vs ∧ DenL w M h l vs.toList
  | .sdict l, v => ∃ a es n, v = .ref a ∧ a ∉ M ∧ (a == sysModules) = false ∧ h.get? a = some { cls := .type "dict", data := .dict es n } ∧ SEnts w l es.toList
def DenL (w : World) (M : List Addr) (h : Heap) : List T → List Value → Prop
  | [], vs => vs = []
  | t :: ts, vs => ∃ v r, vs = v :: r ∧ Den w M h t v ∧ DenL w M h ts r
end

/-- as Den, but the top's own address may lie in M -/
def DenB (w : World) (M : List Addr) (h : Heap) : T → Value → Prop
  | .list l, v => ∃ a vs, v = .ref a ∧ h.PlainList a vs ∧ DenL w M h l vs.toList
  | t, v => Den w M h t v

theorem Heap.isTuple_keep {h h' : Heap} {a : Addr} {vs : Array Value} (x : h.IsTuple a vs) (k : ∀ o, h.get? a = some o → h'.get? a = some o) : h'.IsTuple a vs :=
  let ⟨o, e, r⟩ := x; ⟨o, k o e, r⟩

mutual
theorem Den.mono {w : World} {M M' : List Addr} {h h' : Heap} (hM : ∀ a, a ∉ M → a ∉ M') (hk : ∀ b o, b ∉ M → h.get? b = some o → h'.get? b = some o) :
    ∀ (t : T) (v : Value), Den w M h t v → Den w M' h' t v
  | .none, v, x => by simpa [Den] using x
  | .bool b, v, x => by simpa [Den] using x
  | .int i, v, x => by simpa [Den] using x
  | .float i, v, x => by simpa [Den] using x
  | .str i, v, x => by simpa [Den] using x
  | .tup l, v, x => by
    simp only [Den] at x ⊢
    obtain ⟨a, vs, h1, h2, h3, h4⟩ := x
    exact ⟨a, vs, h1, hM a h2, Heap.isTuple_keep h3 (fun o => hk a o h2), DenL.mono hM hk l _ h4⟩
  | .list l, v, x => by
    simp only [Den] at x ⊢
    obtain ⟨a, vs, h1, h2, h3, h4⟩ := x
    exact ⟨a, vs, h1, hM a h2, h3.at (fun o => hk a o h2), DenL.mono hM hk l _ h4⟩
  | .sdict l, v, x => by
    simp only [Den] at x ⊢
    obtain ⟨a, es, n, h1, h2, h0, h3, h4⟩ := x
    exact ⟨a, es, n, h1, hM a h2, h0, hk a _ h2 h3, h4⟩
theorem DenL.mono {w : World} {M M' : List Addr} {h h' : Heap} (hM : ∀ a, a ∉ M → a ∉ M') (hk : ∀ b o, b ∉ M → h.get? b = some o → h'.get? b = some o) :
    ∀ (ts : List T) (vs : List Value), DenL w M h ts vs → DenL w M' h' ts vs
  | [], vs, x => by simpa [DenL] using x
  | t :: ts, vs, x => by
    simp only [DenL] at x ⊢
    obtain ⟨v, r, h1, h2, h3⟩ := x
    exact ⟨v, r, h1, Den.mono hM hk t v h2, DenL.mono hM hk ts r h3⟩
end

theorem Den.keep {w : World} {M : List Addr} {h h' : Heap} {t : T} {v : Value} (x : Den w M h t v) (hk : ∀ b o, h.get? b = some o → h'.get? b = some o) : Den w M h' t v :=
  Den.mono (fun _ e => e) (fun b o _ e => hk b o e) t v x
theorem DenL.keep {w : World} {M : List Addr} {h h' : Heap} {ts : List T} {vs : List Value} (x : DenL w M h ts vs) (hk : ∀ b o, h.get? b = some o → h'.get? b = some o) : DenL w M h' ts vs :=
  DenL.mono (fun _ e => e) (fun b o _ e => hk b o e) ts vs x
theorem DenB.keep {w : World} {M : List Addr} {h h' : Heap} {t : T} {v : Value} (x : DenB w M h t v) (hk : ∀ b o, h.get? b = some o → h'.get? b = some o) : DenB w M h' t v := by
  cases t <;> try exact Den.keep x hk
  case list l =>
    obtain ⟨a, vs, h1, h2, h3⟩ := x
    exact ⟨a, vs, h1, h2.at (fun o => hk a o), h3.keep hk⟩
theorem Den.borrow {w : World} {M : List Addr} {h : Heap} {t : T} {v : Value} (x : Den w M h t v) : DenB w M h t v := by
  cases t <;> try exact x
  case list l =>
    simp only [Den] at x
    obtain ⟨a, vs, h1, _, h2, h3⟩ := x
    exact ⟨a, vs, h1, h2, h3⟩

theorem DenL.length {w : World} {M : List Addr} {h : Heap} : ∀ {ts : List T} {vs : List Value}, DenL w M h ts vs → ts.length = vs.length
  | [], vs, x => by simp only [DenL] at x; subst x; rfl
  | t :: ts, vs, x => by
    simp only [DenL] at x
    obtain ⟨v, r, rfl, _, h3⟩ := x
    simp [DenL.length h3]
theorem DenL.nil {w : World} {M : List Addr} {h : Heap} : DenL w M h [] [] := by simp [DenL]
theorem DenL.cons {w : World} {M : List Addr} {h : Heap} {t : T} {ts : List T} {v : Value} {vs : List Value} (x : Den w M h t v) (y : DenL w M h ts vs) : DenL w M h (t :: ts) (v :: vs) := by
  simp only [DenL]; exact ⟨v, vs, rfl, x, y⟩
theorem DenL.app {w : World} {M : List Addr} {h : Heap} : ∀ {ts : List T} {vs : List Value} {ts' : List T} {vs' : List Value}, DenL w M h ts vs → DenL w M h ts' vs' → DenL w M h (ts ++ ts') (vs ++ vs')
  | [], vs, _, _, x, y => by simp only [DenL] at x; subst x; exact y
  | t :: ts, vs, _, _, x, y => by
    simp only [DenL] at x
    obtain ⟨v, r, rfl, h2, h3⟩ := x
    exact DenL.cons h2 (DenL.app h3 y)
theorem DenL.get {w : World} {M : List Addr} {h : Heap} : ∀ {ts : List T} {vs : List Value} {i : Nat} {t : T}, DenL w M h ts vs → ts[i]? = some t → ∃ v, vs[i]? = some v ∧ Den w M h t v
  | [], vs, i, t, x, e => by simp at e
  | t :: ts, vs, 0, t', x, e => by
    simp only [DenL] at x
    obtain ⟨v, r, rfl, h2, h3⟩ := x
    simp at e; subst e
    exact ⟨v, rfl, h2⟩
  | t :: ts, vs, i + 1, t', x, e => by
    simp only [DenL] at x
    obtain ⟨v, r, rfl, h2, h3⟩ := x
    simpa using DenL.get (i := i) h3 (by simpa using e)
theorem DenL.take {w : World} {M : List Addr} {h : Heap} : ∀ {ts : List T} {vs : List Value} (n : Nat), DenL w M h ts vs → DenL w M h (ts.take n) (vs.take n)
  | [], vs, n, x => by simp only [DenL] at x; subst x; simp [DenL]
  | t :: ts, vs, 0, x => by simp [DenL]
  | t :: ts, vs, n + 1, x => by
    simp only [DenL] at x
    obtain ⟨v, r, rfl, h2, h3⟩ := x
    exact DenL.cons h2 (DenL.take n h3)
theorem DenL.drop {w : World} {M : List Addr} {h : Heap} : ∀ {ts : List T} {vs : List Value} (n : Nat), DenL w M h ts vs → DenL w M h (ts.drop n) (vs.drop n)
  | [], vs, n, x => by simp only [DenL] at x; subst x; simp [DenL]
  | t :: ts, vs, 0, x => by simpa using x
  | t :: ts, vs, n + 1, x => by
    simp only [DenL] at x
    obtain ⟨v, r, rfl, h2, h3⟩ := x
    simpa using DenL.drop n h3
/-- as it was, but for what lies at an address of N -/
structure Chg (N : List Addr) (s s' : Shared) : Prop where
  heap : ∀ b o, b ∉ N → s.heap.get? b = some o → s'.heap.get? b = some o
  size : s.heap.objs.size ≤ s'.heap.objs.size
  gens : ∀ (i : Nat) (x : GenState), s.gens[i]? = some x → s'.gens[i]? = some x
  bare : AllBare s.gens → AllBare s'.gens
  os : s'.os = s.os
  toks : s.toks ≤ s'.toks

/-- what stood stands -/
abbrev Ext (s s' : Shared) : Prop := Chg [] s s'

theorem Chg.all {s s' : Shared} (x : Ext s s') : ∀ b o, s.heap.get? b = some o → s'.heap.get? b = some o := fun b o e => x.heap b o (by simp) e
theorem Chg.refl {N : List Addr} (s : Shared) : Chg N s s := ⟨fun _ _ _ e => e, Nat.le_refl _, fun _ _ e => e, id, rfl, Nat.le_refl _⟩
theorem Chg.mono {N N' : List Addr} {s s' : Shared} (x : Chg N s s') (h : ∀ a ∈ N, a ∈ N' ∨ s.heap.objs.size ≤ a) : Chg N' s s' :=
  ⟨fun b o hb e => x.heap b o (fun m => (h b m).elim hb fun q => absurd (Heap.lt_size e) (Nat.not_lt.mpr q)) e, x.size, x.gens, x.bare, x.os, x.toks⟩
theorem Chg.trans {N N' : List Addr} {s s' s'' : Shared} (x : Chg N s s') (y : Chg N' s' s'') (h : ∀ a ∈ N', a ∈ N ∨ s.heap.objs.size ≤ a) : Chg N s s'' :=
  ⟨fun b o hb e => y.heap b o (fun m => (h b m).elim hb fun q => absurd (Heap.lt_size e) (Nat.not_lt.mpr q)) (x.heap b o hb e), Nat.le_trans x.size y.size,
    fun i g e => y.gens i g (x.gens i g e), fun b => y.bare (x.bare b), y.os.trans x.os, Nat.le_trans x.toks y.toks⟩
theorem Ext.trans {s s' s'' : Shared} (x : Ext s s') (y : Ext s' s'') : Ext s s'' := Chg.trans x y (by simp)
theorem Ext.chg {s s' : Shared} {N : List Addr} (x : Ext s s') : Chg N s s' := x.mono (by simp)
theorem Ext.tok (s : Shared) : Ext s { s with toks := s.toks + 1 } := ⟨fun _ _ _ e => e, Nat.le_refl _, fun _ _ e => e, id, rfl, Nat.le_succ _⟩
theorem Ext.toks {s : Shared} {n : Nat} (h : s.toks ≤ n) : Ext s { s with toks := n } := ⟨fun _ _ _ e => e, Nat.le_refl _, fun _ _ e => e, id, rfl, h⟩
theorem Ext.of_heap {s : Shared} {h' : Heap} {n : Nat} (hk : ∀ b o, s.heap.get? b = some o → h'.get? b = some o) (hs : s.heap.objs.size ≤ h'.objs.size) (hn : s.toks ≤ n) : Ext s { s with heap := h', toks := n } :=
  ⟨fun b o _ e => hk b o e, hs, fun _ _ e => e, id, rfl, hn⟩
theorem Ext.push (s : Shared) (o : Obj) : Ext s { s with heap := s.heap.push o } :=
  ⟨fun _ _ _ e => Heap.get?_push_of_some _ e, by rw [Heap.size_push]; lia, fun _ _ e => e, id, rfl, Nat.le_refl _⟩

mutual
theorem Den.more {w : World} {M M' : List Addr} {h : Heap} (hM : ∀ a, a ∉ M → a < h.objs.size → a ∉ M') : ∀ (t : T) (v : Value), Den w M h t v → Den w M' h t v
  | .none, v, x => by simpa [Den] using x
  | .bool b, v, x => by simpa [Den] using x
  | .int i, v, x => by simpa [Den] using x
  | .float i, v, x => by simpa [Den] using x
  | .str i, v, x => by simpa [Den] using x
  | .tup l, v, x => by
    simp only [Den] at x ⊢
    obtain ⟨a, vs, h1, h2, h3, h4⟩ := x
    exact ⟨a, vs, h1, hM a h2 (let ⟨_, e, _⟩ := h3; Heap.lt_size e), h3, DenL.more hM l _ h4⟩
  | .list l, v, x => by
    simp only [Den] at x ⊢
    obtain ⟨a, vs, h1, h2, h3, h4⟩ := x
    exact ⟨a, vs, h1, hM a h2 (let ⟨_, e⟩ := h3; Heap.lt_size e), h3, DenL.more hM l _ h4⟩
  | .sdict l, v, x => by
    simp only [Den] at x ⊢
    obtain ⟨a, es, n, h1, h2, h0, h3, h4⟩ := x
    exact ⟨a, es, n, h1, hM a h2 (Heap.lt_size h3), h0, h3, h4⟩
theorem DenL.more {w : World} {M M' : List Addr} {h : Heap} (hM : ∀ a, a ∉ M → a < h.objs.size → a ∉ M') : ∀ (ts : List T) (vs : List Value), DenL w M h ts vs → DenL w M' h ts vs
  | [], vs, x => by simpa [DenL] using x
  | t :: ts, vs, x => by
    simp only [DenL] at x ⊢
    obtain ⟨v, r, h1, h2, h3⟩ := x
    exact ⟨v, r, h1, Den.more hM t v h2, DenL.more hM ts r h3⟩
end


theorem DenL.newer {w : World} {M : List Addr} {h : Heap} {ts : List T} {vs : List Value} {a : Addr} (x : DenL w M h ts vs) (ha : h.objs.size ≤ a) : DenL w (a :: M) h ts vs :=
  DenL.more (fun b hb hl hm => by
    rcases List.mem_cons.mp hm with rfl | hm
    · exact absurd hl (Nat.not_lt.mpr ha)
    · exact hb hm) ts vs x
theorem DenL.less {w : World} {M : List Addr} {h : Heap} {ts : List T} {vs : List Value} {a : Addr} (x : DenL w (a :: M) h ts vs) : DenL w M h ts vs :=
  DenL.mono (fun b hb hm => hb (List.mem_cons_of_mem _ hm)) (fun _ _ _ e => e) ts vs x
end Mine
end

section
set_option autoImplicit false
namespace Mine
open PySem PySem.Calls PyProof.Rows

theorem size_upd (h : Heap) (a : Addr) (f : Obj → Obj) : (h.update a f).objs.size = h.objs.size := by cases h; simp [Heap.update]

theorem runs_size {M : Model} {Γ : Ctx} {p : Pos} {t : Sem Fin} {fs : List Frame} {s s' : Shared} {e : End} (h : Runs M Γ p t fs s e s') : s.heap.objs.size ≤ s'.heap.objs.size := by
  induction h <;> (try simp only [Shared.setGen, Heap.size_push, size_upd] at *) <;> lia

theorem returns_size {M : Model} {Γ : Ctx} {p : Pos} {s s' : Shared} {r : Result} (h : Returns M Γ p s r s') : s.heap.objs.size ≤ s'.heap.objs.size := runs_size h

theorem wakes_size {M : Model} {Γ : Ctx} {p : Pos} {g : Nat} {r : Resume} {s s' : Shared} {res : GenResult} (h : Wakes M Γ p g r s res s') : s.heap.objs.size ≤ s'.heap.objs.size := by
  unfold Wakes at h
  split at h
  · exact h.elim
  · split at h
    · obtain ⟨e₁, s₁, hr, _, _, rfl⟩ := h; exact (runs_size hr : (s.setGen g .running).heap.objs.size ≤ s₁.heap.objs.size)
    · rw [h.2]; exact Nat.le_refl _
    · rw [h.2]; exact Nat.le_refl _
  · obtain ⟨e₁, s₁, hr, _, _, rfl⟩ := h; exact (runs_size hr : (s.setGen g .running).heap.objs.size ≤ s₁.heap.objs.size)
  · rw [h.2]; exact Nat.le_refl _
  · rw [h.2]; exact Nat.le_refl _

theorem wp_size {α : Type} (M : Model) (Γ : Ctx) (n : Nat) (t : Sem α) : ∀ (Q : α → Pos → Shared → Prop) (E : Value → Pos → Shared → Prop) (p : Pos) (s : Shared), n ≤ s.heap.objs.size → Sem.wp M Γ t Q E p s →
    Sem.wp M Γ t (fun a p' s' => n ≤ s'.heap.objs.size ∧ Q a p' s') (fun e p' s' => n ≤ s'.heap.objs.size ∧ E e p' s') p s := by
  induction t with
  | pure a => intro Q E p s hn h; exact ⟨hn, h⟩
  | raise e => intro Q E p s hn h; exact ⟨hn, h⟩
  | unsupported _ => intro Q E p s _ h; exact h
  | finish _ => intro Q E p s _ h; exact h
  | rule _ k ih => intro Q E p s hn h; exact ih () Q E p s hn h
  | «at» p' k ih => intro Q E p s hn h; exact ih () Q E p' s hn h
  | load a _ k ih => intro Q E p s hn h; obtain ⟨o, ho, h⟩ := h; exact ⟨o, ho, ih o Q E p s hn h⟩
  | update a _ f k ih => intro Q E p s hn h; exact ⟨h.1, ih () Q E p _ (by rw [size_upd]; exact hn) h.2⟩
  | loadIfAlive a k ih => intro Q E p s hn h; exact ih _ Q E p s hn h
  | point _ k ih => intro Q E p s hn h; exact ih () Q E p s hn h
  | register _ _ => intro Q E p s _ h; exact h
  | alloc o k ih => intro Q E p s hn h; exact ih _ Q E p _ (by rw [Heap.size_push]; lia) h
  | fresh k ih => intro Q E p s hn h; exact ih _ Q E p _ hn h
  | ask k ih => intro Q E p s hn h; exact ih _ Q E p s hn h
  | choose src m k ih => intro Q E p s hn h; exact ⟨h.1, ih _ Q E p _ hn h.2⟩
  | os q _ k ih => intro Q E p s hn h; exact ih _ Q E p _ hn h
  | call c hd _ _ k ih => intro Q E p s hn h; obtain ⟨r, s', hr, h⟩ := h; exact ⟨r, s', hr, ih r Q E p s' (Nat.le_trans hn (returns_size hr)) h⟩
  | handled own k ih => intro Q E p s hn h; exact ih _ Q E p s hn h
  | genState g k ih => intro Q E p s hn h; obtain ⟨st, hs, h⟩ := h; exact ⟨st, hs, ih _ Q E p s hn h⟩
  | newGen c k ih => intro Q E p s hn h; exact ih _ Q E p _ hn h
  | resume g r _ k ih => intro Q E p s hn h; obtain ⟨res, s', hw, h⟩ := h; exact ⟨res, s', hw, ih res Q E p s' (Nat.le_trans hn (wakes_size hw)) h⟩
  | yield _ _ _ _ => intro Q E p s _ h; exact h
  | stack k ih => intro Q E p s hn h; exact ih _ Q E p s hn h
  | fork _ _ => intro Q E p s _ h; exact h
  | thread k ih => intro Q E p s hn h; exact ih _ Q E p s hn h
  | await _ _ _ _ _ => intro Q E p s _ h; exact h

theorem wpAny_size_of {α : Type} {M : Model} {A : Around} {s : Shared} {t : Sem α} {Q : α → Shared → Prop} {E : Value → Shared → Prop} {n : Nat} (hn : n ≤ s.heap.objs.size) (h : wpAny M A t Q E s) :
    wpAny M A t (fun a s' => n ≤ s'.heap.objs.size ∧ Q a s') (fun e s' => n ≤ s'.heap.objs.size ∧ E e s') s :=
  fun Γ p hΓ => wp_size M Γ n t _ _ p s hn (h Γ p hΓ)

/-- what a rule's end may take for granted: sizes and tokens have grown -/
theorem wp_grow {α : Type} {M : Model} {A : Around} {s : Shared} {t : Sem α} {Q : α → Shared → Prop} {E : Value → Shared → Prop}
    (h : wpAny M A t (fun a s' => s.heap.objs.size ≤ s'.heap.objs.size → s.toks ≤ s'.toks → Q a s') E s) : wpAny M A t Q E s :=
  wpAny_mono (wpAny_size_of (Nat.le_refl _) (wpAny_toks_of (Nat.le_refl _) h)) (fun _ _ x => x.2.2 x.1 x.2.1) fun _ _ x => x.2.2
end Mine
end

section
set_option autoImplicit false
namespace Mine
open PySem PySem.Calls PyProof.Rows

/-- what a judgement is said of: the text, the world, the heap at the law's call, the block's names, the names whose cells are the block's own -/
structure Cx where
  prog : Program
  w : World
  H : Heap
  ns : List (Str × NameKind)
  cel : List Str

def Room (A : Around) (k : Nat) : Prop := A.handled = none ∧ A.depth + k < 800 ∧ A.units + 8 * k < 9000
inductive Var where
  | sh (t : T)
  | own (l : List T)
  deriving Inhabited

abbrev Rho := List (Str × Var)

structure Bas (c : Cx) (s : Shared) : Prop where
  heap : ∀ b o, c.H.get? b = some o → s.heap.get? b = some o
  size : c.H.objs.size ≤ s.heap.objs.size
  toks : 0 < s.toks
  lim : ∃ m, c.H.Ns cStatics m ∧ m "sys.recursionlimit" = none ∧ m sharingNotToldKey = none

theorem Bas.keep {c : Cx} {s s' : Shared} {N : List Addr} (B : Bas c s) (x : Chg N s s') (h : ∀ a ∈ N, c.H.objs.size ≤ a) : Bas c s' :=
  ⟨fun b o e => x.heap b o (fun m => absurd (Heap.lt_size e) (Nat.not_lt.mpr (h b m))) (B.heap b o e), Nat.le_trans B.size x.size, Nat.lt_of_lt_of_le B.toks x.toks, B.lim⟩
theorem Bas.ext {c : Cx} {s s' : Shared} (B : Bas c s) (x : Ext s s') : Bas c s' := B.keep x (by simp)

def ownCells (c : Cx) (env : Env) : List Addr := (env.cells.filter fun p => c.cel.contains p.1).map (·.2)
/-- what the block may change -/
def nOf (c : Cx) (env : Env) (O : List (Str × Addr)) : List Addr := env.locals :: (ownCells c env ++ O.map (·.2))

theorem mem_ownCells {c : Cx} {env : Env} {x : Str} {a : Addr} (h : (x, a) ∈ env.cells) (hc : c.cel.contains x = true) : a ∈ ownCells c env :=
  List.mem_map.mpr ⟨(x, a), List.mem_filter.mpr ⟨h, hc⟩, rfl⟩

def Loads (env : Env) (h : Heap) (x : Str) (v : Value) : Prop :=
  (env.kindOf x = some .local ∧ ∃ m, h.Ns env.locals m ∧ m x = some v) ∨
  ((env.kindOf x = some .cell ∨ env.kindOf x = some .free) ∧ ∃ c, env.cells.lookup x = some c ∧ h.IsCell c (some v))

def VDen (w : World) (M : List Addr) (O : List (Str × Addr)) (h : Heap) (x : Str) : Var → Value → Prop
  | .sh t, v => Den w M h t v
  | .own l, v => ∃ a vs, v = .ref a ∧ O.lookup x = some a ∧ h.PlainList a vs ∧ DenL w M h l vs.toList

/-- the frame of env holds what ρ says -/
structure Rel (c : Cx) (env : Env) (M₀ : List Addr) (O : List (Str × Addr)) (ρ : Rho) (s : Shared) : Prop where
  bas : Bas c s
  names : env.scope.names = c.ns
  kind : env.scope.kind = .function
  glob : env.globals = mainGlobals
  blt : env.builtins = builtinsNs
  nd : (nOf c env O).Nodup
  hi : ∀ a ∈ nOf c env O ++ M₀, c.H.objs.size ≤ a ∧ a < s.heap.objs.size
  dis : ∀ a ∈ nOf c env O, a ∉ M₀
  loc : ∃ m, s.heap.Ns env.locals m
  cells : ∀ x a, (x, a) ∈ env.cells → (∃ v, s.heap.IsCell a v) ∧ (c.cel.contains x = true ∨ a ∈ M₀)
  call : ∀ x, (c.ns.lookup x = some .cell ∨ c.ns.lookup x = some .free) → ∃ a, env.cells.lookup x = some a
  vars : ∀ x u, ρ.lookup x = some u → ∃ v, Loads env s.heap x v ∧ VDen c.w (nOf c env O ++ M₀) O s.heap x u v

abbrev NoE : Value → Shared → Prop := fun _ _ => False

structure Ev (c : Cx) (n : Nat) (ρ : Rho) (e : Expr) (t : T) : Prop where
  run : ∀ A s env M₀ O, Room A n → Rel c env M₀ O ρ s → wpAny (model c.prog c.w) A (eval e env) (fun v s' => Ext s s' ∧ Den c.w (nOf c env O ++ M₀) s'.heap t v) NoE s
/-- as Ev, or a list of the block's own, borrowed -/
structure EvB (c : Cx) (n : Nat) (ρ : Rho) (e : Expr) (t : T) : Prop where
  run : ∀ A s env M₀ O, Room A n → Rel c env M₀ O ρ s → wpAny (model c.prog c.w) A (eval e env) (fun v s' => Ext s s' ∧ DenB c.w (nOf c env O ++ M₀) s'.heap t v) NoE s
/-- a list that is new -/
structure EvN (c : Cx) (n : Nat) (ρ : Rho) (e : Expr) (l : List T) : Prop where
  run : ∀ A s env M₀ O, Room A n → Rel c env M₀ O ρ s → wpAny (model c.prog c.w) A (eval e env)
    (fun v s' => Ext s s' ∧ ∃ a vs, v = .ref a ∧ s.heap.objs.size ≤ a ∧ s'.heap.PlainList a vs ∧ DenL c.w (a :: (nOf c env O ++ M₀)) s'.heap l vs.toList) NoE s
structure EvT (c : Cx) (n : Nat) (ρ : Rho) (e : Expr) (b : Bool) : Prop where
  run : ∀ A s env M₀ O, Room A n → Rel c env M₀ O ρ s → wpAny (model c.prog c.w) A (isTrue e env (eval e env)) (fun r s' => Ext s s' ∧ r = b) NoE s

theorem wpAny_imp {α : Type} {M : Model} {A : Around} {t : Sem α} {Q Q' : α → Shared → Prop} {E : Value → Shared → Prop} {s : Shared} (h : wpAny M A t Q E s)
    (hQ : ∀ a s, Q a s → Q' a s) : wpAny M A t Q' E s := wpAny_mono h hQ fun _ _ e => e
theorem wpAny_no {α : Type} {M : Model} {A : Around} {t : Sem α} {Q : α → Shared → Prop} {E : Value → Shared → Prop} {s : Shared} (h : wpAny M A t Q NoE s) : wpAny M A t Q E s :=
  wpAny_mono h (fun _ _ q => q) fun _ _ e => e.elim

theorem Loads.keep {env : Env} {h h' : Heap} {x : Str} {v : Value} (l : Loads env h x v) (hk : ∀ b o, h.get? b = some o → h'.get? b = some o) : Loads env h' x v := by
  rcases l with ⟨a, m, hn, hm⟩ | ⟨a, c, hc, hv⟩
  · exact .inl ⟨a, m, hn.keeps hk, hm⟩
  · exact .inr ⟨a, c, hc, hv.keeps hk⟩

theorem VDen.mono {w : World} {M M' : List Addr} {O O' : List (Str × Addr)} {h h' : Heap} {x : Str} {u : Var} {v : Value} (d : VDen w M O h x u v) (hM : ∀ a, a ∉ M → a ∉ M')
    (hk : ∀ b o, b ∉ M → h.get? b = some o → h'.get? b = some o) (ho : ∀ a, O.lookup x = some a → O'.lookup x = some a ∧ ∀ o, h.get? a = some o → h'.get? a = some o) : VDen w M' O' h' x u v := by
  cases u with
  | sh t => exact Den.mono hM hk t v d
  | own l =>
    obtain ⟨a, vs, h1, h2, h3, h4⟩ := d
    exact ⟨a, vs, h1, (ho a h2).1, h3.at (ho a h2).2, DenL.mono hM hk l _ h4⟩
theorem VDen.keep {w : World} {M : List Addr} {O : List (Str × Addr)} {h h' : Heap} {x : Str} {u : Var} {v : Value} (d : VDen w M O h x u v) (hk : ∀ b o, h.get? b = some o → h'.get? b = some o) : VDen w M O h' x u v :=
  d.mono (fun _ e => e) (fun b o _ e => hk b o e) fun a e => ⟨e, fun o => hk a o⟩

theorem Rel.ext {c : Cx} {env : Env} {M₀ : List Addr} {O : List (Str × Addr)} {ρ : Rho} {s s' : Shared} (R : Rel c env M₀ O ρ s) (x : Ext s s') : Rel c env M₀ O ρ s' where
  bas := R.bas.ext x
  names := R.names
  kind := R.kind
  glob := R.glob
  blt := R.blt
  nd := R.nd
  hi := fun a ha => ⟨(R.hi a ha).1, Nat.lt_of_lt_of_le (R.hi a ha).2 x.size⟩
  dis := R.dis
  loc := let ⟨m, hm⟩ := R.loc; ⟨m, hm.keeps x.all⟩
  cells := fun y a e => let ⟨⟨v, hv⟩, h2⟩ := R.cells y a e; ⟨⟨v, hv.keeps x.all⟩, h2⟩
  call := R.call
  vars := fun y u e => let ⟨v, h1, h2⟩ := R.vars y u e; ⟨v, h1.keep x.all, h2.keep x.all⟩
theorem Rel.kindOf {c : Cx} {env : Env} {M₀ : List Addr} {O : List (Str × Addr)} {ρ : Rho} {s : Shared} (R : Rel c env M₀ O ρ s) (x : Str) : env.kindOf x = c.ns.lookup x := by
  unfold Env.kindOf; rw [R.names]
theorem Rel.lt {c : Cx} {env : Env} {M₀ : List Addr} {O : List (Str × Addr)} {ρ : Rho} {s : Shared} (R : Rel c env M₀ O ρ s) : ∀ x ∈ nOf c env O ++ M₀, x < s.heap.objs.size := fun x hx => (R.hi x hx).2
theorem Rel.new {c : Cx} {env : Env} {M₀ : List Addr} {O : List (Str × Addr)} {ρ : Rho} {s : Shared} (R : Rel c env M₀ O ρ s) {a : Addr} (h : s.heap.objs.size ≤ a) : a ∉ nOf c env O ++ M₀ :=
  fun hm => absurd (R.lt a hm) (Nat.not_lt.mpr h)

section
variable {c : Cx} {n : Nat} {ρ : Rho} {e : Expr} {t : T} {l : List T} {bb : Bool} {A : Around} {s : Shared} {env : Env} {M₀ : List Addr} {O : List (Str × Addr)}
theorem Ev.b (h : Ev c n ρ e t) : EvB c n ρ e t := .mk fun A s env M₀ N r R => wpAny_imp (h.run A s env M₀ N r R) fun _ _ x => ⟨x.1, x.2.borrow⟩
theorem EvN.ev (h : EvN c n ρ e l) : Ev c n ρ e (.list l) := .mk fun A s env M₀ O r R =>
  wpAny_imp (h.run A s env M₀ O r R) fun v s' ⟨x, a, vs, h1, h2, h3, h4⟩ => ⟨x, by
    simp only [Den]
    exact ⟨a, vs, h1, R.new h2, h3, h4.less⟩⟩
/-- sequencing: eval e, then go on with what it means -/
theorem Ev.go (h : Ev c n ρ e t) (r : Room A n) (R : Rel c env M₀ O ρ s)
    {Q : Value → Shared → Prop} (k : ∀ v s', Ext s s' → Rel c env M₀ O ρ s' → Den c.w (nOf c env O ++ M₀) s'.heap t v → Q v s') : wpAny (model c.prog c.w) A (eval e env) Q NoE s :=
  wpAny_imp (h.run A s env M₀ O r R) fun v s' x => k v s' x.1 (R.ext x.1) x.2
theorem EvB.go (h : EvB c n ρ e t) (r : Room A n) (R : Rel c env M₀ O ρ s)
    {Q : Value → Shared → Prop} (k : ∀ v s', Ext s s' → Rel c env M₀ O ρ s' → DenB c.w (nOf c env O ++ M₀) s'.heap t v → Q v s') : wpAny (model c.prog c.w) A (eval e env) Q NoE s :=
  wpAny_imp (h.run A s env M₀ O r R) fun v s' x => k v s' x.1 (R.ext x.1) x.2
theorem EvT.go (h : EvT c n ρ e bb) (r : Room A n) (R : Rel c env M₀ O ρ s)
    {Q : Bool → Shared → Prop} (k : ∀ s', Ext s s' → Rel c env M₀ O ρ s' → Q bb s') : wpAny (model c.prog c.w) A (isTrue e env (eval e env)) Q NoE s :=
  wpAny_imp (h.run A s env M₀ O r R) fun v s' x => by rw [x.2]; exact k s' x.1 (R.ext x.1)
end

/-! constants and names -/
section
variable {c : Cx} {n : Nat} {ρ : Rho}

theorem Ev.cint {i : Int} {k : Nat} {pos : Pos} : Ev c n ρ (.Constant (.int i) k pos) (.int i) := .mk fun _ _ _ _ _ _ _ => fun _ _ _ => ⟨Ext.tok _, by simp [Den]⟩
theorem Ev.cfloat {x : UInt64} {k : Nat} {pos : Pos} : Ev c n ρ (.Constant (.float x) k pos) (.float x) := .mk fun _ _ _ _ _ _ R => fun _ _ _ => ⟨Ext.tok _, by simp [Den]; exact Nat.ne_of_gt R.bas.toks⟩
theorem Ev.cstr {x : Str} {k : Nat} {pos : Pos} : Ev c n ρ (.Constant (.str x) k pos) (.str x) := .mk fun _ _ _ _ _ _ _ => fun _ _ _ => ⟨Ext.tok _, by simp [Den]⟩
theorem Ev.cbool {b : Bool} {k : Nat} {pos : Pos} : Ev c n ρ (.Constant (.bool b) k pos) (.bool b) := .mk fun _ _ _ _ _ _ _ => fun _ _ _ => ⟨Chg.refl _, by simp [Den]⟩
theorem Ev.cnone {k : Nat} {pos : Pos} : Ev c n ρ (.Constant .none k pos) .none := .mk fun _ _ _ _ _ _ _ => fun _ _ _ => ⟨Chg.refl _, by simp [Den]⟩

theorem wp_loads {A : Around} {env : Env} {M₀ : List Addr} {O : List (Str × Addr)} {s : Shared} {x : Str} {v : Value} {Q : Value → Shared → Prop} (R : Rel c env M₀ O ρ s) (l : Loads env s.heap x v) (h : Q v s)
    (hx : (x == ("__classdict__" : Str)) = false) : wpAny (model c.prog c.w) A (loadName env x) Q NoE s := by
  rcases l with ⟨a, m, hn, hm⟩ | ⟨a | a, q, hc, hv⟩
  · exact wpAny_loadName_local R.kind a hn hm h
  · exact wpAny_loadName_cell R.kind a hc hv h
  · exact wpAny_loadName_free R.kind a hc hv h hx

def nameOk (x : Str) : Bool := !(x == ("__debug__" : Str)) && !(x == ("__classdict__" : Str))

theorem Ev.name {x : Str} {pos : Pos} {t : T} (h : ρ.lookup x = some (.sh t)) (hx : nameOk x = true) : Ev c n ρ (.Name x pos) t := .mk fun A s env M₀ O r R => by
  unfold nameOk at hx
  simp only [Bool.and_eq_true, Bool.not_eq_true'] at hx
  obtain ⟨v, h1, h2⟩ := R.vars x _ h
  exact wpAny_Name (wp_loads R h1 ⟨Chg.refl _, h2⟩ hx.2) hx.1
theorem EvB.own {x : Str} {pos : Pos} {l : List T} (h : ρ.lookup x = some (.own l)) (hx : nameOk x = true) : EvB c n ρ (.Name x pos) (.list l) := .mk fun A s env M₀ O r R => by
  unfold nameOk at hx
  simp only [Bool.and_eq_true, Bool.not_eq_true'] at hx
  obtain ⟨v, h1, a, vs, e, _, h3, h4⟩ := R.vars x _ h
  exact wpAny_Name (wp_loads R h1 ⟨Chg.refl _, a, vs, e, h3, h4⟩ hx.2) hx.1

/-- a name of the top or of the built-ins -/
def GV (c : Cx) (x : Str) (v : Value) : Prop :=
  (∃ m, c.H.Ns mainGlobals m ∧ m x = some v) ∨ ((∃ m, c.H.Ns mainGlobals m ∧ m x = none) ∧ ∃ m, c.H.Ns builtinsNs m ∧ m x = some v)

theorem wp_global {A : Around} {env : Env} {M₀ : List Addr} {O : List (Str × Addr)} {s : Shared} {x : Str} {v : Value} {Q : Value → Shared → Prop} (R : Rel c env M₀ O ρ s) (hk : c.ns.lookup x = some .globalImplicit) (g : GV c x v) (h : Q v s) :
    wpAny (model c.prog c.w) A (loadName env x) Q NoE s := by
  have hk' : env.kindOf x = some .globalImplicit := (R.kindOf x).trans hk
  unfold loadName
  simp only [Env.blockKind, R.kind, hk', ScopeKind.isAnnotationScope, Bool.false_and, Bool.false_eq_true, if_false]
  unfold loadGlobal
  rcases g with ⟨m, hm, e⟩ | ⟨⟨m, hm, e⟩, m', hm', e'⟩
  · refine wpAny_bind (wpAny_nsGet (by rw [R.glob]; exact hm.keeps R.bas.heap) ?_)
    rw [e]; exact wpAny_pure h
  · refine wpAny_bind (wpAny_nsGet (by rw [R.glob]; exact hm.keeps R.bas.heap) ?_)
    rw [e]
    refine wpAny_bind (wpAny_nsGet (by rw [R.blt]; exact hm'.keeps R.bas.heap) ?_)
    rw [e']; exact wpAny_pure h
theorem wp_gname {A : Around} {env : Env} {M₀ : List Addr} {O : List (Str × Addr)} {s : Shared} {x : Str} {pos : Pos} {v : Value} {Q : Value → Shared → Prop} (R : Rel c env M₀ O ρ s) (hk : c.ns.lookup x = some .globalImplicit) (g : GV c x v) (h : Q v s)
    (hx : nameOk x = true) : wpAny (model c.prog c.w) A (eval (.Name x pos) env) Q NoE s := by
  unfold nameOk at hx
  simp only [Bool.and_eq_true, Bool.not_eq_true'] at hx
  exact wpAny_Name (wp_global R hk g h) hx.1
/-- a float of the top -/
theorem Ev.gfloat {x : Str} {pos : Pos} {f : UInt64} {u : Tok} (hk : c.ns.lookup x = some .globalImplicit) (g : GV c x (.float f u)) (hu : u ≠ 0) (hx : nameOk x = true) : Ev c n ρ (.Name x pos) (.float f) := .mk fun A s env M₀ O r R =>
  wp_gname R hk g ⟨Chg.refl _, by simp [Den, hu]⟩ hx
end
def intOf (e : Expr) : Option Int := match e with
  | .Constant v _ _ => (match v with | .int i => some i | _ => none)
  | _ => none
def litInts : List Expr → Option (List Int)
  | [] => some []
  | e :: r => match intOf e with
    | some i => (litInts r).map (i :: ·)
    | none => none
theorem intOf_some {e : Expr} {i : Int} (h : intOf e = some i) : ∃ p q, e = .Constant (.int i) p q := by
  cases e <;> try cases h
  rename_i v p q
  cases v <;> cases h
  exact ⟨p, q, rfl⟩
theorem litInts_cons {e : Expr} {r : List Expr} {ns : List Int} (h : litInts (e :: r) = some ns) : ∃ i p q ms, e = .Constant (.int i) p q ∧ litInts r = some ms ∧ ns = i :: ms := by
  have h' : (match intOf e with | some i => (litInts r).map (i :: ·) | none => none) = some ns := h
  cases hi : intOf e with
  | none => rw [hi] at h'; cases h'
  | some i =>
    rw [hi] at h'
    clear h
    obtain ⟨p, q, rfl⟩ := intOf_some hi
    cases hr : litInts r with
    | none => rw [hr] at h'; cases h'
    | some ms => rw [hr] at h'; cases h'; exact ⟨i, p, q, ms, rfl, rfl, rfl⟩
end Mine
end

section
set_option autoImplicit false
set_option linter.unusedVariables false
set_option linter.unusedSimpArgs false
namespace Mine
open PySem PySem.Calls PyProof.Rows

section
variable {w : World} {M : List Addr} {h : Heap} {v : Value}
theorem DenB.int {i : Int} (x : DenB w M h (.int i) v) : ∃ t, v = .int i t := by simpa [DenB, Den] using x
theorem DenB.float {i : UInt64} (x : DenB w M h (.float i) v) : ∃ t, t ≠ 0 ∧ v = .float i t := by simpa [DenB, Den] using x
theorem DenB.str {i : Str} (x : DenB w M h (.str i) v) : ∃ t, v = .str i t := by simpa [DenB, Den] using x
theorem DenB.bool {i : Bool} (x : DenB w M h (.bool i) v) : v = .bool i := by simpa [DenB, Den] using x
theorem DenB.none (x : DenB w M h .none v) : v = .none := by simpa [DenB, Den] using x
theorem DenB.list {l : List T} (x : DenB w M h (.list l) v) : ∃ a vs, v = .ref a ∧ h.PlainList a vs ∧ DenL w M h l vs.toList := x
theorem DenB.tup {l : List T} (x : DenB w M h (.tup l) v) : ∃ a vs, v = .ref a ∧ a ∉ M ∧ h.IsTuple a vs ∧ DenL w M h l vs.toList := by simpa only [DenB, Den] using x
theorem Den.of_int {i : Int} {t : Tok} : Den w M h (.int i) (.int i t) := by simp [Den]
theorem Den.of_float {i : UInt64} {t : Tok} (ht : t ≠ 0) : Den w M h (.float i) (.float i t) := by simp [Den, ht]
theorem Den.of_str {i : Str} {t : Tok} : Den w M h (.str i) (.str i t) := by simp [Den]
theorem Den.of_bool {i : Bool} : Den w M h (.bool i) (.bool i) := by simp [Den]
theorem Den.of_none : Den w M h .none .none := by simp [Den]
theorem Den.of_list {l : List T} {a : Addr} {vs : Array Value} (h1 : a ∉ M) (h2 : h.PlainList a vs) (h3 : DenL w M h l vs.toList) : Den w M h (.list l) (.ref a) := by
  simp only [Den]; exact ⟨a, vs, rfl, h1, h2, h3⟩
theorem Den.of_tup {l : List T} {a : Addr} {vs : Array Value} (h1 : a ∉ M) (h2 : h.IsTuple a vs) (h3 : DenL w M h l vs.toList) : Den w M h (.tup l) (.ref a) := by
  simp only [Den]; exact ⟨a, vs, rfl, h1, h2, h3⟩
end

/-! two operands -/
def BinOk (c : Cx) (op : Operator) (a b t : T) : Prop := ∀ (A : Around) (s : Shared) (M : List Addr) (v v' : Value), Bas c s → (∀ x ∈ M, x < s.heap.objs.size) →
  DenB c.w M s.heap a v → DenB c.w M s.heap b v' → wpAny (model c.prog c.w) A (binaryOp op v v') (fun r s' => Ext s s' ∧ Den c.w M s'.heap t r) NoE s
def InOk (c : Cx) (op : Operator) (a b t : T) : Prop := ∀ (A : Around) (s : Shared) (M : List Addr) (v v' : Value), Bas c s → (∀ x ∈ M, x < s.heap.objs.size) →
  DenB c.w M s.heap a v → DenB c.w M s.heap b v' → wpAny (model c.prog c.w) A (inplaceOp op v v') (fun r s' => Ext s s' ∧ Den c.w M s'.heap t r) NoE s

theorem mulOk_small {x : Str} {n : Int} (h1 : x.length ≤ 1000) (h2 : n ≤ 1000) (h3 : -1000 ≤ n) : MulOk x n := by
  refine ⟨?_, fun hn _ => ?_, fun hn _ => ?_⟩
  · simp only [Bool.or_eq_false_iff, decide_eq_false_iff_not]
    lia
  · have hn' : (1 : Int) ≤ n := by lia
    have h5 : (1000 : Int) * n ≤ 2 ^ 63 - 1 := by lia
    have : (1000 : Int) ≤ (2 ^ 63 - 1) / n := (Int.le_ediv_iff_mul_le (by lia)).mpr h5
    lia
  · have : x.length * n.toNat ≤ 1000 * 1000 := Nat.mul_le_mul h1 (by lia)
    exact decide_eq_false (Nat.not_lt.mpr (Nat.le_trans this (by decide)))

section
variable {c : Cx} {a b : Int} {x y : UInt64} {p q : Str}
theorem BinOk.add_int : BinOk c .Add (.int a) (.int b) (.int (a + b)) := fun A s M v v' B _ x y => by
  obtain ⟨t, rfl⟩ := x.int; obtain ⟨u, rfl⟩ := y.int
  exact PyProof.Rows.add_int ⟨Ext.tok _, .of_int⟩
theorem BinOk.sub_int : BinOk c .Sub (.int a) (.int b) (.int (a - b)) := fun A s M v v' B _ x y => by
  obtain ⟨t, rfl⟩ := x.int; obtain ⟨u, rfl⟩ := y.int
  exact PyProof.Rows.sub_int ⟨Ext.tok _, .of_int⟩
theorem BinOk.mul_int (h : a.natAbs < 2 ^ 64) : BinOk c .Mult (.int a) (.int b) (.int (a * b)) := fun A s M v v' B _ x y => by
  obtain ⟨t, rfl⟩ := x.int; obtain ⟨u, rfl⟩ := y.int
  exact PyProof.Rows.mul_int ⟨Ext.tok _, .of_int⟩ (.of_left (intBits_le h))
theorem BinOk.fdiv_int (h : b ≠ 0) (h' : b.natAbs < 1073741824) : BinOk c .FloorDiv (.int a) (.int b) (.int (a.fdiv b)) := fun A s M v v' B _ x y => by
  obtain ⟨t, rfl⟩ := x.int; obtain ⟨u, rfl⟩ := y.int
  exact PyProof.Rows.floordiv_int h ⟨Ext.tok _, .of_int⟩ (.inl (PyProof.noPylong_small h'))
theorem BinOk.div_int (h : 0 < b) (h' : b < 1073741824) : BinOk c .FloorDiv (.int a) (.int b) (.int (a / b)) := by
  have e : a / b = a.fdiv b := (Int.fdiv_eq_ediv_of_nonneg a (by lia)).symm
  rw [e]; exact BinOk.fdiv_int (by lia) (by lia)
theorem BinOk.fmod_int (h : b ≠ 0) : BinOk c .Mod (.int a) (.int b) (.int (a.fmod b)) := fun A s M v v' B _ x y => by
  obtain ⟨t, rfl⟩ := x.int; obtain ⟨u, rfl⟩ := y.int
  exact PyProof.Rows.mod_int h ⟨Ext.tok _, .of_int⟩
theorem BinOk.mod_int (h : 0 < b) : BinOk c .Mod (.int a) (.int b) (.int (a % b)) := by
  have e : a % b = a.fmod b := (Int.fmod_eq_emod_of_nonneg a (by lia)).symm
  rw [e]; exact BinOk.fmod_int (by lia)
/-- int / int as a float -/
def fdivI (a b : Int) : UInt64 := Float64.ofFrac (decide (a < 0) != decide (b < 0)) a.natAbs b.natAbs
theorem BinOk.tdiv_int (h : b ≠ 0) (h1 : Float64.isInf (fdivI a b) = false) : BinOk c .Div (.int a) (.int b) (.float (fdivI a b)) := fun A s M v v' B _ x y => by
  obtain ⟨t, rfl⟩ := x.int; obtain ⟨u, rfl⟩ := y.int
  exact AutoIntOps.truediv_2 (by simpa using h) (by unfold fdivI at h1; rw [h1]; simp) ⟨Ext.tok _, .of_float (Nat.ne_of_gt B.toks)⟩
theorem BinOk.add_ff : BinOk c .Add (.float x) (.float y) (.float (Float64.add x y)) := fun A s M v v' B _ x y => by
  obtain ⟨t, _, rfl⟩ := x.float; obtain ⟨u, _, rfl⟩ := y.float
  exact add_float ⟨Ext.tok _, .of_float (Nat.ne_of_gt B.toks)⟩
theorem BinOk.sub_ff : BinOk c .Sub (.float x) (.float y) (.float (Float64.sub x y)) := fun A s M v v' B _ x y => by
  obtain ⟨t, _, rfl⟩ := x.float; obtain ⟨u, _, rfl⟩ := y.float
  exact sub_float ⟨Ext.tok _, .of_float (Nat.ne_of_gt B.toks)⟩
theorem BinOk.mul_ff : BinOk c .Mult (.float x) (.float y) (.float (Float64.mul x y)) := fun A s M v v' B _ x y => by
  obtain ⟨t, _, rfl⟩ := x.float; obtain ⟨u, _, rfl⟩ := y.float
  exact mul_float ⟨Ext.tok _, .of_float (Nat.ne_of_gt B.toks)⟩
theorem BinOk.div_ff (h : Float64.isZero y = false) : BinOk c .Div (.float x) (.float y) (.float (Float64.div x y)) := fun A s M v v' B _ x y => by
  obtain ⟨t, _, rfl⟩ := x.float; obtain ⟨u, _, rfl⟩ := y.float
  exact AutoFloatOps.truediv_1 (by rw [h]; simp) ⟨Ext.tok _, .of_float (Nat.ne_of_gt B.toks)⟩
theorem BinOk.mod_ff (h : Float64.isZero y = false) : BinOk c .Mod (.float x) (.float y) (.float (Float64.divmod x y).2) := fun A s M v v' B _ x y => by
  obtain ⟨t, _, rfl⟩ := x.float; obtain ⟨u, _, rfl⟩ := y.float
  exact AutoFloatOps.mod_1 (by rw [h]; simp) ⟨Ext.tok _, .of_float (Nat.ne_of_gt B.toks)⟩
theorem BinOk.add_fi (h : b.natAbs < 2 ^ 1023) : BinOk c .Add (.float x) (.int b) (.float (Float64.add x (Float64.ofInt b))) := fun A s M v v' B _ x y => by
  obtain ⟨t, _, rfl⟩ := x.float; obtain ⟨u, rfl⟩ := y.int
  exact add_fi_fits h ⟨Ext.tok _, .of_float (Nat.ne_of_gt B.toks)⟩
theorem BinOk.sub_fi (h : b.natAbs < 2 ^ 1023) : BinOk c .Sub (.float x) (.int b) (.float (Float64.sub x (Float64.ofInt b))) := fun A s M v v' B _ x y => by
  obtain ⟨t, _, rfl⟩ := x.float; obtain ⟨u, rfl⟩ := y.int
  exact sub_fi_fits h ⟨Ext.tok _, .of_float (Nat.ne_of_gt B.toks)⟩
theorem BinOk.mul_fi (h : b.natAbs < 2 ^ 1023) : BinOk c .Mult (.float x) (.int b) (.float (Float64.mul x (Float64.ofInt b))) := fun A s M v v' B _ x y => by
  obtain ⟨t, _, rfl⟩ := x.float; obtain ⟨u, rfl⟩ := y.int
  exact mul_fi_fits h ⟨Ext.tok _, .of_float (Nat.ne_of_gt B.toks)⟩
theorem BinOk.add_str (h : p.length + q.length ≤ sizeLine) : BinOk c .Add (.str p) (.str q) (.str (p ++ q)) := fun A s M v v' B _ x y => by
  obtain ⟨t, rfl⟩ := x.str; obtain ⟨u, rfl⟩ := y.str
  exact wpAny_with_toks (Nat.le_refl s.toks) (SB.add (fun _ _ q => ⟨Ext.toks q, .of_str⟩) h)
theorem BinOk.mul_str (h : p.length ≤ 1000) (h1 : b ≤ 1000) (h2 : -1000 ≤ b) : BinOk c .Mult (.str p) (.int b) (.str (Txt.mul p b)) := fun A s M v v' B _ x y => by
  obtain ⟨t, rfl⟩ := x.str; obtain ⟨u, rfl⟩ := y.int
  exact wpAny_with_toks (Nat.le_refl s.toks) (SB.mul (mulOk_small h h1 h2) fun _ _ q => ⟨Ext.toks q, .of_str⟩)
theorem InOk.add_int : InOk c .Add (.int a) (.int b) (.int (a + b)) := fun A s M v v' B _ x y => by
  obtain ⟨t, rfl⟩ := x.int; obtain ⟨u, rfl⟩ := y.int
  exact PyProof.Rows.iadd_int ⟨Ext.tok _, .of_int⟩
theorem InOk.sub_int : InOk c .Sub (.int a) (.int b) (.int (a - b)) := fun A s M v v' B _ x y => by
  obtain ⟨t, rfl⟩ := x.int; obtain ⟨u, rfl⟩ := y.int
  exact PyProof.Rows.isub_int ⟨Ext.tok _, .of_int⟩
theorem InOk.add_str (h : p.length + q.length ≤ sizeLine) : InOk c .Add (.str p) (.str q) (.str (p ++ q)) := fun A s M v v' B _ x y => by
  obtain ⟨t, rfl⟩ := x.str; obtain ⟨u, rfl⟩ := y.str
  exact wpAny_with_toks (Nat.le_refl s.toks) (SB.iadd (fun _ _ q => ⟨Ext.toks q, .of_str⟩) h)
end

section
variable {c : Cx} {n : Nat} {ρ : Rho}
theorem Ev.bin {l r : Expr} {op : Operator} {pos : Pos} {a b t : T} (hl : EvB c n ρ l a) (hr : EvB c n ρ r b) (h : BinOk c op a b t) : Ev c n ρ (.BinOp l op r pos) t := .mk fun A s env M₀ O rm R =>
  wpAny_BinOp (hl.go rm R fun v s₁ x₁ R₁ d₁ => hr.go rm R₁ fun v' s₂ x₂ R₂ d₂ =>
    wpAny_imp (h A s₂ _ v v' R₂.bas R₂.lt (d₁.keep x₂.all) d₂) fun r s₃ y => ⟨Ext.trans x₁ (Ext.trans x₂ y.1), y.2⟩)

/-! lists joined and repeated: new lists -/
theorem EvN.add {l r : Expr} {pos : Pos} {a b : List T} (hl : EvB c n ρ l (.list a)) (hr : EvB c n ρ r (.list b)) (hz : a.length + b.length ≤ sizeLine) : EvN c n ρ (.BinOp l .Add r pos) (a ++ b) := .mk fun A s env M₀ O rm R =>
  wpAny_BinOp (hl.go rm R fun v s₁ x₁ R₁ d₁ => hr.go rm R₁ fun v' s₂ x₂ R₂ d₂ => by
    obtain ⟨l, vs, rfl, ⟨n, ho⟩, hd⟩ := (d₁.keep x₂.all).list
    obtain ⟨b, ws, rfl, ⟨n2, ho2⟩, hd2⟩ := d₂.list
    refine concat_meets ⟨_, ho, rfl⟩ ⟨_, ho2, rfl⟩ noFill_list_add seq_list_add PySem.F.slot_list_add PySem.F.entry_list_add (PySem.F.args_list_add_2 _ _) (list_addW l b vs ws n n2 _ _ _ _ (by
      have := hd.length; have := hd2.length; simp at *; lia)) ⟨ho, ho2, ?_⟩
    have xe : Ext s₂ { s₂ with heap := s₂.heap.push { cls := Value.type "list", data := Data.seq (vs ++ ws) }, toks := s₂.toks } :=
      Ext.of_heap (fun _ _ e => Heap.get?_push_of_some _ e) (by rw [Heap.size_push]; lia) (Nat.le_refl _)
    refine ⟨Ext.trans x₁ (Ext.trans x₂ xe), s₂.heap.objs.size, vs ++ ws, rfl, Nat.le_trans x₁.size x₂.size, ⟨0, Heap.get?_push_size _ rfl⟩, ?_⟩
    rw [Array.toList_append]
    exact ((hd.app hd2).newer (Nat.le_refl _)).keep xe.all)

theorem DenL.rep {w : World} {M : List Addr} {h : Heap} {t : T} {v : Value} (x : Den w M h t v) : ∀ n, DenL w M h (List.replicate n t) (List.replicate n v)
  | 0 => DenL.nil
  | n + 1 => DenL.cons x (DenL.rep x n)

/-- [x] * n -/
theorem EvN.mul1 {l r : Expr} {pos : Pos} {a : T} {i : Int} (hl : EvB c n ρ l (.list [a])) (hr : EvB c n ρ r (.int i)) (hz : i ≤ 100000) (h0 : -100000 ≤ i) : EvN c n ρ (.BinOp l .Mult r pos) (List.replicate i.toNat a) := .mk fun A s env M₀ O rm R =>
  wpAny_BinOp (hl.go rm R fun v s₁ x₁ R₁ d₁ => hr.go rm R₁ fun v' s₂ x₂ R₂ d₂ => by
    obtain ⟨l, vs, rfl, ⟨k, ho⟩, hd⟩ := (d₁.keep x₂.all).list
    obtain ⟨u, rfl⟩ := d₂.int
    simp only [DenL] at hd
    obtain ⟨v, r, e, hd, rfl⟩ := hd
    obtain rfl : vs = #[v] := by cases vs; simpa using e
    refine wpAny_binaryOp_repeat_ref (T := "list") (U := "int") (by decide) ⟨_, ho, rfl⟩ (fun s' => typeIs_int s' i u) noFill_list_mul PySem.F.fills_int_mul PySem.F.slot_int_rmul repeat_list PySem.F.slot_int_index.lookup
      (call_meets PySem.F.slot_int_rmul (typeIs_int _ i u) PySem.F.entry_int_rmul (PySem.F.args_int_rmul_2 _ _) (int___rmul___int_list i u l #[v] k)
        ⟨ho, rfl, ⟨_, ho, rfl⟩, call_meets PySem.F.slot_list_mul ⟨_, ho, rfl⟩ PySem.F.entry_list_mul (PySem.F.args_list_mul_2 _ _)
          (AutoListH.list___mul___list_int_3 l #[v] k i u (by simp [Builtin.List.listFitsIndex]; lia) (by simp; lia) (by simp [Builtin.List.listTooLong, sizeLine]; lia))
          ⟨ho, ?_⟩⟩)
    have xe : Ext s₂ { s₂ with heap := s₂.heap.push { cls := Value.type "list", data := Data.seq (List.foldl (fun x1 x2 => x1 ++ x2) #[] (List.replicate (if (#[v] : Array Value).isEmpty = true then 0 else i.toNat) #[v])) }, toks := s₂.toks } :=
      Ext.of_heap (fun _ _ e => Heap.get?_push_of_some _ e) (by rw [Heap.size_push]; lia) (Nat.le_refl _)
    refine ⟨Ext.trans x₁ (Ext.trans x₂ xe), s₂.heap.objs.size, _, rfl, Nat.le_trans x₁.size x₂.size, ⟨0, Heap.get?_push_size _ rfl⟩, ?_⟩
    have e : (List.foldl (fun x1 x2 => x1 ++ x2) #[] (List.replicate (if (#[v] : Array Value).isEmpty = true then 0 else i.toNat) #[v])).toList = List.replicate i.toNat v := by
      have : ∀ (k : Nat) (acc : Array Value), (List.foldl (fun x1 x2 => x1 ++ x2) acc (List.replicate k #[v])).toList = acc.toList ++ List.replicate k v := by
        intro k
        induction k with
        | zero => intro acc; simp
        | succ k ih => intro acc; rw [List.replicate_succ, List.foldl_cons, ih]; simp [List.replicate_succ]
      simpa using this i.toNat #[]
    rw [e]
    exact ((DenL.rep hd _).newer (Nat.le_refl _)).keep xe.all)
end
end Mine
end

section
set_option autoImplicit false
set_option linter.unusedVariables false
set_option linter.unusedSimpArgs false
namespace Mine
open PySem PySem.Calls PyProof.Rows PySem.SeqAt

/-! equality -/
def eqAll (f : T → T → Option Bool) : List T → List T → Option Bool
  | [], [] => some true
  | x :: xs, y :: ys => match f x y, eqAll f xs ys with
    | some a, some b => some (a && b)
    | _, _ => none
  | _, _ => none
def eqF (x y : UInt64) : Bool := Float64.cmp x y == some .eq
def eqFI (x : UInt64) (n : Int) : Bool := Float64.cmpInt x n == some .eq

/-- data without parts -/
def eqA (t t' : T) : Option Bool := match t with
  | .none => (match t' with | .none => some true | .bool _ => some false | _ => none)
  | .bool a => (match t' with | .none => some false | .bool b => some (a == b) | _ => none)
  | .int a => (match t' with | .int b => some (a == b) | .float x => some (eqFI x a) | _ => none)
  | .str a => (match t' with | .str b => some (a == b) | _ => none)
  | .float x => (match t' with | .float y => if x == y && eqF x y then some true else none | .int n => some (eqFI x n) | _ => none)
  | _ => none
def eqv : Nat → T → T → Option Bool
  | 0, t, t' => eqA t t'
  | d + 1, t, t' => match t with
    | .list a => (match t' with | .none => some false | .list b => if a.length == b.length then eqAll (eqv d) a b else some false | _ => none)
    | .tup a => (match t' with | .tup b => if a.length == b.length then eqAll (eqv d) a b else none | _ => none)
    | .none => (match t' with | .list _ => some false | t' => eqA .none t')
    | t => eqA t t'

theorem PlainList_fn {h : Heap} {a : Addr} {vs ws : Array Value} (x : h.PlainList a vs) (y : h.PlainList a ws) : vs = ws := by
  obtain ⟨n, hn⟩ := x; obtain ⟨m, hm⟩ := y
  rw [hn] at hm; injection hm with hm; injection hm with _ _ hm; injection hm
theorem IsTuple_fn {h : Heap} {a : Addr} {vs ws : Array Value} (x : h.IsTuple a vs) (y : h.IsTuple a ws) : vs = ws := by
  obtain ⟨o, e, _, n, hn⟩ := x; obtain ⟨o', e', _, m, hm⟩ := y
  rw [e] at e'; cases e'; rw [hn] at hm; injection hm

theorem eqAll_cons {f : T → T → Option Bool} {x y : T} {xs ys : List T} {r : Bool} (h : eqAll f (x :: xs) (y :: ys) = some r) : ∃ p q, f x y = some p ∧ eqAll f xs ys = some q ∧ r = (p && q) := by
  simp only [eqAll] at h
  cases h1 : f x y with
  | none => simp [h1] at h
  | some p =>
    cases h2 : eqAll f xs ys with
    | none => simp [h1, h2] at h
    | some q => simp only [h1, h2, Option.some.injEq] at h; exact ⟨p, q, rfl, rfl, h.symm⟩

section
variable {w : World} {M M' : List Addr} {h : Heap}
theorem eqAll_same {f : T → T → Option Bool} (hf : ∀ t t' b v, f t t' = some b → Den w M h t v → Den w M' h t' v → b = true) :
    ∀ (a b : List T) (vs : List Value) (r : Bool), eqAll f a b = some r → DenL w M h a vs → DenL w M' h b vs → r = true
  | [], [], _, _, e, _, _ => by simp [eqAll] at e; exact e
  | [], _ :: _, _, _, e, _, _ => by simp [eqAll] at e
  | _ :: _, [], _, _, e, _, _ => by simp [eqAll] at e
  | x :: xs, y :: ys, vs, r, e, d, d' => by
    obtain ⟨p, q, h1, h2, rfl⟩ := eqAll_cons e
    simp only [DenL] at d d'
    obtain ⟨v, s, rfl, k1, k2⟩ := d
    obtain ⟨v', s', e', k1', k2'⟩ := d'
    cases e'
    rw [hf _ _ _ _ h1 k1 k1', eqAll_same hf _ _ _ _ h2 k2 k2']; rfl

theorem eqA_same {t t' : T} {b : Bool} {v : Value} (e : eqA t t' = some b) (x : DenB w M h t v) (y : DenB w M' h t' v) : b = true := by
  cases t <;> try cases e
  case none =>
    cases x.none
    cases t' <;> cases e
    · rfl
    · cases y.bool
  case bool =>
    cases x.bool
    cases t' <;> cases e
    · cases y.none
    · cases y.bool; exact beq_self_eq_true _
  case int =>
    obtain ⟨t, rfl⟩ := x.int
    cases t' <;> cases e
    · obtain ⟨u, e⟩ := y.int; cases e; exact beq_self_eq_true _
    · obtain ⟨u, _, e⟩ := y.float; cases e
  case float p =>
    obtain ⟨t, _, rfl⟩ := x.float
    cases t' <;> try cases e
    · obtain ⟨u, e'⟩ := y.int; cases e'
    · rename_i q
      have e : (if p == q && eqF p q then some true else none) = some b := e
      split at e <;> cases e
      rfl
  case str =>
    obtain ⟨t, rfl⟩ := x.str
    cases t' <;> cases e
    obtain ⟨u, e⟩ := y.str; cases e; exact beq_self_eq_true _
theorem eqv_same : ∀ (d : Nat) (t t' : T) (b : Bool) (v : Value), eqv d t t' = some b → DenB w M h t v → DenB w M' h t' v → b = true := by
  intro d
  induction d with
  | zero => exact fun t t' b v e x y => eqA_same e x y
  | succ d ih =>
    intro t t' b v e x y
    cases t
    case none =>
      cases t'
      case list => cases x.none; obtain ⟨a, vs, e', _⟩ := y.list; cases e'
      all_goals exact (eqA_same (t := .none) (b := b) · x y) e
    case list l =>
      cases t' <;> try cases e
      case none => cases y.none; obtain ⟨a, vs, e', _⟩ := x.list; cases e'
      case list l' =>
        have e : (if l.length == l'.length then eqAll (eqv d) l l' else some false) = some b := e
        obtain ⟨a, vs, rfl, h1, h2⟩ := x.list
        obtain ⟨a', ws, e', h1', h2'⟩ := y.list
        cases e'
        cases PlainList_fn h1 h1'
        rw [if_pos (by rw [h2.length, h2'.length]; exact beq_self_eq_true _)] at e
        exact eqAll_same (fun t t' b v e x y => ih t t' b v e x.borrow y.borrow) _ _ _ _ e h2 h2'
    case tup l =>
      cases t' <;> try cases e
      rename_i l'
      have e : (if l.length == l'.length then eqAll (eqv d) l l' else none) = some b := e
      obtain ⟨a, vs, rfl, _, h1, h2⟩ := x.tup
      obtain ⟨a', ws, e', _, h1', h2'⟩ := y.tup
      cases e'
      cases IsTuple_fn h1 h1'
      rw [if_pos (by rw [h2.length, h2'.length]; exact beq_self_eq_true _)] at e
      exact eqAll_same (fun t t' b v e x y => ih t t' b v e x.borrow y.borrow) _ _ _ _ e h2 h2'
    all_goals exact (eqA_same (b := b) · x y) e
end

theorem wp_isSame_float {M : Model} {A : Around} {E : Value → Shared → Prop} {s : Shared} {x : UInt64} {u v : Tok} {Q : Bool → Shared → Prop}
    (h0 : (u == 0 || v == 0) = false) (hb : NoneBooked s.heap) (hq : ∀ b, Q b s) : wpAny M A (isSame (.float x u) (.float x v)) Q E s := by
  show wpAny M A (isSame.created (x == x && !Float64.isNaN x) u v) Q E s
  unfold isSame.created
  refine wpAny_ite ?_
  split
  · rename_i h; rw [h0] at h; exact absurd h Bool.false_ne_true
  refine wpAny_ite ?_
  split
  · exact wpAny_pure (hq _)
  refine wpAny_ite ?_
  split
  · exact wpAny_pure (hq _)
  refine wpAny_bind (wpAny_sharingNotTold_none hb ?_)
  first | rw [if_neg Bool.false_ne_true] | simp only [Bool.false_eq_true, if_false]
  refine wpAny_bind (wpAny_sharingNotTold_none hb ?_)
  first | rw [if_neg Bool.false_ne_true] | simp only [Bool.false_eq_true, if_false]
  exact wpAny_bind (wpAny_rule (wpAny_bind (wpAny_askSetting (wpAny_pure (hq _)))))

theorem EqAt.floats {A : Around} {s : Shared} {x : UInt64} {u v : Tok} (hu : u ≠ 0) (hv : v ≠ 0) (hb : NoneBooked s.heap) (he : eqF x x = true) : EqAt A s (.float x u) (.float x v) true := fun prog w E Q hq => by
  unfold eqBool
  refine wpAny_holding ?_
  refine wpAny_ite_split (fun _ => wpAny_bind (wpAny_rule (wpAny_pure hq))) (fun _ => ?_)
  dsimp only
  refine wpAny_bind (wp_isSame_float (by simp [hu, hv]) hb fun b => ?_)
  cases b
  · simp only [Bool.false_eq_true, if_false]
    have h0 : Float64.cmp x x == some Ordering.eq := he
    refine wpAny_bind (show wpAny (model prog w) A (compareOp .Eq (.float x u) (.float x v)) _ _ _ from AutoFloatOps.eq_0 ?_)
    rw [h0]
    exact wpAny_truthy_bool hq
  · simp only [if_true]
    exact wpAny_pure hq

theorem eqAll_at {f : T → T → Option Bool} {w : World} {M M' : List Addr} {s : Shared} {A : Around}
    (hf : ∀ t t' b v v', f t t' = some b → Den w M s.heap t v → Den w M' s.heap t' v' → EqAt A s v v' b) :
    ∀ (a b : List T) (vs ws : List Value) (r : Bool), eqAll f a b = some r → DenL w M s.heap a vs → DenL w M' s.heap b ws →
      ∃ e : Nat → Bool, (∀ j (h1 : j < vs.length) (h2 : j < ws.length), EqAt A s vs[j] ws[j] (e j)) ∧ (List.range vs.length).all e = r
  | [], [], vs, ws, _, e, d, d' => by
    simp [eqAll] at e; subst e
    simp only [DenL] at d d'; subst d d'
    exact ⟨fun _ => true, fun j h1 => absurd h1 (Nat.not_lt_zero _), rfl⟩
  | [], _ :: _, _, _, _, e, _, _ => by simp [eqAll] at e
  | _ :: _, [], _, _, _, e, _, _ => by simp [eqAll] at e
  | x :: xs, y :: ys, vs, ws, r, e, d, d' => by
    obtain ⟨p, q, h1, h2, rfl⟩ := eqAll_cons e
    simp only [DenL] at d d'
    obtain ⟨v, s, rfl, k1, k2⟩ := d
    obtain ⟨v', s', rfl, k1', k2'⟩ := d'
    obtain ⟨e, g1, g2⟩ := eqAll_at hf xs ys s s' q h2 k2 k2'
    refine ⟨fun j => match j with | 0 => p | j + 1 => e j, fun j h1 h2 => ?_, ?_⟩
    · cases j with
      | zero => exact hf _ _ _ _ _ ‹_› k1 k1'
      | succ j => exact g1 j (Nat.lt_of_succ_lt_succ h1) (Nat.lt_of_succ_lt_succ h2)
    · rw [List.length_cons, List.range_succ_eq_map, List.all_cons, List.all_map]
      show (p && (List.range s.length).all e) = _
      rw [g2]

section
variable {c : Cx} {s : Shared} {M M' : List Addr}
theorem Bas.booked (B : Bas c s) : NoneBooked s.heap := let ⟨m, h, _, k⟩ := B.lim; ⟨m, h.keeps B.heap, k⟩

theorem cmp_eqAt {A : Around} {v v' : Value} {b : Bool} (hne : (v == v') = false) (hf : ∀ x u y t, ¬ (v = .float x u ∧ v' = .float y t)) (h : RcAt A s v v' b) : EqAt A s v v' b := fun prog w E Q hq => by
  unfold eqBool
  refine wpAny_holding ?_
  rw [hne]
  simp only [Bool.false_eq_true, if_false]
  split
  · rename_i heq; exact absurd ⟨(Prod.mk.inj heq).1, (Prod.mk.inj heq).2⟩ (hf _ _ _ _)
  · first
    | exact wpAny_bind (h prog w E _ (wpAny_truthy_bool hq))
    | (refine wpAny_bind (wpAny_pure ?_); exact wpAny_bind (h prog w E _ (wpAny_truthy_bool hq)))

theorem RcAt.float_int {A : Around} (x : UInt64) (t : Tok) (n : Int) (u : Tok) : RcAt A s (.float x t) (.int n u) (eqFI x n) := fun prog w E Q h => eq_fi (E := E) (A := A) h
theorem RcAt.int_float {A : Around} (x : UInt64) (t : Tok) (n : Int) (u : Tok) : RcAt A s (.int n u) (.float x t) (eqFI x n) := fun prog w E Q h => eq_if (E := E) (A := A) h

theorem eqA_at (B : Bas c s) {t t' : T} {b : Bool} {A : Around} {v v' : Value} (e : eqA t t' = some b) (x : DenB c.w M s.heap t v) (y : DenB c.w M' s.heap t' v') : EqAt A s v v' b := by
  cases t <;> try cases e
  case none =>
    cases x.none
    cases t' <;> cases e
    · cases y.none; exact EqAt.same _
    · cases y.bool; exact EqAt.none_bool _
  case bool =>
    cases x.bool
    cases t' <;> cases e
    · cases y.none; exact EqAt.bool_none _
    · cases y.bool; exact EqAt.bool_bool _ _
  case int =>
    obtain ⟨t, rfl⟩ := x.int
    cases t' <;> cases e
    · obtain ⟨u, rfl⟩ := y.int; exact EqAt.int_int _ _ _ _
    · obtain ⟨u, h1, rfl⟩ := y.float; exact cmp_eqAt (by simp) (by simp) (RcAt.int_float _ _ _ _)
  case float p =>
    obtain ⟨t, h1, rfl⟩ := x.float
    cases t' <;> try cases e
    · obtain ⟨u, rfl⟩ := y.int; exact cmp_eqAt (by simp) (by simp) (RcAt.float_int _ _ _ _)
    · rename_i q
      have e : (if p == q && eqF p q then some true else none) = some b := e
      split at e <;> cases e
      rename_i hc
      obtain ⟨e1, e2⟩ := Bool.and_eq_true_iff.mp hc
      obtain rfl := beq_iff_eq.mp e1
      obtain ⟨u, h2, rfl⟩ := y.float
      exact EqAt.floats h1 h2 B.booked e2
  case str =>
    obtain ⟨t, rfl⟩ := x.str
    cases t' <;> cases e
    obtain ⟨u, rfl⟩ := y.str; exact EqAt.str_str _ _ _ _
theorem lists_len {w : World} {M M' : List Addr} {h : Heap} {l l' : List T} {vs ws : Array Value} (x : DenL w M h l vs.toList) (y : DenL w M' h l' ws.toList) : (l.length == l'.length) = (vs.size == ws.size) := by
  rw [x.length, y.length, Array.length_toList, Array.length_toList]
theorem eqv_at (B : Bas c s) : ∀ (d : Nat) (t t' : T) (b : Bool) (A : Around) (v v' : Value), eqv d t t' = some b → A.units + d < cLine → DenB c.w M s.heap t v → DenB c.w M' s.heap t' v' → EqAt A s v v' b := by
  intro d
  induction d with
  | zero => exact fun t t' b A v v' e _ x y => eqA_at B e x y
  | succ d ih =>
    intro t t' b A v v' e hu x y
    have hu' : A.units < cLine := by lia
    have hu2 : A.in1.units + d < cLine := by simp; lia
    cases t
    case none =>
      cases t'
      case list => cases e; cases x.none; obtain ⟨a, vs, rfl, h1, h2⟩ := y.list; exact EqAt.none_list h1.isList hu'
      all_goals exact (eqA_at (t := .none) (b := b) B · x y) e
    case list l =>
      cases t' <;> try cases e
      case none => cases y.none; obtain ⟨a, vs, rfl, h1, h2⟩ := x.list; exact EqAt.list_none h1.isList hu'
      case list l' =>
        by_cases hv : v = v'
        · subst hv
          have := eqv_same (d + 1) (.list l) (.list l') b v e x y
          subst this; exact EqAt.same _
        · have e : (if l.length == l'.length then eqAll (eqv d) l l' else some false) = some b := e
          obtain ⟨a, vs, rfl, h1, h2⟩ := x.list
          obtain ⟨a', ws, rfl, h1', h2'⟩ := y.list
          have hne : a ≠ a' := fun h => hv (by rw [h])
          have hll := lists_len h2 h2'
          split at e
          · rename_i hl
            obtain ⟨f, g1, g2⟩ := eqAll_at (A := A.in1) (fun t t' b v v' e x y => ih t t' b A.in1 v v' e hu2 x.borrow y.borrow) _ _ _ _ _ e h2 h2'
            have := RcAt.lists (A := A) (e := f) h1.isList h1'.isList (beq_iff_eq.mp (hll.symm.trans hl)) hu' fun j j1 j2 => by
              have := g1 j (by simpa using j1) (by simpa using j2)
              simpa using this
            rw [show (List.range vs.size).all f = b by simpa using g2] at this
            exact EqAt.of_refs hne this
          · rename_i hl
            cases e
            have hsz : (vs.size != ws.size) = true := by unfold bne; rw [← hll]; simpa using hl
            exact EqAt.of_refs hne (RcAt.lists_lengths h1.isList h1'.isList hsz hu')
    case tup l =>
      cases t' <;> try cases e
      rename_i l'
      by_cases hv : v = v'
      · subst hv
        have := eqv_same (d + 1) (.tup l) (.tup l') b v e x y
        subst this; exact EqAt.same _
      · have e : (if l.length == l'.length then eqAll (eqv d) l l' else none) = some b := e
        obtain ⟨a, vs, rfl, _, h1, h2⟩ := x.tup
        obtain ⟨a', ws, rfl, _, h1', h2'⟩ := y.tup
        have hne : a ≠ a' := fun h => hv (by rw [h])
        have hll := lists_len h2 h2'
        split at e <;> try cases e
        rename_i hl
        obtain ⟨f, g1, g2⟩ := eqAll_at (A := A.in1) (fun t t' b v v' e x y => ih t t' b A.in1 v v' e hu2 x.borrow y.borrow) _ _ _ _ _ e h2 h2'
        have hsz : vs.size = ws.size := beq_iff_eq.mp (hll.symm.trans hl)
        have := RcAt.tuples (A := A) (e := f) h1 h1' hu' fun j j1 j2 => by
          have := g1 j (by simpa using j1) (by simpa using j2)
          simpa using this
        rw [show ((List.range (min vs.size ws.size)).all f && vs.size == ws.size) = b by rw [← hsz]; simpa using g2] at this
        exact EqAt.of_refs hne this
    all_goals exact (eqA_at (b := b) B · x y) e

/-- what == tells at the top -/
def ceq : T → T → Option Bool
  | .float x, .float y => some (eqF x y)
  | t, t' => eqv 8 t t'
theorem ceq_list {l : List T} {b : T} : ceq (.list l) b = eqv 8 (.list l) b := rfl
theorem eqv_str : ∀ (n : Nat) (a b : Str), eqv n (.str a) (.str b) = some (a == b)
  | 0, _, _ => rfl
  | _ + 1, _, _ => rfl
theorem eqv_int : ∀ (n : Nat) (a b : Int), eqv n (.int a) (.int b) = some (a == b)
  | 0, _, _ => rfl
  | _ + 1, _, _ => rfl
theorem eqv_list (n : Nat) (a b : List T) : eqv (n + 1) (.list a) (.list b) = if a.length == b.length then eqAll (eqv n) a b else some false := rfl

theorem eqv_rc (B : Bas c s) {t t' : T} {b : Bool} {A : Around} {v v' : Value} (e : ceq t t' = some b) (hu : A.units + 8 < cLine) (x : DenB c.w M s.heap t v) (y : DenB c.w M' s.heap t' v') :
    RcAt A s v v' b ∧ RcNeAt A s v v' (!b) := by
  have hu' : A.units < cLine := by lia
  have hu7 : A.in1.units + 7 < cLine := by simp; lia
  cases t <;> try cases e
  case none =>
    cases x.none
    cases t' <;> cases e
    · cases y.none; exact ⟨RcAt.none_none, RcNeAt.none_none⟩
    · cases y.bool; exact ⟨RcAt.none_bool _, RcNeAt.none_bool _⟩
    · obtain ⟨a, vs, rfl, h1, h2⟩ := y.list; exact ⟨RcAt.none_list h1.isList hu', RcNeAt.none_list h1.isList hu'⟩
  case bool =>
    cases x.bool
    cases t' <;> cases e
    · cases y.none; exact ⟨RcAt.bool_none _, RcNeAt.bool_none _⟩
    · cases y.bool; exact ⟨RcAt.bool_bool _ _, RcNeAt.bool_bool _ _⟩
  case int =>
    obtain ⟨t, rfl⟩ := x.int
    cases t' <;> cases e
    · obtain ⟨u, rfl⟩ := y.int; exact ⟨RcAt.int_int _ _ _ _, RcNeAt.int_int _ _ _ _⟩
    · obtain ⟨u, h1, rfl⟩ := y.float; exact ⟨RcAt.int_float _ _ _ _, fun prog w E Q h => ne_if (A := A) (E := E) h⟩
  case float =>
    obtain ⟨t, h1, rfl⟩ := x.float
    cases t' <;> cases e
    · obtain ⟨u, rfl⟩ := y.int; exact ⟨RcAt.float_int _ _ _ _, fun prog w E Q h => ne_fi (A := A) (E := E) h⟩
    · obtain ⟨u, h2, rfl⟩ := y.float; exact ⟨fun prog w E Q h => AutoFloatOps.eq_0 (A := A) (E := E) h, fun prog w E Q h => AutoFloatOps.ne_0 (A := A) (E := E) h⟩
  case str =>
    obtain ⟨t, rfl⟩ := x.str
    cases t' <;> cases e
    obtain ⟨u, rfl⟩ := y.str; exact ⟨RcAt.str_str _ _ _ _, RcNeAt.str_str _ _ _ _⟩
  case list l =>
    obtain ⟨a, vs, rfl, h1, h2⟩ := x.list
    cases t' <;> try cases e
    case none => cases y.none; exact ⟨RcAt.list_none h1.isList hu', RcNeAt.list_none h1.isList hu'⟩
    case list l' =>
      have e : (if l.length == l'.length then eqAll (eqv 7) l l' else some false) = some b := e
      obtain ⟨a', ws, rfl, h1', h2'⟩ := y.list
      have hll := lists_len h2 h2'
      split at e
      · rename_i hl
        obtain ⟨f, g1, g2⟩ := eqAll_at (A := A.in1) (fun t t' b v v' e x y => eqv_at B 7 t t' b A.in1 v v' e hu7 x.borrow y.borrow) _ _ _ _ _ e h2 h2'
        have hsz : vs.size = ws.size := beq_iff_eq.mp (hll.symm.trans hl)
        have hj : ∀ j (j1 : j < vs.size) (j2 : j < ws.size), EqAt A.in1 s vs[j] ws[j] (f j) := fun j j1 j2 => by
          have := g1 j (by simpa using j1) (by simpa using j2)
          simpa using this
        have r1 := RcAt.lists (A := A) (e := f) h1.isList h1'.isList hsz hu' hj
        have r2 := RcNeAt.lists (A := A) (e := f) h1.isList h1'.isList hsz hu' hj
        rw [show (List.range vs.size).all f = b by simpa using g2] at r1 r2
        exact ⟨r1, r2⟩
      · rename_i hl
        cases e
        have hsz : (vs.size != ws.size) = true := by unfold bne; rw [← hll]; simpa using hl
        exact ⟨RcAt.lists_lengths h1.isList h1'.isList hsz hu', RcNeAt.lists_lengths h1.isList h1'.isList hsz hu'⟩
  case tup l =>
    obtain ⟨a, vs, rfl, _, h1, h2⟩ := x.tup
    cases t' <;> try cases e
    rename_i l'
    have e : (if l.length == l'.length then eqAll (eqv 7) l l' else none) = some b := e
    obtain ⟨a', ws, rfl, _, h1', h2'⟩ := y.tup
    have hll := lists_len h2 h2'
    split at e <;> try cases e
    rename_i hl
    obtain ⟨f, g1, g2⟩ := eqAll_at (A := A.in1) (fun t t' b v v' e x y => eqv_at B 7 t t' b A.in1 v v' e hu7 x.borrow y.borrow) _ _ _ _ _ e h2 h2'
    have hsz : vs.size = ws.size := beq_iff_eq.mp (hll.symm.trans hl)
    have hj : ∀ j (j1 : j < vs.size) (j2 : j < ws.size), EqAt A.in1 s vs[j] ws[j] (f j) := fun j j1 j2 => by
      have := g1 j (by simpa using j1) (by simpa using j2)
      simpa using this
    have r1 := RcAt.tuples (A := A) (e := f) h1 h1' hu' hj
    have r2 := RcNeAt.tuples (A := A) (e := f) h1 h1' hu' hj
    rw [show ((List.range (min vs.size ws.size)).all f && vs.size == ws.size) = b by rw [← hsz]; simpa using g2] at r1 r2
    exact ⟨r1, r2⟩
end

/-! comparisons -/
def CmpOk (c : Cx) (op : CmpOp) (a b : T) (r : Bool) : Prop := ∀ (A : Around) (s : Shared) (M : List Addr) (v v' : Value), Bas c s → A.units + 10 < cLine →
  DenB c.w M s.heap a v → DenB c.w M s.heap b v' → wpAny (model c.prog c.w) A (compareOp op v v') (fun r' s' => Ext s s' ∧ r' = .bool r) NoE s


def strIn (x y : Str) : Bool := !(Builtin.Str.occurrences x y 0 x.length 1).isEmpty
def anyEq (x : T) : List T → Option Bool
  | [] => some false
  | y :: ys => match eqv 8 y x, anyEq x ys with
    | some a, some b => some (a || b)
    | _, _ => none

theorem SEnts.fn {w : World} : ∀ {l l' : List (Str × Int)} {es : List DictEntry}, SEnts w l es → SEnts w l' es → l = l'
  | [], [], _, _, _ => rfl
  | [], _ :: _, _, x, y => by simp only [SEnts] at x y; subst x; obtain ⟨_, _, h, _⟩ := y; cases h
  | _ :: _, [], _, x, y => by simp only [SEnts] at x y; subst y; obtain ⟨_, _, h, _⟩ := x; cases h
  | p :: l, q :: l', es, x, y => by
    simp only [SEnts] at x y
    obtain ⟨e, r, rfl, _, ⟨t, h1⟩, ⟨u, h2⟩, h3⟩ := x
    obtain ⟨e', r', h, _, ⟨t', h1'⟩, ⟨u', h2'⟩, h3'⟩ := y
    cases h
    rw [h1] at h1'; rw [h2] at h2'
    have a1 : p.1 = q.1 := by injection h1'
    have a2 : p.2 = q.2 := by injection h2'
    rw [SEnts.fn h3 h3', Prod.ext a1 a2]

mutual
theorem Den.fn {w : World} {M M' : List Addr} {h : Heap} : ∀ (t t' : T) (v : Value), Den w M h t v → Den w M' h t' v → t = t'
  | .none, t', v, x, y => by
    simp only [Den] at x; subst x
    cases t' <;> simp [Den] at y ⊢
  | .bool b, t', v, x, y => by
    simp only [Den] at x; subst x
    cases t' <;> simp [Den] at y ⊢
    exact y
  | .int i, t', v, x, y => by
    simp only [Den] at x; obtain ⟨t, rfl⟩ := x
    cases t' <;> simp [Den] at y ⊢
    exact y
  | .float i, t', v, x, y => by
    simp only [Den] at x; obtain ⟨t, _, rfl⟩ := x
    cases t' <;> simp [Den] at y ⊢
    exact y.2
  | .str i, t', v, x, y => by
    simp only [Den] at x; obtain ⟨t, rfl⟩ := x
    cases t' <;> simp [Den] at y ⊢
    exact y
  | .tup l, t', v, x, y => by
    simp only [Den] at x; obtain ⟨a, vs, rfl, _, h1, h2⟩ := x
    cases t' <;> simp only [Den] at y <;> (try (obtain ⟨_, e⟩ := y; cases e; done)) <;> (try (cases y; done))
    case float => obtain ⟨_, _, e⟩ := y; cases e
    case tup l' =>
      obtain ⟨a', ws, e, _, h1', h2'⟩ := y
      cases e; cases IsTuple_fn h1 h1'
      rw [DenL.fn l l' _ h2 h2']
    case list l' =>
      obtain ⟨a', ws, e, _, ⟨n, h1'⟩, h2'⟩ := y
      cases e; obtain ⟨o, e1, e2, _⟩ := h1
      rw [e1] at h1'; simp_all
    case sdict l' =>
      obtain ⟨a', ws, n, e, _, _, h1', h2'⟩ := y
      cases e; obtain ⟨o, e1, e2, _⟩ := h1
      rw [e1] at h1'; simp_all
  | .list l, t', v, x, y => by
    simp only [Den] at x; obtain ⟨a, vs, rfl, _, h1, h2⟩ := x
    cases t' <;> simp only [Den] at y <;> (try (obtain ⟨_, e⟩ := y; cases e; done)) <;> (try (cases y; done))
    case float => obtain ⟨_, _, e⟩ := y; cases e
    case list l' =>
      obtain ⟨a', ws, e, _, h1', h2'⟩ := y
      cases e; cases PlainList_fn h1 h1'
      rw [DenL.fn l l' _ h2 h2']
    case tup l' =>
      obtain ⟨a', ws, e, _, h1', h2'⟩ := y
      cases e; obtain ⟨o, e1, e2, _⟩ := h1'; obtain ⟨n, h1⟩ := h1
      rw [e1] at h1; simp_all
    case sdict l' =>
      obtain ⟨a', ws, n, e, _, _, h1', h2'⟩ := y
      cases e; obtain ⟨n, h1⟩ := h1
      rw [h1'] at h1; simp at h1
  | .sdict l, t', v, x, y => by
    simp only [Den] at x; obtain ⟨a, vs, n, rfl, _, _, h1, h2⟩ := x
    cases t' <;> simp only [Den] at y <;> (try (obtain ⟨_, e⟩ := y; cases e; done)) <;> (try (cases y; done))
    case float => obtain ⟨_, _, e⟩ := y; cases e
    case list l' =>
      obtain ⟨a', ws, e, _, ⟨n, h1'⟩, h2'⟩ := y
      cases e; rw [h1] at h1'; simp at h1'
    case tup l' =>
      obtain ⟨a', ws, e, _, h1', h2'⟩ := y
      cases e; obtain ⟨o, e1, e2, _⟩ := h1'
      rw [e1] at h1; simp_all
    case sdict l' =>
      obtain ⟨a', ws, n', e, _, _, h1', h2'⟩ := y
      cases e; rw [h1] at h1'; cases h1'
      rw [SEnts.fn h2 h2']
theorem DenL.fn {w : World} {M M' : List Addr} {h : Heap} : ∀ (ts ts' : List T) (vs : List Value), DenL w M h ts vs → DenL w M' h ts' vs → ts = ts'
  | [], ts', vs, x, y => by
    simp only [DenL] at x; subst x
    cases ts' with
    | nil => rfl
    | cons a b => simp only [DenL] at y; obtain ⟨_, _, e, _⟩ := y; cases e
  | t :: ts, ts', vs, x, y => by
    simp only [DenL] at x; obtain ⟨v, r, rfl, h1, h2⟩ := x
    cases ts' with
    | nil => simp only [DenL] at y; cases y
    | cons a b =>
      simp only [DenL] at y; obtain ⟨_, _, e, h1', h2'⟩ := y
      cases e
      rw [Den.fn t a v h1 h1', DenL.fn ts b r h2 h2']
end

theorem anyEq_at {c : Cx} {s : Shared} (B : Bas c s) {M M' : List Addr} {x : T} {vx : Value} (hx : DenB c.w M' s.heap x vx) {A : Around} (hu : A.units + 8 < cLine) :
    ∃ e : Value → Bool, ∀ (ts : List T) (vs : List Value) (r : Bool), anyEq x ts = some r → DenL c.w M s.heap ts vs → (∀ v ∈ vs, EqAt A s v vx (e v)) ∧ vs.any e = r := by
  classical
  refine ⟨fun v => decide (∃ t, Den c.w M s.heap t v ∧ eqv 8 t x = some true), ?_⟩
  intro ts
  induction ts with
  | nil => intro vs r e d; simp only [DenL] at d; subst d; simp [anyEq] at e; subst e; simp
  | cons y ys ih =>
    intro vs r e d
    simp only [DenL] at d
    obtain ⟨v, ws, rfl, k1, k2⟩ := d
    simp only [anyEq] at e
    cases h1 : eqv 8 y x with
    | none => simp [h1] at e
    | some p =>
      cases h2 : anyEq x ys with
      | none => simp [h1, h2] at e
      | some q =>
        simp only [h1, h2, Option.some.injEq] at e
        subst e
        obtain ⟨i1, i2⟩ := ih ws q h2 k2
        have hp := eqv_at B 8 y x p A v vx h1 hu k1.borrow hx
        have he : decide (∃ t, Den c.w M s.heap t v ∧ eqv 8 t x = some true) = p := by
          cases p
          · rw [decide_eq_false_iff_not]
            rintro ⟨t, g1, g2⟩
            rw [Den.fn _ _ _ g1 k1, h1] at g2; cases g2
          · rw [decide_eq_true_iff]; exact ⟨y, k1, h1⟩
        refine ⟨fun u hu => ?_, ?_⟩
        · rcases List.mem_cons.mp hu with rfl | hu
          · show EqAt A s _ vx (decide _); rw [he]; exact hp
          · exact i1 u hu
        · rw [List.any_cons, i2, he]

/-- what a comparison of two data tells -/
def ltT (a b : T) : Option Bool := match a with
  | .int a => (match b with | .int b => some (decide (a < b)) | _ => none)
  | .float a => (match b with | .float b => some (Float64.cmp a b == some .lt) | _ => none)
  | _ => none
def leT (a b : T) : Option Bool := match a with
  | .int a => (match b with | .int b => some (decide (a ≤ b)) | _ => none)
  | .float a => (match b with | .float b => some (Float64.cmp a b == some .lt || Float64.cmp a b == some .eq) | _ => none)
  | _ => none
def gtT (a b : T) : Option Bool := match a with
  | .int a => (match b with | .int b => some (decide (a > b)) | _ => none)
  | .float a => (match b with | .float b => some (Float64.cmp a b == some .gt) | .int b => some (Float64.cmpInt a b == some .gt) | _ => none)
  | _ => none
def geT (a b : T) : Option Bool := match a with
  | .int a => (match b with | .int b => some (decide (a ≥ b)) | _ => none)
  | _ => none
def inT (a b : T) : Option Bool := match b with
  | .list l => anyEq a l
  | .tup l => anyEq a l
  | .str x => (match a with | .str y => some (strIn x y) | _ => none)
  | .sdict l => (match a with | .str k => some (l.lookup k).isSome | _ => none)
  | _ => none
def notInT (a b : T) : Option Bool := match b with
  | .list l => (anyEq a l).map (!·)
  | .tup l => (anyEq a l).map (!·)
  | .str x => (match a with | .str y => some (!strIn x y) | _ => none)
  | _ => none
def isNo : T → Option Bool
  | .none => some true
  | .bool _ => some false
  | .int _ => some false
  | .str _ => some false
  | .list _ => some false
  | .tup _ => some false
  | _ => none
def isT (a b : T) : Option Bool := match b with
  | .none => isNo a
  | .bool b => (match a with | .bool a => some (a == b) | _ => none)
  | _ => none
def isNotT (a b : T) : Option Bool := match b with
  | .none => (isNo a).map (!·)
  | .bool b => (match a with | .bool a => some (!(a == b)) | _ => none)
  | .int b => (match a with | .bool a => some true | _ => none)
  | _ => none
def cmpT (op : CmpOp) (a b : T) : Option Bool := match op with
  | .Eq => ceq a b
  | .NotEq => (ceq a b).map (!·)
  | .Lt => ltT a b
  | .LtE => leT a b
  | .Gt => gtT a b
  | .GtE => geT a b
  | .In => inT a b
  | .NotIn => notInT a b
  | .Is => isT a b
  | .IsNot => isNotT a b
end Mine
end

section
set_option autoImplicit false
set_option linter.unusedVariables false
set_option linter.unusedSimpArgs false
namespace Mine
open PySem PySem.Calls PyProof.Rows PySem.SeqAt

section
variable {c : Cx}
theorem strMap_of {w : World} {M : List Addr} {h : Heap} (prog : Program) {l : List (Str × Int)} {v : Value} (x : Den w M h (.sdict l) v) :
    ∃ a, v = .ref a ∧ a ∉ M ∧ (a == sysModules) = false ∧ ∃ f, h.MapOf (PySem.strKind prog w) a f ∧ ∀ k, (∃ i t, f k = some (.int i t) ∧ l.lookup k = some i) ∨ (f k = none ∧ l.lookup k = none) := by
  simp only [Den] at x
  obtain ⟨a, es, n, rfl, hM, hy, ho, hs⟩ := x
  have key : ∀ (l : List (Str × Int)) (es : List DictEntry), SEnts w l es → (∀ e ∈ es, ∃ k, (PySem.strKind prog w).is k e.key = true ∧ e.hash = (PySem.strKind prog w).hash k) ∧
      ∀ k, (∃ i t, (es.find? fun e => (PySem.strKind prog w).is k e.key).map (·.val) = some (.int i t) ∧ l.lookup k = some i) ∨ ((es.find? fun e => (PySem.strKind prog w).is k e.key).map (·.val) = none ∧ l.lookup k = none) := by
    intro l
    induction l with
    | nil => intro es h; simp only [SEnts] at h; subst h; exact ⟨by simp, fun k => .inr ⟨rfl, rfl⟩⟩
    | cons p l ih =>
      intro es h
      simp only [SEnts] at h
      obtain ⟨e, r, rfl, h1, ⟨t, h2⟩, ⟨u, h3⟩, h4⟩ := h
      obtain ⟨i1, i2⟩ := ih r h4
      have hk : (PySem.strKind prog w).is p.1 e.key = true := by rw [h2]; exact PySem.strKind_is prog w p.1 t
      refine ⟨fun x hx => ?_, fun k => ?_⟩
      · rcases List.mem_cons.mp hx with rfl | hx
        · exact ⟨p.1, hk, h1⟩
        · exact i1 x hx
      · have hd : (PySem.strKind prog w).is k e.key = decide (k = p.1) := KeyKind.is_eq_decide hk k
        by_cases hkp : k = p.1
        · left
          refine ⟨p.2, u, ?_, ?_⟩
          · rw [List.find?_cons, hd]; simp [hkp, h3]
          · rw [List.lookup_cons]; simp [hkp]
        · have : (k == p.1) = false := by simpa using hkp
          rw [List.find?_cons, hd, List.lookup_cons, this]
          simpa [hkp] using i2 k
  obtain ⟨k1, k2⟩ := key l es.toList hs
  refine ⟨a, rfl, hM, hy, fun k => (es.find? fun e => (PySem.strKind prog w).is k e.key).map (·.val), ⟨_, es, n, ho, ⟨rfl, rfl, rfl⟩, rfl, fun e he => k1 e (by simpa using he), fun k => rfl⟩, fun k => ?_⟩
  obtain ⟨es⟩ := es
  simpa using k2 k
end

theorem bool_beq (a b : Bool) : (Value.bool a == Value.bool b) = (a == b) := by cases a <;> cases b <;> rfl

section
variable {c : Cx} {a b : T} {r : Bool}
theorem lt_ok (h : ltT a b = some r) : CmpOk c .Lt a b r := fun A s M v v' B hu x y => by
  cases a <;> try cases h
  · cases b <;> cases h
    obtain ⟨t, rfl⟩ := x.int; obtain ⟨u, rfl⟩ := y.int; exact PySem.P.lt_int ⟨Chg.refl _, rfl⟩
  · cases b <;> cases h
    obtain ⟨t, _, rfl⟩ := x.float; obtain ⟨u, _, rfl⟩ := y.float; exact AutoFloatOps.lt_0 ⟨Chg.refl _, rfl⟩
theorem le_ok (h : leT a b = some r) : CmpOk c .LtE a b r := fun A s M v v' B hu x y => by
  cases a <;> try cases h
  · cases b <;> cases h
    obtain ⟨t, rfl⟩ := x.int; obtain ⟨u, rfl⟩ := y.int; exact PySem.P.le_int ⟨Chg.refl _, rfl⟩
  · cases b <;> cases h
    obtain ⟨t, _, rfl⟩ := x.float; obtain ⟨u, _, rfl⟩ := y.float; exact AutoFloatOps.le_0 ⟨Chg.refl _, rfl⟩
theorem gt_ok (h : gtT a b = some r) : CmpOk c .Gt a b r := fun A s M v v' B hu x y => by
  cases a <;> try cases h
  · cases b <;> cases h
    obtain ⟨t, rfl⟩ := x.int; obtain ⟨u, rfl⟩ := y.int; exact PySem.P.gt_int ⟨Chg.refl _, rfl⟩
  · cases b <;> cases h
    · obtain ⟨t, _, rfl⟩ := x.float; obtain ⟨u, rfl⟩ := y.int; exact gt_fi ⟨Chg.refl _, rfl⟩
    · obtain ⟨t, _, rfl⟩ := x.float; obtain ⟨u, _, rfl⟩ := y.float; exact AutoFloatOps.gt_0 ⟨Chg.refl _, rfl⟩
theorem ge_ok (h : geT a b = some r) : CmpOk c .GtE a b r := fun A s M v v' B hu x y => by
  cases a <;> try cases h
  cases b <;> cases h
  obtain ⟨t, rfl⟩ := x.int; obtain ⟨u, rfl⟩ := y.int; exact PySem.P.ge_int ⟨Chg.refl _, rfl⟩
theorem in_ok (h : inT a b = some r) : CmpOk c .In a b r := fun A s M v v' B hu x y => by
  have h8' : A.in1.units + 8 < cLine := by simp; lia
  cases b <;> try cases h
  · cases a <;> cases h
    obtain ⟨t, rfl⟩ := x.str; obtain ⟨u, rfl⟩ := y.str; exact PySem.P.in_str ⟨Chg.refl _, rfl⟩
  · obtain ⟨e, he⟩ := anyEq_at (M := M) B x h8'
    obtain ⟨a, vs, rfl, _, h1, h2⟩ := y.tup
    obtain ⟨k1, k2⟩ := he _ _ _ h h2
    exact in_tupleAt e h1 (fun v hv => k1 v (by simpa using hv)) ⟨Chg.refl _, by simpa using k2⟩
  · obtain ⟨e, he⟩ := anyEq_at (M := M) B x h8'
    obtain ⟨a, vs, rfl, h1, h2⟩ := y.list
    obtain ⟨k1, k2⟩ := he _ _ _ h h2
    exact in_listAt e h1.isList (fun v hv => k1 v (by simpa using hv)) ⟨Chg.refl _, by simpa using k2⟩
  · rename_i l
    cases a <;> cases h
    rename_i k
    obtain ⟨t, rfl⟩ := x.str
    obtain ⟨a, rfl, _, h0, f, hm, hf⟩ := strMap_of c.prog (show Den c.w M s.heap (.sdict l) v' from y)
    refine wpAny_in_of (knd := PySem.strKind c.prog c.w) (PySem.strKind_is _ _ k t) h0 hm ⟨Ext.tok _, ?_⟩
    rcases hf k with ⟨i, u, h1, h2⟩ | ⟨h1, h2⟩ <;> simp [h1, h2]
theorem notIn_ok (h : notInT a b = some r) : CmpOk c .NotIn a b r := fun A s M v v' B hu x y => by
  have h8' : A.in1.units + 8 < cLine := by simp; lia
  cases b <;> try cases h
  · cases a <;> cases h
    obtain ⟨t, rfl⟩ := x.str; obtain ⟨u, rfl⟩ := y.str; exact PySem.P.notIn_str ⟨Chg.refl _, rfl⟩
  · obtain ⟨q, hc, rfl⟩ := Option.map_eq_some_iff.mp h
    obtain ⟨e, he⟩ := anyEq_at (M := M) B x h8'
    obtain ⟨a, vs, rfl, _, h1, h2⟩ := y.tup
    obtain ⟨k1, k2⟩ := he _ _ _ hc h2
    exact notIn_tupleAt e h1 (fun v hv => k1 v (by simpa using hv)) ⟨Chg.refl _, by simpa using k2⟩
  · obtain ⟨q, hc, rfl⟩ := Option.map_eq_some_iff.mp h
    obtain ⟨e, he⟩ := anyEq_at (M := M) B x h8'
    obtain ⟨a, vs, rfl, h1, h2⟩ := y.list
    obtain ⟨k1, k2⟩ := he _ _ _ hc h2
    exact notIn_listAt e h1.isList (fun v hv => k1 v (by simpa using hv)) ⟨Chg.refl _, by simpa using k2⟩
theorem isNo_of {w : World} {M : List Addr} {h : Heap} {v : Value} {q : Bool} (e : isNo a = some q) (x : DenB w M h a v) : (v == Value.none) = q := by
  cases a <;> cases e
  · cases x.none; rfl
  · cases x.bool; rfl
  · obtain ⟨t, rfl⟩ := x.int; rfl
  · obtain ⟨t, rfl⟩ := x.str; rfl
  · obtain ⟨a, vs, rfl, _⟩ := x.tup; rfl
  · obtain ⟨a, vs, rfl, _⟩ := x.list; rfl
theorem is_ok (h : isT a b = some r) : CmpOk c .Is a b r := fun A s M v v' B hu x y => by
  cases b <;> try cases h
  · cases y.none
    have e := isNo_of h x
    exact PyProof.Rows.is_none_gen ⟨Chg.refl _, congrArg Value.bool e⟩
  · cases a <;> cases h
    cases x.bool; cases y.bool; exact is_bool ⟨Chg.refl _, rfl⟩
theorem isNot_ok (h : isNotT a b = some r) : CmpOk c .IsNot a b r := fun A s M v v' B hu x y => by
  cases b <;> try cases h
  · cases y.none
    obtain ⟨q, hq, rfl⟩ := Option.map_eq_some_iff.mp h
    have e := isNo_of hq x
    subst e
    exact PySem.isNot_none ⟨Chg.refl _, rfl⟩
  · cases a <;> cases h
    cases x.bool; cases y.bool; exact wpAny_isNot_plain rfl ⟨Chg.refl _, by rw [bool_beq]⟩
  · cases a <;> cases h
    cases x.bool; obtain ⟨u, rfl⟩ := y.int; exact wpAny_isNot_plain rfl ⟨Chg.refl _, rfl⟩
end
theorem cmpT_ok {c : Cx} {op : CmpOp} {a b : T} {r : Bool} (h : cmpT op a b = some r) : CmpOk c op a b r := by
  cases op
  case Eq => exact fun A s M v v' B hu x y => (eqv_rc B h (by lia) x y).1 _ _ _ _ ⟨Chg.refl _, rfl⟩
  case NotEq =>
    obtain ⟨q, hc, rfl⟩ := Option.map_eq_some_iff.mp h
    exact fun A s M v v' B hu x y => (eqv_rc B hc (by lia) x y).2 _ _ _ _ ⟨Chg.refl _, rfl⟩
  case Lt => exact lt_ok h
  case LtE => exact le_ok h
  case Gt => exact gt_ok h
  case GtE => exact ge_ok h
  case In => exact in_ok h
  case NotIn => exact notIn_ok h
  case Is => exact is_ok h
  case IsNot => exact isNot_ok h

/-! comparisons as expressions and as tests -/
def notSet : Expr → Bool
  | .Set .. => false
  | _ => true
theorem marks_of {op : CmpOp} {e : Expr} (h : notSet e = true) : behindInMarks op e = false := by
  cases e <;> first | rfl | (exact absurd (show false = true from h) (by decide))

section
variable {c : Cx} {n : Nat} {ρ : Rho}
theorem Room.cl {A : Around} {k : Nat} (r : Room A k) : A.units + 10 < cLine := by have := r.2.2; unfold cLine; lia

theorem Ev.cmp {l r : Expr} {op : CmpOp} {pos : Pos} {a b : T} {q : Bool} (hl : EvB c n ρ l a) (hr : EvB c n ρ r b) (h : cmpT op a b = some q) (hs : notSet r = true) :
    Ev c n ρ (.Compare l [op] [r] pos) (.bool q) := .mk fun A s env M₀ O rm R =>
  wpAny_Compare1 (hl.go rm R fun v s₁ x₁ R₁ d₁ => hr.go rm R₁ fun v' s₂ x₂ R₂ d₂ =>
    wpAny_imp (cmpT_ok h A s₂ _ v v' R₂.bas rm.cl (d₁.keep x₂.all) d₂) fun r s₃ y => ⟨Ext.trans x₁ (Ext.trans x₂ y.1), by rw [y.2]; exact Den.of_bool⟩) (marks_of hs)
theorem EvT.cmp {l r : Expr} {op : CmpOp} {pos : Pos} {a b : T} {q : Bool} (hl : EvB c n ρ l a) (hr : EvB c n ρ r b) (h : cmpT op a b = some q) (hs : notSet r = true) :
    EvT c n ρ (.Compare l [op] [r] pos) q := .mk fun A s env M₀ O rm R =>
  wpAny_isTrue_Compare1 (hl.go rm R fun v s₁ x₁ R₁ d₁ => hr.go rm R₁ fun v' s₂ x₂ R₂ d₂ =>
    wpAny_imp (cmpT_ok h A s₂ _ v v' R₂.bas rm.cl (d₁.keep x₂.all) d₂) fun r s₃ y => by rw [y.2]; exact wpAny_truthy_bool ⟨Ext.trans x₁ (Ext.trans x₂ y.1), rfl⟩) (marks_of hs)

/-! tests -/
theorem EvT.not {x : Expr} {pos : Pos} {b : Bool} (h : EvT c n ρ x b) : EvT c n ρ (.UnaryOp .Not x pos) (!b) := .mk fun A s env M₀ O rm R =>
  wpAny_isTrue_Not (h.go rm R fun s' x R' => ⟨x, rfl⟩)
def plainTest : Expr → Bool
  | .UnaryOp .Not _ _ | .BoolOp .. | .IfExp .. | .Compare .. => false
  | _ => true
theorem EvT.val {x : Expr} {b : Bool} (h : Ev c n ρ x (.bool b)) (hp : plainTest x = true) : EvT c n ρ x b := .mk fun A s env M₀ O rm R => by
  refine wpAny_isTrue_value (h.go rm R fun v s' x R' d => ?_) ?_
  · cases d.borrow.bool; exact wpAny_truthy_bool ⟨x, rfl⟩
  · cases x <;> first | rfl | (exact absurd (show false = true from hp) (by decide)) | skip
    rename_i op _ _
    cases op <;> first | rfl | (exact absurd (show false = true from hp) (by decide))

/-- the values of an and, an or -/
inductive Alls (c : Cx) (n : Nat) (ρ : Rho) : BoolOp → List Expr → Bool → Prop
  | andNil : Alls c n ρ .And [] true
  | orNil : Alls c n ρ .Or [] false
  | andF {x : Expr} {r : List Expr} : EvT c n ρ x false → Alls c n ρ .And (x :: r) false
  | orT {x : Expr} {r : List Expr} : EvT c n ρ x true → Alls c n ρ .Or (x :: r) true
  | andT {x : Expr} {r : List Expr} {b : Bool} : EvT c n ρ x true → Alls c n ρ .And r b → Alls c n ρ .And (x :: r) b
  | orF {x : Expr} {r : List Expr} {b : Bool} : EvT c n ρ x false → Alls c n ρ .Or r b → Alls c n ρ .Or (x :: r) b
theorem EvT.boolop {op : BoolOp} {xs : List Expr} {pos : Pos} {b : Bool} (h : Alls c n ρ op xs b) : EvT c n ρ (.BoolOp op xs pos) b := .mk fun A s env M₀ O rm R => by
  refine wpAny_isTrue_BoolOp ?_
  have key : ∀ (s : Shared), Rel c env M₀ O ρ s → wpAny (model c.prog c.w) A (allTrue op xs env) (fun r s' => Ext s s' ∧ r = b) NoE s := by
    induction h with
    | andNil => exact fun s R => wpAny_allTrue_And_nil ⟨Chg.refl _, rfl⟩
    | orNil => exact fun s R => wpAny_allTrue_Or_nil ⟨Chg.refl _, rfl⟩
    | andF h => exact fun s R => wpAny_allTrue_And_cons (h.go rm R fun s' x R' => ⟨x, rfl⟩)
    | orT h => exact fun s R => wpAny_allTrue_Or_cons (h.go rm R fun s' x R' => ⟨x, rfl⟩)
    | andT h _ ih => exact fun s R => wpAny_allTrue_And_cons (h.go rm R fun s' x R' => wpAny_imp (ih s' R') fun r s'' y => ⟨Ext.trans x y.1, y.2⟩)
    | orF h _ ih => exact fun s R => wpAny_allTrue_Or_cons (h.go rm R fun s' x R' => wpAny_imp (ih s' R') fun r s'' y => ⟨Ext.trans x y.1, y.2⟩)
  exact key s R

/-- and, or as values: bools -/
inductive Vals (c : Cx) (n : Nat) (ρ : Rho) : BoolOp → List Expr → Bool → Prop
  | one {op : BoolOp} {x : Expr} {b : Bool} : Ev c n ρ x (.bool b) → Vals c n ρ op [x] b
  | andF {x y : Expr} {r : List Expr} : Ev c n ρ x (.bool false) → Vals c n ρ .And (x :: y :: r) false
  | orT {x y : Expr} {r : List Expr} : Ev c n ρ x (.bool true) → Vals c n ρ .Or (x :: y :: r) true
  | andT {x y : Expr} {r : List Expr} {b : Bool} : Ev c n ρ x (.bool true) → Vals c n ρ .And (y :: r) b → Vals c n ρ .And (x :: y :: r) b
  | orF {x y : Expr} {r : List Expr} {b : Bool} : Ev c n ρ x (.bool false) → Vals c n ρ .Or (y :: r) b → Vals c n ρ .Or (x :: y :: r) b
theorem Ev.ifexp {t a b : Expr} {pos : Pos} {q : Bool} {r : T} (h : EvT c n ρ t q) (ha : q = true → Ev c n ρ a r) (hb : q = false → Ev c n ρ b r) : Ev c n ρ (.IfExp t a b pos) r := .mk fun A s env M₀ O rm R =>
  wpAny_IfExp (h.go rm R fun s' x R' => by
    cases q
    · exact (hb rfl).go rm R' fun v s'' x' R'' d => ⟨Ext.trans x x', d⟩
    · exact (ha rfl).go rm R' fun v s'' x' R'' d => ⟨Ext.trans x x', d⟩)
theorem Ev.neg {x : Expr} {pos : Pos} {i : Int} (h : Ev c n ρ x (.int i)) : Ev c n ρ (.UnaryOp .USub x pos) (.int (-i)) := .mk fun A s env M₀ O rm R =>
  wpAny_UnaryOp (h.go rm R fun v s' x R' d => by
    obtain ⟨t, rfl⟩ := d.borrow.int
    exact neg_int ⟨Ext.trans x (Ext.tok _), Den.of_int⟩)
end
end Mine
end

section
set_option autoImplicit false
set_option linter.unusedVariables false
set_option linter.unusedSimpArgs false
namespace Mine
open PySem PySem.Calls PyProof.Rows PySem.SeqAt

theorem Ext.raw {s : Shared} {h' : Heap} {tk : Nat} (hk : ∀ b o, s.heap.get? b = some o → h'.get? b = some o) (hs : s.heap.objs.size ≤ h'.objs.size) (ht : s.toks ≤ tk) : Ext s { s with heap := h', toks := tk } :=
  Ext.of_heap hk hs ht

def DenBs (w : World) (M : List Addr) (h : Heap) : List T → List Value → Prop
  | [], vs => vs = []
  | t :: ts, vs => ∃ v r, vs = v :: r ∧ DenB w M h t v ∧ DenBs w M h ts r
def notStar : Expr → Bool
  | .Starred .. => false
  | _ => true
theorem starEach_cons {e : Expr} (h : notStar e = true) (r : List Expr) (env : Env) : starEach (e :: r) env = (false, eval e env) :: starEach r env := by
  cases e <;> first | rfl | (exact absurd (show false = true from h) (by decide))
theorem starEach_plain : ∀ (es : List Expr) (env : Env), (∀ e ∈ es, notStar e = true) → starEach es env = es.map fun e => (false, eval e env)
  | [], _, _ => rfl
  | e :: r, env, h => by rw [starEach_cons (h e List.mem_cons_self), starEach_plain r env fun e' he => h e' (List.mem_cons_of_mem _ he)]; rfl

section
variable {c : Cx} {n : Nat} {ρ : Rho}

inductive Each (c : Cx) (n : Nat) (ρ : Rho) : List Expr → List T → Prop
  | nil : Each c n ρ [] []
  | cons {e : Expr} {es : List Expr} {t : T} {ts : List T} : notStar e = true → Ev c n ρ e t → Each c n ρ es ts → Each c n ρ (e :: es) (t :: ts)
inductive EachB (c : Cx) (n : Nat) (ρ : Rho) : List Expr → List T → Prop
  | nil : EachB c n ρ [] []
  | cons {e : Expr} {es : List Expr} {t : T} {ts : List T} : notStar e = true → EvB c n ρ e t → EachB c n ρ es ts → EachB c n ρ (e :: es) (t :: ts)
theorem EachB.plain {es : List Expr} {ts : List T} (h : EachB c n ρ es ts) : ∀ e ∈ es, notStar e = true := by
  induction h with
  | nil => simp
  | cons a _ _ ih => intro e he; rcases List.mem_cons.mp he with rfl | he; exact a; exact ih e he
theorem Each.go {es : List Expr} {ts : List T} (h : Each c n ρ es ts) (pos : Pos) {A : Around} {env : Env} {M₀ : List Addr} {O : List (Str × Addr)} (rm : Room A n) :
    ∀ (s : Shared) (Q : List Value → Shared → Prop), Rel c env M₀ O ρ s → (∀ vs s', Ext s s' → Rel c env M₀ O ρ s' → DenL c.w (nOf c env O ++ M₀) s'.heap ts vs → Q vs s') →
      wpAny (model c.prog c.w) A (spliced (backTo pos (starEach es env))) Q NoE s := by
  induction h with
  | nil => exact fun s Q R k => wpAny_pure (k [] s (Chg.refl _) R DenL.nil)
  | cons hs h _ ih =>
    exact fun s Q R k => wpAny_items_cons (h.go rm R fun v s₁ x₁ R₁ d₁ => ih s₁ _ R₁ fun vs s₂ x₂ R₂ d₂ => k _ s₂ (Ext.trans x₁ x₂) R₂ (DenL.cons (d₁.keep x₂.all) d₂)) (starEach_cons hs _ _)
theorem EachB.go {es : List Expr} {ts : List T} (h : EachB c n ρ es ts) (pos : Pos) {A : Around} {env : Env} {M₀ : List Addr} {O : List (Str × Addr)} (rm : Room A n) :
    ∀ (s : Shared) (Q : List Value → Shared → Prop), Rel c env M₀ O ρ s → (∀ vs s', Ext s s' → Rel c env M₀ O ρ s' → DenBs c.w (nOf c env O ++ M₀) s'.heap ts vs → Q vs s') →
      wpAny (model c.prog c.w) A (spliced (backTo pos (starEach es env))) Q NoE s := by
  induction h with
  | nil => exact fun s Q R k => wpAny_pure (k [] s (Chg.refl _) R rfl)
  | cons hs h _ ih =>
    exact fun s Q R k => wpAny_items_cons (h.go rm R fun v s₁ x₁ R₁ d₁ => ih s₁ _ R₁ fun vs s₂ x₂ R₂ d₂ => k _ s₂ (Ext.trans x₁ x₂) R₂ ⟨_, _, rfl, d₁.keep x₂.all, d₂⟩) (starEach_cons hs _ _)

theorem EvN.list {es : List Expr} {ts : List T} {pos : Pos} (h : Each c n ρ es ts) (hz : ts.length ≤ sizeLine) : EvN c n ρ (.List es pos) ts := .mk fun A s env M₀ O rm R =>
  wpAny_List (h.go pos rm s _ R fun vs s₁ x₁ R₁ d₁ => ⟨by rw [← d₁.length]; exact hz, Ext.trans x₁ (Ext.push _ _), s₁.heap.objs.size, vs.toArray, rfl, x₁.size, ⟨0, Heap.get?_push_size _ rfl⟩, by simpa using (d₁.newer (Nat.le_refl _)).keep (Ext.push s₁ _).all⟩)
theorem Ev.tup {es : List Expr} {ts : List T} {k : Nat} {pos : Pos} (h : Each c n ρ es ts) (hz : ts.length ≤ sizeLine) : Ev c n ρ (.Tuple es k pos) (.tup ts) := .mk fun A s env M₀ O rm R =>
  wpAny_Tuple (h.go pos rm s _ R fun vs s₁ x₁ R₁ d₁ => ⟨by rw [← d₁.length]; exact hz, Ext.trans x₁ (Ext.push _ _), Den.of_tup (vs := vs.toArray) (R₁.new (Nat.le_refl _)) ⟨_, Heap.get?_push_size _ rfl, rfl, 0, rfl⟩ (by simpa using d₁.keep (Ext.push s₁ _).all)⟩)

/-! calls -/
def CallOk (c : Cx) (n : Nat) (f : Value) (args : List T) (r : T) : Prop := ∀ (A : Around) (s : Shared) (M : List Addr) (vs : List Value), Room A n → Bas c s → (∀ x ∈ M, x < s.heap.objs.size) →
  DenBs c.w M s.heap args vs → wpAny (model c.prog c.w) A (call f vs) (fun v s' => Ext s s' ∧ Den c.w M s'.heap r v) NoE s
def CallNew (c : Cx) (n : Nat) (f : Value) (args : List T) (l : List T) : Prop := ∀ (A : Around) (s : Shared) (M : List Addr) (vs : List Value), Room A n → Bas c s → (∀ x ∈ M, x < s.heap.objs.size) →
  DenBs c.w M s.heap args vs → wpAny (model c.prog c.w) A (call f vs) (fun v s' => Ext s s' ∧ ∃ a ws, v = .ref a ∧ s.heap.objs.size ≤ a ∧ s'.heap.PlainList a ws ∧ DenL c.w (a :: M) s'.heap l ws.toList) NoE s

/-- a thing that is called: a built-in function, a type, a function of the text -/
def Callee (c : Cx) : Value → Prop
  | .builtin _ => True
  | .type _ => True
  | .ref a => ∃ o fd, c.H.get? a = some o ∧ o.data = .func fd
  | _ => False

theorem wp_callWith {f : Value} (hf : Callee c f) {pos : Pos} {es : List Expr} {ts : List T} (h : EachB c n ρ es ts) (hne : es ≠ []) {A : Around} {env : Env} {M₀ : List Addr} {O : List (Str × Addr)} (rm : Room A n)
    {s : Shared} {Q : Value → Shared → Prop} (R : Rel c env M₀ O ρ s)
    (k : ∀ vs s', Ext s s' → Rel c env M₀ O ρ s' → DenBs c.w (nOf c env O ++ M₀) s'.heap ts vs → wpAny (model c.prog c.w) A (call f vs) Q NoE s') :
    wpAny (model c.prog c.w) A (callWith pos f [] (backTo pos (starEach es env)) []) Q NoE s := by
  have hp := starEach_plain es env h.plain
  have hb : (backTo pos (starEach es env)).any (·.1) = false := by
    rw [hp]; unfold backTo; simp
  have hargs : wpAny (model c.prog c.w) A (spliced (backTo pos (starEach es env))) (fun vs s' => wpAny (model c.prog c.w) A (call f vs) Q NoE s') NoE s := h.go pos rm s _ R fun vs s' x R' d => k vs s' x R' d
  have hcons : ∃ x r, backTo pos (starEach es env) = (false, x) :: r := by
    rw [hp]
    cases es with
    | nil => exact absurd rfl hne
    | cons e r => exact ⟨_, _, rfl⟩
  obtain ⟨x, r, hx⟩ := hcons
  rw [hx] at hargs hb ⊢
  cases f with
  | builtin id => exact callWith_builtin hb (evalArgs_plain hargs)
  | type T => exact PySem.callWith_type hb (evalArgs_plain hargs)
  | ref a =>
    obtain ⟨o, fd, ho, hd⟩ := hf
    refine callWith_function (o := o) (fd := fd) (evalArgs_plain ?_)
    rw [← hx]
    exact h.go pos rm s _ R fun vs s' x R' d => ⟨⟨R'.bas.heap a o ho, hd⟩, k vs s' x R' d⟩
  | _ => exact hf.elim

theorem Ev.call {f : Str} {p pos : Pos} {es : List Expr} {ts : List T} {v : Value} {r : T} (hk : c.ns.lookup f = some .globalImplicit) (g : GV c f v) (hf : Callee c v) (hx : nameOk f = true)
    (h : EachB c n ρ es ts) (hne : es ≠ []) (hc : CallOk c n v ts r) : Ev c n ρ (.Call (.Name f p) es [] pos) r := .mk fun A s env M₀ O rm R =>
  wpAny_Call_NameR (wp_gname R hk g (wp_callWith hf h hne rm R fun vs s' x R' d => wpAny_imp (hc A s' _ vs rm R'.bas R'.lt d) fun v s'' y => ⟨Ext.trans x y.1, y.2⟩) hx)
end
end Mine
end

section
set_option autoImplicit false
set_option linter.unusedVariables false
set_option linter.unusedSimpArgs false
namespace Mine
open PySem PySem.Calls PyProof.Rows PySem.SeqAt

theorem DenBs.one {w : World} {M : List Addr} {h : Heap} {t : T} {vs : List Value} (x : DenBs w M h [t] vs) : ∃ v, vs = [v] ∧ DenB w M h t v := by
  obtain ⟨v, r, rfl, d, rfl⟩ := x; exact ⟨v, rfl, d⟩
theorem DenBs.two {w : World} {M : List Addr} {h : Heap} {t u : T} {vs : List Value} (x : DenBs w M h [t, u] vs) : ∃ v v', vs = [v, v'] ∧ DenB w M h t v ∧ DenB w M h u v' := by
  obtain ⟨v, r, rfl, d, v', r', rfl, d', rfl⟩ := x; exact ⟨v, v', rfl, d, d'⟩
theorem DenBs.three {w : World} {M : List Addr} {h : Heap} {t u x : T} {vs : List Value} (y : DenBs w M h [t, u, x] vs) : ∃ v v' v'', vs = [v, v', v''] ∧ DenB w M h t v ∧ DenB w M h u v' ∧ DenB w M h x v'' := by
  obtain ⟨v, r, rfl, d, v', r', rfl, d', v'', r'', rfl, d'', rfl⟩ := y; exact ⟨v, v', v'', rfl, d, d', d''⟩

/-! the built-in functions -/
def allInts : List T → Option (List Int)
  | [] => some []
  | .int i :: r => (allInts r).map (i :: ·)
  | _ => none
def allFloats : List T → Option (List UInt64)
  | [] => some []
  | .float i :: r => (allFloats r).map (i :: ·)
  | _ => none
def pick {α : Type} (gt : α → α → Bool) : List α → Option α
  | [] => none
  | x :: r => some (r.foldl (fun b y => if gt y b then y else b) x)
def maxT (l : List T) : Option T := match allInts l with
  | some is => (pick (fun a b => decide (a > b)) is).map .int
  | none => match allFloats l with
    | some fs => (pick (fun a b => Float64.cmp a b == some .gt) fs).map .float
    | none => none
def minT (l : List T) : Option T := match allInts l with
  | some is => (pick (fun a b => decide (a < b)) is).map .int
  | none => match allFloats l with
    | some fs => (pick (fun a b => Float64.cmp a b == some .lt) fs).map .float
    | none => none
def sumT (l : List T) : Option T := (allInts l).map fun is => .int is.sum

def one (f : T → Option T) (a : List T) : Option T := match a with
  | [t] => f t
  | _ => none
def lenT (t : T) : Option T := match t with
  | .list l => if l.length ≤ 16777216 then some (.int l.length) else none
  | .tup l => if l.length ≤ 16777216 then some (.int l.length) else none
  | .str x => if x.length ≤ 16777216 then some (.int x.length) else none
  | _ => none
def absT (t : T) : Option T := match t with
  | .int i => some (.int (if i < 0 then -i else i))
  | _ => none
def ordT (t : T) : Option T := match t with
  | .str x => if x.length = 1 then some (.int (x.cps.getD 0 0 : Nat)) else none
  | _ => none
def chrI (t : T) : Option T := match t with
  | .int i => if 0 ≤ i ∧ i ≤ 1114111 then some (.str ⟨#[i.toNat]⟩) else none
  | _ => none
def intT (t : T) : Option T := match t with
  | .float x => (match Float64.decode x with
      | .fin sg m e => some (.int (Float64.truncOf sg m e))
      | _ => none)
  | _ => none
def ofList (g : List T → Option T) (t : T) : Option T := match t with
  | .list l => g l
  | _ => none
def some1 (g : List T → Option T) (a : List T) : Option T := match a with
  | [x] => ofList g x
  | [x, y] => g [x, y]
  | [x, y, z] => g [x, y, z]
  | _ => none
theorem one_some {f : T → Option T} {a : List T} {r : T} (h : one f a = some r) : ∃ t, a = [t] ∧ f t = some r := by
  cases a with
  | nil => cases h
  | cons t a => cases a with
    | nil => exact ⟨t, rfl, h⟩
    | cons _ _ => cases h
theorem ofList_some {g : List T → Option T} {t r : T} (h : ofList g t = some r) : ∃ l, t = .list l ∧ g l = some r := by
  cases t <;> try cases h
  exact ⟨_, rfl, h⟩
theorem some1_some {g : List T → Option T} {a : List T} {r : T} (h : some1 g a = some r) : (∃ l, a = [.list l] ∧ g l = some r) ∨ ((a.length = 2 ∨ a.length = 3) ∧ g a = some r) := by
  cases a with
  | nil => cases h
  | cons x a => cases a with
    | nil => obtain ⟨l, rfl, h⟩ := ofList_some (show ofList g x = some r from h); exact .inl ⟨l, rfl, h⟩
    | cons y a => cases a with
      | nil => exact .inr ⟨.inl rfl, h⟩
      | cons z a => cases a with
        | nil => exact .inr ⟨.inr rfl, h⟩
        | cons _ _ => cases h
def bi (f : Str) (a : List T) : Option T :=
  if f == "len" then one lenT a
  else if f == "abs" then one absT a
  else if f == "ord" then one ordT a
  else if f == "chr" then one chrI a
  else if f == "int" then one intT a
  else if f == "sum" then one (ofList sumT) a
  else if f == "max" then some1 maxT a
  else if f == "min" then some1 minT a
  else none
theorem of_if {p : Prop} [Decidable p] {t r : T} (h : (if p then some t else none) = some r) : p ∧ t = r := by
  by_cases hp : p
  · rw [if_pos hp] at h; exact ⟨hp, Option.some.inj h⟩
  · rw [if_neg hp] at h; cases h
theorem bi_len0 (a : List T) : bi "len" a = one lenT a := by rfl
theorem bi_abs0 (a : List T) : bi "abs" a = one absT a := by rfl
theorem bi_ord0 (a : List T) : bi "ord" a = one ordT a := by rfl
theorem bi_chr0 (a : List T) : bi "chr" a = one chrI a := by rfl
theorem bi_int0 (a : List T) : bi "int" a = one intT a := by rfl
theorem bi_sum0 (a : List T) : bi "sum" a = one (ofList sumT) a := by rfl
theorem bi_max0 (a : List T) : bi "max" a = some1 maxT a := by rfl
theorem bi_min0 (a : List T) : bi "min" a = some1 minT a := by rfl
def biV (f : Str) : Value := if f == "int" then .type "int" else .builtin f.toString

theorem allInts_at {w : World} {M : List Addr} {h : Heap} : ∀ {l : List T} {is : List Int} {vs : List Value}, allInts l = some is → DenL w M h l vs → is.length = vs.length ∧ ∀ (i : Nat) (v : Value), vs[i]? = some v → ∃ t, v = .int (is.getD i 0) t
  | [], is, vs, e, d => by simp [allInts] at e; subst e; simp only [DenL] at d; subst d; simp
  | t :: r, is, vs, e, d => by
    cases t <;> simp only [allInts] at e <;> (try cases e)
    rename_i k
    obtain ⟨is', e', rfl⟩ := Option.map_eq_some_iff.mp e
    simp only [DenL, Den] at d
    obtain ⟨v, vs', rfl, ⟨t, rfl⟩, d⟩ := d
    obtain ⟨i1, i2⟩ := allInts_at e' d
    refine ⟨by simp [i1], fun i v hv => ?_⟩
    cases i with
    | zero => simp at hv; subst hv; exact ⟨t, rfl⟩
    | succ i => simpa using i2 i v (by simpa using hv)
theorem allFloats_at {w : World} {M : List Addr} {h : Heap} : ∀ {l : List T} {is : List UInt64} {vs : List Value}, allFloats l = some is → DenL w M h l vs → is.length = vs.length ∧ ∀ (i : Nat) (v : Value), vs[i]? = some v → ∃ t, t ≠ 0 ∧ v = .float (is.getD i 0) t
  | [], is, vs, e, d => by simp [allFloats] at e; subst e; simp only [DenL] at d; subst d; simp
  | t :: r, is, vs, e, d => by
    cases t <;> simp only [allFloats] at e <;> (try cases e)
    rename_i k
    obtain ⟨is', e', rfl⟩ := Option.map_eq_some_iff.mp e
    simp only [DenL, Den] at d
    obtain ⟨v, vs', rfl, ⟨t, ht, rfl⟩, d⟩ := d
    obtain ⟨i1, i2⟩ := allFloats_at e' d
    refine ⟨by simp [i1], fun i v hv => ?_⟩
    cases i with
    | zero => simp at hv; subst hv; exact ⟨t, ht, rfl⟩
    | succ i => simpa using i2 i v (by simpa using hv)

theorem argBest_pick {α : Type} (gt : α → α → Bool) (d : α) : ∀ (l : List α) (x : α), (x :: l).getD (argBest (fun i j => gt ((x :: l).getD i d) ((x :: l).getD j d)) l.length) d = l.foldl (fun b y => if gt y b then y else b) x := by
  have key : ∀ (l : List α) (x : α) (k : Nat), k ≤ l.length → (x :: l).getD (argBest (fun i j => gt ((x :: l).getD i d) ((x :: l).getD j d)) k) d = (l.take k).foldl (fun b y => if gt y b then y else b) x := by
    intro l x k
    induction k with
    | zero => intro _; simp [argBest]
    | succ k ih =>
      intro hk
      have ih := ih (by lia)
      have ht : l.take (k + 1) = l.take k ++ [l.getD k d] := by
        rw [List.take_add_one, List.getElem?_eq_getElem (by lia : k < l.length)]
        simp [List.getD, List.getElem?_eq_getElem (by lia : k < l.length)]
      rw [ht, List.foldl_append, ← ih]
      show (x :: l).getD (if gt ((x :: l).getD (k + 1) d) ((x :: l).getD (argBest _ k) d) then k + 1 else argBest _ k) d = (if gt (l.getD k d) _ then l.getD k d else _)
      have e : (x :: l).getD (k + 1) d = l.getD k d := by simp [List.getD]
      rw [e]
      split <;> simp_all
  intro l x
  simpa using key l x l.length (Nat.le_refl _)

/-- iter of a list that is there: a new iterator -/
theorem wp_iter_list {prog : Program} {w : World} {A : Around} {E : Value → Shared → Prop} {s : Shared} {l : Addr} {items : Array Value} {Q : Value → Shared → Prop} (hl : s.heap.IsList l items)
    (h : ∀ s₂ : Shared, s₂ = { s with heap := s.heap.push { cls := .type "list_iterator", data := .fields #[.ref l, .int 0 0] } } →
      (s₂.heap.IsListIter s.heap.objs.size l 0 ∧ s₂.heap.IsList l items) → (∀ b ∈ [s.heap.objs.size, l], b < s₂.heap.objs.size) → l ≠ s.heap.objs.size → Q (.ref s.heap.objs.size) s₂) :
    wpAny (model prog w) A (pyIter (.ref l)) Q E s := by
  have hlt : l < s.heap.objs.size := by obtain ⟨_, e, _⟩ := hl; exact Heap.lt_size e
  refine wpAny_pyIter_list hl (h _ rfl ⟨⟨_, Heap.get?_push_size _ rfl, rfl, rfl⟩, hl.push _⟩ (fun b hb => ?_) (Nat.ne_of_lt hlt))
  show b < (s.heap.push _).objs.size
  rw [Heap.size_push]
  simp only [List.mem_cons, List.not_mem_nil, or_false] at hb
  rcases hb with rfl | rfl
  · exact Nat.lt_succ_self _
  · exact Nat.lt_succ_of_lt hlt
theorem wp_iter_tuple {prog : Program} {w : World} {A : Around} {E : Value → Shared → Prop} {s : Shared} {l : Addr} {items : Array Value} {Q : Value → Shared → Prop} (hl : s.heap.IsTuple l items)
    (h : ∀ s₂ : Shared, s₂ = { s with heap := s.heap.push { cls := .type "tuple_iterator", data := .fields #[.ref l, .int 0 0] } } →
      (s₂.heap.IsTupleIter s.heap.objs.size l 0 ∧ s₂.heap.IsTuple l items) → (∀ b ∈ [s.heap.objs.size, l], b < s₂.heap.objs.size) → l ≠ s.heap.objs.size → Q (.ref s.heap.objs.size) s₂) :
    wpAny (model prog w) A (pyIter (.ref l)) Q E s := by
  have hlt : l < s.heap.objs.size := by obtain ⟨_, e, _⟩ := hl; exact Heap.lt_size e
  refine wpAny_pyIter_tuple hl (h _ rfl ⟨⟨_, Heap.get?_push_size _ rfl, rfl, rfl⟩, hl.push _⟩ (fun b hb => ?_) (Nat.ne_of_lt hlt))
  show b < (s.heap.push _).objs.size
  rw [Heap.size_push]
  simp only [List.mem_cons, List.not_mem_nil, or_false] at hb
  rcases hb with rfl | rfl
  · exact Nat.lt_succ_self _
  · exact Nat.lt_succ_of_lt hlt
theorem kept1 {h h' : Heap} {o₀ : Obj} (hk : ∀ b o, b ∉ [h.objs.size] → (h.push o₀).get? b = some o → h'.get? b = some o) : ∀ b o, h.get? b = some o → h'.get? b = some o := fun b o e =>
  hk b o (by simp; exact Nat.ne_of_lt (Heap.lt_size e)) (Heap.get?_push_of_some _ e)

section
variable {c : Cx} {k : Nat}
/-- the greatest, the least of numbers -/
theorem best_pick {α : Type} {gt : α → α → Bool} {d : α} {is : List α} {r : α} (h : pick gt is = some r) : is.length ≠ 0 ∧ is.getD (argBest (fun i j => gt (is.getD i d) (is.getD j d)) (is.length - 1)) d = r := by
  cases is with
  | nil => cases h
  | cons x l =>
    refine ⟨by simp, ?_⟩
    have := argBest_pick gt d l x
    simp only [pick, Option.some.injEq] at h
    rw [← h, ← this]; rfl

theorem gtI : ∀ {prog : Program} {w : World} {A : Around} {is : List Int} {vs : List Value}, (∀ (i : Nat) (v : Value), vs[i]? = some v → ∃ t, v = .int (is.getD i 0) t) → CmpOf prog w A .Gt (fun i v => vs[i]? = some v) (fun i j => decide (is.getD i 0 > is.getD j 0)) :=
  fun hi => CmpOf.ints_gt _ hi
theorem ltI : ∀ {prog : Program} {w : World} {A : Around} {is : List Int} {vs : List Value}, (∀ (i : Nat) (v : Value), vs[i]? = some v → ∃ t, v = .int (is.getD i 0) t) → CmpOf prog w A .Lt (fun i v => vs[i]? = some v) (fun i j => decide (is.getD i 0 < is.getD j 0)) :=
  fun hi => CmpOf.ints_lt _ hi
theorem gtF : ∀ {prog : Program} {w : World} {A : Around} {is : List UInt64} {vs : List Value}, (∀ (i : Nat) (v : Value), vs[i]? = some v → ∃ t, t ≠ 0 ∧ v = .float (is.getD i 0) t) → CmpOf prog w A .Gt (fun i v => vs[i]? = some v) (fun i j => Float64.cmp (is.getD i 0) (is.getD j 0) == some .gt) :=
  fun hi i j vi vj s Q E h1 h2 hQ => by
    obtain ⟨t, _, rfl⟩ := hi i vi h1; obtain ⟨u, _, rfl⟩ := hi j vj h2
    exact AutoFloatOps.gt_0 (E := E) hQ
theorem ltF : ∀ {prog : Program} {w : World} {A : Around} {is : List UInt64} {vs : List Value}, (∀ (i : Nat) (v : Value), vs[i]? = some v → ∃ t, t ≠ 0 ∧ v = .float (is.getD i 0) t) → CmpOf prog w A .Lt (fun i v => vs[i]? = some v) (fun i j => Float64.cmp (is.getD i 0) (is.getD j 0) == some .lt) :=
  fun hi i j vi vj s Q E h1 h2 hQ => by
    obtain ⟨t, _, rfl⟩ := hi i vi h1; obtain ⟨u, _, rfl⟩ := hi j vj h2
    exact AutoFloatOps.lt_0 (E := E) hQ

/-- what is best among values: an order for CmpOf, and what the place that wins holds -/
theorem bestOf {prog : Program} {w : World} {A : Around} {M : List Addr} {h : Heap} {l : List T} {vs : List Value} {r : T} (e : maxT l = some r) (d : DenL w M h l vs) :
    0 < vs.length ∧ ∃ bt, CmpOf prog w A .Gt (fun i v => vs[i]? = some v) bt ∧ ∀ v h', vs[argBest bt (vs.length - 1)]? = some v → Den w M h' r v := by
  unfold maxT at e
  split at e
  · rename_i is hi
    obtain ⟨i, hp, rfl⟩ := Option.map_eq_some_iff.mp e
    obtain ⟨k1, k2⟩ := allInts_at hi d
    obtain ⟨k3, k4⟩ := best_pick (d := 0) hp
    refine ⟨by lia, _, gtI k2, fun v h' hv => ?_⟩
    obtain ⟨t, rfl⟩ := k2 _ _ hv
    rw [← k1, k4]; exact Den.of_int
  · split at e
    · rename_i is hi
      obtain ⟨i, hp, rfl⟩ := Option.map_eq_some_iff.mp e
      obtain ⟨k1, k2⟩ := allFloats_at hi d
      obtain ⟨k3, k4⟩ := best_pick (d := 0) hp
      refine ⟨by lia, _, gtF k2, fun v h' hv => ?_⟩
      obtain ⟨t, ht, rfl⟩ := k2 _ _ hv
      rw [← k1, k4]; exact Den.of_float ht
    · cases e
theorem leastOf {prog : Program} {w : World} {A : Around} {M : List Addr} {h : Heap} {l : List T} {vs : List Value} {r : T} (e : minT l = some r) (d : DenL w M h l vs) :
    0 < vs.length ∧ ∃ bt, CmpOf prog w A .Lt (fun i v => vs[i]? = some v) bt ∧ ∀ v h', vs[argBest bt (vs.length - 1)]? = some v → Den w M h' r v := by
  unfold minT at e
  split at e
  · rename_i is hi
    obtain ⟨i, hp, rfl⟩ := Option.map_eq_some_iff.mp e
    obtain ⟨k1, k2⟩ := allInts_at hi d
    obtain ⟨k3, k4⟩ := best_pick (d := 0) hp
    refine ⟨by lia, _, ltI k2, fun v h' hv => ?_⟩
    obtain ⟨t, rfl⟩ := k2 _ _ hv
    rw [← k1, k4]; exact Den.of_int
  · split at e
    · rename_i is hi
      obtain ⟨i, hp, rfl⟩ := Option.map_eq_some_iff.mp e
      obtain ⟨k1, k2⟩ := allFloats_at hi d
      obtain ⟨k3, k4⟩ := best_pick (d := 0) hp
      refine ⟨by lia, _, ltF k2, fun v h' hv => ?_⟩
      obtain ⟨t, ht, rfl⟩ := k2 _ _ hv
      rw [← k1, k4]; exact Den.of_float ht
    · cases e

theorem numL {w : World} {M : List Addr} {h : Heap} : ∀ {l : List T} {vs : List Value}, ((allInts l).isSome ∨ (allFloats l).isSome) → DenBs w M h l vs → DenL w M h l vs := by
  have key : ∀ {l : List T} {vs : List Value}, (∀ t ∈ l, ∀ l', t ≠ .list l') → DenBs w M h l vs → DenL w M h l vs := by
    intro l
    induction l with
    | nil => intro vs _ d; simpa [DenL, DenBs] using d
    | cons t r ih =>
      intro vs hn d
      obtain ⟨v, vs', rfl, d1, d2⟩ := d
      refine DenL.cons ?_ (ih (fun t ht => hn t (List.mem_cons_of_mem _ ht)) d2)
      cases t <;> first | exact d1 | exact absurd rfl (hn _ List.mem_cons_self _)
  have hi : ∀ {l : List T} {is : List Int}, allInts l = some is → ∀ t ∈ l, ∀ l', t ≠ .list l' := by
    intro l
    induction l with
    | nil => intro is _ t ht; cases ht
    | cons t r ih =>
      intro is e u hu l'
      cases t <;> simp only [allInts] at e <;> (try cases e)
      obtain ⟨is', e', rfl⟩ := Option.map_eq_some_iff.mp e
      rcases List.mem_cons.mp hu with rfl | hu
      · simp
      · exact ih e' u hu l'
  have hf : ∀ {l : List T} {is : List UInt64}, allFloats l = some is → ∀ t ∈ l, ∀ l', t ≠ .list l' := by
    intro l
    induction l with
    | nil => intro is _ t ht; cases ht
    | cons t r ih =>
      intro is e u hu l'
      cases t <;> simp only [allFloats] at e <;> (try cases e)
      obtain ⟨is', e', rfl⟩ := Option.map_eq_some_iff.mp e
      rcases List.mem_cons.mp hu with rfl | hu
      · simp
      · exact ih e' u hu l'
  intro l vs h d
  rcases h with h | h
  · obtain ⟨is, e⟩ := Option.isSome_iff_exists.mp h; exact key (hi e) d
  · obtain ⟨is, e⟩ := Option.isSome_iff_exists.mp h; exact key (hf e) d
theorem maxT_num {l : List T} {r : T} (e : maxT l = some r) : (allInts l).isSome ∨ (allFloats l).isSome := by
  unfold maxT at e
  split at e
  · rename_i h; simp [h]
  · split at e
    · rename_i h; simp [h]
    · cases e
theorem minT_num {l : List T} {r : T} (e : minT l = some r) : (allInts l).isSome ∨ (allFloats l).isSome := by
  unfold minT at e
  split at e
  · rename_i h; simp [h]
  · split at e
    · rename_i h; simp [h]
    · cases e

theorem max_list_ok {l : List T} {r : T} (e : maxT l = some r) : CallOk c k (.builtin "max") [.list l] r := fun A s M vs rm B hM d => by
  obtain ⟨v, rfl, d1⟩ := d.one
  obtain ⟨a, items, rfl, h1, h2⟩ := d1.list
  refine wp_grow (call_max_walk (wp_iter_list h1.isList fun s₂ e2 st hfp hl => ?_))
  subst e2
  obtain ⟨hn, bt, hc, hr⟩ := bestOf (prog := c.prog) (w := c.w) (A := A.in1) e h2
  refine ⟨_, _, _, _, _, _, bt, rfl, Walks.list (A := A.in1) rm.1 _ a hl items, st, hfp, by simpa using hn, fun i j vi vj s Q E hi hj hQ => hc i j vi vj s Q E (by simpa using hi) (by simpa using hj) hQ, fun v h' tk hP hk hs ht => ?_⟩
  exact ⟨Ext.raw (kept1 hk) hs ht, hr v h' (by simpa using hP)⟩
theorem min_list_ok {l : List T} {r : T} (e : minT l = some r) : CallOk c k (.builtin "min") [.list l] r := fun A s M vs rm B hM d => by
  obtain ⟨v, rfl, d1⟩ := d.one
  obtain ⟨a, items, rfl, h1, h2⟩ := d1.list
  refine wp_grow (call_min_walk (wp_iter_list h1.isList fun s₂ e2 st hfp hl => ?_))
  subst e2
  obtain ⟨hn, bt, hc, hr⟩ := leastOf (prog := c.prog) (w := c.w) (A := A.in1) e h2
  refine ⟨_, _, _, _, _, _, bt, rfl, Walks.list (A := A.in1) rm.1 _ a hl items, st, hfp, by simpa using hn, fun i j vi vj s Q E hi hj hQ => hc i j vi vj s Q E (by simpa using hi) (by simpa using hj) hQ, fun v h' tk hP hk hs ht => ?_⟩
  exact ⟨Ext.raw (kept1 hk) hs ht, hr v h' (by simpa using hP)⟩

theorem tup_iter {s : Shared} {M : List Addr} {l : List T} {vs : List Value} {A : Around} {Q : Value → Shared → Prop} {E : Value → Shared → Prop} (items : Array Value) (hi : items.toList = vs)
    (h : ∀ s₂ : Shared, s₂ = { s with heap := (s.heap.push { cls := .type "tuple", data := .seq items }).push { cls := .type "tuple_iterator", data := .fields #[.ref s.heap.objs.size, .int 0 0] } } →
      (s₂.heap.IsTupleIter (s.heap.objs.size + 1) s.heap.objs.size 0 ∧ s₂.heap.IsTuple s.heap.objs.size items) → (∀ b ∈ [s.heap.objs.size + 1, s.heap.objs.size], b < s₂.heap.objs.size) → Q (.ref (s.heap.objs.size + 1)) s₂) :
    wpAny (model c.prog c.w) A (pyIter (.ref s.heap.objs.size)) Q E { s with heap := s.heap.push { cls := .type "tuple", data := .seq items } } := by
  have hT : (s.heap.push { cls := .type "tuple", data := .seq items }).IsTuple s.heap.objs.size items := ⟨_, Heap.get?_push_size _ rfl, rfl, 0, rfl⟩
  have hz : (s.heap.push { cls := .type "tuple", data := .seq items }).objs.size = s.heap.objs.size + 1 := Heap.size_push ..
  refine wp_iter_tuple (s := { s with heap := s.heap.push { cls := .type "tuple", data := .seq items } }) hT fun s₂ e st hfp hl => ?_
  subst e
  dsimp only at st hfp ⊢
  rw [hz] at st hfp ⊢
  exact h _ rfl st hfp
theorem kept2 {h h' : Heap} {o₀ o₁ : Obj} (hk : ∀ b o, b ∉ [h.objs.size + 1] → ((h.push o₀).push o₁).get? b = some o → h'.get? b = some o) : ∀ b o, h.get? b = some o → h'.get? b = some o := fun b o e =>
  hk b o (by simp; exact Nat.ne_of_lt (Nat.lt_succ_of_lt (Heap.lt_size e))) (Heap.get?_push_of_some _ (Heap.get?_push_of_some _ e))

theorem one_of {l : List Value} (h : l.length = 1) : ∃ x, l = [x] := by
  cases l with
  | nil => cases h
  | cons x l => cases l with
    | nil => exact ⟨x, rfl⟩
    | cons _ _ => cases h
theorem two_of {l : List Value} (h : l.length = 2) : ∃ x y, l = [x, y] := by
  cases l with
  | nil => cases h
  | cons x l => cases l with
    | nil => cases h
    | cons y l => cases l with
      | nil => exact ⟨x, y, rfl⟩
      | cons _ _ => cases h
theorem three_of {l : List Value} (h : l.length = 3) : ∃ x y z, l = [x, y, z] := by
  cases l with
  | nil => cases h
  | cons x l =>
    obtain ⟨y, z, rfl⟩ := two_of (Nat.succ.inj h)
    exact ⟨x, y, z, rfl⟩
theorem four_of {l : List Value} (h : l.length = 4) : ∃ x y z u, l = [x, y, z, u] := by
  cases l with
  | nil => cases h
  | cons x l =>
    obtain ⟨y, z, u, rfl⟩ := three_of (Nat.succ.inj h)
    exact ⟨x, y, z, u, rfl⟩
theorem max_some_ok {l : List T} {r : T} (e : maxT l = some r) (h23 : l.length = 2 ∨ l.length = 3) : CallOk c k (.builtin "max") l r := fun A s M vs rm B hM d => by
  have d' := numL (maxT_num e) d
  obtain ⟨hn, bt, hc, hr⟩ := bestOf (prog := c.prog) (w := c.w) (A := A.in1) e d'
  have hlen := d'.length
  have go : ∀ (items : Array Value), items.toList = vs → wpAny (model c.prog c.w) A.in1 (pyIter (.ref s.heap.objs.size)) (fun it s₂ => ∃ I fp wr n P St bt, it = .ref I ∧ Walks c.prog c.w A.in1 I fp wr n P St ∧ St 0 s₂.heap ∧ (∀ b ∈ fp, b < s₂.heap.objs.size) ∧ 0 < n ∧ CmpOf c.prog c.w A.in1 .Gt P bt ∧
      ∀ v h' tk, P (argBest bt (n - 1)) v → (∀ b o, b ∉ wr → s₂.heap.get? b = some o → h'.get? b = some o) → s.heap.objs.size ≤ h'.objs.size → s.toks ≤ tk → Ext s { s₂ with heap := h', toks := tk } ∧ Den c.w M h' r v) NoE
      { s with heap := s.heap.push { cls := .type "tuple", data := .seq items } } := fun items hi => by
    refine tup_iter (c := c) (l := l) (M := M) items hi fun s₂ e2 st hfp => ?_
    subst e2
    refine ⟨_, _, _, _, _, _, bt, rfl, Walks.tuple (A := A.in1) rm.1 _ s.heap.objs.size (Nat.ne_of_lt (Nat.lt_succ_self _)) items, st, hfp, by simpa [← hi] using hn, fun i j vi vj s Q E hi' hj hQ => hc i j vi vj s Q E (by simpa [← hi] using hi') (by simpa [← hi] using hj) hQ, fun v h' tk hP hk hs ht => ?_⟩
    exact ⟨Ext.raw (kept2 hk) hs ht, hr v h' (by simpa [← hi] using hP)⟩
  rcases h23 with h2 | h3
  · obtain ⟨x, y, rfl⟩ := two_of (hlen.symm.trans h2)
    exact wp_grow (call_max_two (go #[x, y] rfl))
  · obtain ⟨x, y, z, rfl⟩ := three_of (hlen.symm.trans h3)
    exact wp_grow (call_max_three (go #[x, y, z] rfl))

theorem min_some_ok {l : List T} {r : T} (e : minT l = some r) (h23 : l.length = 2 ∨ l.length = 3) : CallOk c k (.builtin "min") l r := fun A s M vs rm B hM d => by
  have d' := numL (minT_num e) d
  obtain ⟨hn, bt, hc, hr⟩ := leastOf (prog := c.prog) (w := c.w) (A := A.in1) e d'
  have hlen := d'.length
  have go : ∀ (items : Array Value), items.toList = vs → wpAny (model c.prog c.w) A.in1 (pyIter (.ref s.heap.objs.size)) (fun it s₂ => ∃ I fp wr n P St bt, it = .ref I ∧ Walks c.prog c.w A.in1 I fp wr n P St ∧ St 0 s₂.heap ∧ (∀ b ∈ fp, b < s₂.heap.objs.size) ∧ 0 < n ∧ CmpOf c.prog c.w A.in1 .Lt P bt ∧
      ∀ v h' tk, P (argBest bt (n - 1)) v → (∀ b o, b ∉ wr → s₂.heap.get? b = some o → h'.get? b = some o) → s.heap.objs.size ≤ h'.objs.size → s.toks ≤ tk → Ext s { s₂ with heap := h', toks := tk } ∧ Den c.w M h' r v) NoE
      { s with heap := s.heap.push { cls := .type "tuple", data := .seq items } } := fun items hi => by
    refine tup_iter (c := c) (l := l) (M := M) items hi fun s₂ e2 st hfp => ?_
    subst e2
    refine ⟨_, _, _, _, _, _, bt, rfl, Walks.tuple (A := A.in1) rm.1 _ s.heap.objs.size (Nat.ne_of_lt (Nat.lt_succ_self _)) items, st, hfp, by simpa [← hi] using hn, fun i j vi vj s Q E hi' hj hQ => hc i j vi vj s Q E (by simpa [← hi] using hi') (by simpa [← hi] using hj) hQ, fun v h' tk hP hk hs ht => ?_⟩
    exact ⟨Ext.raw (kept2 hk) hs ht, hr v h' (by simpa [← hi] using hP)⟩
  rcases h23 with h2 | h3
  · obtain ⟨x, y, rfl⟩ := two_of (hlen.symm.trans h2)
    exact wp_grow (call_min_two (go #[x, y] rfl))
  · obtain ⟨x, y, z, rfl⟩ := three_of (hlen.symm.trans h3)
    exact wp_grow (call_min_three (go #[x, y, z] rfl))

theorem preSum_sum (is : List Int) : preSum (fun i => is.getD i 0) is.length = is.sum := by
  have key : ∀ k, k ≤ is.length → preSum (fun i => is.getD i 0) k = (is.take k).sum := by
    intro k
    induction k with
    | zero => intro _; simp [preSum]
    | succ k ih =>
      intro hk
      rw [List.take_add_one, List.sum_append, ← ih (by lia)]
      simp [preSum, List.getElem?_eq_getElem (by lia : k < is.length), List.getD]
  simpa using key is.length (Nat.le_refl _)

theorem sum_ok {l : List T} {r : T} (e : sumT l = some r) : CallOk c k (.builtin "sum") [.list l] r := fun A s M vs rm B hM d => by
  obtain ⟨v, rfl, d1⟩ := d.one
  obtain ⟨a, items, rfl, h1, h2⟩ := d1.list
  obtain ⟨is, hi, rfl⟩ := Option.map_eq_some_iff.mp e
  obtain ⟨k1, k2⟩ := allInts_at hi h2
  refine wp_grow (call_sum_walkAnyS (wp_iter_list h1.isList fun s₂ e2 st hfp hl => ?_))
  subst e2
  refine ⟨_, _, _, _, _, _, _, fun i => is.getD i 0, rfl, (Walks.list (A := A.in1) rm.1 _ a hl items).toS, st, hfp, fun i v hv => k2 i v (by simpa using hv), fun s' t' hm hs ht => ?_⟩
  have hsz : items.size = is.length := by simpa using k1.symm
  refine ⟨⟨fun b o _ e => kept1 hm.heap b o e, hs, fun i x e => ?_, fun h => ?_, hm.os, ht⟩, ?_⟩
  · rw [show s'.gens = s.gens from hm.gens]; exact e
  · rw [show s'.gens = s.gens from hm.gens]; exact h
  · rw [hsz, preSum_sum]; exact Den.of_int

theorem small63 {n : Nat} (h : n ≤ 16777216) : ¬ ((n : Int) ≥ 2 ^ 63) := by lia
theorem bi_ok {f : Str} {a : List T} {r : T} (h : bi f a = some r) : CallOk c k (biV f) a r := by
  unfold bi at h
  split at h
  · rename_i hf
    obtain rfl := eq_of_beq hf
    obtain ⟨t, rfl, h1⟩ := one_some h
    clear h
    show CallOk c k (.builtin "len") _ r
    cases t <;> (try cases h1) <;> rename_i l <;> obtain ⟨hz, rfl⟩ := of_if h1 <;> clear h1 <;> intro A s M vs rm B hM d <;> obtain ⟨v, rfl, d1⟩ := d.one
    · obtain ⟨t, rfl⟩ := d1.str
      exact PyProof.Rows.len_str (small63 hz) ⟨Ext.trans (Ext.tok _) (Ext.tok _), Den.of_int⟩
    · obtain ⟨a, items, rfl, _, h1, h2⟩ := d1.tup
      have hl : l.length = items.size := h2.length
      rw [hl] at hz ⊢
      obtain ⟨o, ho, hc, n, hd⟩ := h1
      exact PyProof.Rows.len_tuple ⟨o, ho, hc, n, hd⟩ (Int.ofNat_lt.mpr (Nat.lt_of_le_of_lt hz (by decide))) ⟨Ext.trans (Ext.tok _) (Ext.tok _), Den.of_int⟩
    · obtain ⟨a, items, rfl, h1, h2⟩ := d1.list
      have hl : l.length = items.size := h2.length
      rw [hl] at hz ⊢
      exact PyProof.Rows.len_list h1.isList (Int.ofNat_lt.mpr (Nat.lt_of_le_of_lt hz (by decide))) ⟨Ext.trans (Ext.tok _) (Ext.tok _), Den.of_int⟩
  split at h
  · rename_i hf
    obtain rfl := eq_of_beq hf
    obtain ⟨t, rfl, h1⟩ := one_some h
    clear h
    show CallOk c k (.builtin "abs") _ r
    cases t <;> cases h1
    intro A s M vs rm B hM d
    obtain ⟨v, rfl, d1⟩ := d.one
    obtain ⟨t, rfl⟩ := d1.int
    exact wp_grow (call_abs_int fun u tk hs ht => ⟨Ext.toks ht, Den.of_int⟩)
  split at h
  · rename_i hf
    obtain rfl := eq_of_beq hf
    obtain ⟨t, rfl, h1⟩ := one_some h
    clear h
    show CallOk c k (.builtin "ord") _ r
    cases t <;> (try cases h1)
    obtain ⟨hz, rfl⟩ := of_if h1
    intro A s M vs rm B hM d
    obtain ⟨v, rfl, d1⟩ := d.one
    obtain ⟨t, rfl⟩ := d1.str
    exact ord_of_one hz ⟨Ext.tok _, Den.of_int⟩
  split at h
  · rename_i hf
    obtain rfl := eq_of_beq hf
    obtain ⟨t, rfl, h1⟩ := one_some h
    clear h
    show CallOk c k (.builtin "chr") _ r
    cases t <;> (try cases h1)
    obtain ⟨hi, rfl⟩ := of_if h1
    intro A s M vs rm B hM d
    obtain ⟨v, rfl, d1⟩ := d.one
    obtain ⟨t, rfl⟩ := d1.int
    exact chr_of_range hi.1 hi.2 ⟨Ext.tok _, Den.of_str⟩
  split at h
  · rename_i hf
    obtain rfl := eq_of_beq hf
    obtain ⟨t, rfl, h1⟩ := one_some h
    clear h
    show CallOk c k (.type "int") _ r
    cases t <;> (try cases h1)
    rename_i x
    have h2 : (match Float64.decode x with
      | .fin sg m e => some (T.int (Float64.truncOf sg m e))
      | _ => none) = some r := h1
    clear h1
    cases hd : Float64.decode x <;> rw [hd] at h2 <;> cases h2
    intro A s M vs rm B hM d
    obtain ⟨v, rfl, d1⟩ := d.one
    obtain ⟨t, _, rfl⟩ := d1.float
    exact call_int_float hd ⟨Ext.tok _, Den.of_int⟩
  split at h
  · rename_i hf
    obtain rfl := eq_of_beq hf
    obtain ⟨t, rfl, h1⟩ := one_some h
    clear h
    show CallOk c k (.builtin "sum") _ r
    obtain ⟨l, rfl, h⟩ := ofList_some h1
    exact sum_ok h
  split at h
  · rename_i hf
    obtain rfl := eq_of_beq hf
    show CallOk c k (.builtin "max") a r
    rcases some1_some h with ⟨l, rfl, h⟩ | ⟨h2, h⟩
    · exact max_list_ok h
    · exact max_some_ok h h2
  split at h
  · rename_i hf
    obtain rfl := eq_of_beq hf
    show CallOk c k (.builtin "min") a r
    rcases some1_some h with ⟨l, rfl, h⟩ | ⟨h2, h⟩
    · exact min_list_ok h
    · exact min_some_ok h h2
  · cases h
end
end Mine
end

section
set_option autoImplicit false
set_option linter.unusedVariables false
set_option linter.unusedSimpArgs false
namespace Mine
open PySem PySem.Calls PyProof.Rows PySem.SeqAt

/-! items -/
def small62 (i : Int) : Bool := decide (-4611686018427387904 ≤ i) && decide (i < 4611686018427387904)
def nth {α : Type} (l : List α) (i : Int) : Option α := if small62 i then (seqIndex? i l.length).bind (l[·]?) else none
def ixT : T → T → Option T
  | .list l, .int i => nth l i
  | .tup l, .int i => nth l i
  | .str x, .int i => (nth x.cps.toList i).map fun c => .str ⟨#[c]⟩
  | .sdict l, .str k => (l.lookup k).map .int
  | _, _ => none
def notSlice : Expr → Bool
  | .Slice .. => false
  | _ => true
theorem sub_of {e : Expr} (h : notSlice e = true) (o i : Value) : subscripted e false o i = operate [o, i] (getItem o i) := by
  cases e <;> first | rfl | (exact absurd (show false = true from h) (by decide))
theorem small62_le {i : Int} (h : small62 i = true) : -(2 ^ 63) ≤ i ∧ i < 2 ^ 63 := by
  simp only [small62, Bool.and_eq_true, decide_eq_true_eq] at h; lia
theorem nth_some {α : Type} {l : List α} {i : Int} {t : α} (h : nth l i = some t) : small62 i = true ∧ ∃ j, seqIndex? i l.length = some j ∧ l[j]? = some t := by
  unfold nth at h
  split at h
  · rename_i hs
    obtain ⟨j, h1, h2⟩ := Option.bind_eq_some_iff.mp h
    exact ⟨hs, j, h1, h2⟩
  · cases h
theorem seqIndex_cases {i : Int} {n j : Nat} (h : seqIndex? i n = some j) : (0 ≤ i ∧ j = i.toNat) ∨ (i < 0 ∧ -(n : Int) ≤ i ∧ j = (i + n).toNat) := by
  unfold seqIndex? at h
  by_cases hi : i < 0
  · simp only [hi, if_true] at h
    split at h
    · rename_i hc
      simp only [Bool.and_eq_true, decide_eq_true_eq] at hc
      simp only [Option.some.injEq] at h
      right; lia
    · cases h
  · simp only [hi, if_false] at h
    split at h
    · rename_i hc
      simp only [Bool.and_eq_true, decide_eq_true_eq] at hc
      simp only [Option.some.injEq] at h
      left; lia
    · cases h

section
variable {c : Cx} {n : Nat} {ρ : Rho}
theorem wp_getItem {A : Around} {s : Shared} {M : List Addr} {o i r : T} {v v' : Value} (hx : ixT o i = some r) (d : DenB c.w M s.heap o v) (d' : DenB c.w M s.heap i v') :
    wpAny (model c.prog c.w) A (getItem v v') (fun r' s' => Ext s s' ∧ Den c.w M s'.heap r r') NoE s := by
  unfold ixT at hx
  split at hx
  · obtain ⟨a, vs, rfl, h1, h2⟩ := d.list
    obtain ⟨u, rfl⟩ := d'.int
    obtain ⟨hs, j, hj, hr⟩ := nth_some hx
    obtain ⟨x, hx', dx⟩ := h2.get hr
    have hb := small62_le hs
    have hl := h2.length
    rw [hl] at hj
    have hx'' : vs[j]? = some x := by simpa using hx'
    have e : vs.toList.length = vs.size := by simp
    rcases seqIndex_cases hj with ⟨k1, rfl⟩ | ⟨k1, k2, rfl⟩
    · exact wpAny_getItem_list h1.isList k1 hb.2 hx'' ⟨Chg.refl _, dx⟩
    · exact wpAny_getItem_list_neg h1.isList k1 (by lia) hb.1 (by rw [← e]; exact hx'') ⟨Chg.refl _, dx⟩
  · obtain ⟨a, vs, rfl, _, h1, h2⟩ := d.tup
    obtain ⟨u, rfl⟩ := d'.int
    obtain ⟨hs, j, hj, hr⟩ := nth_some hx
    obtain ⟨x, hx', dx⟩ := h2.get hr
    have hb := small62_le hs
    rw [h2.length] at hj
    obtain ⟨o, ho, hc, k, hd⟩ := h1
    exact PyProof.Rows.getItem_tuple ⟨o, ho, hc, k, hd⟩ hb.1 hb.2 (by simpa using hj) (by simpa using hx') ⟨Chg.refl _, dx⟩
  · obtain ⟨q, hq, rfl⟩ := Option.map_eq_some_iff.mp hx
    obtain ⟨t, rfl⟩ := d.str
    obtain ⟨u, rfl⟩ := d'.int
    obtain ⟨hs, j, hj, hr⟩ := nth_some hq
    have hb := small62_le hs
    refine PySem.P.getItem_str (c := q) (by simp; lia) ?_ ⟨Ext.tok _, Den.of_str⟩
    rw [show PySem.Str.length _ = _ from rfl]
    simp only [Array.length_toList] at hj
    show (seqIndex? _ (Array.size _)).bind _ = _
    rw [hj]
    simpa using hr
  · obtain ⟨q, hq, rfl⟩ := Option.map_eq_some_iff.mp hx
    obtain ⟨u, rfl⟩ := d'.str
    rename_i l k
    obtain ⟨a, rfl, _, h0, f, hm, hf⟩ := strMap_of c.prog (show Den c.w M s.heap (.sdict l) v from d)
    rcases hf k with ⟨i, u', h1, h2⟩ | ⟨h1, h2⟩
    · rw [hq] at h2; cases h2
      exact wpAny_getItem_of (knd := PySem.strKind c.prog c.w) (PySem.strKind_is _ _ k u) hm h1 ⟨Ext.tok _, Den.of_int⟩
    · rw [hq] at h2; cases h2
  · cases hx

theorem ixT_type {s : Shared} {M : List Addr} {o i r : T} {v : Value} {w : World} (hx : ixT o i = some r) (d : DenB w M s.heap o v) : ∃ T id, s.TypeIs v T ∧ typeLookup (.type T) "__getitem__" = pure (some (.builtin id)) := by
  unfold ixT at hx
  split at hx
  · obtain ⟨a, vs, rfl, h1, h2⟩ := d.list; exact ⟨_, _, h1.isList.typeIs, slot_list_getitem.lookup⟩
  · obtain ⟨a, vs, rfl, _, h1, h2⟩ := d.tup; exact ⟨_, _, h1.typeIs, PySem.F.slot_tuple_getitem.lookup⟩
  · obtain ⟨t, rfl⟩ := d.str; exact ⟨_, _, typeIs_str _ _ _, PySem.F.slot_str_getitem.lookup⟩
  · rename_i l k
    have d : Den w M s.heap (.sdict l) v := d
    simp only [Den] at d
    obtain ⟨a, es, n, rfl, _, _, ho, _⟩ := d
    exact ⟨_, _, ⟨_, ho, rfl⟩, slot_dict_getitem.lookup⟩
  · cases hx

theorem Ev.ix {v i : Expr} {pos : Pos} {o k r : T} (hv : EvB c n ρ v o) (hi : Ev c n ρ i k) (hs : notSlice i = true) (hx : ixT o k = some r) : Ev c n ρ (.Subscript v i pos) r := .mk fun A s env M₀ O rm R =>
  Subscript_ (hv.go rm R fun ov s₁ x₁ R₁ d₁ => hi.go rm R₁ fun iv s₂ x₂ R₂ d₂ => by
    have d₁' := d₁.keep x₂.all
    obtain ⟨T, id, hT, hl⟩ := ixT_type hx d₁'
    exact tail_any hT hl (wpAny_imp (wp_getItem hx d₁' d₂.borrow) fun r' s' y => ⟨Ext.trans x₁ (Ext.trans x₂ y.1), y.2⟩) (sub_of hs _ _))

/-! slices -/
inductive Part (c : Cx) (n : Nat) (ρ : Rho) : Option Expr → Option Int → Prop
  | no : Part c n ρ none none
  | yes {e : Expr} {i : Int} : Ev c n ρ e (.int i) → Part c n ρ (some e) (some i)
theorem Part.go {e : Option Expr} {p : Option Int} (h : Part c n ρ e p) {A : Around} {env : Env} {M₀ : List Addr} {O : List (Str × Addr)} (rm : Room A n) {s : Shared} {Q : Value → Shared → Prop} (R : Rel c env M₀ O ρ s)
    (k : ∀ (q : Option (Int × Tok)) s', q.map (·.1) = p → Ext s s' → Rel c env M₀ O ρ s' → Q (PySem.partValue q) s') : wpAny (model c.prog c.w) A (evalPart e env) Q NoE s := by
  cases h with
  | no => exact wpAny_pure (k none s rfl (Chg.refl _) R)
  | yes h =>
    exact h.go rm R fun v s' x R' d => by
      obtain ⟨t, rfl⟩ := d.borrow.int
      exact k (some (_, t)) s' rfl x R'
theorem isPart_of (q : Option (Int × Tok)) : IsPart (PySem.partValue q) (q.map (·.1)) := by
  cases q with
  | none => exact .none
  | some p => exact .int _ _

def cut {α : Type} (l : List α) (lo hi : Option Int) : List α := (l.drop (lo.elim 0 (clipAt l.length))).take (hi.elim l.length (clipAt l.length) - lo.elim 0 (clipAt l.length))

theorem EvN.slice {v : Expr} {lo hi : Option Expr} {p pos : Pos} {l : List T} {a b : Option Int} (hv : EvB c n ρ v (.list l)) (ha : Part c n ρ lo a) (hb : Part c n ρ hi b) (hz : l.length ≤ sizeLine) :
    EvN c n ρ (.Subscript v (.Slice lo hi none p) pos) (cut l a b) := .mk fun A s env M₀ O rm R =>
  Subscript_ (hv.go rm R fun ov s₁ x₁ R₁ d₁ => wpAny_Slice (ha.go rm R₁ fun q₂ s₂ e₂ x₂ R₂ => hb.go rm R₂ fun q₃ s₃ e₃ x₃ R₃ => by
    rw [evalPart_none]
    refine wpAny_pure ?_
    obtain ⟨l', vs, rfl, h1, h2⟩ := (d₁.keep (Ext.trans x₂ x₃).all).list
    subst e₂ e₃
    have hlen := h2.length
    have hk := (Ext.push s₃ { cls := .type "slice", data := .fields #[PySem.partValue q₂, PySem.partValue q₃, .none] })
    refine tail_any (Heap.IsList.typeIs (s := { s₃ with heap := _ }) (h1.isList.push _)) slot_list_getitem.lookup
      (wpAny_getItem_list_slice (h1.isList.push _) (Heap.IsSliceOf.new ..) (isPart_of q₂) (isPart_of q₃) .none (by simp) ?_ (by simp at hlen; lia)) (by rfl)
    refine ⟨Ext.trans x₁ (Ext.trans x₂ (Ext.trans x₃ (Ext.trans hk (Ext.push _ _)))), _, _, rfl, ?_, ⟨0, Heap.get?_push_size _ rfl⟩, ?_⟩
    · exact Nat.le_trans x₁.size (Nat.le_trans x₂.size (Nat.le_trans x₃.size hk.size))
    · rw [slicePick_plain]
      simp only [List.toList_toArray]
      have hsz : vs.size = l.length := by simpa using hlen.symm
      unfold cut
      rw [hsz]
      exact ((((h2.drop _).take _).keep hk.all).newer (Nat.le_refl _)).keep (Ext.push _ _).all))

theorem Ev.sliceS {v : Expr} {lo hi : Option Expr} {p pos : Pos} {x : Str} {a b : Option Int} (hv : EvB c n ρ v (.str x)) (ha : Part c n ρ lo a) (hb : Part c n ρ hi b) (hz : x.length ≤ sizeLine) :
    Ev c n ρ (.Subscript v (.Slice lo hi none p) pos) (.str (Txt.slice x a b)) := .mk fun A s env M₀ O rm R =>
  Subscript_ (hv.go rm R fun ov s₁ x₁ R₁ d₁ => wpAny_Slice (ha.go rm R₁ fun q₂ s₂ e₂ x₂ R₂ => hb.go rm R₂ fun q₃ s₃ e₃ x₃ R₃ => by
    rw [evalPart_none]
    refine wpAny_pure ?_
    obtain ⟨t, rfl⟩ := d₁.str
    subst e₂ e₃
    have hk := (Ext.push s₃ { cls := .type "slice", data := .fields #[PySem.partValue q₂, PySem.partValue q₃, .none] })
    refine tail_any (typeIs_str _ _ _) PySem.F.slot_str_getitem.lookup
      (wp_grow (wpAny_getItem_str_slice (l := q₂) (u := q₃) (st := none) ⟨_, Heap.get?_push_size _ rfl, rfl, rfl⟩ rfl
        (post_val_or_str ⟨Nat.le_trans (Txt.slice_le x _ _) hz, fun t' k hs ht => ⟨Ext.trans x₁ (Ext.trans x₂ (Ext.trans x₃ (Ext.trans hk (Ext.toks ht)))), Den.of_str⟩⟩))) (by rfl)))

/-! methods that only read -/
def countT (x : T) : List T → Option Nat
  | [] => some 0
  | y :: ys => match eqv 8 y x, countT x ys with
    | some a, some b => some (if a then b + 1 else b)
    | _, _ => none
theorem countT_at {s : Shared} (B : Bas c s) {M M' : List Addr} {x : T} {vx : Value} (hx : DenB c.w M' s.heap x vx) {A : Around} (hu : A.units + 8 < cLine) :
    ∃ e : Value → Bool, ∀ (ts : List T) (vs : List Value) (r : Nat), countT x ts = some r → DenL c.w M s.heap ts vs → (∀ v ∈ vs, EqAt A s v vx (e v)) ∧ vs.countP e = r := by
  classical
  refine ⟨fun v => decide (∃ t, Den c.w M s.heap t v ∧ eqv 8 t x = some true), ?_⟩
  intro ts
  induction ts with
  | nil => intro vs r e d; simp only [DenL] at d; subst d; simp [countT] at e; subst e; simp
  | cons y ys ih =>
    intro vs r e d
    simp only [DenL] at d
    obtain ⟨v, ws, rfl, k1, k2⟩ := d
    simp only [countT] at e
    cases h1 : eqv 8 y x with
    | none => simp [h1] at e
    | some p =>
      cases h2 : countT x ys with
      | none => simp [h1, h2] at e
      | some q =>
        simp only [h1, h2, Option.some.injEq] at e
        subst e
        obtain ⟨i1, i2⟩ := ih ws q h2 k2
        have hp := eqv_at B 8 y x p A v vx h1 hu k1.borrow hx
        have he : decide (∃ t, Den c.w M s.heap t v ∧ eqv 8 t x = some true) = p := by
          cases p
          · rw [decide_eq_false_iff_not]
            rintro ⟨t, g1, g2⟩
            rw [Den.fn _ _ _ g1 k1, h1] at g2; cases g2
          · rw [decide_eq_true_iff]; exact ⟨y, k1, h1⟩
        refine ⟨fun u hu => ?_, ?_⟩
        · rcases List.mem_cons.mp hu with rfl | hu
          · show EqAt A s _ vx (decide _); rw [he]; exact hp
          · exact i1 u hu
        · rw [List.countP_cons, i2, he]; cases p <;> simp

def strsOf : List T → Option (List Str)
  | [] => some []
  | .str x :: r => (strsOf r).map (x :: ·)
  | _ => none
theorem strsAre {w : World} {M : List Addr} {h : Heap} : ∀ {l : List T} {ys : List Str} {vs : List Value}, strsOf l = some ys → DenL w M h l vs → StrsAre vs ys
  | [], ys, vs, e, d => by simp [strsOf] at e; subst e; simp only [DenL] at d; subst d; exact .nil
  | t :: r, ys, vs, e, d => by
    cases t <;> simp only [strsOf] at e <;> (try cases e)
    obtain ⟨ys', e', rfl⟩ := Option.map_eq_some_iff.mp e
    simp only [DenL, Den] at d
    obtain ⟨v, vs', rfl, ⟨t, rfl⟩, d⟩ := d
    exact .cons _ _ (strsAre e' d)

def meth (m : Str) (o a : T) : Option T :=
  if m == "join" then match o, a with
    | .str x, .list l => (match strsOf l with
      | some ys => if (ys.map (·.length)).sum + ys.length * x.length ≤ 16777216 then some (.str (Txt.join x ys)) else none
      | none => none)
    | _, _ => none
  else if m == "count" then match o, a with
    | .str x, .str y => some (.int (Txt.count x y))
    | .list l, x => match countT x l with
      | some n => some (.int (n : Int))
      | none => none
    | _, _ => none
  else none

def noSuper : Expr → Bool
  | .Call .. => false
  | _ => true
theorem base_of {o : Expr} {m : Str} {env : Env} {whole : Sem Value} (h : noSuper o = true) : attributeBase o m env whole = whole := by
  cases o <;> first | rfl | (exact absurd (show false = true from h) (by decide))

theorem Ev.meth1 {o e : Expr} {m : Str} {apos pos : Pos} {x a r : T} (ho : EvB c n ρ o x) (he : EvB c n ρ e a) (hn : noSuper o = true) (hs : notStar e = true) (hl : (apos.endLine == pos.line) = true) (h : meth m x a = some r) :
    Ev c n ρ (.Call (.Attribute o m apos) [e] [] pos) r := .mk fun A s env M₀ O rm R => by
  refine Call_method1 (base_of hn) (by rw [starEach_cons hs]; rfl) hl (ho.go rm R fun ov s₁ x₁ R₁ d₁ => ?_)
  unfold meth at h
  split at h
  · rename_i hm
    obtain rfl : m = "join" := by simpa using hm
    split at h <;> (try cases h)
    split at h <;> (try cases h)
    split at h <;> cases h
    rename_i ys hy hz
    obtain ⟨t, rfl⟩ := d₁.str
    refine ⟨"str", "str.join", PySem.F.plainAttrs_str, PySem.F.slot_str_join, PySem.F.type_str_join, typeIs_str _ _ _, (fun _ e => nomatch e), ?_⟩
    refine callWith_builtin rfl (evalArgs_plain (spliced_cons (he.go rm R₁ fun v s₂ x₂ R₂ d₂ => spliced_nil ?_)))
    obtain ⟨a, vs, rfl, h1, h2⟩ := d₂.list
    exact wp_grow (join_list h1.isList (strsAre hy h2) hz fun t' k hs ht => ⟨Ext.trans x₁ (Ext.trans x₂ (Ext.toks ht)), Den.of_str⟩)
  split at h
  · rename_i hm
    obtain rfl : m = "count" := by simpa using hm
    split at h <;> (try cases h)
    · obtain ⟨t, rfl⟩ := d₁.str
      exact SB.count (he.go rm R₁ fun v s₂ x₂ R₂ d₂ => by
        obtain ⟨u, rfl⟩ := d₂.str
        exact ⟨_, _, rfl, Ext.trans x₁ (Ext.trans x₂ (Ext.tok _)), Den.of_int⟩)
    · split at h
      · rename_i q hq
        cases h
        obtain ⟨a, vs, rfl, h1, h2⟩ := d₁.list
        obtain ⟨k, ho⟩ := h1
        refine ⟨"list", "list.count", PySem.F.plainAttrs_list, PySem.F.slot_list_count, PySem.F.type_list_count, ⟨_, ho, rfl⟩, (fun _ e => by cases e; exact ⟨_, ho, rfl⟩), ?_⟩
        refine callWith_builtin rfl (evalArgs_plain (spliced_cons (he.go rm R₁ fun v s₂ x₂ R₂ d₂ => spliced_nil ?_)))
        have h2' := h2.keep x₂.all
        obtain ⟨e, he'⟩ := countT_at (M := nOf c env O ++ M₀) R₂.bas d₂ (A := A.in1) (by have := rm.cl; simp; lia)
        obtain ⟨g1, g2⟩ := he' _ _ _ hq h2'
        have hlen := h2'.length
        refine call_meets PySem.F.slot_list_count ⟨_, x₂.all _ _ ho, rfl⟩ PySem.F.entry_list_count (PySem.F.args_list_count_2 _ _) (list_countAt a vs k none #[] v e) ⟨x₂.all _ _ ho, fun y hy => g1 y (by simpa using hy), ?_⟩
        rw [g2]
        exact ⟨Ext.trans x₁ (Ext.trans x₂ (Ext.tok _)), Den.of_int⟩
      · cases h
  · cases h
end
end Mine
end

section
set_option autoImplicit false
set_option linter.unusedVariables false
set_option linter.unusedSimpArgs false
namespace Mine
open PySem PySem.Calls PyProof.Rows PySem.SeqAt

/-- as Chg, the generators apart -/
structure Chh (N : List Addr) (s s' : Shared) : Prop where
  heap : ∀ b o, b ∉ N → s.heap.get? b = some o → s'.heap.get? b = some o
  size : s.heap.objs.size ≤ s'.heap.objs.size
  toks : s.toks ≤ s'.toks
theorem Chg.h {N : List Addr} {s s' : Shared} (x : Chg N s s') : Chh N s s' := ⟨x.heap, x.size, x.toks⟩
theorem Chh.bas {c : Cx} {s s' : Shared} {N : List Addr} (B : Bas c s) (x : Chh N s s') (h : ∀ a ∈ N, c.H.objs.size ≤ a) : Bas c s' :=
  ⟨fun b o e => x.heap b o (fun m => absurd (Heap.lt_size e) (Nat.not_lt.mpr (h b m))) (B.heap b o e), Nat.le_trans B.size x.size, Nat.lt_of_lt_of_le B.toks x.toks, B.lim⟩

mutual
theorem den_re {w : World} {M M' : List Addr} {h h' : Heap} (hM : ∀ a, a ∉ M → a < h.objs.size → a ∉ M') (hk : ∀ b o, b ∉ M → h.get? b = some o → h'.get? b = some o) : ∀ (t : T) (v : Value), Den w M h t v → Den w M' h' t v
  | .none, v, x => by simpa [Den] using x
  | .bool b, v, x => by simpa [Den] using x
  | .int i, v, x => by simpa [Den] using x
  | .float i, v, x => by simpa [Den] using x
  | .str i, v, x => by simpa [Den] using x
  | .tup l, v, x => by
    simp only [Den] at x ⊢
    obtain ⟨a, vs, h1, h2, h3, h4⟩ := x
    exact ⟨a, vs, h1, hM a h2 (let ⟨_, e, _⟩ := h3; Heap.lt_size e), Heap.isTuple_keep h3 (fun o => hk a o h2), denL_re hM hk l _ h4⟩
  | .list l, v, x => by
    simp only [Den] at x ⊢
    obtain ⟨a, vs, h1, h2, h3, h4⟩ := x
    exact ⟨a, vs, h1, hM a h2 (let ⟨_, e⟩ := h3; Heap.lt_size e), h3.at (fun o => hk a o h2), denL_re hM hk l _ h4⟩
  | .sdict l, v, x => by
    simp only [Den] at x ⊢
    obtain ⟨a, es, n, h1, h2, h0, h3, h4⟩ := x
    exact ⟨a, es, n, h1, hM a h2 (Heap.lt_size h3), h0, hk a _ h2 h3, h4⟩
theorem denL_re {w : World} {M M' : List Addr} {h h' : Heap} (hM : ∀ a, a ∉ M → a < h.objs.size → a ∉ M') (hk : ∀ b o, b ∉ M → h.get? b = some o → h'.get? b = some o) : ∀ (ts : List T) (vs : List Value), DenL w M h ts vs → DenL w M' h' ts vs
  | [], vs, x => by simpa [DenL] using x
  | t :: ts, vs, x => by
    simp only [DenL] at x ⊢
    obtain ⟨v, r, h1, h2, h3⟩ := x
    exact ⟨v, r, h1, den_re hM hk t v h2, denL_re hM hk ts r h3⟩
end


theorem Ns_fn {h : Heap} {a : Addr} {m m' : Str → Option Value} (x : h.Ns a m) (y : h.Ns a m') : m = m' := by
  obtain ⟨o, es, ep, e, d, r⟩ := x
  obtain ⟨o', es', ep', e', d', r'⟩ := y
  rw [e] at e'; cases e'
  rw [d] at d'; cases d'
  funext n
  rw [← r.2 n, ← r'.2 n]
section
variable {c : Cx} {env : Env} {M₀ : List Addr} {O : List (Str × Addr)} {ρ : Rho} {s s' : Shared}

theorem Loads.mono {h h' : Heap} {x : Str} {v : Value} (l : Loads env h x v) (h1 : ∀ o, h.get? env.locals = some o → h'.get? env.locals = some o)
    (h2 : ∀ a, (x, a) ∈ env.cells → ∀ o, h.get? a = some o → h'.get? a = some o) : Loads env h' x v := by
  rcases l with ⟨a, m, hn, hm⟩ | ⟨a, q, hc, hv⟩
  · exact .inl ⟨a, m, hn.at' h1, hm⟩
  · obtain ⟨o, ho, hd⟩ := hv
    exact .inr ⟨a, q, hc, o, h2 q (mem_of_lookup hc) o ho, hd⟩

theorem Loads.fn {s₀ : Shared} {h : Heap} {x : Str} {v v' : Value} (R : Rel c env M₀ O ρ s₀) (a : Loads env h x v) (b : Loads env h x v') : v = v' := by
  rcases a with ⟨k, m, hn, hm⟩ | ⟨k, q, hc, o, ho, hd⟩ <;> rcases b with ⟨k', m', hn', hm'⟩ | ⟨k', q', hc', o', ho', hd'⟩
  · rw [Ns_fn hn hn', hm'] at hm; cases hm; rfl
  · rw [k] at k'; rcases k' with e | e <;> cases e
  · rw [k'] at k; rcases k with e | e <;> cases e
  · rw [hc] at hc'; cases hc'; rw [ho] at ho'; cases ho'; rw [hd] at hd'; cases hd'; rfl

theorem mem_nOf_cell {x : Str} {a : Addr} (h : (x, a) ∈ env.cells) (hc : c.cel.contains x = true) : a ∈ nOf c env O :=
  List.mem_cons_of_mem _ (List.mem_append_left _ (mem_ownCells h hc))
theorem Rel.cellIn (R : Rel c env M₀ O ρ s) {x : Str} {a : Addr} (h : (x, a) ∈ env.cells) : a ∈ nOf c env O ∨ a ∈ M₀ := by
  rcases (R.cells x a h).2 with q | q
  · exact .inl (mem_nOf_cell h q)
  · exact .inr q
theorem own_mem {x : Str} {a : Addr} (h : O.lookup x = some a) : a ∈ nOf c env O :=
  List.mem_cons_of_mem _ (List.mem_append_right _ (List.mem_map.mpr ⟨(x, a), mem_of_lookup h, rfl⟩))

/-- what changes at places of the block's surroundings that hold nothing of its own: iterators -/
theorem Rel.step {N : List Addr} (R : Rel c env M₀ O ρ s) (x : Chh N s s') (hN : ∀ a ∈ N, a ∈ M₀ ∧ ∀ y, (y, a) ∉ env.cells) : Rel c env M₀ O ρ s' := by
  have hl : env.locals ∉ N := fun h => R.dis _ (List.mem_cons_self) (hN _ h).1
  have hc : ∀ y a, (y, a) ∈ env.cells → a ∉ N := fun y a e h => (hN a h).2 y e
  have hM : ∀ b, b ∉ nOf c env O ++ M₀ → b ∉ N := fun b hb h => hb (List.mem_append_right _ (hN b h).1)
  exact {
    bas := Chh.bas R.bas x fun a h => (R.hi a (List.mem_append_right _ (hN a h).1)).1
    names := R.names
    kind := R.kind
    glob := R.glob
    blt := R.blt
    nd := R.nd
    hi := fun a ha => ⟨(R.hi a ha).1, Nat.lt_of_lt_of_le (R.hi a ha).2 x.size⟩
    dis := R.dis
    loc := let ⟨m, hm⟩ := R.loc; ⟨m, hm.at' fun o e => x.heap _ o hl e⟩
    cells := fun y a e => let ⟨⟨v, o, ho, hv⟩, h2⟩ := R.cells y a e; ⟨⟨v, o, x.heap a o (hc y a e) ho, hv⟩, h2⟩
    call := R.call
    vars := fun y u e => let ⟨v, h1, h2⟩ := R.vars y u e
      ⟨v, h1.mono (fun o => x.heap _ o hl) (fun a m o => x.heap a o (hc y a m)), h2.mono (fun _ e => e) (fun b o hb => x.heap b o (hM b hb)) fun a e => ⟨e, fun o => x.heap a o fun h => R.dis a (own_mem e) (hN a h).1⟩⟩ }

theorem Rel.sub {ρ' : Rho} (R : Rel c env M₀ O ρ s) (h : ∀ x u, ρ'.lookup x = some u → ρ.lookup x = some u) : Rel c env M₀ O ρ' s :=
  { R with vars := fun x u e => R.vars x u (h x u e) }

def unset (x : Str) (O : List (Str × Addr)) : List (Str × Addr) := O.filter fun p => !(p.1 == x)
theorem unset_lookup {x y : Str} : ∀ {O : List (Str × Addr)}, y ≠ x → (unset x O).lookup y = O.lookup y
  | [], _ => rfl
  | (z, a) :: r, h => by
    have ih := @unset_lookup x y r h
    unfold unset at ih ⊢
    by_cases hz : z = x
    · subst hz
      rw [List.filter_cons_of_neg (by simp), ih, List.lookup_cons, show (y == z) = false by simpa using h]
    · rw [List.filter_cons_of_pos (by simpa using hz), List.lookup_cons, List.lookup_cons, ih]
theorem unset_sub {x : Str} {a : Addr} (h : a ∈ (unset x O).map (·.2)) : a ∈ O.map (·.2) := by
  obtain ⟨p, hp, rfl⟩ := List.mem_map.mp h
  exact List.mem_map.mpr ⟨p, (List.mem_filter.mp hp).1, rfl⟩

/-- the names' table with x anew -/
def put (x : Str) (u : Var) : Rho → Rho
  | [] => [(x, u)]
  | (y, v) :: r => if y == x then (x, u) :: r else (y, v) :: put x u r
theorem put_self (x : Str) (u : Var) : ∀ ρ : Rho, (put x u ρ).lookup x = some u
  | [] => by simp [put]
  | (y, v) :: r => by
    unfold put
    split
    · simp
    · rename_i h
      rw [List.lookup_cons, show (x == y) = false by simp at h; simpa using fun e => h e.symm]
      exact put_self x u r
theorem put_other {x y : Str} (u : Var) (h : y ≠ x) : ∀ ρ : Rho, (put x u ρ).lookup y = ρ.lookup y
  | [] => by simp [put, h]
  | (z, v) :: r => by
    unfold put
    split
    · rename_i hz
      obtain rfl : z = x := by simpa using hz
      rw [List.lookup_cons, List.lookup_cons, show (y == z) = false by simpa using h]
    · rw [List.lookup_cons, List.lookup_cons, put_other u h r]

/-- the block's own addresses behind a store of x -/
def ownPut (x : Str) (u : Var) (v : Value) (O : List (Str × Addr)) : List (Str × Addr) := match u, v with
  | .own _, .ref a => (x, a) :: unset x O
  | _, _ => unset x O

/-- a name of the block can be stored -/
def canStore (c : Cx) (x : Str) : Bool := c.ns.lookup x == some .local || (c.ns.lookup x == some .cell && c.cel.contains x)

/-- the value that is stored: a datum, or a list of the block's own, new -/
def Fit (c : Cx) (env : Env) (M₀ : List Addr) (O : List (Str × Addr)) (lo : Nat) (h : Heap) : Var → Value → Prop
  | .sh t, v => Den c.w (nOf c env O ++ M₀) h t v
  | .own l, v => ∃ a vs, v = .ref a ∧ lo ≤ a ∧ h.PlainList a vs ∧ DenL c.w (a :: (nOf c env O ++ M₀)) h l vs.toList

theorem nOf_unset {x : Str} : ∀ a ∈ nOf c env (unset x O), a ∈ nOf c env O := fun a h => by
  unfold nOf at h ⊢
  rcases List.mem_cons.mp h with rfl | h
  · exact List.mem_cons_self
  · rcases List.mem_append.mp h with h | h
    · exact List.mem_cons_of_mem _ (List.mem_append_left _ h)
    · exact List.mem_cons_of_mem _ (List.mem_append_right _ (unset_sub h))
theorem nd_unset {x : Str} (h : (nOf c env O).Nodup) : (nOf c env (unset x O)).Nodup := by
  refine List.Sublist.nodup ?_ h
  unfold nOf unset
  exact List.Sublist.cons_cons _ (List.Sublist.append (List.Sublist.refl _) ((List.filter_sublist).map _))

theorem nOf_put {x : Str} {u : Var} {v : Value} {lo : Nat} (f : Fit c env M₀ O lo s.heap u v) : ∀ a ∈ nOf c env (ownPut x u v O), a ∈ nOf c env O ∨ (v = .ref a ∧ ∃ l, u = .own l) := fun a h => by
  cases u with
  | sh t => exact .inl (nOf_unset a (by simpa [ownPut] using h))
  | own l =>
    obtain ⟨b, vs, rfl, _⟩ := f
    simp only [ownPut] at h
    unfold nOf at h
    rcases List.mem_cons.mp h with rfl | h
    · exact .inl List.mem_cons_self
    · rcases List.mem_append.mp h with h | h
      · exact .inl (List.mem_cons_of_mem _ (List.mem_append_left _ h))
      · simp only [List.map_cons] at h
        rcases List.mem_cons.mp h with rfl | h
        · exact .inr ⟨rfl, l, rfl⟩
        · exact .inl (List.mem_cons_of_mem _ (List.mem_append_right _ (unset_sub h)))

theorem Rel.put {s₀ : Shared} (R₀ : Rel c env M₀ O ρ s₀) (x₀ : Ext s₀ s) {x : Str} {u : Var} {v : Value} (f : Fit c env M₀ O s₀.heap.objs.size s.heap u v) {h' : Heap} {tk : Nat} {N : List Addr} (hsz : s.heap.objs.size ≤ h'.objs.size) (htk : s.toks ≤ tk)
    (hk : ∀ b o, b ∉ N → s.heap.get? b = some o → h'.get? b = some o) (hN : ∀ a ∈ N, a = env.locals ∨ a ∈ ownCells c env) (hloc : ∃ m, h'.Ns env.locals m) (hcell : ∀ y a, (y, a) ∈ env.cells → ∃ w, h'.IsCell a w)
    (hold : ∀ y w, y ≠ x → Loads env s.heap y w → Loads env h' y w) (hnew : Loads env h' x v) : Rel c env M₀ (ownPut x u v O) (put x u ρ) { s with heap := h', toks := tk } := by
  have R := R₀.ext x₀
  have hNO : ∀ a ∈ N, a ∈ nOf c env O := fun a h => by
    rcases hN a h with rfl | h
    · exact List.mem_cons_self
    · exact List.mem_cons_of_mem _ (List.mem_append_left _ h)
  have hNM : ∀ a ∈ N, a ∈ nOf c env O ++ M₀ := fun a h => List.mem_append_left _ (hNO a h)
  have hown : ∀ a ∈ O.map (·.2), a ∉ N := fun a ha h => by
    have nd := R.nd
    unfold nOf at nd
    rw [List.nodup_cons, List.nodup_append] at nd
    rcases hN a h with rfl | h
    · exact nd.1 (List.mem_append_right _ ha)
    · exact nd.2.2.2 a h a ha rfl
  have hm : ∀ b, b ∉ nOf c env O ++ M₀ → b ∉ N := fun b hb h => hb (hNM b h)
  have hsub : ∀ a ∈ nOf c env (ownPut x u v O) ++ M₀, a ∈ nOf c env O ++ M₀ ∨ (v = .ref a ∧ ∃ l, u = .own l) := fun a ha => by
    rcases List.mem_append.mp ha with ha | ha
    · exact (nOf_put f a ha).imp (fun h => List.mem_append_left _ h) id
    · exact .inl (List.mem_append_right _ ha)
  have hnewA : ∀ a, v = .ref a → (∃ l, u = .own l) → a ∉ nOf c env O ++ M₀ ∧ c.H.objs.size ≤ a ∧ a < s.heap.objs.size := fun a e ⟨l, hu⟩ => by
    subst hu e
    obtain ⟨b, vs, e, h1, ⟨k, h3⟩, _⟩ := f
    cases e
    exact ⟨R₀.new h1, Nat.le_trans R₀.bas.size h1, Heap.lt_size h3⟩
  refine ⟨⟨fun b o e => hk b o (fun h => absurd (Heap.lt_size e) (Nat.not_lt.mpr (R.hi b (hNM b h)).1)) (R.bas.heap b o e), Nat.le_trans R.bas.size hsz, Nat.lt_of_lt_of_le R.bas.toks htk, R.bas.lim⟩,
    R.names, R.kind, R.glob, R.blt, ?_, ?_, ?_, hloc, fun y a e => ⟨hcell y a e, (R.cells y a e).2⟩, R.call, ?_⟩
  · cases u with
    | sh t => simpa [ownPut] using nd_unset R.nd
    | own l =>
      obtain ⟨b, vs, rfl, h1, _⟩ := f
      have nd := nd_unset (x := x) R.nd
      have hb : b ∉ nOf c env (unset x O) := fun h => R₀.new h1 (List.mem_append_left _ (nOf_unset b h))
      simp only [ownPut]
      unfold nOf at nd hb ⊢
      simp only [List.map_cons]
      rw [List.nodup_cons, List.nodup_append] at nd ⊢
      rw [List.mem_cons, List.mem_append, not_or, not_or] at hb
      refine ⟨?_, nd.2.1, List.nodup_cons.mpr ⟨hb.2.2, nd.2.2.1⟩, ?_⟩
      · rw [List.mem_append, List.mem_cons, not_or, not_or]
        rw [List.mem_append, not_or] at nd
        exact ⟨nd.1.1, fun e => hb.1 e.symm, nd.1.2⟩
      · intro p hp q hq
        rcases List.mem_cons.mp hq with rfl | hq
        · exact fun e => hb.2.1 (e ▸ hp)
        · exact nd.2.2.2 p hp q hq
  · intro a ha
    rcases hsub a ha with h | ⟨h1, h2⟩
    · exact ⟨(R.hi a h).1, Nat.lt_of_lt_of_le (R.hi a h).2 hsz⟩
    · have := hnewA a h1 h2; exact ⟨this.2.1, Nat.lt_of_lt_of_le this.2.2 hsz⟩
  · intro a ha hM
    rcases nOf_put f a ha with h | ⟨h1, h2⟩
    · exact R.dis a h hM
    · exact (hnewA a h1 h2).1 (List.mem_append_right _ hM)
  · intro y w e
    by_cases hy : y = x
    · subst hy
      rw [put_self] at e; cases e
      refine ⟨v, hnew, ?_⟩
      cases u with
      | sh t =>
        have hd : Den c.w (nOf c env O ++ M₀) h' t v := Den.mono (fun _ e => e) (fun b o hb => hk b o (hm b hb)) t v f
        refine Den.mono (fun b hb h => ?_) (fun _ _ _ e => e) t v hd
        rcases hsub b h with h | ⟨_, l, h2⟩
        · exact hb h
        · cases h2
      | own l =>
        obtain ⟨b, vs, rfl, h1, h3, h4⟩ := f
        refine ⟨b, vs, rfl, by simp [ownPut], h3.at fun o => hk b o (hm b (R₀.new h1)), ?_⟩
        refine DenL.mono (M := b :: (nOf c env O ++ M₀)) (fun q hq h => hq ?_) (fun p o hp => hk p o (hm p fun h => hp (List.mem_cons_of_mem _ h))) l _ h4
        rcases hsub q h with h | ⟨h, _⟩
        · exact List.mem_cons_of_mem _ h
        · cases h; exact List.mem_cons_self
    · rw [put_other u hy] at e
      obtain ⟨w', g1, g2⟩ := R.vars y w e
      refine ⟨w', hold y w' hy g1, ?_⟩
      have hM' : ∀ b, b ∉ nOf c env O ++ M₀ → b < s₀.heap.objs.size → b ∉ nOf c env (ownPut x u v O) ++ M₀ := fun b hb hlt h => by
        rcases hsub b h with h | ⟨h1, l, h2⟩
        · exact hb h
        · subst h1 h2
          obtain ⟨b', vs, e, h1, _⟩ := f
          cases e
          exact absurd hlt (Nat.not_lt.mpr h1)
      have hkk : ∀ b o, b ∉ nOf c env (ownPut x u v O) ++ M₀ → b ∉ N → s₀.heap.get? b = some o → h'.get? b = some o := fun b o _ hb e => hk b o hb (x₀.all b o e)
      obtain ⟨w'', q1, q2⟩ := R₀.vars y w e
      have hww : w'' = w' := Loads.fn R₀ (q1.keep x₀.all) g1
      subst hww
      cases w with
      | sh t =>
        have q2 : Den c.w (nOf c env O ++ M₀) s₀.heap t w'' := q2
        have hb1 : Den c.w (nOf c env O ++ M₀) s.heap t w'' := q2.keep x₀.all
        have hb2 : Den c.w (nOf c env O ++ M₀) h' t w'' := Den.mono (fun _ e => e) (fun b o hb => hk b o (hm b hb)) t w'' hb1
        exact den_re hM' (fun b o hb => fun e => hk b o (hm b hb) (x₀.all b o e)) t w'' q2
      | own l =>
        obtain ⟨b, vs, rfl, k1, k2, k3⟩ := q2
        have hbO : b ∈ O.map (·.2) := List.mem_map.mpr ⟨(y, b), mem_of_lookup k1, rfl⟩
        refine ⟨b, vs, rfl, ?_, k2.at fun o e => hk b o (hown b hbO) (x₀.all b o e), denL_re hM' (fun b o hb => fun e => hk b o (hm b hb) (x₀.all b o e)) l _ k3⟩
        cases u with
        | sh t => simpa [ownPut] using (unset_lookup hy).trans k1
        | own l' =>
          obtain ⟨b', vs', rfl, _⟩ := f
          simp only [ownPut]
          rw [List.lookup_cons, show (y == x) = false by simpa using hy]
          exact (unset_lookup hy).trans k1

/-- storing a name of the block -/
theorem wp_store {s₀ : Shared} (R₀ : Rel c env M₀ O ρ s₀) (x₀ : Ext s₀ s) {x : Str} {u : Var} {v : Value} (f : Fit c env M₀ O s₀.heap.objs.size s.heap u v) (hc : canStore c x = true) {A : Around} {Q : Unit → Shared → Prop} {E : Value → Shared → Prop}
    (k : ∀ s', Chg (nOf c env O) s s' → Rel c env M₀ (ownPut x u v O) (put x u ρ) s' → Q () s') : wpAny (model c.prog c.w) A (storeName env x v) Q E s := by
  have R := R₀.ext x₀
  obtain ⟨m, hm⟩ := R.loc
  unfold canStore at hc
  simp only [Bool.or_eq_true, Bool.and_eq_true, beq_iff_eq] at hc
  rcases hc with hl | ⟨hl, hcel⟩
  · refine wpAny_storeName_local ((R.kindOf x).trans hl) hm (fun h' hn hs => ?_) (by rw [R.kind]; rfl)
    have hk : ∀ b o, b ≠ env.locals → s.heap.get? b = some o → h'.get? b = some o := fun b o hb e => (hs.2 b hb).trans e
    have hne : ∀ y a, (y, a) ∈ env.cells → a ≠ env.locals := fun y a e h => by
      subst h
      rcases (R.cells y _ e).2 with q | q
      · have nd := R.nd
        unfold nOf at nd
        exact (List.nodup_cons.mp nd).1 (List.mem_append_left _ (mem_ownCells e q))
      · exact R.dis _ List.mem_cons_self q
    refine k _ ⟨fun b o hb e => hk b o (fun h => hb (h ▸ List.mem_cons_self)) e, Nat.le_of_eq hs.1.symm, fun _ _ e => e, id, rfl, Nat.le_succ _⟩ ?_
    refine Rel.put R₀ x₀ f (N := [env.locals]) (Nat.le_of_eq hs.1.symm) (Nat.le_succ _) (fun b o hb e => hk b o (by simpa using hb) e) (fun a h => .inl (by simpa using h)) ⟨_, hn⟩ (fun y a e => ?_) (fun y w hy l => ?_) ?_
    · obtain ⟨⟨w, o, ho, hd⟩, _⟩ := R.cells y a e
      exact ⟨w, o, hk a o (hne y a e) ho, hd⟩
    · rcases l with ⟨a, m', hn', hm'⟩ | ⟨a, q, hq, o, ho, hd⟩
      · have : m' = m := Ns_fn hn' hm
        subst this
        exact .inl ⟨a, _, hn, by simp [hy, hm']⟩
      · exact .inr ⟨a, q, hq, o, hk q o (hne y q (mem_of_lookup hq)) ho, hd⟩
    · exact .inl ⟨(R.kindOf x).trans hl, _, hn, by simp⟩
  · obtain ⟨a, ha⟩ := R.call x (.inl hl)
    obtain ⟨⟨v₀, hv₀⟩, _⟩ := R.cells x a (mem_of_lookup ha)
    have hao : a ∈ ownCells c env := mem_ownCells (mem_of_lookup ha) hcel
    refine wpAny_storeName_cell R.kind ((R.kindOf x).trans hl) ha hv₀ fun h' hn hs => ?_
    have hk : ∀ b o, b ≠ a → s.heap.get? b = some o → h'.get? b = some o := fun b o hb e => (hs.2 b hb).trans e
    have haL : env.locals ≠ a := fun h => by
      have nd := R.nd
      unfold nOf at nd
      exact (List.nodup_cons.mp nd).1 (List.mem_append_left _ (h ▸ hao))
    have hother : ∀ y b, env.cells.lookup y = some b → y ≠ x → b ≠ a := fun y b hy hne h => by
      subst h
      rcases (R.cells y _ (mem_of_lookup hy)).2 with q | q
      · have nd := R.nd
        unfold nOf at nd
        have nd2 := (List.nodup_append.mp (List.nodup_cons.mp nd).2).1
        unfold ownCells at nd2
        have key : ∀ (l : List (Str × Addr)), (l.map (·.2)).Nodup → (y, b) ∈ l → (x, b) ∈ l → y = x := by
          intro l
          induction l with
          | nil => intro _ h; cases h
          | cons p r ih =>
            intro hnd h1 h2
            rw [List.map_cons, List.nodup_cons] at hnd
            rcases List.mem_cons.mp h1 with e1 | h1 <;> rcases List.mem_cons.mp h2 with e2 | h2
            · rw [← e2] at e1; exact (Prod.mk.inj e1).1
            · exact absurd (List.mem_map.mpr ⟨_, h2, by rw [← e1]⟩) hnd.1
            · exact absurd (List.mem_map.mpr ⟨_, h1, by rw [← e2]⟩) hnd.1
            · exact ih hnd.2 h1 h2
        exact hne (key _ nd2 (List.mem_filter.mpr ⟨mem_of_lookup hy, q⟩) (List.mem_filter.mpr ⟨mem_of_lookup ha, hcel⟩))
      · exact R.dis _ (List.mem_cons_of_mem _ (List.mem_append_left _ hao)) q
    have hmem : a ∈ nOf c env O := List.mem_cons_of_mem _ (List.mem_append_left _ hao)
    refine k _ ⟨fun b o hb e => hk b o (fun h => hb (h ▸ hmem)) e, Nat.le_of_eq hs.1.symm, fun _ _ e => e, id, rfl, Nat.le_refl _⟩ ?_
    refine Rel.put R₀ x₀ f (N := [a]) (Nat.le_of_eq hs.1.symm) (Nat.le_refl _) (fun b o hb e => hk b o (by simpa using hb) e) (fun b h => .inr (by simp at h; subst h; exact hao)) ⟨m, hm.at' fun o e => hk _ o haL e⟩ (fun y b e => ?_) (fun y w hy l => ?_) ?_
    · by_cases hb : b = a
      · subst hb; exact ⟨_, hn⟩
      · obtain ⟨⟨w, o, ho, hd⟩, _⟩ := R.cells y b e
        exact ⟨w, o, hk b o hb ho, hd⟩
    · rcases l with ⟨b, m', hn', hm'⟩ | ⟨b, q, hq, o, ho, hd⟩
      · exact .inl ⟨b, m', hn'.at' fun o e => hk _ o haL e, hm'⟩
      · exact .inr ⟨b, q, hq, o, hk q o (hother y q hq hy) ho, hd⟩
    · exact .inr ⟨.inl ((R.kindOf x).trans hl), a, ha, hn⟩
end
end Mine
end

section
set_option autoImplicit false
set_option linter.unusedVariables false
set_option linter.unusedSimpArgs false
namespace Mine
open PySem PySem.Calls PyProof.Rows PySem.SeqAt

/-- an iterator that still has the items l from its place i on -/
structure Walk (c : Cx) (A : Around) (it : Addr) (fp : List Addr) (l : List T) (P : Addr → Prop) (St : Nat → Shared → Prop) : Prop where
  self : it ∈ fp
  frame : ∀ i s s' (N : List Addr), St i s → Chh N s s' → (∀ a ∈ N, P a) → (∀ b ∈ fp, b ∉ N) → St i s'
  item : ∀ i t s (Q : Option Value → Shared → Prop) (E : Value → Shared → Prop), l[i]? = some t → St i s →
    (∀ v s', Chg [it] s s' → St (i + 1) s' → (∀ M', (∀ a ∈ M', P a) → Den c.w M' s'.heap t v) → Q (some v) s') → wpAny (model c.prog c.w) A (pyNext (.ref it)) Q E s
  done : ∀ s (Q : Option Value → Shared → Prop) (E : Value → Shared → Prop), St l.length s → (∀ s', Chg [it] s s' → Q none s') → wpAny (model c.prog c.w) A (pyNext (.ref it)) Q E s
  iter : ∀ i s (Q : Value → Shared → Prop) (E : Value → Shared → Prop), St i s → Q (.ref it) s → wpAny (model c.prog c.w) A (pyIter (.ref it)) Q E s
  owned : ∀ i s target v (Q : Unit → Shared → Prop) (E : Value → Shared → Prop), St i s → Q () s → wpAny (model c.prog c.w) A (letOwnedTupleGo target (.ref it) v) Q E s

theorem wp_owned {c : Cx} {A : Around} {it : Addr} {s : Shared} {o : Obj} {ty : String} {target : Expr} {v : Value} {Q : Unit → Shared → Prop} {E : Value → Shared → Prop} (ho : s.heap.get? it = some o) (hc : o.cls = .type ty)
    (ht : (["enumerate", "zip", "dict_itemiterator", "dict_reverseitemiterator", "odict_iterator", "itertools.zip_longest", "itertools.pairwise"] : List String).contains ty = false) (h : Q () s) :
    wpAny (model c.prog c.w) A (letOwnedTupleGo target (.ref it) v) Q E s := by
  have key : wpAny (model c.prog c.w) A (do
    let (.ref r, .ref a) := (Value.ref it, v) | return
    let o ← load r
    match o.cls, o.data with
    | .type n, .fields vs =>
      if ["enumerate", "zip", "dict_itemiterator", "dict_reverseitemiterator", "odict_iterator", "itertools.zip_longest", "itertools.pairwise"].contains n && vs[0]? == some (rawInt a) then
        rule "for.unpacks-the-owned-tuple"
        updateField r 0 .none
    | _, _ => pure ()) Q E s := by
    cases v <;> (try exact wpAny_pure h)
    refine wpAny_bind (wpAny_load ho ?_)
    rw [hc]
    split
    · rename_i n vs h1 h2
      cases h1
      rw [ht]
      simp only [Bool.false_and, Bool.false_eq_true, if_false]
      exact wpAny_pure h
    · exact wpAny_pure h
  cases target <;> first | exact key | exact wpAny_pure h

theorem sb_chg {it : Addr} {s : Shared} {h' : Heap} {tk : Nat} (hs : Heap.SameBut it s.heap h') (ht : s.toks ≤ tk) : Chg [it] s { s with heap := h', toks := tk } :=
  ⟨fun b o hb e => (hs.2 b (by simpa using hb)).trans e, Nat.le_of_eq hs.1.symm, fun _ _ e => e, id, rfl, ht⟩

/-- what has stood since s₀, but for what P lets change -/
def Stood (P : Addr → Prop) (s₀ s : Shared) : Prop := ∀ b o, ¬ P b → s₀.heap.get? b = some o → s.heap.get? b = some o
theorem Stood.step {P : Addr → Prop} {s₀ s s' : Shared} {N : List Addr} (x : Stood P s₀ s) (y : Chh N s s') (h : ∀ a ∈ N, P a) : Stood P s₀ s' := fun b o hb e => y.heap b o (fun m => hb (h b m)) (x b o hb e)

theorem den_stood {w : World} {M : List Addr} {s₀ s : Shared} (x : Stood (fun a => a ∈ M ∨ s₀.heap.objs.size ≤ a) s₀ s) {t : T} {v : Value} (d : Den w M s₀.heap t v) {M' : List Addr} (h : ∀ a ∈ M', a ∈ M ∨ s₀.heap.objs.size ≤ a) : Den w M' s.heap t v :=
  den_re (fun a ha hl hm => (h a hm).elim ha fun q => absurd hl (Nat.not_lt.mpr q)) (fun b o hb e => x b o (fun q => q.elim hb fun q => absurd (Heap.lt_size e) (Nat.not_lt.mpr q)) e) t v d

theorem Walk.list {c : Cx} {A : Around} (hh : A.handled = none) {s₀ : Shared} {M : List Addr} {l : List T} {vs : Array Value} (d : DenL c.w M s₀.heap l vs.toList) {it ax : Addr} (hne : ax ≠ it) (hit : s₀.heap.objs.size ≤ it) :
    Walk c A it [it, ax] l (fun a => a ∈ M ∨ s₀.heap.objs.size ≤ a) (fun i s => s.heap.IsListIter it ax i ∧ s.heap.IsList ax vs ∧ Stood (fun a => a ∈ M ∨ s₀.heap.objs.size ≤ a) s₀ s) where
  self := by simp
  frame := fun i s s' N st x hP hN => ⟨st.1.at fun o e => x.heap _ o (hN it (by simp)) e, st.2.1.at fun o e => x.heap _ o (hN ax (by simp)) e, st.2.2.step x hP⟩
  item := fun i t s Q E hi st k => by
    obtain ⟨v, hv, dv⟩ := d.get hi
    refine wpAny_pyNext_list_item st.1 st.2.1 (x := v) (by simpa using hv) fun h' hit' hs' => ?_
    have x : Chg [it] s { s with heap := h' } := sb_chg hs' (Nat.le_refl _)
    have st' := st.2.2.step x.h (fun a ha => .inr (by simp at ha; subst ha; exact hit))
    exact k v _ x ⟨hit', st.2.1.extBut hs'.extBut hne, st'⟩ fun M' hM' => den_stood st' dv hM'
  done := fun s Q E st k => wp_grow (wpAny_pyNext_list_end hh st.1 st.2.1 (by have := d.length; simp only [Array.length_toList] at this; exact Array.getElem?_eq_none (by rw [this]; exact Nat.le_refl _)) fun h' he' hs ht => k _ ⟨fun b o hb e => he' b o (by simpa using hb) e, hs, fun _ _ e => e, id, rfl, Nat.le_refl _⟩)
  iter := fun i s Q E st k => wpAny_pyIter_listiter st.1 k
  owned := fun i s target v Q E st k => let ⟨o, ho, hc, _⟩ := st.1; wp_owned ho hc (by decide) k

theorem Walk.tuple {c : Cx} {A : Around} (hh : A.handled = none) {s₀ : Shared} {M : List Addr} {l : List T} {vs : Array Value} (d : DenL c.w M s₀.heap l vs.toList) {it ax : Addr} (hne : ax ≠ it) (hit : s₀.heap.objs.size ≤ it) :
    Walk c A it [it, ax] l (fun a => a ∈ M ∨ s₀.heap.objs.size ≤ a) (fun i s => s.heap.IsTupleIter it ax i ∧ s.heap.IsTuple ax vs ∧ Stood (fun a => a ∈ M ∨ s₀.heap.objs.size ≤ a) s₀ s) where
  self := by simp
  frame := fun i s s' N st x hP hN => ⟨st.1.at fun o e => x.heap _ o (hN it (by simp)) e, st.2.1.at fun o e => x.heap _ o (hN ax (by simp)) e, st.2.2.step x hP⟩
  item := fun i t s Q E hi st k => by
    obtain ⟨v, hv, dv⟩ := d.get hi
    refine wpAny_pyNext_tuple_item st.1 st.2.1 (x := v) (by simpa using hv) fun h' hit' hs' => ?_
    have x : Chg [it] s { s with heap := h' } := sb_chg hs' (Nat.le_refl _)
    have st' := st.2.2.step x.h (fun a ha => .inr (by simp at ha; subst ha; exact hit))
    exact k v _ x ⟨hit', st.2.1.extBut hs'.extBut hne, st'⟩ fun M' hM' => den_stood st' dv hM'
  done := fun s Q E st k => wp_grow (wpAny_pyNext_tuple_end hh st.1 st.2.1 (by have := d.length; simp only [Array.length_toList] at this; exact Array.getElem?_eq_none (by rw [this]; exact Nat.le_refl _)) fun h' he' hs ht => k _ ⟨fun b o hb e => he' b o (by simpa using hb) e, hs, fun _ _ e => e, id, rfl, Nat.le_refl _⟩)
  iter := fun i s Q E st k => wpAny_pyIter_tupleiter st.1 k
  owned := fun i s target v Q E st k => let ⟨o, ho, hc, _⟩ := st.1; wp_owned ho hc (by decide) k

def rangeL (a step : Int) : Nat → List T
  | 0 => []
  | n + 1 => .int a :: rangeL (a + step) step n
theorem rangeL_len (a st : Int) : ∀ n, (rangeL a st n).length = n
  | 0 => rfl
  | n + 1 => by simp [rangeL, rangeL_len (a + st) st n]
theorem rangeL_get (st : Int) : ∀ (n : Nat) (a : Int) (i : Nat) (t : T), (rangeL a st n)[i]? = some t → t = .int (a + i * st) ∧ i < n
  | 0, a, i, t, h => by simp [rangeL] at h
  | n + 1, a, 0, t, h => by simp [rangeL] at h; simp [h]
  | n + 1, a, i + 1, t, h => by
    simp only [rangeL, List.getElem?_cons_succ] at h
    obtain ⟨h1, h2⟩ := rangeL_get st n (a + st) i t h
    refine ⟨?_, by lia⟩
    rw [h1]; congr 1; push_cast; rw [Int.add_mul]; lia

theorem Walk.range {c : Cx} {A : Around} (hh : A.handled = none) {P : Addr → Prop} {it : Addr} (a st : Int) (n : Nat) :
    Walk c A it [it] (rangeL a st n) P (fun i s => IsRangeIter s.heap it (a + i * st) ((n : Int) - i) st) where
  self := by simp
  frame := fun i s s' N h x hP hN => x.heap _ _ (hN it (by simp)) h
  item := fun i t s Q E hi h k => by
    obtain ⟨rfl, hlt⟩ := rangeL_get st n a i t hi
    refine wpAny_pyNext_range_item h (by lia) fun h' hit' hs' => ?_
    refine k _ _ (sb_chg hs' (Nat.le_succ _)) ?_ fun M' hM' => Den.of_int
    have e1 : a + (i : Int) * st + st = a + ((i + 1 : Nat) : Int) * st := by push_cast; rw [Int.add_mul]; lia
    have e2 : (n : Int) - i - 1 = (n : Int) - ((i + 1 : Nat) : Int) := by push_cast; lia
    rw [e1, e2] at hit'
    exact hit'
  done := fun s Q E h k => by
    rw [rangeL_len] at h
    exact wp_grow (wpAny_pyNext_range_end hh h (by lia) fun h' he' hs ht => k _ ⟨fun b o hb e => he' b o (by simpa using hb) e, hs, fun _ _ e => e, id, rfl, Nat.le_refl _⟩)
  iter := fun i s Q E h k => wpAny_pyIter_rangeiter h k
  owned := fun i s target v Q E h k => wp_owned h rfl (by decide) k

def charsL (x : Str) : List T := x.cps.toList.map fun q => .str ⟨#[q]⟩

theorem Walk.ascii {c : Cx} {A : Around} (hh : A.handled = none) {P : Addr → Prop} {it : Addr} (x : Str) (t : Tok) :
    Walk c A it [it] (charsL x) P (fun i s => s.heap.IsStrIter it "str_ascii_iterator" x t i) where
  self := by simp
  frame := fun i s s' N h y hP hN => let ⟨o, ho, r⟩ := h; ⟨o, y.heap _ _ (hN it (by simp)) ho, r⟩
  item := fun i u s Q E hi h k => by
    simp only [charsL, List.getElem?_map, Option.map_eq_some_iff] at hi
    obtain ⟨q, hq, rfl⟩ := hi
    exact wpAny_pyNext_ascii_item h (by simpa using hq) fun h' hit' hs' => k _ _ (sb_chg hs' (Nat.le_succ _)) hit' fun M' hM' => Den.of_str
  done := fun s Q E h k => by
    simp only [charsL, List.length_map, Array.length_toList] at h
    exact wp_grow (wpAny_pyNext_ascii_end hh h (by simp) fun h' he' hs ht => k _ ⟨fun b o hb e => he' b o (by simpa using hb) e, hs, fun _ _ e => e, id, rfl, Nat.le_refl _⟩)
  iter := fun i s Q E h k => wpAny_pyIter_striter_ascii h k
  owned := fun i s target v Q E h k => let ⟨o, ho, hc, _⟩ := h; wp_owned ho hc (by decide) k
theorem Walk.wide {c : Cx} {A : Around} (hh : A.handled = none) {P : Addr → Prop} {it : Addr} (x : Str) (t : Tok) :
    Walk c A it [it] (charsL x) P (fun i s => s.heap.IsStrIter it "str_iterator" x t i) where
  self := by simp
  frame := fun i s s' N h y hP hN => let ⟨o, ho, r⟩ := h; ⟨o, y.heap _ _ (hN it (by simp)) ho, r⟩
  item := fun i u s Q E hi h k => by
    simp only [charsL, List.getElem?_map, Option.map_eq_some_iff] at hi
    obtain ⟨q, hq, rfl⟩ := hi
    exact wpAny_pyNext_wide_item h (by simpa using hq) fun h' hit' hs' => k _ _ (sb_chg hs' (Nat.le_succ _)) hit' fun M' hM' => Den.of_str
  done := fun s Q E h k => by
    simp only [charsL, List.length_map, Array.length_toList] at h
    exact wp_grow (wpAny_pyNext_wide_end hh h (by simp) fun h' he' hs ht => k _ ⟨fun b o hb e => he' b o (by simpa using hb) e, hs, fun _ _ e => e, id, rfl, Nat.le_refl _⟩)
  iter := fun i s Q E h k => wpAny_pyIter_striter_wide h k
  owned := fun i s target v Q E h k => let ⟨o, ho, hc, _⟩ := h; wp_owned ho hc (by decide) k

/-- an iterator at its start, over the items l; fz: what it reads is none of the block's own -/
def Iter (c : Cx) (A : Around) (env : Env) (M₀ : List Addr) (O : List (Str × Addr)) (lo : Nat) (fz : Bool) (l : List T) (iv : Value) (s : Shared) : Prop :=
  ∃ it fp k St, iv = .ref it ∧ lo ≤ k ∧ k ≤ it ∧ it < s.heap.objs.size ∧ (∀ b ∈ fp, b < s.heap.objs.size) ∧ (fz = true → ∀ b ∈ fp, b ∉ nOf c env O ++ M₀) ∧
    Walk c A it fp l (fun a => a ∈ nOf c env O ++ M₀ ∨ k ≤ a) St ∧ St 0 s

/-- e yields the items l when it is gone through -/
structure EvI (c : Cx) (n : Nat) (ρ : Rho) (fz : Bool) (e : Expr) (l : List T) : Prop where
  run : ∀ A s env M₀ O, Room A n → Rel c env M₀ O ρ s →
  wpAny (model c.prog c.w) A (eval e env) (fun x s₁ => Ext s s₁ ∧ wpAny (model c.prog c.w) A (pyIter x) (fun iv s₂ => Ext s s₂ ∧ Iter c A env M₀ O s.heap.objs.size fz l iv s₂) NoE s₁) NoE s

section
variable {c : Cx} {n : Nat} {ρ : Rho}
theorem iter_list {A : Around} {s s₁ : Shared} {env : Env} {M₀ : List Addr} {O : List (Str × Addr)} (rm : Room A n) (R : Rel c env M₀ O ρ s) (x : Ext s s₁) {l : List T} {a : Addr} {vs : Array Value} {fz : Bool} (h1 : s₁.heap.PlainList a vs) (h2 : DenL c.w (nOf c env O ++ M₀) s₁.heap l vs.toList)
    (hz : fz = true → a ∉ nOf c env O ++ M₀) : wpAny (model c.prog c.w) A (pyIter (.ref a)) (fun iv s₂ => Ext s s₂ ∧ Iter c A env M₀ O s.heap.objs.size fz l iv s₂) NoE s₁ := by
  refine wp_iter_list h1.isList fun s₂ e st hfp hl => ?_
  subst e
  refine ⟨Ext.trans x (Ext.push _ _), _, [s₁.heap.objs.size, a], s₁.heap.objs.size, _, rfl, x.size, Nat.le_refl _, hfp _ (by simp), hfp, fun hf b hb => ?_, Walk.list rm.1 h2 hl (Nat.le_refl _), st.1, st.2, fun b o _ e => Heap.get?_push_of_some _ e⟩
  simp only [List.mem_cons, List.not_mem_nil, or_false] at hb
  rcases hb with rfl | rfl
  · exact (R.ext x).new (Nat.le_refl _)
  · exact hz hf
theorem EvI.list {e : Expr} {l : List T} (h : EvB c n ρ e (.list l)) : EvI c n ρ false e l := .mk fun A s env M₀ O rm R =>
  h.go rm R fun v s₁ x₁ R₁ d₁ => ⟨x₁, by
    obtain ⟨a, vs, rfl, h1, h2⟩ := d₁.list
    exact iter_list rm R x₁ h1 h2 (by simp)⟩
theorem EvI.listF {e : Expr} {l : List T} (h : Ev c n ρ e (.list l)) : EvI c n ρ true e l := .mk fun A s env M₀ O rm R =>
  h.go rm R fun v s₁ x₁ R₁ d₁ => ⟨x₁, by
    simp only [Den] at d₁
    obtain ⟨a, vs, rfl, h0, h1, h2⟩ := d₁
    exact iter_list rm R x₁ h1 h2 fun _ => h0⟩
theorem EvI.tup {e : Expr} {l : List T} {fz : Bool} (h : EvB c n ρ e (.tup l)) : EvI c n ρ fz e l := .mk fun A s env M₀ O rm R =>
  h.go rm R fun v s₁ x₁ R₁ d₁ => ⟨x₁, by
    obtain ⟨a, vs, rfl, h0, h1, h2⟩ := d₁.tup
    refine wp_iter_tuple h1 fun s₂ e st hfp hl => ?_
    subst e
    refine ⟨Ext.trans x₁ (Ext.push _ _), _, [s₁.heap.objs.size, a], s₁.heap.objs.size, _, rfl, x₁.size, Nat.le_refl _, hfp _ (by simp), hfp, fun hf b hb => ?_, Walk.tuple rm.1 h2 hl (Nat.le_refl _), st.1, st.2, fun b o _ e => Heap.get?_push_of_some _ e⟩
    simp only [List.mem_cons, List.not_mem_nil, or_false] at hb
    rcases hb with rfl | rfl
    · exact R₁.new (Nat.le_refl _)
    · exact h0⟩
theorem EvI.str {e : Expr} {x : Str} {fz : Bool} (h : EvB c n ρ e (.str x)) : EvI c n ρ fz e (charsL x) := .mk fun A s env M₀ O rm R =>
  h.go rm R fun v s₁ x₁ R₁ d₁ => ⟨x₁, by
    obtain ⟨t, rfl⟩ := d₁.str
    have hn : fz = true → ∀ b ∈ [s₁.heap.objs.size], b ∉ nOf c env O ++ M₀ := fun _ b hb => by simp at hb; subst hb; exact R₁.new (Nat.le_refl _)
    have hlt : ∀ o, s₁.heap.objs.size < (s₁.heap.push o).objs.size := fun o => by rw [Heap.size_push]; lia
    cases ha : x.cps.all (· < 128)
    · exact wpAny_pyIter_wide ha ⟨Ext.trans x₁ (Ext.push _ _), _, [s₁.heap.objs.size], s₁.heap.objs.size, _, rfl, x₁.size, Nat.le_refl _, hlt _, (fun b hb => by simp at hb; subst hb; exact hlt _), hn, Walk.wide rm.1 x t, _, Heap.get?_push_size _ rfl, rfl, rfl⟩
    · exact wpAny_pyIter_ascii ha ⟨Ext.trans x₁ (Ext.push _ _), _, [s₁.heap.objs.size], s₁.heap.objs.size, _, rfl, x₁.size, Nat.le_refl _, hlt _, (fun b hb => by simp at hb; subst hb; exact hlt _), hn, Walk.ascii rm.1 x t, _, Heap.get?_push_size _ rfl, rfl, rfl⟩⟩

/-! ranges -/
def rangeI (l : List Int) : Option (Int × Int × Int) := match l with
  | [b] => some (0, b, 1)
  | [a, b] => some (a, b, 1)
  | [a, b, c] => if c != 0 && decide (-1000000 ≤ c) && decide (c ≤ 1000000) then some (a, b, c) else none
  | _ => none
def rangeT (l : List T) : Option (Int × Int × Int) := match allInts l with
  | some is => rangeI is
  | none => none
theorem of_ifA {α : Type} {p : Prop} [Decidable p] {t r : α} (h : (if p then some t else none) = some r) : p ∧ t = r := by
  by_cases hp : p
  · rw [if_pos hp] at h; exact ⟨hp, Option.some.inj h⟩
  · rw [if_neg hp] at h; cases h
theorem allInts_map : ∀ {l : List T} {is : List Int}, allInts l = some is → l = is.map .int
  | [], _, h => by cases h; rfl
  | t :: r, is, h => by
    cases t <;> try cases h
    rename_i i
    cases hr : allInts r with
    | none => exact absurd (show (allInts r).map (i :: ·) = some is from h) (by rw [hr]; exact fun h => by cases h)
    | some js =>
      have h' : (allInts r).map (i :: ·) = some is := h
      rw [hr] at h'; cases h'
      rw [allInts_map hr]; rfl
def rangeN (p : Int × Int × Int) : Option Nat := if Builtin.Range.small p.1 p.2.1 p.2.2 = true ∧ 0 ≤ Builtin.Range.rangeSize p.1 p.2.1 p.2.2 then some (Builtin.Range.rangeSize p.1 p.2.1 p.2.2).toNat else none

theorem wp_range {A : Around} {s : Shared} {M : List Addr} {ts : List T} {vs : List Value} {p : Int × Int × Int} (h : rangeT ts = some p) (d : DenBs c.w M s.heap ts vs) {Q : Value → Shared → Prop} {E : Value → Shared → Prop}
    (k : ∀ s' r t u v, Ext s s' → s.heap.objs.size ≤ r → IsRange s'.heap r p.1 p.2.1 p.2.2 t u v → Q (.ref r) s') : wpAny (model c.prog c.w) A (call (.type "range") vs) Q E s := by
  have h' : (match allInts ts with | some is => rangeI is | none => none) = some p := h
  clear h
  cases hi : allInts ts with
  | none => rw [hi] at h'; cases h'
  | some is =>
  rw [hi] at h'
  obtain rfl := allInts_map hi
  clear hi
  cases is with
  | nil => cases h'
  | cons b is =>
  cases is with
  | nil =>
    cases h'
    obtain ⟨v, rfl, d1⟩ := d.one
    obtain ⟨t, rfl⟩ := d1.int
    exact call_range_1 (k _ _ _ _ _ (Ext.of_heap (fun _ _ e => Heap.get?_push_of_some _ e) (by rw [Heap.size_push]; lia) (by lia)) (Nat.le_refl _) (Heap.get?_push_size _ rfl))
  | cons b' is =>
  cases is with
  | nil =>
    cases h'
    obtain ⟨v, v', rfl, d1, d2⟩ := d.two
    obtain ⟨t, rfl⟩ := d1.int
    obtain ⟨u, rfl⟩ := d2.int
    exact call_range_2 (k _ _ _ _ _ (Ext.of_heap (fun _ _ e => Heap.get?_push_of_some _ e) (by rw [Heap.size_push]; lia) (by lia)) (Nat.le_refl _) (Heap.get?_push_size _ rfl))
  | cons b'' is =>
  cases is with
  | cons _ _ => cases h'
  | nil =>
    obtain ⟨hc, rfl⟩ := of_ifA h'
    obtain ⟨v, v', v'', rfl, d1, d2, d3⟩ := d.three
    obtain ⟨t, rfl⟩ := d1.int
    obtain ⟨u, rfl⟩ := d2.int
    obtain ⟨w, rfl⟩ := d3.int
    simp only [Bool.and_eq_true, bne_iff_ne, ne_eq, decide_eq_true_eq] at hc
    exact call_range_3 hc.1.1 (k _ _ _ _ _ (Ext.of_heap (fun _ _ e => Heap.get?_push_of_some _ e) (by rw [Heap.size_push]; lia) (by lia)) (Nat.le_refl _) (Heap.get?_push_size _ rfl)) (.inl (PyProof.noPylong_small (by lia)))

theorem EvI.range {p pos : Pos} {es : List Expr} {ts : List T} {q : Int × Int × Int} {m : Nat} {fz : Bool} (hk : c.ns.lookup ("range" : Str) = some .globalImplicit) (g : GV c "range" (.type "range")) (h : EachB c n ρ es ts) (hne : es ≠ []) (hr : rangeT ts = some q) (hm : rangeN q = some m) :
    EvI c n ρ fz (.Call (.Name "range" p) es [] pos) (rangeL q.1 q.2.2 m) := .mk fun A s env M₀ O rm R => by
  unfold rangeN at hm
  split at hm <;> cases hm
  rename_i hs
  refine wpAny_Call_NameR (wp_gname R hk g (wp_callWith (f := .type "range") trivial h hne rm R fun vs s' x R' d => wp_range hr d fun s₂ r t u v x₂ hlo hir => ⟨Ext.trans x x₂, ?_⟩) (by decide))
  refine wpAny_pyIter_range hir hs.1 ?_
  have hlt : ∀ o, s₂.heap.objs.size < (s₂.heap.push o).objs.size := fun o => by rw [Heap.size_push]; lia
  have R₂ := R'.ext x₂
  refine ⟨Ext.trans x (Ext.trans x₂ (Ext.push _ _)), _, [s₂.heap.objs.size], s₂.heap.objs.size, _, rfl, Nat.le_trans x.size x₂.size, Nat.le_refl _, hlt _, (fun b hb => by simp at hb; subst hb; exact hlt _), (fun _ b hb => by simp at hb; subst hb; exact R₂.new (Nat.le_refl _)), Walk.range rm.1 q.1 q.2.2 _, ?_⟩
  have e : ((Builtin.Range.rangeSize q.1 q.2.1 q.2.2).toNat : Int) - ((0 : Nat) : Int) = Builtin.Range.rangeSize q.1 q.2.1 q.2.2 := by have := hs.2; lia
  rw [e]
  have : q.1 + ((0 : Nat) : Int) * q.2.2 = q.1 := by simp
  rw [this]
  exact Heap.get?_push_size _ rfl
end
end Mine
end

section
set_option autoImplicit false
set_option linter.unusedVariables false
set_option linter.unusedSimpArgs false
namespace Mine
open PySem PySem.Calls PyProof.Rows PySem.SeqAt

/-! binding a target to a datum -/
def putAll : List Str → List T → Rho → Rho
  | x :: xs, t :: ts, ρ => putAll xs ts (put x (.sh t) ρ)
  | _, _, ρ => ρ
def nameOf : Expr → Option Str
  | .Name x _ => some x
  | _ => none
def namesOf : List Expr → Option (List Str)
  | [] => some []
  | e :: r => match nameOf e, namesOf r with
    | some x, some xs => some (x :: xs)
    | _, _ => none
def bindT (c : Cx) : Expr → T → Rho → Option Rho
  | .Name x _, t, ρ => if canStore c x then some (put x (.sh t) ρ) else none
  | .Tuple es _ _, .tup ts, ρ => match namesOf es with
    | some xs => if xs.all (canStore c) && xs.length == ts.length then some (putAll xs ts ρ) else none
    | none => none
  | _, _, _ => none

section
variable {c : Cx} {env : Env} {M₀ : List Addr} {ρ : Rho}

theorem nameOf_some {e : Expr} {x : Str} (h : nameOf e = some x) : ∃ p, e = .Name x p := by
  cases e <;> cases h
  exact ⟨_, rfl⟩
theorem namesOf_cons {e : Expr} {es : List Expr} {xs : List Str} (h : namesOf (e :: es) = some xs) : ∃ x p ys, e = .Name x p ∧ namesOf es = some ys ∧ xs = x :: ys := by
  have h' : (match nameOf e, namesOf es with
    | some x, some r => some (x :: r)
    | _, _ => none) = some xs := h
  cases h1 : nameOf e with
  | none => rw [h1] at h'; cases h'
  | some x =>
    cases h2 : namesOf es with
    | none => rw [h1, h2] at h'; cases h'
    | some ys =>
      rw [h1, h2] at h'; cases h'
      obtain ⟨p, rfl⟩ := nameOf_some h1
      exact ⟨x, p, ys, rfl, rfl, rfl⟩
theorem assign_nil {A : Around} {vs : List Value} {Q : Unit → Shared → Prop} {E : Value → Shared → Prop} {s : Shared} (h : wpAny (model c.prog c.w) A (pure ()) Q E s) : wpAny (model c.prog c.w) A (assignInOrder ((assignEach [] env).map (·.2)) vs) Q E s := by
  cases vs <;> exact h
theorem assign_nil' {A : Around} {fs : List (Value → Sem Unit)} {Q : Unit → Shared → Prop} {E : Value → Shared → Prop} {s : Shared} (h : wpAny (model c.prog c.w) A (pure ()) Q E s) : wpAny (model c.prog c.w) A (assignInOrder fs []) Q E s := by
  cases fs <;> exact h
theorem wp_assignNames : ∀ (es : List Expr) (xs : List Str) (ts : List T) (vs : List Value) (s : Shared) (O : List (Str × Addr)) (ρ : Rho) {A : Around} {Q : Unit → Shared → Prop} {E : Value → Shared → Prop},
    namesOf es = some xs → xs.all (canStore c) = true → Rel c env M₀ O ρ s → DenL c.w (nOf c env O ++ M₀) s.heap ts vs →
    (∀ O' s', Chg (nOf c env O) s s' → (∀ a ∈ nOf c env O', a ∈ nOf c env O) → Rel c env M₀ O' (putAll xs ts ρ) s' → Q () s') → wpAny (model c.prog c.w) A (assignInOrder ((assignEach es env).map (·.2)) vs) Q E s
  | [], xs, ts, vs, s, O, ρ, A, Q, E, hx, _, R, d, k => by
    simp only [namesOf, Option.some.injEq] at hx; subst hx
    exact assign_nil (wpAny_pure (k O s (Chg.refl _) (fun _ h => h) (by cases ts <;> exact R)))
  | e :: es, xs, ts, vs, s, O, ρ, A, Q, E, hx, hc, R, d, k => by
    obtain ⟨x, p, ys, rfl, hn, rfl⟩ := namesOf_cons hx
    · clear hx
      simp only [List.all_cons, Bool.and_eq_true] at hc
      cases ts with
      | nil =>
        simp only [DenL] at d; subst d
        exact assign_nil' (wpAny_pure (k O s (Chg.refl _) (fun _ h => h) R))
      | cons t ts =>
        simp only [DenL] at d
        obtain ⟨v, r, rfl, d1, d2⟩ := d
        show wpAny _ A (do holding r (assign (.Name x p) env v); assignInOrder ((assignEach es env).map (·.2)) r) Q E s
        refine wpAny_bind (wpAny_holding (wpAny_assign_Name (wp_store (u := .sh t) R (Chg.refl _) d1 hc.1 fun s' x' R' => ?_)))
        have hO : ownPut x (.sh t) v O = unset x O := by cases v <;> rfl
        rw [hO] at R'
        refine wp_assignNames es ys ts r s' _ _ hn hc.2 R' (DenL.mono (fun a ha h => ha ?_) (fun b o hb => x'.heap b o (fun h => hb (List.mem_append_left _ h))) _ _ d2) fun O' s'' x'' hs R'' => k O' s'' (Chg.trans x' x'' fun a ha => .inl (nOf_unset a ha)) (fun a ha => nOf_unset a (hs a ha)) R''
        rcases List.mem_append.mp h with h | h
        · exact List.mem_append_left _ (nOf_unset a h)
        · exact List.mem_append_right _ h

theorem assignEach_names : ∀ {es : List Expr} {xs : List Str}, namesOf es = some xs → (assignEach es env).length = xs.length ∧ (assignEach es env).findIdx? (·.1) = none
  | [], xs, h => by simp only [namesOf, Option.some.injEq] at h; subst h; exact ⟨rfl, rfl⟩
  | e :: es, xs, h => by
    obtain ⟨x, p, ys, rfl, hn, rfl⟩ := namesOf_cons h
    · obtain ⟨h1, h2⟩ := assignEach_names hn
      show (((false, assign (.Name x p) env)) :: assignEach es env).length = _ ∧ (((false, assign (.Name x p) env)) :: assignEach es env).findIdx? _ = _
      refine ⟨by simp [h1], ?_⟩
      rw [List.findIdx?_cons]
      simp [h2]

/-- the target gets a datum -/
theorem wp_bind {s : Shared} {O : List (Str × Addr)} {A : Around} {Q : Unit → Shared → Prop} {E : Value → Shared → Prop} {target : Expr} {t : T} {v : Value} {ρ' : Rho} (hh : A.handled = none) (R : Rel c env M₀ O ρ s) (d : Den c.w (nOf c env O ++ M₀) s.heap t v)
    (h : bindT c target t ρ = some ρ') (k : ∀ O' s', Chg (nOf c env O) s s' → (∀ a ∈ nOf c env O', a ∈ nOf c env O) → Rel c env M₀ O' ρ' s' → Q () s') : wpAny (model c.prog c.w) A (assign target env v) Q E s := by
  unfold bindT at h
  split at h
  · split at h
    · rename_i hc
      cases h
      refine wpAny_assign_Name (wp_store (u := .sh t) R (Chg.refl _) d hc fun s' x' R' => ?_)
      rw [show ∀ y, ownPut y (.sh t) v O = unset y O from fun y => by cases v <;> rfl] at R'
      exact k _ s' x' (fun a => nOf_unset a) R'
    · cases h
  · split at h
    · rename_i es _ _ ts _ xs hx
      split at h
      · rename_i hc
        cases h
        simp only [Bool.and_eq_true, beq_iff_eq] at hc
        simp only [Den] at d
        obtain ⟨a, vs, rfl, ha, ht, hd⟩ := d
        obtain ⟨h1, h2⟩ := assignEach_names (env := env) hx
        have hlen := hd.length
        have hsz : (assignEach es env).length = vs.size := by rw [h1, hc.2, hlen]; simp
        rw [arm_assign_Tuple]
        refine wpAny_bind (wpAny_standAt ?_)
        unfold unpack
        rw [h2, hsz]
        refine wpAny_bind (wpAny_holding (wp_grow (wpAny_unpackItems_tuple hh ht fun h' he hs htk => ?_)))
        have x : Ext s { s with heap := h' } := ⟨fun b o _ e => he b o (Nat.ne_of_lt (Heap.lt_size e)) e, hs, fun _ _ e => e, id, rfl, Nat.le_refl _⟩
        refine wp_assignNames es xs ts vs.toList { s with heap := h' } O ρ hx hc.1 (R.ext x) (hd.keep x.all) fun O' s' x' hs' R' => k O' s' (Chg.trans x.chg x' fun a ha => .inl ha) hs' R'
      · cases h
    · cases h
  · cases h

/-- as wp_bind, a list unpacked too -/
def bindL (c : Cx) : Expr → T → Rho → Option Rho
  | .Tuple es _ _, .list ts, ρ => match namesOf es with
    | some xs => if xs.all (canStore c) && xs.length == ts.length then some (putAll xs ts ρ) else none
    | none => none
  | e, t, ρ => bindT c e t ρ
end

/-! comprehensions: the frame -/
def relab (ns : List (Str × NameKind)) (names : List (Str × NameKind)) : List (Str × NameKind) := names.map fun (n, k) => if (k == .free && ns.lookup n == some .cell) then (n, .cell) else (n, k)
def cellNames (sc : Scope) : List Str := (sc.names.filter fun p => p.2 == .cell).map (·.1)
def compCx (c : Cx) (sc : Scope) : Cx := { c with ns := relab c.ns sc.names, cel := cellNames sc }
def scopeOk (c : Cx) (sc : Scope) : Bool :=
  (match sc.kind with | .function => true | _ => false) && (sc.names.all fun p => !(p.2 == .local) || sc.names.lookup p.1 == some .local) &&
  (sc.names.all fun p => !(p.2 == .free) || ((c.ns.lookup p.1 == some .cell || c.ns.lookup p.1 == some .free) && !(cellNames sc).contains p.1)) &&
  (sc.names.all fun p => !(p.2 == .cell) || !(sc.names.any fun q => q.1 == p.1 && q.2 == .free))
def capt1 (sc : Scope) (ρ : Rho) (n : Str) : Option (Str × Var) := if sc.names.lookup n == some .free then (match ρ.lookup n with | some (.sh t) => some (n, .sh t) | _ => none) else none
def capt (c : Cx) (sc : Scope) (ρ : Rho) : Rho := sc.names.filterMap fun p => capt1 sc ρ p.1
theorem capt_lookup {c : Cx} {sc : Scope} {ρ : Rho} {y : Str} {u : Var} (h : (capt c sc ρ).lookup y = some u) : sc.names.lookup y = some .free ∧ ∃ t, u = .sh t ∧ ρ.lookup y = some (.sh t) := by
  obtain ⟨p, hp, he⟩ := List.mem_filterMap.mp (mem_of_lookup h)
  unfold capt1 at he
  split at he
  · rename_i hf
    split at he
    · rename_i t ht
      simp only [Option.some.injEq, Prod.mk.injEq] at he
      obtain ⟨e1, e2⟩ := he
      subst e1 e2
      exact ⟨by simpa using hf, t, rfl, ht⟩
    · cases he
  · cases he

def closL (env : Env) : List (Str × NameKind) → List (Str × Addr) → List (Str × Addr)
  | [], acc => acc
  | (n, k) :: r, acc => if k == .free then closL env r ((n, (env.cells.lookup n).getD 0) :: acc) else closL env r acc

theorem closureFor_of {env : Env} {sc : Scope} (h : ∀ p ∈ sc.names, p.2 = .free → (env.cells.lookup p.1).isSome) : closureFor sc env = pure (closL env sc.names []) := by
  have key : ∀ (names : List (Str × NameKind)) (acc : List (Str × Addr)) (f : Str × NameKind → List (Str × Addr) → Sem (ForInStep (List (Str × Addr)))),
      (∀ n k a, f (n, k) a = if k == .free then (do let q ← cellOf env n; pure (.yield ((n, q) :: a))) else pure (.yield a)) → (∀ p ∈ names, p.2 = .free → (env.cells.lookup p.1).isSome) →
      forIn names acc f = pure (closL env names acc) := by
    intro names
    induction names with
    | nil => intro acc f _ _; rfl
    | cons p r ih =>
      intro acc f hf h
      obtain ⟨n, k⟩ := p
      rw [List.forIn_cons, hf]
      have hr := fun q hq => h q (List.mem_cons_of_mem _ hq)
      by_cases hk : k = .free
      · subst hk
        obtain ⟨a, ha⟩ := Option.isSome_iff_exists.mp (h (n, .free) List.mem_cons_self rfl)
        simp only at ha
        have hc : cellOf env n = pure a := by unfold cellOf; rw [ha]
        simp only [beq_self_eq_true, if_true, hc, pure_bind]
        rw [ih _ f hf hr]
        simp [closL, ha]
      · have : (k == NameKind.free) = false := by simpa using hk
        simp only [this, Bool.false_eq_true, if_false, pure_bind]
        rw [ih _ f hf hr]
        simp [closL, this]
  unfold closureFor
  refine Eq.trans (congrArg (fun t => t >>= fun cs => pure cs) (key sc.names [] _ (fun n k a => ?_) h)) ?_
  · rfl
  · simp

theorem cellsFrom_app : ∀ (names : List (Str × NameKind)) (n : Nat) (acc : List (Str × Addr)), cellsFrom n names acc = cellsFrom n names [] ++ acc
  | [], n, acc => rfl
  | (x, k) :: r, n, acc => by
    unfold cellsFrom
    split
    · rw [cellsFrom_app r (n + 1) ((x, n) :: acc), cellsFrom_app r (n + 1) [(x, n)]]; simp
    · exact cellsFrom_app r n acc
theorem cellsFrom_names : ∀ (names : List (Str × NameKind)) (n : Nat) (acc : List (Str × Addr)) (x : Str) (a : Addr), (x, a) ∈ cellsFrom n names acc → (x, NameKind.cell) ∈ names ∨ (x, a) ∈ acc
  | [], n, acc, x, a, h => .inr h
  | (y, k) :: r, n, acc, x, a, h => by
    unfold cellsFrom at h
    split at h
    · rename_i hk
      obtain rfl : k = .cell := by simpa using hk
      rcases cellsFrom_names r (n + 1) _ x a h with h | h
      · exact .inl (List.mem_cons_of_mem _ h)
      · rcases List.mem_cons.mp h with e | h
        · cases e; exact .inl List.mem_cons_self
        · exact .inr h
    · exact (cellsFrom_names r n acc x a h).imp (List.mem_cons_of_mem _) id
theorem closL_mem {env : Env} : ∀ (names : List (Str × NameKind)) (acc : List (Str × Addr)) (x : Str) (a : Addr), (x, a) ∈ closL env names acc → ((x, NameKind.free) ∈ names ∧ (env.cells.lookup x).getD 0 = a) ∨ (x, a) ∈ acc
  | [], acc, x, a, h => .inr h
  | (y, k) :: r, acc, x, a, h => by
    unfold closL at h
    split at h
    · rename_i hk
      obtain rfl : k = .free := by simpa using hk
      rcases closL_mem r _ x a h with h | h
      · exact .inl ⟨List.mem_cons_of_mem _ h.1, h.2⟩
      · rcases List.mem_cons.mp h with e | h
        · cases e; exact .inl ⟨List.mem_cons_self, rfl⟩
        · exact .inr h
    · exact (closL_mem r acc x a h).imp (fun h => ⟨List.mem_cons_of_mem _ h.1, h.2⟩) id
theorem closL_has {env : Env} : ∀ (names : List (Str × NameKind)) (acc : List (Str × Addr)) (x : Str), ((x, NameKind.free) ∈ names ∨ ∃ a, (x, a) ∈ acc) → ∃ a, (x, a) ∈ closL env names acc
  | [], acc, x, h => by simpa [closL] using h
  | (y, k) :: r, acc, x, h => by
    unfold closL
    split
    · rename_i hk
      obtain rfl : k = .free := by simpa using hk
      refine closL_has r _ x ?_
      rcases h with h | ⟨a, h⟩
      · rcases List.mem_cons.mp h with e | h
        · cases e; exact .inr ⟨_, List.mem_cons_self⟩
        · exact .inl h
      · exact .inr ⟨a, List.mem_cons_of_mem _ h⟩
    · rename_i hk
      refine closL_has r _ x (h.imp (fun h => ?_) id)
      rcases List.mem_cons.mp h with e | h
      · cases e; exact absurd rfl hk
      · exact h
theorem cellsFrom_has : ∀ (names : List (Str × NameKind)) (n : Nat) (acc : List (Str × Addr)) (x : Str), ((x, NameKind.cell) ∈ names ∨ ∃ a, (x, a) ∈ acc) → ∃ a, (x, a) ∈ cellsFrom n names acc
  | [], n, acc, x, h => by simpa [cellsFrom] using h
  | (y, k) :: r, n, acc, x, h => by
    unfold cellsFrom
    split
    · rename_i hk
      obtain rfl : k = .cell := by simpa using hk
      refine cellsFrom_has r _ _ x ?_
      rcases h with h | ⟨a, h⟩
      · rcases List.mem_cons.mp h with e | h
        · cases e; exact .inr ⟨_, List.mem_cons_self⟩
        · exact .inl h
      · exact .inr ⟨a, List.mem_cons_of_mem _ h⟩
    · rename_i hk
      refine cellsFrom_has r _ _ x (h.imp (fun h => ?_) id)
      rcases List.mem_cons.mp h with e | h
      · cases e; exact absurd rfl hk
      · exact h
theorem lookup_of_mem {α : Type} : ∀ {l : List (Str × α)} {x : Str}, (∃ a, (x, a) ∈ l) → ∃ a, l.lookup x = some a
  | [], x, ⟨a, h⟩ => by cases h
  | (y, b) :: r, x, ⟨a, h⟩ => by
    rw [List.lookup_cons]
    by_cases hx : x = y
    · subst hx; simp
    · rw [show (x == y) = false by simpa using hx]
      rcases List.mem_cons.mp h with e | h
      · cases e; exact absurd rfl hx
      · exact lookup_of_mem ⟨a, h⟩
theorem relab_lookup {ns names : List (Str × NameKind)} {x : Str} : (relab ns names).lookup x = (names.lookup x).map fun k => if (k == .free && ns.lookup x == some .cell) then .cell else k := by
  induction names with
  | nil => rfl
  | cons p r ih =>
    obtain ⟨n, k⟩ := p
    unfold relab at ih ⊢
    rw [List.map_cons]
    by_cases hx : x = n
    · subst hx
      by_cases hc : (k == NameKind.free && ns.lookup x == some NameKind.cell) = true
      · show List.lookup x ((if (k == NameKind.free && ns.lookup x == some NameKind.cell) = true then (x, NameKind.cell) else (x, k)) :: _) = _
        rw [if_pos hc, List.lookup_cons, List.lookup_cons, beq_self_eq_true]
        simp only [Option.map_some, if_pos hc]
      · show List.lookup x ((if (k == NameKind.free && ns.lookup x == some NameKind.cell) = true then (x, NameKind.cell) else (x, k)) :: _) = _
        rw [if_neg hc, List.lookup_cons, List.lookup_cons, beq_self_eq_true]
        simp only [Option.map_some, if_neg hc]
    · have : (x == n) = false := by simpa using hx
      by_cases hc : (k == NameKind.free && ns.lookup n == some NameKind.cell) = true
      · simp only [hc, if_true]; rw [List.lookup_cons, List.lookup_cons, this]; exact ih
      · simp only [hc]; rw [if_neg (by simp)]; rw [List.lookup_cons, List.lookup_cons, this]; exact ih

section
variable {c : Cx} {env : Env} {M₀ : List Addr} {O : List (Str × Addr)} {ρ : Rho}

theorem comp_enter {s s₃ : Shared} (R : Rel c env M₀ O ρ s) (x : Ext s s₃) {sc : Scope} (ok : scopeOk c sc = true) {X : List Addr} (hX : ∀ a ∈ X, s.heap.objs.size ≤ a ∧ a < s₃.heap.objs.size) {A : Around} {E : Value → Shared → Prop} {Q : Env → Shared → Prop}
    (k : ∀ (cenv : Env) (s₄ : Shared), Ext s₃ s₄ → s₃.heap.objs.size ≤ cenv.locals → cenv.locals < s₄.heap.objs.size → (∀ a ∈ nOf (compCx c sc) { cenv with scope := relabel sc env } [], s₃.heap.objs.size ≤ a) → (∀ a, ∀ y, (y, a) ∈ cenv.cells → a ∉ X) →
      Rel (compCx c sc) { cenv with scope := relabel sc env } (X ++ (nOf c env O ++ M₀)) [] (capt c sc ρ) s₄ → Q cenv s₄) :
    wpAny (model c.prog c.w) A (newFunctionEnv sc env.globals (closL env sc.names []) [] env.qual none .none (some env)) Q E s₃ := by
  unfold scopeOk at ok
  simp only [Bool.and_eq_true, List.all_eq_true, Bool.or_eq_true, Bool.not_eq_true', beq_eq_false_iff_ne, beq_iff_eq, ne_eq] at ok
  obtain ⟨⟨⟨ok1, ok2⟩, ok3⟩, ok4⟩ := ok
  have R₃ := R.ext x
  have hkind : sc.kind = .function := by revert ok1; cases sc.kind <;> simp
  simp only [newFunctionEnv, Option.isSome_some, if_true]
  refine wpAny_bind (wpAny_alloc ?_)
  refine wpAny_bind (wpAny_layCells _ (fun name kind cells => by cases hkc : kind == NameKind.cell <;> simp [hkc]) _ _ _ _ ?_)
  simp only [List.forIn_nil]
  have hsz : ({ s₃ with heap := s₃.heap.push { cls := .type "dict", data := .dict #[] } } : Shared).heap.objs.size = s₃.heap.objs.size + 1 := Heap.size_push ..
  rw [hsz, cellsFrom_app]
  have okc := cellsFrom_ok sc.names (s₃.heap.push { cls := .type "dict", data := .dict #[] }) (s₃.heap.objs.size + 1) [] ⟨fun _ _ hm => (nomatch hm), List.Pairwise.nil⟩ (by rw [Heap.size_push]; exact Nat.le_refl _)
  rw [Heap.size_push] at okc
  generalize hN : cellsFrom (s₃.heap.objs.size + 1) sc.names [] = N at okc
  generalize hH : pushCells (s₃.heap.push { cls := .type "dict", data := .dict #[] }) sc.names = H at okc
  have keep0 : ∀ b o, (s₃.heap.push { cls := .type "dict", data := .dict #[] }).get? b = some o → H.get? b = some o := by rw [← hH]; exact pushCells_keeps _ _
  have keep : ∀ b o, s₃.heap.get? b = some o → H.get? b = some o := fun b o e => keep0 b o (Heap.get?_push_of_some _ e)
  have hNs : H.Ns s₃.heap.objs.size (fun _ => none) := (Heap.Ns.new s₃.heap (.type "dict")).keeps keep0
  have hHsz : s₃.heap.objs.size < H.objs.size := hNs.lt
  have hE : Ext s₃ { s₃ with heap := H } := Ext.of_heap keep (Nat.le_of_lt hHsz) (Nat.le_refl _)
  have hNmem : ∀ y a, (y, a) ∈ N → (y, NameKind.cell) ∈ sc.names := fun y a h => by
    rcases cellsFrom_names _ _ _ y a (hN ▸ h) with h | h
    · exact h
    · cases h
  have hcel : ∀ y a, (y, a) ∈ N → (cellNames sc).contains y = true := fun y a h => by
    rw [List.contains_iff_mem]
    exact List.mem_map.mpr ⟨(y, .cell), List.mem_filter.mpr ⟨hNmem y a h, by simp⟩, rfl⟩
  have hclo : ∀ y a, (y, a) ∈ closL env sc.names [] → (y, NameKind.free) ∈ sc.names ∧ env.cells.lookup y = some a := fun y a h => by
    rcases closL_mem _ _ y a h with ⟨h1, h2⟩ | h
    · have := (ok3 (y, .free) h1).resolve_left (by simp)
      obtain ⟨q, hq⟩ := R₃.call y (by simpa using this.1)
      rw [hq] at h2; simp at h2; subst h2
      exact ⟨h1, hq⟩
    · cases h
  have hnocel : ∀ y a, (y, a) ∈ closL env sc.names [] → (cellNames sc).contains y = false := fun y a h => by
    have := (ok3 (y, .free) (hclo y a h).1).resolve_left (by simp)
    simpa using this.2
  have hown : ownCells (compCx c sc) { scope := relabel sc env, locals := s₃.heap.objs.size, globals := env.globals, cells := N ++ closL env sc.names [], qual := env.qual, func := none, code := env.code, frame := env.frame, builtins := env.builtins } = N.map (·.2) := by
    unfold ownCells compCx
    simp only [List.filter_append]
    rw [List.filter_eq_self.mpr (fun p hp => hcel p.1 p.2 hp), List.filter_eq_nil_iff.mpr (fun p hp => by simpa using hnocel p.1 p.2 hp)]
    simp
  have hnOf : nOf (compCx c sc) { scope := relabel sc env, locals := s₃.heap.objs.size, globals := env.globals, cells := N ++ closL env sc.names [], qual := env.qual, func := none, code := env.code, frame := env.frame, builtins := env.builtins } [] = s₃.heap.objs.size :: N.map (·.2) := by
    unfold nOf; rw [hown]; simp
  have hNlo : ∀ a ∈ N.map (·.2), s₃.heap.objs.size + 1 ≤ a ∧ a < H.objs.size := fun a h => by
    obtain ⟨p, hp, rfl⟩ := List.mem_map.mp h
    exact ⟨(okc.empty p.1 p.2 hp).2, (okc.empty p.1 p.2 hp).1.lt⟩
  have hbig : ∀ a ∈ s₃.heap.objs.size :: N.map (·.2), s₃.heap.objs.size ≤ a ∧ a < H.objs.size := fun a h => by
    rcases List.mem_cons.mp h with rfl | h
    · exact ⟨Nat.le_refl _, hHsz⟩
    · exact ⟨Nat.le_of_succ_le (hNlo a h).1, (hNlo a h).2⟩
  have hold : ∀ a ∈ X ++ (nOf c env O ++ M₀), c.H.objs.size ≤ a ∧ a < s₃.heap.objs.size := fun a h => by
    rcases List.mem_append.mp h with h | h
    · exact ⟨Nat.le_trans R.bas.size (hX a h).1, (hX a h).2⟩
    · exact R₃.hi a h
  refine wpAny_bind (wpAny_pure (wpAny_pure ?_))
  refine k { scope := sc, locals := s₃.heap.objs.size, globals := env.globals, cells := N ++ closL env sc.names [], qual := env.qual, func := none, code := env.code, frame := env.frame, builtins := env.builtins } { s₃ with heap := H } hE (Nat.le_refl _) hHsz (fun a h => (hbig a (hnOf ▸ h)).1) (fun a y h hXa => ?_) ?_
  · rcases List.mem_append.mp h with h | h
    · have := (hNlo a (List.mem_map.mpr ⟨_, h, rfl⟩)).1
      exact absurd (hX a hXa).2 (Nat.not_lt.mpr (Nat.le_of_succ_le this))
    · have h2 := R.cellIn (mem_of_lookup (hclo y a h).2)
      have : a < s.heap.objs.size := by
        rcases h2 with h2 | h2
        · exact R.lt a (List.mem_append_left _ h2)
        · exact R.lt a (List.mem_append_right _ h2)
      exact absurd (hX a hXa).1 (Nat.not_le.mpr this)
  · refine {
      bas := ⟨(R₃.bas.ext hE).heap, (R₃.bas.ext hE).size, (R₃.bas.ext hE).toks, (R₃.bas.ext hE).lim⟩
      names := ?_
      kind := hkind
      glob := R.glob
      blt := R.blt
      nd := ?_
      hi := ?_
      dis := ?_
      loc := ⟨_, hNs⟩
      cells := ?_
      call := ?_
      vars := ?_ }
    · show (sc.names.map fun (n, k) => if (k == .free && env.scope.kind == .function && env.kindOf n == some .cell) then (n, .cell) else (n, k)) = relab c.ns sc.names
      unfold relab
      rw [R.kind]
      refine List.map_congr_left fun p _ => ?_
      obtain ⟨n, k⟩ := p
      show (if (k == NameKind.free && ScopeKind.function == ScopeKind.function && env.kindOf n == some NameKind.cell) = true then (n, NameKind.cell) else (n, k)) = _
      rw [R.kindOf n]
      simp
    · rw [hnOf, List.nodup_cons]
      refine ⟨fun h => ?_, ?_⟩
      · have := (hNlo _ h).1; omega
      · have := okc.apart
        exact List.pairwise_map.mpr (this.imp fun h => h)
    · intro a ha
      rw [hnOf] at ha
      rcases List.mem_append.mp ha with h | h
      · exact ⟨Nat.le_trans R₃.bas.size (hbig a h).1, (hbig a h).2⟩
      · exact ⟨(hold a h).1, Nat.lt_of_lt_of_le (hold a h).2 hE.size⟩
    · intro a ha h
      rw [hnOf] at ha
      exact absurd (hold a h).2 (Nat.not_lt.mpr (hbig a ha).1)
    · intro y a h
      rcases List.mem_append.mp h with h | h
      · exact ⟨⟨none, (okc.empty y a h).1⟩, .inl (hcel y a h)⟩
      · have h2 := mem_of_lookup (hclo y a h).2
        obtain ⟨⟨v, hv⟩, _⟩ := R₃.cells y a h2
        refine ⟨⟨v, hv.keeps keep⟩, .inr (List.mem_append_right _ ?_)⟩
        exact (R.cellIn h2).elim (List.mem_append_left _) (List.mem_append_right _)
    · intro y h
      rw [show (compCx c sc).ns = relab c.ns sc.names from rfl, relab_lookup] at h
      refine lookup_of_mem ?_
      have : ∃ kk, sc.names.lookup y = some kk ∧ (kk = .cell ∨ kk = .free) := by
        cases hl : sc.names.lookup y with
        | none => rw [hl] at h; simp at h
        | some kk =>
          rw [hl] at h
          refine ⟨kk, rfl, ?_⟩
          cases kk <;> simp at h ⊢
      obtain ⟨kk, h1, h2 | h2⟩ := this
      · subst h2
        obtain ⟨a, ha⟩ := cellsFrom_has sc.names (s₃.heap.objs.size + 1) [] y (.inl (mem_of_lookup h1))
        exact ⟨a, List.mem_append_left _ (hN ▸ ha)⟩
      · subst h2
        obtain ⟨a, ha⟩ := closL_has (env := env) sc.names [] y (.inl (mem_of_lookup h1))
        exact ⟨a, List.mem_append_right _ ha⟩
    · intro y u h
      obtain ⟨hf, t, rfl, ht⟩ := capt_lookup h
      obtain ⟨v, hl, hd⟩ := R.vars y _ ht
      have hy := (ok3 (y, .free) (mem_of_lookup hf)).resolve_left (by simp)
      refine ⟨v, ?_, ?_⟩
      · rcases hl with ⟨hk, _⟩ | ⟨_, a, ha, hc⟩
        · rw [R.kindOf] at hk
          rcases hy.1 with e | e <;> (simp only at e; rw [e] at hk; cases hk)
        · refine .inr ⟨?_, a, ?_, (hc.keeps x.all).keeps keep⟩
          · have e : (relab c.ns sc.names).lookup y = _ := relab_lookup
            rw [hf] at e
            have e2 : Env.kindOf { scope := relabel sc env, locals := s₃.heap.objs.size, globals := env.globals, cells := N ++ closL env sc.names [], qual := env.qual, func := none, code := env.code, frame := env.frame, builtins := env.builtins } y = (relab c.ns sc.names).lookup y := by
              show (sc.names.map fun (n, k) => if (k == .free && env.scope.kind == .function && env.kindOf n == some .cell) then (n, NameKind.cell) else (n, k)).lookup y = _
              unfold relab
              rw [R.kind]
              congr 1
              refine List.map_congr_left fun p _ => ?_
              obtain ⟨n, k⟩ := p
              show (if (k == NameKind.free && ScopeKind.function == ScopeKind.function && env.kindOf n == some NameKind.cell) = true then (n, NameKind.cell) else (n, k)) = _
              rw [R.kindOf n]
              simp
            rw [e2, e]
            simp only [Option.map_some, Option.some.injEq]
            split
            · exact .inl rfl
            · exact .inr rfl
          · show (N ++ closL env sc.names []).lookup y = some a
            obtain ⟨b, hb⟩ := lookup_of_mem (l := N ++ closL env sc.names []) (x := y) (by
              obtain ⟨b, hb⟩ := closL_has (env := env) sc.names [] y (.inl (mem_of_lookup hf))
              exact ⟨b, List.mem_append_right _ hb⟩)
            rw [hb]
            rcases List.mem_append.mp (mem_of_lookup hb) with h1 | h1
            · have := hcel y b h1
              have h2 : (cellNames sc).contains y = false := by simpa using hy.2
              rw [h2] at this; cases this
            · have := (hclo y b h1).2
              rw [ha] at this; exact this.symm
      · refine den_re (fun b hb hlt hm => ?_) (fun b o _ e => keep b o (x.all b o e)) t v hd
        rw [hnOf] at hm
        rcases List.mem_append.mp hm with h | h
        · exact absurd (Nat.lt_of_lt_of_le hlt x.size) (Nat.not_lt.mpr (hbig b h).1)
        · rcases List.mem_append.mp h with h | h
          · exact absurd hlt (Nat.not_lt.mpr (hX b h).1)
          · exact hb h
end
end Mine
end

section
set_option autoImplicit false
set_option linter.unusedVariables false
set_option linter.unusedSimpArgs false
namespace Mine
open PySem PySem.Calls PyProof.Rows PySem.SeqAt

/-- what stands behind a turn's tests: the next part, or the element; then k -/
def tailK (elt : Expr) (gens : List Comprehension) (sc : Scope) (pos : Pos) (d : Nat) (acc : Value) (env : Env) (k : Sem Fin) : Sem Fin := do
  match gens[d + 1]? with
  | some g' =>
    let x ← eval g'.iter env
    standAt g'.iter.pos
    let x ← if g'.is_async != 0 then foldedIterable g'.iter x else foldedSetIterable g'.iter env x
    let _ ← runOwn (.compStart (.ListComp elt gens sc pos) (d + 1) (← holding [x] (if g'.is_async != 0 then asyncIter x else pyIter x)) acc env) env
  | none => (do let _ ← call (.builtin "list.append") [acc, ← eval elt env])
  k

def ifsTree (ifs : List Expr) (env : Env) : Sem Bool := forIn ifs true fun c r => if r = true then do let ok ← isTrue c env (eval c env); pure (ForInStep.yield ok) else pure (ForInStep.yield r)

theorem compTurn_eq (elt : Expr) (gens : List Comprehension) (sc : Scope) (pos : Pos) (d : Nat) (it acc : Value) (env : Env) (g : Comprehension) (hg : gens[d]? = some g) (ha : g.is_async = 0) :
    compTurn (.ListComp elt gens sc pos) d it acc env = (standAt g.iter.pos >>= fun _ => pyNext it >>= fun r => match r with
      | none => pure (.done .next)
      | some v => letOwnedTupleGo g.target it v >>= fun _ => assign g.target env v >>= fun _ => ifsTree g.ifs env >>= fun ok =>
        if ok = true then tailK elt gens sc pos d acc env (again (.compLoop (.ListComp elt gens sc pos) d it acc env)) else again (.compLoop (.ListComp elt gens sc pos) d it acc env)) := by
  unfold compTurn
  simp only [hg, ha]
  rfl

section
variable {c : Cx} {n : Nat}

/-- the tests of a part -/
inductive Ifs (c : Cx) (n : Nat) (ρ : Rho) : List Expr → Bool → Prop
  | nil : Ifs c n ρ [] true
  | consT {e : Expr} {r : List Expr} {b : Bool} : EvT c n ρ e true → Ifs c n ρ r b → Ifs c n ρ (e :: r) b
  | consF {e : Expr} {r : List Expr} : EvT c n ρ e false → Ifs c n ρ (e :: r) false

theorem forIn_false {env : Env} : ∀ (l : List Expr), (forIn l false fun c r => if r = true then do let ok ← isTrue c env (eval c env); pure (ForInStep.yield ok) else pure (ForInStep.yield r) : Sem Bool) = pure false
  | [] => rfl
  | e :: r => by rw [List.forIn_cons]; simp only [Bool.false_eq_true, if_false, pure_bind]; exact forIn_false r
theorem Ifs.go {ρ : Rho} {ifs : List Expr} {b : Bool} (h : Ifs c n ρ ifs b) {A : Around} {env : Env} {M₀ : List Addr} {O : List (Str × Addr)} (rm : Room A n) :
    ∀ (s : Shared) (Q : Bool → Shared → Prop), Rel c env M₀ O ρ s → (∀ s', Ext s s' → Rel c env M₀ O ρ s' → Q b s') → wpAny (model c.prog c.w) A (ifsTree ifs env) Q NoE s := by
  induction h with
  | nil => exact fun s Q R k => wpAny_pure (k s (Chg.refl _) R)
  | consT h _ ih =>
    intro s Q R k
    unfold ifsTree at ih ⊢
    rw [List.forIn_cons]
    simp only [if_true]
    refine wpAny_bind (wpAny_bind (h.go rm R fun s' x R' => wpAny_pure (ih s' Q R' fun s'' x' R'' => k s'' (Ext.trans x x') R'')))
  | consF h =>
    intro s Q R k
    unfold ifsTree
    rw [List.forIn_cons]
    simp only [if_true]
    refine wpAny_bind (wpAny_bind (h.go rm R fun s' x R' => wpAny_pure ?_))
    show wpAny _ _ (forIn _ false _) _ _ _
    rw [forIn_false]
    exact wpAny_pure (k s' x R')

/-- from ρ on, what is left of a turn lays the items out onto the list that is made at D -/
structure Tail (c : Cx) (n : Nat) (elt : Expr) (gens : List Comprehension) (sc : Scope) (pos : Pos) (d : Nat) (ρ : Rho) (out : List T) : Prop where
  run : ∀ (A : Around) (s : Shared) (env : Env) (M₀ : List Addr) (D : Addr) (ws : Array Value) (acc : List T) (k : Sem Fin) (Q : Fin → Shared → Prop), Room A n → Rel c env M₀ [] ρ s → D ∈ M₀ → (∀ y, (y, D) ∉ env.cells) →
    s.heap.PlainList D ws → DenL c.w (nOf c env [] ++ M₀) s.heap acc ws.toList → acc.length + out.length ≤ sizeLine →
    (∀ s' ws', Chg (D :: nOf c env []) s s' → Rel c env M₀ [] ρ s' → s'.heap.PlainList D ws' → DenL c.w (nOf c env [] ++ M₀) s'.heap (acc ++ out) ws'.toList → wpAny (model c.prog c.w) A k Q NoE s') →
    wpAny (model c.prog c.w) A (tailK elt gens sc pos d (.ref D) env k) Q NoE s

theorem append_list {A : Around} {s : Shared} {env : Env} {M₀ : List Addr} {ρ : Rho} {D : Addr} {ws : Array Value} {acc : List T} {t : T} {v : Value} (R : Rel c env M₀ [] ρ s) (hD : D ∈ M₀) (hDc : ∀ y, (y, D) ∉ env.cells)
    (hl : s.heap.PlainList D ws) (hd : DenL c.w (nOf c env [] ++ M₀) s.heap acc ws.toList) (dv : Den c.w (nOf c env [] ++ M₀) s.heap t v) (hz : acc.length ≤ sizeLine) {Q : Value → Shared → Prop} {E : Value → Shared → Prop}
    (k : ∀ s' ws', Chg [D] s s' → Rel c env M₀ [] ρ s' → s'.heap.PlainList D ws' → DenL c.w (nOf c env [] ++ M₀) s'.heap (acc ++ [t]) ws'.toList → Q .none s') :
    wpAny (model c.prog c.w) A (call (.builtin "list.append") [.ref D, v]) Q E s := by
  have hlen := hd.length
  refine wpAny_list_append_plain hl (fun h' hl' hs => ?_) (by simp at hlen; lia)
  have x : Chg [D] s { s with heap := h' } := sb_chg hs (Nat.le_refl _)
  have hk : ∀ b o, b ∉ nOf c env [] ++ M₀ → s.heap.get? b = some o → h'.get? b = some o := fun b o hb e => x.heap b o (fun h => hb (by simp at h; subst h; exact List.mem_append_right _ hD)) e
  refine k _ _ x (R.step x.h fun a ha => by simp at ha; subst ha; exact ⟨hD, hDc⟩) hl' ?_
  rw [Array.toList_push]
  exact (DenL.mono (fun _ e => e) hk _ _ hd).app (DenL.cons (Den.mono (fun _ e => e) hk _ _ dv) DenL.nil)

theorem Tail.emit {elt : Expr} {gens : List Comprehension} {sc : Scope} {pos : Pos} {d : Nat} {ρ : Rho} {t : T} (hg : gens[d + 1]? = none) (h : Ev c n ρ elt t) : Tail c n elt gens sc pos d ρ [t] :=
  .mk fun A s env M₀ D ws acc k Q rm R hD hDc hl hd hz hk => by
  unfold tailK
  rw [hg]
  refine wpAny_bind (wpAny_bind (h.go rm R fun v s₁ x₁ R₁ d₁ => wpAny_bind (append_list R₁ hD hDc (hl.at fun o => x₁.all D o) (hd.keep x₁.all) d₁ (by simp at hz; lia) fun s₂ ws' x₂ R₂ hl₂ hd₂ => wpAny_pure ?_)))
  exact hk s₂ ws' (Chg.trans x₁.chg x₂ fun a ha => by simp at ha; subst ha; exact .inl List.mem_cons_self) R₂ hl₂ hd₂

/-- the turns of a part over its items -/
inductive Turns (c : Cx) (n : Nat) (elt : Expr) (gens : List Comprehension) (sc : Scope) (pos : Pos) (d : Nat) (g : Comprehension) (ρ : Rho) : List T → List T → Prop
  | nil : Turns c n elt gens sc pos d g ρ [] []
  | yes {t : T} {ts o₁ o₂ : List T} {ρ' : Rho} : bindT c g.target t ρ = some ρ' → (∀ x u, ρ.lookup x = some u → ρ'.lookup x = some u) → Ifs c n ρ' g.ifs true → Tail c n elt gens sc pos d ρ' o₁ →
      Turns c n elt gens sc pos d g ρ ts o₂ → Turns c n elt gens sc pos d g ρ (t :: ts) (o₁ ++ o₂)
  | no {t : T} {ts o₂ : List T} {ρ' : Rho} : bindT c g.target t ρ = some ρ' → (∀ x u, ρ.lookup x = some u → ρ'.lookup x = some u) → Ifs c n ρ' g.ifs false →
      Turns c n elt gens sc pos d g ρ ts o₂ → Turns c n elt gens sc pos d g ρ (t :: ts) o₂

theorem Rel.noOwn {env : Env} {M₀ : List Addr} {O : List (Str × Addr)} {ρ : Rho} {s : Shared} (R : Rel c env M₀ O ρ s) (h : ∀ a ∈ nOf c env O, a ∈ nOf c env []) : O = [] := by
  cases O with
  | nil => rfl
  | cons p r =>
    have nd := R.nd
    have hp : p.2 ∈ nOf c env [] := h _ (List.mem_cons_of_mem _ (List.mem_append_right _ List.mem_cons_self))
    unfold nOf at nd hp
    simp only [List.map_nil, List.append_nil] at hp
    rw [List.nodup_cons, List.nodup_append] at nd
    rcases List.mem_cons.mp hp with e | e
    · exact absurd (List.mem_append_right _ (e ▸ List.mem_cons_self)) nd.1
    · exact absurd rfl (nd.2.2.2 _ e _ List.mem_cons_self)


theorem comp_loop {elt : Expr} {gens : List Comprehension} {sc : Scope} {pos : Pos} {d : Nat} {g : Comprehension} {ρ : Rho} {l : List T} (hg : gens[d]? = some g) (ha : g.is_async = 0)
    {A : Around} (rm : Room A n) {env : Env} {M₀ : List Addr} {D it : Addr} {fp : List Addr} {P : Addr → Prop} {St : Nat → Shared → Prop} (W : Walk c A it fp l P St) (hD : D ∈ M₀) (hDc : ∀ y, (y, D) ∉ env.cells) (hit : it ∈ M₀) (hitc : ∀ y, (y, it) ∉ env.cells) (hDit : D ≠ it)
    (hP : ∀ a ∈ nOf c env [] ++ M₀, P a) (hfp : ∀ b ∈ fp, b ∉ D :: nOf c env []) (R' : Result → Shared → Prop) :
    ∀ (rest done outr : List T) (s : Shared) (ws : Array Value) (acc : List T), done ++ rest = l → Turns c n elt gens sc pos d g ρ rest outr → Rel c env M₀ [] ρ s → St done.length s → s.heap.PlainList D ws → DenL c.w (nOf c env [] ++ M₀) s.heap acc ws.toList → acc.length + outr.length ≤ sizeLine →
      (∀ s' ws', Chg (D :: it :: nOf c env []) s s' → Rel c env M₀ [] ρ s' → s'.heap.PlainList D ws' → DenL c.w (nOf c env [] ++ M₀) s'.heap (acc ++ outr) ws'.toList → R' (.ok .next) s') →
      codeAny (model c.prog c.w) A (.compLoop (.ListComp elt gens sc pos) d (.ref it) (.ref D) env) R' s := by
  intro rest
  induction rest with
  | nil =>
    intro done outr s ws acc hl ht R st hlist hd hz k
    cases ht
    rw [List.append_nil] at hl; subst hl
    refine codeAny_of_tree ?_
    show wpAny _ _ ((compTurn (.ListComp elt gens sc pos) d (.ref it) (.ref D) env).onRaise (fun x => do noteFrame x env; theTreesLotGoes x)) _ _ s
    refine wpAny_noted (wpAny_no ?_)
    rw [compTurn_eq elt gens sc pos d (.ref it) (.ref D) env g hg ha]
    refine wpAny_bind (wpAny_standAt (wpAny_bind (W.done s _ _ st fun s' x => wpAny_pure ?_)))
    have hk : ∀ b o, b ∉ nOf c env [] ++ M₀ → s.heap.get? b = some o → s'.heap.get? b = some o := fun b o hb e => x.heap b o (fun h => hb (by simp at h; subst h; exact List.mem_append_right _ hit)) e
    refine k s' ws (x.mono fun a h => .inl (by simp at h; subst h; simp)) (R.step x.h fun a h => by simp at h; subst h; exact ⟨hit, hitc⟩) (hlist.at fun o => x.heap D o (by simpa using hDit)) ?_
    rw [List.append_nil]
    exact DenL.mono (fun _ e => e) hk _ _ hd
  | cons t ts ih =>
    intro done outr s ws acc hl ht R st hlist hd hz k
    refine codeAny_of_tree ?_
    show wpAny _ _ ((compTurn (.ListComp elt gens sc pos) d (.ref it) (.ref D) env).onRaise (fun x => do noteFrame x env; theTreesLotGoes x)) _ _ s
    refine wpAny_noted (wpAny_no ?_)
    rw [compTurn_eq elt gens sc pos d (.ref it) (.ref D) env g hg ha]
    have hitem : l[done.length]? = some t := by rw [← hl]; simp
    have hdone : (done ++ [t]) ++ ts = l := by rw [← hl]; simp
    refine wpAny_bind (wpAny_standAt (wpAny_bind (W.item done.length t s _ _ hitem st fun v s₁ x₁ st₁ hv => ?_)))
    have hk₁ : ∀ b o, b ∉ nOf c env [] ++ M₀ → s.heap.get? b = some o → s₁.heap.get? b = some o := fun b o hb e => x₁.heap b o (fun h => hb (by simp at h; subst h; exact List.mem_append_right _ hit)) e
    have R₁ : Rel c env M₀ [] ρ s₁ := R.step x₁.h fun a h => by simp at h; subst h; exact ⟨hit, hitc⟩
    have hl₁ : s₁.heap.PlainList D ws := hlist.at fun o => x₁.heap D o (by simpa using hDit)
    have hd₁ := DenL.mono (fun _ e => e) hk₁ _ _ hd
    have hDn : D ∉ nOf c env [] := fun h => R.dis D h hD
    have hnP : ∀ a ∈ nOf c env [], P a := fun a h => hP a (List.mem_append_left _ h)
    refine wpAny_bind (W.owned _ s₁ g.target v _ _ st₁ ?_)
    have main : ∀ (ρ' : Rho), bindT c g.target t ρ = some ρ' → (∀ x u, ρ.lookup x = some u → ρ'.lookup x = some u) → ∀ (b : Bool), Ifs c n ρ' g.ifs b →
        ∀ (Q : Fin → Shared → Prop), (∀ s₃, Chg (nOf c env []) s₁ s₃ → Rel c env M₀ [] ρ' s₃ → St (done.length + 1) s₃ → s₃.heap.PlainList D ws → DenL c.w (nOf c env [] ++ M₀) s₃.heap acc ws.toList →
          wpAny (model c.prog c.w) A (if b = true then tailK elt gens sc pos d (.ref D) env (again (.compLoop (.ListComp elt gens sc pos) d (.ref it) (.ref D) env)) else again (.compLoop (.ListComp elt gens sc pos) d (.ref it) (.ref D) env)) Q NoE s₃) →
        wpAny (model c.prog c.w) A (assign g.target env v >>= fun _ => ifsTree g.ifs env >>= fun ok => if ok = true then tailK elt gens sc pos d (.ref D) env (again (.compLoop (.ListComp elt gens sc pos) d (.ref it) (.ref D) env)) else again (.compLoop (.ListComp elt gens sc pos) d (.ref it) (.ref D) env)) Q NoE s₁ := by
      intro ρ' hb hsub b hi Q kk
      refine wpAny_bind (wp_bind rm.1 R₁ (hv _ hP) hb fun O' s₂ x₂ hO R₂ => ?_)
      obtain rfl := R₂.noOwn hO
      refine wpAny_bind (hi.go rm s₂ _ R₂ fun s₃ x₃ R₃ => ?_)
      have x13 : Chg (nOf c env []) s₁ s₃ := Chg.trans x₂ x₃ (by simp)
      refine kk s₃ x13 R₃ (W.frame _ _ _ _ st₁ x13.h hnP fun b hb h => hfp b hb (List.mem_cons_of_mem _ h)) (hl₁.at fun o => x13.heap D o hDn) ?_
      exact DenL.mono (fun _ e => e) (fun b o hb => x13.heap b o fun h => hb (List.mem_append_left _ h)) _ _ hd₁
    have fin : ∀ {s₃ s₄ : Shared} {ρ' : Rho} {ws' : Array Value} {acc' outr' : List T}, (∀ x u, ρ.lookup x = some u → ρ'.lookup x = some u) → Chg (nOf c env []) s₁ s₃ → Chg (D :: nOf c env []) s₃ s₄ → Rel c env M₀ [] ρ' s₄ → St (done.length + 1) s₃ → s₄.heap.PlainList D ws' → DenL c.w (nOf c env [] ++ M₀) s₄.heap acc' ws'.toList →
        Turns c n elt gens sc pos d g ρ ts outr' → acc' ++ outr' = acc ++ outr → acc'.length + outr'.length ≤ sizeLine → codeAny (model c.prog c.w) A (.compLoop (.ListComp elt gens sc pos) d (.ref it) (.ref D) env) R' s₄ := by
      intro s₃ s₄ ρ' ws' acc' outr' hsub x13 x34 R₄ st₃ hl₄ hd₄ ht' he hz'
      have st₄ : St (done ++ [t]).length s₄ := by
        rw [List.length_append]
        exact W.frame _ _ _ _ st₃ x34.h (fun a h => by
          rcases List.mem_cons.mp h with rfl | h
          · exact hP _ (List.mem_append_right _ hD)
          · exact hnP a h) hfp
      refine ih (done ++ [t]) outr' s₄ ws' acc' hdone ht' (R₄.sub hsub) st₄ hl₄ hd₄ hz' fun s' ws'' x5 R5 hl5 hd5 => k s' ws'' ?_ R5 hl5 (he ▸ hd5)
      have y1 : Chg (D :: it :: nOf c env []) s s₁ := x₁.mono fun a h => .inl (by simp at h; subst h; simp)
      have y2 : Chg (D :: it :: nOf c env []) s₁ s₃ := x13.mono fun a h => .inl (List.mem_cons_of_mem _ (List.mem_cons_of_mem _ h))
      have y3 : Chg (D :: it :: nOf c env []) s₃ s₄ := x34.mono fun a h => .inl (by
        rcases List.mem_cons.mp h with rfl | h
        · exact List.mem_cons_self
        · exact List.mem_cons_of_mem _ (List.mem_cons_of_mem _ h))
      exact Chg.trans (Chg.trans (Chg.trans y1 y2 fun a h => .inl h) y3 fun a h => .inl h) x5 fun a h => .inl h
    cases ht with
    | @yes _ _ o₁ o₂ ρ' hb hsub hi htl ht' =>
      refine main ρ' hb hsub true hi _ fun s₃ x13 R₃ st₃ hl₃ hd₃ => ?_
      simp only [if_true]
      simp only [List.length_append] at hz
      refine htl.run A s₃ env M₀ D ws acc _ _ rm R₃ hD hDc hl₃ hd₃ (by lia) fun s₄ ws' x34 R₄ hl₄ hd₄ => wpAny_pure ⟨rfl, ?_⟩
      exact fin hsub x13 x34 R₄ st₃ hl₄ hd₄ ht' (by simp) (by simp only [List.length_append]; lia)
    | @no _ _ o₂ ρ' hb hsub hi ht' =>
      refine main ρ' hb hsub false hi _ fun s₃ x13 R₃ st₃ hl₃ hd₃ => ?_
      simp only [Bool.false_eq_true, if_false]
      exact wpAny_pure ⟨rfl, fin hsub x13 (Chg.refl _) R₃ st₃ hl₃ hd₃ ht' rfl hz⟩
end
end Mine
end

section
set_option autoImplicit false
set_option linter.unusedVariables false
set_option linter.unusedSimpArgs false
namespace Mine
open PySem PySem.Calls PyProof.Rows PySem.SeqAt

section
variable {c : Cx} {n : Nat} {env : Env} {M₀ : List Addr} {O : List (Str × Addr)} {ρ : Rho}

theorem Rel.addM {s s₂ : Shared} (R : Rel c env M₀ O ρ s) (x : Ext s s₂) {X : List Addr} (hX : ∀ a ∈ X, s.heap.objs.size ≤ a ∧ a < s₂.heap.objs.size) : Rel c env (X ++ M₀) O ρ s₂ := by
  have R₂ := R.ext x
  have hM : ∀ a, a ∉ nOf c env O ++ M₀ → a < s.heap.objs.size → a ∉ nOf c env O ++ (X ++ M₀) := fun a ha hl hm => by
    rcases List.mem_append.mp hm with h | h
    · exact ha (List.mem_append_left _ h)
    · rcases List.mem_append.mp h with h | h
      · exact absurd hl (Nat.not_lt.mpr (hX a h).1)
      · exact ha (List.mem_append_right _ h)
  exact {
    bas := R₂.bas
    names := R.names
    kind := R.kind
    glob := R.glob
    blt := R.blt
    nd := R.nd
    hi := fun a ha => by
      rcases List.mem_append.mp ha with h | h
      · exact R₂.hi a (List.mem_append_left _ h)
      · rcases List.mem_append.mp h with h | h
        · exact ⟨Nat.le_trans R.bas.size (hX a h).1, (hX a h).2⟩
        · exact R₂.hi a (List.mem_append_right _ h)
    dis := fun a ha h => by
      rcases List.mem_append.mp h with h | h
      · exact R.new (hX a h).1 (List.mem_append_left _ ha)
      · exact R.dis a ha h
    loc := R₂.loc
    cells := fun y a e => ⟨(R₂.cells y a e).1, (R.cells y a e).2.imp id (List.mem_append_right _)⟩
    call := R.call
    vars := fun y u e => by
      obtain ⟨v, h1, h2⟩ := R.vars y u e
      refine ⟨v, h1.keep x.all, ?_⟩
      cases u with
      | sh t => exact den_re hM (fun b o _ => x.all b o) t v h2
      | own l =>
        obtain ⟨a, vs, e1, e2, e3, e4⟩ := h2
        exact ⟨a, vs, e1, e2, e3.at fun o => x.all a o, denL_re hM (fun b o _ => x.all b o) l _ e4⟩ }

theorem Rel.dropM {s s₂ : Shared} {X : List Addr} {O' : List (Str × Addr)} {ρ' : Rho} (R : Rel c env M₀ O ρ s) (R₂ : Rel c env (X ++ M₀) O' ρ' s₂) : Rel c env M₀ O' ρ' s₂ := by
  have hsub : ∀ a, a ∉ nOf c env O' ++ (X ++ M₀) → a ∉ nOf c env O' ++ M₀ := fun a ha hm => ha (by
    rcases List.mem_append.mp hm with h | h
    · exact List.mem_append_left _ h
    · exact List.mem_append_right _ (List.mem_append_right _ h))
  exact {
    bas := R₂.bas
    names := R.names
    kind := R.kind
    glob := R.glob
    blt := R.blt
    nd := R₂.nd
    hi := fun a ha => R₂.hi a (by
      rcases List.mem_append.mp ha with h | h
      · exact List.mem_append_left _ h
      · exact List.mem_append_right _ (List.mem_append_right _ h))
    dis := fun a ha h => R₂.dis a ha (List.mem_append_right _ h)
    loc := R₂.loc
    cells := fun y a e => ⟨(R₂.cells y a e).1, (R.cells y a e).2⟩
    call := R.call
    vars := fun y u e => by
      obtain ⟨v, h1, h2⟩ := R₂.vars y u e
      exact ⟨v, h1, h2.mono hsub (fun _ _ _ e => e) fun a e => ⟨e, fun _ e => e⟩⟩ }

theorem codeAny_compStart {A : Around} {elt : Expr} {gens : List Comprehension} {sc : Scope} {pos : Pos} {d : Nat} {g : Comprehension} {it acc : Value} {R' : Result → Shared → Prop} {s : Shared} (hg : gens[d]? = some g) (ha : g.is_async = 0)
    (h0 : codeAny (model c.prog c.w) A (.compLoop (.ListComp elt gens sc pos) d it acc env) R' s)
    (h : wpAny (model c.prog c.w) A (pyIter it) (fun it' s' => codeAny (model c.prog c.w) A (.compLoop (.ListComp elt gens sc pos) d it' acc env) R' s') NoE s) :
    codeAny (model c.prog c.w) A (.compStart (.ListComp elt gens sc pos) d it acc env) R' s := by
  refine codeAny_of_tree ?_
  show wpAny _ _ ((compStart (.ListComp elt gens sc pos) d it acc env).onRaise (fun x => do noteFrame x env; standAt theWindowsPlace)) _ _ s
  refine wpAny_notedAt (wpAny_no ?_)
  have hc : clausesOf (.ListComp elt gens sc pos) = gens := rfl
  have he : ((clausesOf (.ListComp elt gens sc pos))[d]?).elim false (·.is_async != 0) = false := by rw [hc, hg]; simp [ha]
  unfold compStart
  rw [he]
  simp only [Bool.false_eq_true, if_false]
  refine wpAny_bind (wpAny_askSetting (wpAny_ite ?_))
  split
  · first
      | exact wpAny_bind (wpAny_pure (wpAny_pure (And.intro rfl h0)))
      | exact wpAny_pure (And.intro rfl h0)
  · rw [hc, hg]
    refine wpAny_bind (wpAny_rule ?_)
    refine wpAny_bind (wpAny_standAt ?_)
    exact wpAny_bind (wpAny_imp h fun it' s' h' => wpAny_pure (And.intro rfl h'))

theorem foldedSet_of {e : Expr} (h : notSet e = true) (x : Value) : foldedSetIterable e env x = pure x := by
  cases e <;> first | rfl | (exact absurd (show false = true from h) (by decide))

theorem Tail.gen {elt : Expr} {gens : List Comprehension} {sc : Scope} {pos : Pos} {d : Nat} {g : Comprehension} {l out : List T} (hg : gens[d + 1]? = some g) (ha : g.is_async = 0) (hs : notSet g.iter = true) (hi : EvI c n ρ true g.iter l)
    (ht : Turns c n elt gens sc pos (d + 1) g ρ l out) : Tail c n elt gens sc pos d ρ out := .mk fun A s env M₀ D ws acc k Q rm R hD hDc hl hd hz hk => by
  unfold tailK
  rw [hg]
  have hna : (g.is_async != 0) = false := by simp [ha]
  simp only [hna, Bool.false_eq_true, if_false]
  refine wpAny_bind (wpAny_imp (hi.run A s env M₀ [] rm R) fun xv s₁ ⟨x₁, h₁⟩ => wpAny_bind (wpAny_standAt (wpAny_bind (wpAny_of_eq (foldedSet_of hs xv) (wpAny_bind (wpAny_holding (wpAny_imp h₁ fun iv s₂ ⟨x₂, hit⟩ => ?_)))))))
  obtain ⟨it, fp, kk, St, rfl, k1, k2, k3, k4, k5, W, st⟩ := hit
  have R₂ : Rel c env ([it] ++ M₀) [] ρ s₂ := R.addM x₂ fun a h => by simp at h; subst h; exact ⟨Nat.le_trans k1 k2, k3⟩
  have hDlt : D < s.heap.objs.size := R.lt D (List.mem_append_right _ hD)
  have hDit : D ≠ it := fun e => absurd hDlt (Nat.not_lt.mpr (e ▸ Nat.le_trans k1 k2))
  have hitc : ∀ y, (y, it) ∉ env.cells := fun y h => by
    have := (R.cellIn h).elim (fun q => R.lt it (List.mem_append_left _ q)) (fun q => R.lt it (List.mem_append_right _ q))
    exact absurd this (Nat.not_lt.mpr (Nat.le_trans k1 k2))
  have hfp : ∀ b ∈ fp, b ∉ D :: nOf c env [] := fun b hb h => by
    rcases List.mem_cons.mp h with rfl | h
    · exact k5 rfl b hb (List.mem_append_right _ hD)
    · exact k5 rfl b hb (List.mem_append_left _ h)
  have hP : ∀ a ∈ nOf c env [] ++ ([it] ++ M₀), a ∈ nOf c env [] ++ M₀ ∨ kk ≤ a := fun a h => by
    rcases List.mem_append.mp h with h | h
    · exact .inl (List.mem_append_left _ h)
    · rcases List.mem_append.mp h with h | h
      · simp at h; subst h; exact .inr k2
      · exact .inl (List.mem_append_right _ h)
  have hl₂ : s₂.heap.PlainList D ws := hl.at fun o => x₂.all D o
  have hd₂ : DenL c.w (nOf c env [] ++ ([it] ++ M₀)) s₂.heap acc ws.toList := denL_re (fun a ha hlt hm => by
    rcases List.mem_append.mp hm with h | h
    · exact ha (List.mem_append_left _ h)
    · rcases List.mem_append.mp h with h | h
      · simp at h; subst h; exact absurd hlt (Nat.not_lt.mpr (Nat.le_trans k1 k2))
      · exact ha (List.mem_append_right _ h)) (fun b o _ => x₂.all b o) _ _ hd
  refine wpAny_bind (wpAny_runOwn ?_)
  have fin : ∀ s' ws', Chg (D :: it :: nOf c env []) s₂ s' → Rel c env ([it] ++ M₀) [] ρ s' → s'.heap.PlainList D ws' → DenL c.w (nOf c env [] ++ ([it] ++ M₀)) s'.heap (acc ++ out) ws'.toList → wpAny (model c.prog c.w) A k Q NoE s' := fun s' ws' x₃ R₃ hl₃ hd₃ => by
    refine hk s' ws' ?_ (R.dropM R₃) hl₃ (DenL.mono (fun a ha hm => ha ?_) (fun _ _ _ e => e) _ _ hd₃)
    · refine Chg.trans x₂.chg x₃ fun a h => ?_
      rcases List.mem_cons.mp h with rfl | h
      · exact .inl List.mem_cons_self
      · rcases List.mem_cons.mp h with rfl | h
        · exact .inr (Nat.le_trans k1 k2)
        · exact .inl (List.mem_cons_of_mem _ h)
    · rcases List.mem_append.mp hm with h | h
      · exact List.mem_append_left _ h
      · exact List.mem_append_right _ (List.mem_append_right _ h)
  have loop : codeAny (model c.prog c.w) A (.compLoop (.ListComp elt gens sc pos) (d + 1) (.ref it) (.ref D) env) (fun r s' => match r with | .ok f => wpAny (model c.prog c.w) A k Q NoE s' | .error e => NoE e s') s₂ :=
    comp_loop (c := c) (n := n) hg ha rm W (List.mem_append_right _ hD) hDc (List.mem_append_left _ (by simp)) hitc hDit hP hfp _ l [] out s₂ ws acc rfl ht R₂ st hl₂ hd₂ hz fin
  refine codeAny_mono (R := fun r s' => match r with | .ok f => wpAny (model c.prog c.w) A k Q NoE s' | .error e => NoE e s') (codeAny_compStart hg ha loop (W.iter 0 s₂ _ _ st loop)) fun r s' h => ?_
  cases r with
  | ok f => exact h
  | error e => exact h.elim

/-- a comprehension up to its list: the frame's place C is to be cleared yet -/
theorem comp_core {s : Shared} (R : Rel c env M₀ O ρ s) {elt : Expr} {g : Comprehension} {gs : List Comprehension} {sc : Scope} {pos : Pos} {l out : List T} {A : Around} (rm : Room A n) (ok : scopeOk c sc = true) (ha : g.is_async = 0) (hs : notSet g.iter = true)
    (hi : EvI c n ρ false g.iter l) (ht : Turns (compCx c sc) n elt (g :: gs) sc pos 0 g (capt c sc ρ) l out) (hz : out.length ≤ sizeLine) (use : Option (Value → Sem Unit)) {Q : Value → Shared → Prop}
    (k : ∀ (C D : Addr) (s' : Shared) (m : Str → Option Value) (ws : Array Value), Ext s s' → s.heap.objs.size ≤ C → s.heap.objs.size ≤ D → D ≠ C → C < s'.heap.objs.size → s'.heap.Ns C m → s'.heap.PlainList D ws → DenL c.w (C :: D :: (nOf c env O ++ M₀)) s'.heap out ws.toList →
      compPost (model c.prog c.w) A NoE use Q (.ref D) C (.ok .next) s') :
    wpAny (model c.prog c.w) A (comprehension (.ListComp elt (g :: gs) sc pos) sc env (firstIterPos (g :: gs) pos) (newList []) false (eval g.iter env) use) Q NoE s := by
  have ok' := ok
  unfold scopeOk at ok'
  simp only [Bool.and_eq_true, List.all_eq_true, Bool.or_eq_true, Bool.not_eq_true', beq_eq_false_iff_ne, beq_iff_eq, ne_eq] at ok'
  obtain ⟨⟨⟨ok1, ok2⟩, ok3⟩, ok4⟩ := ok'
  have hkind : sc.kind = .function := by revert ok1; cases sc.kind <;> simp
  refine wpAny_comprehension_free (g := g) (gs := gs) (cl := closL env sc.names []) rfl (foldedSet_of hs) (closureFor_of fun p hp hf => ?_) hkind (fun p hp hl => (ok2 p hp).resolve_left (by simp [hl])) ?_
  · have := ((ok3 p hp).resolve_left (by simp [hf])).1
    obtain ⟨a, h⟩ := R.call p.1 this
    rw [h]; rfl
  refine wpAny_imp (hi.run A s env M₀ O rm R) fun xv s₁ ⟨x₁, h₁⟩ => wpAny_imp h₁ fun iv s₂ ⟨x₂, hit⟩ => ?_
  obtain ⟨it, fp, kk, St, rfl, k1, k2, k3, k4, k5, W, st⟩ := hit
  refine wpAny_newObj_type ?_
  have x₃ : Ext s₂ { s₂ with heap := s₂.heap.push { cls := .type "list", data := .seq ([] : List Value).toArray } } := Ext.push _ _
  have h3 : ({ s₂ with heap := s₂.heap.push { cls := .type "list", data := .seq ([] : List Value).toArray } } : Shared).heap.objs.size = s₂.heap.objs.size + 1 := Heap.size_push ..
  have h3l : ({ s₂ with heap := s₂.heap.push { cls := .type "list", data := .seq ([] : List Value).toArray } } : Shared).heap.PlainList s₂.heap.objs.size #[] := ⟨0, Heap.get?_push_size _ rfl⟩
  generalize hs3 : ({ s₂ with heap := s₂.heap.push { cls := .type "list", data := .seq ([] : List Value).toArray } } : Shared) = s₃ at x₃ h3 h3l
  have hD : s.heap.objs.size ≤ s₂.heap.objs.size := x₂.size
  refine comp_enter R (Ext.trans x₂ x₃) ok (X := [s₂.heap.objs.size, it]) (fun a h => ?_) fun cenv s₄ x₄ hC hC' hn hcX R₄ => ?_
  · simp only [List.mem_cons, List.not_mem_nil, or_false] at h
    rcases h with rfl | rfl
    · exact ⟨hD, by rw [h3]; exact Nat.lt_succ_self _⟩
    · exact ⟨Nat.le_trans k1 k2, by rw [h3]; exact Nat.lt_succ_of_lt k3⟩
  have hne : s₂.heap.objs.size ≠ it := Nat.ne_of_gt k3
  have W' : Walk (compCx c sc) A it fp l (fun a => a ∈ nOf c env O ++ M₀ ∨ kk ≤ a) St := ⟨W.self, W.frame, W.item, W.done, W.iter, W.owned⟩
  have st₄ : St 0 s₄ := W.frame _ _ _ [] st (Ext.trans x₃ x₄).h (by simp) (by simp)
  have hP : ∀ a ∈ nOf (compCx c sc) { cenv with scope := relabel sc env } [] ++ ([s₂.heap.objs.size, it] ++ (nOf c env O ++ M₀)), a ∈ nOf c env O ++ M₀ ∨ kk ≤ a := fun a h => by
    rcases List.mem_append.mp h with h | h
    · exact .inr (Nat.le_trans (Nat.le_trans k2 (Nat.le_of_lt k3)) (Nat.le_trans (by rw [h3]; exact Nat.le_succ _) (hn a h)))
    · rcases List.mem_append.mp h with h | h
      · simp only [List.mem_cons, List.not_mem_nil, or_false] at h
        rcases h with rfl | rfl
        · exact .inr (Nat.le_trans k2 (Nat.le_of_lt k3))
        · exact .inr k2
      · exact .inl h
  have hfp : ∀ b ∈ fp, b ∉ s₂.heap.objs.size :: nOf (compCx c sc) { cenv with scope := relabel sc env } [] := fun b hb h => by
    rcases List.mem_cons.mp h with rfl | h
    · exact Nat.lt_irrefl _ (k4 _ hb)
    · have := hn b h
      rw [h3] at this
      exact absurd (k4 b hb) (Nat.not_lt.mpr (Nat.le_of_succ_le this))
  have loop : codeAny (model c.prog c.w) A (.compLoop (.ListComp elt (g :: gs) sc pos) 0 (.ref it) (.ref s₂.heap.objs.size) { cenv with scope := relabel sc env }) (compPost (model c.prog c.w) A NoE use Q (.ref s₂.heap.objs.size) cenv.locals) s₄ := by
    refine comp_loop (c := compCx c sc) (n := n) (env := { cenv with scope := relabel sc env }) (d := 0) (g := g) rfl ha rm W' (M₀ := [s₂.heap.objs.size, it] ++ (nOf c env O ++ M₀)) (by simp) (fun y h => hcX _ y h (by simp)) (by simp) (fun y h => hcX _ y h (by simp)) hne hP hfp _ l [] out s₄ #[] [] rfl ht R₄ st₄
      (h3l.at fun o => x₄.all _ o) DenL.nil (by simpa using hz) fun s' ws' x₅ R₅ hl₅ hd₅ => ?_
    obtain ⟨m, hm⟩ := R₅.loc
    have hnew : ∀ a ∈ s₂.heap.objs.size :: it :: nOf (compCx c sc) { cenv with scope := relabel sc env } [], s.heap.objs.size ≤ a := fun a h => by
      rcases List.mem_cons.mp h with rfl | h
      · exact hD
      · rcases List.mem_cons.mp h with rfl | h
        · exact Nat.le_trans k1 k2
        · exact Nat.le_trans (Nat.le_trans x₂.size x₃.size) (hn a h)
    have x : Ext s s' := Chg.trans (Ext.trans x₂ (Ext.trans x₃ x₄)) x₅ fun a h => .inr (hnew a h)
    refine k cenv.locals s₂.heap.objs.size s' m ws' x (Nat.le_trans (Nat.le_trans x₂.size x₃.size) hC) hD (fun e => ?_) (Nat.lt_of_lt_of_le hC' x₅.size) hm hl₅ ?_
    · rw [← e, h3] at hC; omega
    · refine DenL.mono (fun a ha hm => ha ?_) (fun _ _ _ e => e) _ _ hd₅
      rcases List.mem_cons.mp hm with rfl | hm
      · exact List.mem_append_left _ List.mem_cons_self
      · rcases List.mem_cons.mp hm with rfl | hm
        · exact List.mem_append_right _ (by simp)
        · exact List.mem_append_right _ (List.mem_append_right _ hm)
  exact codeAny_compStart (g := g) rfl ha loop (W.iter 0 s₄ _ _ st₄ loop)

theorem EvN.comp {elt : Expr} {target iter : Expr} {ifs : List Expr} {gs : List Comprehension} {sc : Scope} {pos : Pos} {l out : List T} (ok : scopeOk c sc = true) (hs : notSet iter = true)
    (hi : EvI c n ρ false iter l) (ht : Turns (compCx c sc) n elt (⟨target, iter, ifs, 0⟩ :: gs) sc pos 0 ⟨target, iter, ifs, 0⟩ (capt c sc ρ) l out) (hz : out.length ≤ sizeLine) :
    EvN c n ρ (.ListComp elt (⟨target, iter, ifs, 0⟩ :: gs) sc pos) out := .mk fun A s env M₀ O rm R => by
  rw [eval_ListComp]
  refine comp_core R rm ok rfl hs hi ht hz none fun C D s' m ws x hC hD hDC hCl hm hl hd => ⟨m, hm, fun h' hs' => ?_⟩
  have hk : ∀ b o, b ≠ C → s'.heap.get? b = some o → h'.get? b = some o := fun b o hb e => (hs'.2 b hb).trans e
  refine ⟨⟨fun b o _ e => hk b o (fun h => absurd (Heap.lt_size e) (Nat.not_lt.mpr (h ▸ hC))) (x.all b o e), Nat.le_trans x.size (Nat.le_of_eq hs'.1.symm), x.gens, x.bare, x.os, (Chg.toks x : s.toks ≤ s'.toks)⟩, D, ws, rfl, hD, hl.at fun o => hk D o hDC, ?_⟩
  exact DenL.mono (fun a ha hm => ha (List.mem_cons_of_mem _ hm)) (fun b o hb e => hk b o (fun h => hb (h ▸ List.mem_cons_self)) e) _ _ hd
end
end Mine
end

section
set_option autoImplicit false
set_option linter.unusedVariables false
set_option linter.unusedSimpArgs false
namespace Mine
open PySem PySem.Calls PyProof.Rows PySem.SeqAt

inductive Out where
  | next (ρ : Rho)
  | ret (t : T) (new : Bool)

def Post (c : Cx) (env : Env) (M₀ : List Addr) (O : List (Str × Addr)) (lo : Nat) : Out → Flow → Shared → Prop
  | .next ρ', fl, s' => fl = .next ∧ ∃ O', Rel c env M₀ O' ρ' s' ∧ ∀ a ∈ nOf c env O', a ∈ nOf c env O ∨ lo ≤ a
  | .ret t false, fl, s' => ∃ v, fl = .ret v ∧ Den c.w M₀ s'.heap t v
  | .ret t true, fl, s' => ∃ v l a vs, fl = .ret v ∧ t = .list l ∧ v = .ref a ∧ (a ∈ nOf c env O ∨ lo ≤ a) ∧ s'.heap.PlainList a vs ∧ DenL c.w (a :: M₀) s'.heap l vs.toList

/-- a statement, a list of them -/
structure Ex1 (c : Cx) (n : Nat) (ρ : Rho) (st : Stmt) (o : Out) : Prop where
  run : ∀ A s env M₀ O, Room A n → Rel c env M₀ O ρ s →
  wpAny (model c.prog c.w) A (exec st env) (fun fl s' => Chg (nOf c env O) s s' ∧ Post c env M₀ O s.heap.objs.size o fl s') NoE s
structure Ex (c : Cx) (n : Nat) (ρ : Rho) (b : List Stmt) (o : Out) : Prop where
  run : ∀ A s env M₀ O, Room A n → Rel c env M₀ O ρ s →
  wpAny (model c.prog c.w) A (execs b env) (fun fl s' => Chg (nOf c env O) s s' ∧ Post c env M₀ O s.heap.objs.size o fl s') NoE s

section
variable {c : Cx} {n : Nat} {ρ ρ' : Rho}

theorem Post.chain {env : Env} {M₀ : List Addr} {O O' : List (Str × Addr)} {lo lo' : Nat} {o : Out} {fl : Flow} {s : Shared} (h : Post c env M₀ O' lo' o fl s) (hO : ∀ a ∈ nOf c env O', a ∈ nOf c env O ∨ lo ≤ a) (hl : lo ≤ lo') : Post c env M₀ O lo o fl s := by
  cases o with
  | next ρ =>
    obtain ⟨h1, O'', h2, h3⟩ := h
    exact ⟨h1, O'', h2, fun a ha => (h3 a ha).elim (hO a) fun q => .inr (Nat.le_trans hl q)⟩
  | ret t b =>
    cases b with
    | false => exact h
    | true =>
      obtain ⟨v, l, a, vs, h1, h2, h3, h4, h5, h6⟩ := h
      exact ⟨v, l, a, vs, h1, h2, h3, h4.elim (hO a) fun q => .inr (Nat.le_trans hl q), h5, h6⟩

theorem Ex.nil : Ex c n ρ [] (.next ρ) := .mk fun A s env M₀ O rm R => wpAny_execs_nil ⟨Chg.refl _, rfl, O, R, fun a h => .inl h⟩
theorem Ex.cons {st : Stmt} {r : List Stmt} {o : Out} (h : Ex1 c n ρ st (.next ρ')) (hr : Ex c n ρ' r o) : Ex c n ρ (st :: r) o := .mk fun A s env M₀ O rm R => by
  rw [execs_cons]
  refine wpAny_bind (wpAny_imp (h.run A s env M₀ O rm R) fun fl s₁ ⟨x, e, O', R', hO⟩ => ?_)
  subst e
  refine wpAny_imp (hr.run A s₁ env M₀ O' rm R') fun fl s₂ ⟨y, p⟩ => ⟨Chg.trans x y hO, p.chain hO x.size⟩
theorem Ex.ret {st : Stmt} {r : List Stmt} {t : T} {b : Bool} (h : Ex1 c n ρ st (.ret t b)) : Ex c n ρ (st :: r) (.ret t b) := .mk fun A s env M₀ O rm R => by
  rw [execs_cons]
  refine wpAny_bind (wpAny_imp (h.run A s env M₀ O rm R) fun fl s₁ ⟨x, p⟩ => ?_)
  have : ∃ v, fl = .ret v := by
    cases b with
    | false => obtain ⟨v, e, _⟩ := p; exact ⟨v, e⟩
    | true => obtain ⟨v, l, a, vs, e, _⟩ := p; exact ⟨v, e⟩
  obtain ⟨v, e⟩ := this
  subst e
  exact wpAny_pure ⟨x, p⟩

theorem Ex1.ret {e : Expr} {pos : Pos} {t : T} (h : Ev c n ρ e t) : Ex1 c n ρ (.Return (some e) pos) (.ret t false) := .mk fun A s env M₀ O rm R =>
  wpAny_Return_some (h.go rm R fun v s' x R' d => ⟨x.chg, v, rfl, Den.mono (fun a ha hm => ha (List.mem_append_right _ hm)) (fun _ _ _ e => e) t v d⟩)
theorem Ex1.retOwn {x : Str} {p pos : Pos} {l : List T} (h : ρ.lookup x = some (.own l)) (hx : nameOk x = true) : Ex1 c n ρ (.Return (some (.Name x p)) pos) (.ret (.list l) true) := .mk fun A s env M₀ O rm R => by
  unfold nameOk at hx
  simp only [Bool.and_eq_true, Bool.not_eq_true'] at hx
  obtain ⟨v, h1, a, vs, e, h2, h3, h4⟩ := R.vars x _ h
  refine wpAny_Return_some (wpAny_Name (wp_loads R h1 ⟨Chg.refl _, v, l, a, vs, rfl, rfl, e, .inl (own_mem h2), h3, DenL.mono (fun b hb hm => hb ?_) (fun _ _ _ e => e) _ _ h4⟩ hx.2) hx.1)
  rcases List.mem_cons.mp hm with rfl | hm
  · exact List.mem_append_left _ (own_mem h2)
  · exact List.mem_append_right _ hm

theorem Ex1.ite {t : Expr} {a b : List Stmt} {pos : Pos} {q : Bool} {o : Out} (h : EvT c n ρ t q) (ha : q = true → Ex c n ρ a o) (hb : q = false → Ex c n ρ b o) : Ex1 c n ρ (.If t a b pos) o := .mk fun A s env M₀ O rm R => by
  rw [exec_If]
  refine wpAny_bind (wpAny_standAt (wpAny_bind (h.go rm R fun s' x R' => ?_)))
  cases q
  · exact wpAny_imp ((hb rfl).run A s' env M₀ O rm R') fun fl s'' ⟨y, p⟩ => ⟨Chg.trans x.chg y fun a h => .inl h, p.chain (fun a h => .inl h) x.size⟩
  · exact wpAny_imp ((ha rfl).run A s' env M₀ O rm R') fun fl s'' ⟨y, p⟩ => ⟨Chg.trans x.chg y fun a h => .inl h, p.chain (fun a h => .inl h) x.size⟩

/-! assignments -/
def notComp : Expr → Bool
  | .ListComp .. | .SetComp .. | .DictComp .. => false
  | _ => true
theorem swaps_of {e : Expr} (h : notComp e = true) (t : Option Expr) (line : Nat) (env : Env) : swapsWith e t line env = pure false := by
  cases e <;> first | rfl | (exact absurd (show false = true from h) (by decide))

theorem ownPut_sh {x : Str} {t : T} {v : Value} {O : List (Str × Addr)} : ownPut x (.sh t) v O = unset x O := by cases v <;> rfl

theorem Ex1.assign {x : Str} {e : Expr} {p pos : Pos} {t : T} (h : Ev c n ρ e t) (hn : notComp e = true) (hc : canStore c x = true) : Ex1 c n ρ (.Assign [.Name x p] e pos) (.next (put x (.sh t) ρ)) := .mk fun A s env M₀ O rm R =>
  wpAny_Assign_Name (h.go rm R fun v s' y R' d => wp_store (u := .sh t) R y d hc fun s'' z R'' => ⟨Chg.trans y.chg z fun a h => .inl h, rfl, _, R'', fun a h => by rw [ownPut_sh] at h; exact .inl (nOf_unset a h)⟩) (swaps_of hn _ _ _)
theorem Ex1.assignOwn {x : Str} {e : Expr} {p pos : Pos} {l : List T} (h : EvN c n ρ e l) (hn : notComp e = true) (hc : canStore c x = true) : Ex1 c n ρ (.Assign [.Name x p] e pos) (.next (put x (.own l) ρ)) := .mk fun A s env M₀ O rm R =>
  wpAny_Assign_Name (wpAny_imp (h.run A s env M₀ O rm R) fun v s' ⟨y, a, vs, h1, h2, h3, h4⟩ => by
    have f : Fit c env M₀ O s.heap.objs.size s'.heap (.own l) v := ⟨a, vs, h1, h2, h3, h4⟩
    exact wp_store (u := .own l) R y f hc fun s'' z R'' => ⟨Chg.trans y.chg z fun a h => .inl h, rfl, _, R'', fun b h => (nOf_put f b h).imp id fun ⟨q, _⟩ => by rw [h1] at q; cases q; exact h2⟩) (swaps_of hn _ _ _)

theorem Ex1.assignComp {x : Str} {p pos : Pos} {elt : Expr} {target iter : Expr} {ifs : List Expr} {gs : List Comprehension} {sc : Scope} {cpos : Pos} {l out : List T} (ok : scopeOk c sc = true) (hs : notSet iter = true)
    (hi : EvI c n ρ false iter l) (ht : Turns (compCx c sc) n elt (⟨target, iter, ifs, 0⟩ :: gs) sc cpos 0 ⟨target, iter, ifs, 0⟩ (capt c sc ρ) l out) (hz : out.length ≤ sizeLine) (hc : canStore c x = true) :
    Ex1 c n ρ (.Assign [.Name x p] (.ListComp elt (⟨target, iter, ifs, 0⟩ :: gs) sc cpos) pos) (.next (put x (.sh (.list out)) ρ)) := .mk fun A s env M₀ O rm R => by
  have hb : ∃ b : Bool, swapsWith (.ListComp elt (⟨target, iter, ifs, 0⟩ :: gs) sc cpos) (some (.Name x p)) pos.line env = pure b := ⟨_, rfl⟩
  obtain ⟨b, hb⟩ := hb
  cases b
  · exact wpAny_Assign_Name ((EvN.comp ok hs hi ht hz).ev.go rm R fun v s' y R' d => wp_store (u := .sh (.list out)) R y d hc fun s'' z R'' => ⟨Chg.trans y.chg z fun a h => .inl h, rfl, _, R'', fun a h => by rw [ownPut_sh] at h; exact .inl (nOf_unset a h)⟩) hb
  · rw [exec_Assign_Name_used _ _ _ _ hb]
    refine wpAny_bind (wpAny_standAt (wpAny_bind ?_))
    show wpAny _ _ (do let _ ← comprehension (.ListComp elt (⟨target, iter, ifs, 0⟩ :: gs) sc cpos) sc env (firstIterPos (⟨target, iter, ifs, 0⟩ :: gs) cpos) (newList []) false (eval iter env) (some (PySem.assign (Expr.Name x p) env))) _ _ _
    refine wpAny_bind (comp_core R rm ok rfl hs hi ht hz (some (PySem.assign (Expr.Name x p) env)) fun C D s' m ws y hC hD hDC hCl hm hl hd => ?_)
    have RC : Rel c env ([C] ++ M₀) O ρ s' := R.addM y fun a h => by simp at h; subst h; exact ⟨hC, hCl⟩
    have dD : Den c.w (nOf c env O ++ ([C] ++ M₀)) s'.heap (.list out) (.ref D) := by
      refine Den.of_list (fun h => ?_) hl (DenL.mono (fun a ha hm => ha ?_) (fun _ _ _ e => e) _ _ hd)
      · rcases List.mem_append.mp h with h | h
        · exact absurd (R.lt D (List.mem_append_left _ h)) (Nat.not_lt.mpr hD)
        · rcases List.mem_append.mp h with h | h
          · simp at h; exact hDC h
          · exact absurd (R.lt D (List.mem_append_right _ h)) (Nat.not_lt.mpr hD)
      · rcases List.mem_append.mp hm with h | h
        · exact List.mem_cons_of_mem _ (List.mem_cons_of_mem _ (List.mem_append_left _ h))
        · rcases List.mem_append.mp h with h | h
          · simp at h; subst h; exact List.mem_cons_self
          · exact List.mem_cons_of_mem _ (List.mem_cons_of_mem _ (List.mem_append_right _ h))
    refine wpAny_assign_Name (wp_store (u := .sh (.list out)) RC (Chg.refl _) dD hc fun s'' z R'' => ?_)
    have hCn : C ∉ nOf c env O := fun h => absurd (R.lt C (List.mem_append_left _ h)) (Nat.not_lt.mpr hC)
    rw [ownPut_sh] at R''
    refine ⟨m, hm.at' fun o e => z.heap C o hCn e, fun h' hs' => wpAny_pure (wpAny_pure ?_)⟩
    have hk : ∀ b o, b ≠ C → s''.heap.get? b = some o → h'.get? b = some o := fun b o hb e => (hs'.2 b hb).trans e
    have zz : Chg [C] s'' { s'' with heap := h' } := ⟨fun b o hb e => hk b o (by simpa using hb) e, Nat.le_of_eq hs'.1.symm, fun _ _ e => e, id, rfl, Nat.le_refl _⟩
    have R3 : Rel c env ([C] ++ M₀) (unset x O) (put x (.sh (.list out)) ρ) { s'' with heap := h' } := R''.step zz.h fun a h => by
      simp at h; subst h
      refine ⟨by simp, fun q hq => ?_⟩
      exact (R.cellIn hq).elim hCn fun h => absurd (R.lt a (List.mem_append_right _ h)) (Nat.not_lt.mpr hC)
    refine ⟨?_, rfl, unset x O, Rel.dropM R R3, fun a h => .inl (nOf_unset a h)⟩
    · exact Chg.trans (Chg.trans y.chg z fun a h => .inl h) zz fun a h => .inr (by simp at h; subst h; exact hC)

/-! x op= e -/
theorem Ex1.aug {x : Str} {e : Expr} {op : Operator} {p pos : Pos} {a b t : T} (hx : ρ.lookup x = some (.sh a)) (hn : nameOk x = true) (h : EvB c n ρ e b) (hi : InOk c op a b t) (hc : canStore c x = true) :
    Ex1 c n ρ (.AugAssign (.Name x p) op e pos) (.next (put x (.sh t) ρ)) := .mk fun A s env M₀ O rm R => by
  unfold nameOk at hn
  simp only [Bool.and_eq_true, Bool.not_eq_true'] at hn
  obtain ⟨v, h1, h2⟩ := R.vars x _ hx
  refine wpAny_AugAssign_Name (wp_loads R h1 (h.go rm R fun w s₁ x₁ R₁ d₁ => wpAny_imp (hi A s₁ _ v w R₁.bas R₁.lt (Den.keep h2 x₁.all).borrow d₁) fun r s₂ ⟨x₂, d₂⟩ => ?_) hn.2)
  exact wp_store (u := .sh t) R (Ext.trans x₁ x₂) d₂ hc fun s₃ z R₃ => ⟨Chg.trans (Ext.trans x₁ x₂).chg z fun a h => .inl h, rfl, _, R₃, fun a h => by rw [ownPut_sh] at h; exact .inl (nOf_unset a h)⟩

/-! tuples of names -/
def swapT (ns : List (Str × NameKind)) (ts : List Expr) : Expr → Option (Option (List Str))
  | .Tuple vs _ _ =>
    if (!(ts.length == 2 || ts.length == 3) || vs.length != ts.length) = true then some none
    else if (vs.any fun | .Starred .. => true | _ => false) = true then some none
    else
      let line := (ts.head?.map (·.pos.line)).getD 0
      let names := ts.filterMap fun
        | .Name id pos => if ns.lookup id == some .local && pos.line == line then some id else none
        | _ => none
      if (names.length != ts.length || names.eraseDups.length != names.length) = true then some none
      else if (vs.all (foldedForSure 8)) = true then some none
      else if (vs.all (constantsAlone 8)) = true then none
      else some (some names)
  | _ => some none

theorem swapped_of {env : Env} {M₀ : List Addr} {O : List (Str × Addr)} {s : Shared} (R : Rel c env M₀ O ρ s) {ts : List Expr} {k : Nat} {tp : Pos} {e : Expr} {r : Option (List Str)} (h : swapT c.ns ts e = some r) :
    swappedStores [.Tuple ts k tp] e env = pure r := by
  have hb : env.blockKind = .function := by unfold Env.blockKind; rw [R.kind]; rfl
  have hk : ∀ id, env.kindOf id = c.ns.lookup id := R.kindOf
  cases e <;> (try (simp only [swapT, Option.some.injEq] at h; subst h; rfl))
  rename_i vs _ _
  unfold swapT at h
  unfold swappedStores
  simp only [hb, hk]
  have hf : (ScopeKind.function != ScopeKind.function) = false := by decide
  rw [hf, Bool.or_false]
  dsimp only at h
  split at h
  · rename_i h1
    simp only [Option.some.injEq] at h; subst h
    exact if_pos h1
  · rename_i h1
    refine Eq.trans (if_neg h1) ?_
    split at h
    · rename_i h2
      simp only [Option.some.injEq] at h; subst h
      exact if_pos h2
    · rename_i h2
      refine Eq.trans (if_neg h2) ?_
      split at h
      · rename_i h3
        simp only [Option.some.injEq] at h; subst h
        exact if_pos h3
      · rename_i h3
        refine Eq.trans (if_neg h3) ?_
        split at h
        · rename_i h4
          simp only [Option.some.injEq] at h; subst h
          exact if_pos h4
        · rename_i h4
          refine Eq.trans (if_neg h4) ?_
          split at h
          · simp at h
          · rename_i h5
            simp only [Option.some.injEq] at h; subst h
            exact if_neg h5

theorem swapT_names {ns : List (Str × NameKind)} {ts : List Expr} {e : Expr} {names : List Str} (h : swapT ns ts e = some (some names)) : namesOf ts = some names := by
  have key : ∀ (f : Expr → Option Str), (∀ e x, f e = some x → nameOf e = some x) → ∀ (l : List Expr), (l.filterMap f).length = l.length → namesOf l = some (l.filterMap f) := by
    intro f hf l
    induction l with
    | nil => intro _; rfl
    | cons a r ih =>
      intro hl
      cases hfa : f a with
      | none =>
        rw [List.filterMap_cons_none hfa] at hl
        have := List.length_filterMap_le f r
        simp at hl; lia
      | some x =>
        rw [List.filterMap_cons_some hfa] at hl ⊢
        simp only [namesOf, hf a x hfa, ih (by simpa using hl)]
  cases e <;> simp only [swapT, Option.some.injEq, reduceCtorEq] at h
  split at h
  · cases h
  split at h
  · cases h
  split at h
  · cases h
  · rename_i h3
    split at h
    · cases h
    split at h
    · cases h
    · simp only [Option.some.injEq] at h
      subst h
      simp only [Bool.or_eq_true, bne_iff_ne, ne_eq, not_or, Decidable.not_not] at h3
      refine key _ (fun e x he => ?_) ts h3.1
      cases e <;> simp at he
      exact congrArg some he.2

theorem wp_names {env : Env} {M₀ : List Addr} : ∀ (xs : List Str) (ts : List T) (vs : List Value) (s : Shared) (O : List (Str × Addr)) (ρ : Rho) {A : Around} {Q : Unit → Shared → Prop} {E : Value → Shared → Prop},
    xs.all (canStore c) = true → Rel c env M₀ O ρ s → DenL c.w (nOf c env O ++ M₀) s.heap ts vs →
    (∀ O' s', Chg (nOf c env O) s s' → (∀ a ∈ nOf c env O', a ∈ nOf c env O) → Rel c env M₀ O' (putAll xs ts ρ) s' → Q () s') → wpAny (model c.prog c.w) A (assignInOrder (xs.map fun n => bindName env n) vs) Q E s
  | [], ts, vs, s, O, ρ, A, Q, E, _, R, d, k => by
    have : wpAny (model c.prog c.w) A (pure ()) Q E s := wpAny_pure (k O s (Chg.refl _) (fun _ h => h) (by cases ts <;> exact R))
    simpa [assignInOrder] using this
  | x :: xs, ts, vs, s, O, ρ, A, Q, E, hc, R, d, k => by
    simp only [List.all_cons, Bool.and_eq_true] at hc
    cases ts with
    | nil =>
      simp only [DenL] at d; subst d
      have : wpAny (model c.prog c.w) A (pure ()) Q E s := wpAny_pure (k O s (Chg.refl _) (fun _ h => h) R)
      simpa [assignInOrder] using this
    | cons t ts =>
      simp only [DenL] at d
      obtain ⟨v, r, rfl, d1, d2⟩ := d
      show wpAny _ A (do holding r (bindName env x v); assignInOrder (xs.map fun n => bindName env n) r) Q E s
      refine wpAny_bind (wpAny_holding (wpAny_bindName (wp_store (u := .sh t) R (Chg.refl _) d1 hc.1 fun s' x' R' => ?_)))
      rw [ownPut_sh] at R'
      refine wp_names xs ts r s' _ _ hc.2 R' (DenL.mono (fun a ha h => ha ?_) (fun b o hb => x'.heap b o (fun h => hb (List.mem_append_left _ h))) _ _ d2) fun O' s'' x'' hs R'' => k O' s'' (Chg.trans x' x'' fun a ha => .inl (nOf_unset a ha)) (fun a ha => nOf_unset a (hs a ha)) R''
      rcases List.mem_append.mp h with h | h
      · exact List.mem_append_left _ (nOf_unset a h)
      · exact List.mem_append_right _ h

def storeT (sw : Option (List Str)) (xs : List Str) (ts : List T) (ρ : Rho) : Rho := match sw with
  | some _ => putAll xs.reverse ts.reverse ρ
  | none => putAll xs ts ρ

theorem DenL.reverse {w : World} {M : List Addr} {h : Heap} : ∀ {ts : List T} {vs : List Value}, DenL w M h ts vs → DenL w M h ts.reverse vs.reverse
  | [], vs, x => by simp only [DenL] at x; subst x; simp [DenL]
  | t :: ts, vs, x => by
    simp only [DenL] at x
    obtain ⟨v, r, rfl, h2, h3⟩ := x
    rw [List.reverse_cons, List.reverse_cons]
    exact (DenL.reverse h3).app (DenL.cons h2 DenL.nil)

theorem Ex1.assignT {es : List Expr} {k : Nat} {e : Expr} {tp pos : Pos} {ts : List T} {xs : List Str} {sw : Option (List Str)} (h : Ev c n ρ e (.tup ts)) (hn : notComp e = true) (hx : namesOf es = some xs) (hc : xs.all (canStore c) = true) (hl : xs.length = ts.length)
    (hsw : swapT c.ns es e = some sw) : Ex1 c n ρ (.Assign [.Tuple es k tp] e pos) (.next (storeT sw xs ts ρ)) := .mk fun A s env M₀ O rm R => by
  rw [PySem.exec_Assign_arm]
  refine wpAny_bind (wpAny_standAt ?_)
  rw [show swapsWithSole [.Tuple es k tp] e pos.line env = pure false from (show swapsWith e (some (.Tuple es k tp)) pos.line env = pure false from swaps_of hn _ _ _)]
  refine wpAny_bind (wpAny_pure ?_)
  rw [if_neg (by decide)]
  refine wpAny_bind (h.go rm R fun v s₁ x₁ R₁ d₁ => ?_)
  rw [swapped_of R₁ hsw]
  refine wpAny_bind (wpAny_pure ?_)
  simp only [Den] at d₁
  obtain ⟨a, vs, rfl, ha, ht, hd⟩ := d₁
  have hlen := hd.length
  have hsz : xs.length = vs.size := by rw [hl, hlen]; simp
  cases sw with
  | none =>
    show wpAny _ A (do assignAll (Value.ref a) [PySem.assign (Expr.Tuple es k tp) env]; pure Flow.next) _ _ s₁
    refine wpAny_bind (wp_bind (c := c) (t := .tup ts) rm.1 R₁ (by simp only [Den]; exact ⟨a, vs, rfl, ha, ht, hd⟩) (by simp [bindT, hx, hc, hl]; exact rfl) fun O' s₂ x₂ hO R₂ => wpAny_pure ?_)
    exact ⟨Chg.trans x₁.chg x₂ fun a h => .inl h, rfl, O', R₂, fun a h => .inl (hO a h)⟩
  | some names =>
    have := swapT_names hsw
    rw [hx] at this; cases this
    show wpAny _ A (do rule "assign.swapped-stores"; let items ← unpackItems (Value.ref a) xs.length none; assignInOrder (xs.reverse.map fun n => bindName env n) items.reverse; pure Flow.next) _ _ s₁
    rw [hsz]
    refine wpAny_bind (wpAny_rule (wpAny_bind (wp_grow (wpAny_unpackItems_tuple rm.1 ht fun h' he hs htk => ?_))))
    have x : Ext s₁ { s₁ with heap := h' } := ⟨fun b o _ e => he b o (Nat.ne_of_lt (Heap.lt_size e)) e, hs, fun _ _ e => e, id, rfl, Nat.le_refl _⟩
    refine wpAny_bind (wp_names xs.reverse ts.reverse vs.toList.reverse { s₁ with heap := h' } O ρ (by simpa using hc) (R₁.ext x) (hd.reverse.keep x.all) fun O' s₂ x₂ hO R₂ => wpAny_pure ?_)
    exact ⟨Chg.trans (Ext.trans x₁ x).chg x₂ fun a h => .inl h, rfl, O', R₂, fun a h => .inl (hO a h)⟩
end
end Mine
end

section
set_option autoImplicit false
set_option linter.unusedVariables false
set_option linter.unusedSimpArgs false
namespace Mine
open PySem PySem.Calls PyProof.Rows PySem.SeqAt

section
variable {c : Cx} {n : Nat}

/-- a for statement's turns over its items -/
inductive Loops (c : Cx) (n : Nat) (target : Expr) (body : List Stmt) : Rho → List T → Out → Prop
  | nil {ρ : Rho} : Loops c n target body ρ [] (.next ρ)
  | next {ρ ρ₁ ρ₂ : Rho} {t : T} {ts : List T} {o : Out} : bindT c target t ρ = some ρ₁ → Ex c n ρ₁ body (.next ρ₂) → Loops c n target body ρ₂ ts o → Loops c n target body ρ (t :: ts) o
  | ret {ρ ρ₁ : Rho} {t r : T} {ts : List T} {b : Bool} : bindT c target t ρ = some ρ₁ → Ex c n ρ₁ body (.ret r b) → Loops c n target body ρ (t :: ts) (.ret r b)

def forPost (c : Cx) (env : Env) (M₀ : List Addr) (O₀ : List (Str × Addr)) (k : Nat) (s₀ : Shared) (it : Addr) (o : Out) : Result → Shared → Prop
  | .ok fl, s' => Chg (it :: nOf c env O₀) s₀ s' ∧ Post c env ([it] ++ M₀) O₀ k o fl s'
  | .error _, _ => False

theorem for_loop {target : Expr} {body : List Stmt} {l : List T} {A : Around} (rm : Room A n) {env : Env} {M₀ : List Addr} {it : Addr} {fp : List Addr} {O₀ : List (Str × Addr)} {k lo : Nat} {St : Nat → Shared → Prop}
    (W : Walk c A it fp l (fun a => a ∈ nOf c env O₀ ++ M₀ ∨ k ≤ a) St) (hk : k ≤ lo) (hfp : ∀ b ∈ fp, b < lo ∧ b ∉ nOf c env O₀) (hitc : ∀ y, (y, it) ∉ env.cells) (hik : k ≤ it) {o : Out} {R' : Result → Shared → Prop} :
    ∀ (rest done : List T) (ρ : Rho) (s : Shared) (O : List (Str × Addr)), done ++ rest = l → Loops c n target body ρ rest o → Rel c env ([it] ++ M₀) O ρ s → (∀ a ∈ nOf c env O, a ∈ nOf c env O₀ ∨ lo ≤ a) → lo ≤ s.heap.objs.size → St done.length s →
      (∀ fl s', Chg (it :: nOf c env O) s s' → Post c env ([it] ++ M₀) O s.heap.objs.size o fl s' → R' (.ok fl) s') →
      codeAny (model c.prog c.w) A (.forLoop target (.ref it) body [] env) R' s := by
  intro rest
  induction rest with
  | nil =>
    intro done ρ s O hl ht R hO hlo st kk
    cases ht
    rw [List.append_nil] at hl; subst hl
    refine codeAny_of_tree ?_
    show wpAny _ _ ((forTurn target (.ref it) body [] env).onRaise (fun x => do noteFrame x env; theTreesLotGoes x)) _ _ s
    refine wpAny_noted (wpAny_no ?_)
    unfold forTurn
    refine wpAny_bind (wpAny_standAt (wpAny_bind (wpAny_onRaise (wpAny_no (W.done s _ NoE st fun s' x => wpAny_pure ⟨rfl, codeAny_block (wpAny_execs_nil ?_)⟩)))))
    exact kk _ _ (x.mono fun a h => .inl (by simp at h; subst h; simp)) ⟨rfl, O, R.step x.h fun a h => by simp at h; subst h; exact ⟨by simp, hitc⟩, fun a h => .inl h⟩
  | cons t ts ih =>
    intro done ρ s O hl ht R hO hlo st kk
    refine codeAny_of_tree ?_
    show wpAny _ _ ((forTurn target (.ref it) body [] env).onRaise (fun x => do noteFrame x env; theTreesLotGoes x)) _ _ s
    refine wpAny_noted (wpAny_no ?_)
    unfold forTurn
    have hitem : l[done.length]? = some t := by rw [← hl]; simp
    have hdone : (done ++ [t]) ++ ts = l := by rw [← hl]; simp
    refine wpAny_bind (wpAny_standAt (wpAny_bind (wpAny_onRaise (wpAny_no (W.item done.length t s _ NoE hitem st fun v s₁ x₁ st₁ hv => ?_)))))
    have R₁ : Rel c env ([it] ++ M₀) O ρ s₁ := R.step x₁.h fun a h => by simp at h; subst h; exact ⟨by simp, hitc⟩
    have hP : ∀ a ∈ nOf c env O ++ ([it] ++ M₀), a ∈ nOf c env O₀ ++ M₀ ∨ k ≤ a := fun a h => by
      rcases List.mem_append.mp h with h | h
      · exact (hO a h).imp (List.mem_append_left _) fun q => Nat.le_trans hk q
      · rcases List.mem_append.mp h with h | h
        · simp at h; subst h; exact .inr hik
        · exact .inl (List.mem_append_right _ h)
    have hnP : ∀ a ∈ nOf c env O, a ∈ nOf c env O₀ ++ M₀ ∨ k ≤ a := fun a h => hP a (List.mem_append_left _ h)
    have hfpO : ∀ b ∈ fp, b ∉ nOf c env O := fun b hb h => (hO b h).elim (hfp b hb).2 fun q => absurd (hfp b hb).1 (Nat.not_lt.mpr q)
    refine wpAny_bind (W.owned _ s₁ target v _ _ st₁ ?_)
    have y1 : Chg (it :: nOf c env O) s s₁ := x₁.mono fun a h => .inl (by simp at h; subst h; simp)
    cases ht with
    | @next _ ρ₁ ρ₂ _ _ _ hb hbody hrest =>
      refine wpAny_bind (wp_bind rm.1 R₁ (hv _ hP) hb fun O' s₂ x₂ hO' R₂ => ?_)
      refine wpAny_bind (wpAny_imp (hbody.run A s₂ env ([it] ++ M₀) O' rm R₂) fun fl s₃ ⟨x₃, e, O'', R₃, hO''⟩ => ?_)
      subst e
      refine wpAny_pure ⟨rfl, ?_⟩
      have x13 : Chg (nOf c env O) s₁ s₃ := Chg.trans x₂ x₃ fun a h => .inl (hO' a h)
      have st₃ : St (done ++ [t]).length s₃ := by
        rw [List.length_append]
        exact W.frame _ _ _ _ st₁ x13.h hnP hfpO
      have hsz : s.heap.objs.size ≤ s₂.heap.objs.size := Nat.le_trans x₁.size x₂.size
      have hnew : ∀ a ∈ nOf c env O'', a ∈ nOf c env O ∨ s.heap.objs.size ≤ a := fun a h => (hO'' a h).imp (hO' a) fun q => Nat.le_trans hsz q
      have x03 : Chg (it :: nOf c env O) s s₃ := Chg.trans y1 (x13.mono fun a h => .inl (List.mem_cons_of_mem _ h)) fun a h => .inl h
      refine ih (done ++ [t]) ρ₂ s₃ O'' hdone hrest R₃ (fun a h => (hnew a h).elim (hO a) fun q => .inr (Nat.le_trans hlo q)) (Nat.le_trans hlo x03.size) st₃ fun fl s' x p => kk fl s' ?_ ?_
      · exact Chg.trans x03 x fun a h => by
          rcases List.mem_cons.mp h with rfl | h
          · exact .inl List.mem_cons_self
          · exact (hnew a h).imp (List.mem_cons_of_mem _) id
      · exact p.chain hnew x03.size
    | @ret _ ρ₁ _ r _ b hb hbody =>
      refine wpAny_bind (wp_bind rm.1 R₁ (hv _ hP) hb fun O' s₂ x₂ hO' R₂ => ?_)
      refine wpAny_bind (wpAny_imp (hbody.run A s₂ env ([it] ++ M₀) O' rm R₂) fun fl s₃ ⟨x₃, p⟩ => ?_)
      have : ∃ v, fl = .ret v := by
        cases b with
        | false => obtain ⟨v, e, _⟩ := p; exact ⟨v, e⟩
        | true => obtain ⟨v, l, a, vs, e, _⟩ := p; exact ⟨v, e⟩
      obtain ⟨v, e⟩ := this
      subst e
      refine wpAny_pure ?_
      have x13 : Chg (nOf c env O) s₁ s₃ := Chg.trans x₂ x₃ fun a h => .inl (hO' a h)
      refine kk _ _ (Chg.trans y1 (x13.mono fun a h => .inl (List.mem_cons_of_mem _ h)) fun a h => .inl h) ?_
      exact p.chain (fun a h => .inl (hO' a h)) (Nat.le_trans x₁.size x₂.size)

theorem Post.dropM {env : Env} {M₀ : List Addr} {O O₀ : List (Str × Addr)} {it : Addr} {lo : Nat} {o : Out} {fl : Flow} {s s₀ : Shared} {ρ₀ : Rho} (R : Rel c env M₀ O₀ ρ₀ s₀) (h : Post c env ([it] ++ M₀) O lo o fl s) : Post c env M₀ O lo o fl s := by
  cases o with
  | next ρ =>
    obtain ⟨h1, O'', h2, h3⟩ := h
    exact ⟨h1, O'', R.dropM h2, h3⟩
  | ret t b =>
    cases b with
    | false =>
      obtain ⟨v, e, d⟩ := h
      exact ⟨v, e, Den.mono (fun a ha hm => ha (List.mem_append_right _ hm)) (fun _ _ _ e => e) t v d⟩
    | true =>
      obtain ⟨v, l, a, vs, h1, h2, h3, h4, h5, h6⟩ := h
      refine ⟨v, l, a, vs, h1, h2, h3, h4, h5, DenL.mono (fun b hb hm => hb ?_) (fun _ _ _ e => e) _ _ h6⟩
      rcases List.mem_cons.mp hm with rfl | hm
      · exact List.mem_cons_self
      · exact List.mem_cons_of_mem _ (List.mem_append_right _ hm)

theorem Ex1.for {ρ : Rho} {target iter : Expr} {body : List Stmt} {pos : Pos} {l : List T} {o : Out} (hi : EvI c n ρ true iter l) (hs : notSet iter = true) (ht : Loops c n target body ρ l o) : Ex1 c n ρ (.For target iter body [] pos) o := .mk fun A s env M₀ O rm R => by
  rw [exec_For]
  refine wpAny_bind (wpAny_standAt (wpAny_bind (wpAny_imp (hi.run A s env M₀ O rm R) fun xv s₁ ⟨x₁, h₁⟩ => wpAny_bind (wpAny_of_eq (foldedSet_of hs xv) (wpAny_bind (wpAny_standAt (wpAny_bind (wpAny_holding (wpAny_imp h₁ fun iv s₂ ⟨x₂, hit⟩ => ?_)))))))))
  obtain ⟨it, fp, kk, St, rfl, k1, k2, k3, k4, k5, W, st⟩ := hit
  have R₂ : Rel c env ([it] ++ M₀) O ρ s₂ := R.addM x₂ fun a h => by simp at h; subst h; exact ⟨Nat.le_trans k1 k2, k3⟩
  have hitc : ∀ y, (y, it) ∉ env.cells := fun y h => by
    have := (R.cellIn h).elim (fun q => R.lt it (List.mem_append_left _ q)) (fun q => R.lt it (List.mem_append_right _ q))
    exact absurd this (Nat.not_lt.mpr (Nat.le_trans k1 k2))
  refine wpAny_runOwn ?_
  have loop : codeAny (model c.prog c.w) A (.forLoop target (.ref it) body [] env) (fun r s' => match r with | .ok f => Chg (nOf c env O) s s' ∧ Post c env M₀ O s.heap.objs.size o f s' | .error e => NoE e s') s₂ := by
    refine for_loop rm W (Nat.le_trans k2 (Nat.le_of_lt k3)) (fun b hb => ⟨k4 b hb, fun h => k5 rfl b hb (List.mem_append_left _ h)⟩) hitc k2 l [] ρ s₂ O rfl ht R₂ (fun a h => .inl h) (Nat.le_refl _) st fun fl s' x p => ?_
    refine ⟨Chg.trans x₂.chg x fun a h => ?_, (p.dropM R).chain (fun a h => .inl h) x₂.size⟩
    rcases List.mem_cons.mp h with rfl | h
    · exact .inr (Nat.le_trans k1 k2)
    · exact .inl h
  refine codeAny_mono loop fun r s' h => ?_
  cases r with
  | ok f => exact h
  | error e => exact h.elim
end
end Mine
end

section
set_option autoImplicit false
set_option linter.unusedVariables false
set_option linter.unusedSimpArgs false
namespace Mine
open PySem PySem.Calls PyProof.Rows PySem.SeqAt

section
variable {c : Cx} {n : Nat} {env : Env} {M₀ : List Addr} {O : List (Str × Addr)} {ρ : Rho} {s : Shared}

theorem own_inj {M : List Addr} {x y : Str} {a : Addr} (nd : (nOf c env O).Nodup) (h : O.lookup x = some a) (h' : O.lookup y = some a) : x = y := by
  unfold nOf at nd
  have nd2 := (List.nodup_append.mp (List.nodup_cons.mp nd).2).2.1
  have key : ∀ (l : List (Str × Addr)), (l.map (·.2)).Nodup → (y, a) ∈ l → (x, a) ∈ l → x = y := by
    intro l
    induction l with
    | nil => intro _ h; cases h
    | cons p r ih =>
      intro hnd h1 h2
      rw [List.map_cons, List.nodup_cons] at hnd
      rcases List.mem_cons.mp h1 with e1 | h1 <;> rcases List.mem_cons.mp h2 with e2 | h2
      · rw [← e2] at e1; exact (Prod.mk.inj e1).1.symm
      · exact absurd (List.mem_map.mpr ⟨_, h2, by rw [← e1]⟩) hnd.1
      · exact absurd (List.mem_map.mpr ⟨_, h1, by rw [← e2]⟩) hnd.1
      · exact ih hnd.2 h1 h2
  exact key O nd2 (mem_of_lookup h') (mem_of_lookup h)

/-- a list of the block's own changed in its place -/
theorem Rel.mut (R : Rel c env M₀ O ρ s) {x : Str} {a : Addr} {l : List T} {l' : List T} {vs : Array Value} {h' : Heap} (hx : ρ.lookup x = some (.own l)) (ha : O.lookup x = some a) (hl : Loads env s.heap x (.ref a)) (hs : Heap.SameBut a s.heap h') (hp : h'.PlainList a vs) (hd : DenL c.w (nOf c env O ++ M₀) h' l' vs.toList) :
    Rel c env M₀ O (Mine.put x (Var.own l') ρ) { s with heap := h' } := by
  have hk : ∀ b o, b ≠ a → s.heap.get? b = some o → h'.get? b = some o := fun b o hb e => (hs.2 b hb).trans e
  have hmem : a ∈ nOf c env O := own_mem ha
  have hnd := R.nd
  unfold nOf at hnd
  have hnd1 := List.nodup_cons.mp hnd
  have hnd2 := List.nodup_append.mp hnd1.2
  have haO : a ∈ O.map (·.2) := List.mem_map.mpr ⟨(x, a), mem_of_lookup ha, rfl⟩
  have hL : env.locals ≠ a := fun e => hnd1.1 (List.mem_append_right _ (e ▸ haO))
  have hC : ∀ y b, (y, b) ∈ env.cells → b ≠ a := fun y b h e => by
    subst e
    rcases (R.cells y b h).2 with q | q
    · exact hnd2.2.2 _ (mem_ownCells h q) _ haO rfl
    · exact R.dis _ hmem q
  have hld : ∀ {y w}, Loads env s.heap y w → Loads env h' y w := fun l => l.mono (fun o => hk _ o hL) (fun b m o => hk b o (hC _ b m))
  exact {
    bas := ⟨fun b o e => hk b o (fun q => absurd (Heap.lt_size e) (Nat.not_lt.mpr (q ▸ (R.hi a (List.mem_append_left _ hmem)).1))) (R.bas.heap b o e), Nat.le_trans R.bas.size (Nat.le_of_eq hs.1.symm), R.bas.toks, R.bas.lim⟩
    names := R.names
    kind := R.kind
    glob := R.glob
    blt := R.blt
    nd := R.nd
    hi := fun b hb => ⟨(R.hi b hb).1, Nat.lt_of_lt_of_le (R.hi b hb).2 (Nat.le_of_eq hs.1.symm)⟩
    dis := R.dis
    loc := let ⟨m, hm⟩ := R.loc; ⟨m, hm.at' fun o e => hk _ o hL e⟩
    cells := fun y b e => ⟨let ⟨⟨w, o, ho, hd⟩, _⟩ := R.cells y b e; ⟨w, o, hk b o (hC y b e) ho, hd⟩, (R.cells y b e).2⟩
    call := R.call
    vars := fun y u e => by
      by_cases hy : y = x
      · subst hy
        rw [put_self] at e; cases e
        exact ⟨_, hld hl, a, vs, rfl, ha, hp, hd⟩
      · rw [put_other _ hy] at e
        obtain ⟨v, h1, h2⟩ := R.vars y u e
        refine ⟨v, hld h1, ?_⟩
        cases u with
        | sh t => exact Den.mono (fun _ e => e) (fun b o hb => hk b o fun q => hb (q ▸ List.mem_append_left _ hmem)) t v h2
        | own l =>
          obtain ⟨b, ws, e1, e2, e3, e4⟩ := h2
          have hb : b ≠ a := fun q => hy (own_inj (M := M₀) R.nd (q ▸ e2) ha)
          exact ⟨b, ws, e1, e2, e3.at fun o => hk b o hb, DenL.mono (fun _ e => e) (fun b o hb => hk b o fun q => hb (q ▸ List.mem_append_left _ hmem)) l _ e4⟩ }

theorem Ex1.append {x : Str} {e : Expr} {p ap q pos : Pos} {l : List T} {t : T} (hx : ρ.lookup x = some (.own l)) (hn : nameOk x = true) (h : Ev c n ρ e t) (hs : notStar e = true) (hline : (ap.endLine == q.line) = true) (hz : l.length ≤ sizeLine) :
    Ex1 c n ρ (.Expr (.Call (.Attribute (.Name x p) "append" ap) [e] [] q) pos) (.next (put x (.own (l ++ [t])) ρ)) := .mk fun A s env M₀ O rm R => by
  unfold nameOk at hn
  simp only [Bool.and_eq_true, Bool.not_eq_true'] at hn
  obtain ⟨v, h1, a, vs, e, h2, h3, h4⟩ := R.vars x _ hx
  subst e
  refine wpAny_Expr ?_ (by unfold interactive; rw [R.kind]; rfl) (swaps_of rfl _ _ _)
  refine wpAny_Call_append (base_of rfl) ?_ hline (by rw [starEach_cons hs]; rfl) (wpAny_Name (wp_loads R h1 ⟨a, vs, rfl, ?_, ?_⟩ hn.2) hn.1)
  · rw [starEach_cons hs]; rfl
  · obtain ⟨k, ho⟩ := h3
    exact ⟨_, k, ho, rfl, rfl, rfl⟩
  · refine h.go rm R fun w s₁ x₁ R₁ d₁ => ?_
    have hl₁ := h3.at (fun o => x₁.all a o)
    have hd₁ := h4.keep x₁.all
    refine wpAny_list_append_plain hl₁ (fun h' hl' hs' => ?_) (by have := h4.length; simp at this; lia)
    have hk : ∀ b o, b ∉ nOf c env O ++ M₀ → s₁.heap.get? b = some o → h'.get? b = some o := fun b o hb e => (hs'.2 b fun q => hb (q ▸ List.mem_append_left _ (own_mem h2))).trans e
    refine ⟨Chg.trans x₁.chg (N' := [a]) ⟨fun b o hb e => (hs'.2 b (by simpa using hb)).trans e, Nat.le_of_eq hs'.1.symm, fun _ _ e => e, id, rfl, Nat.le_refl _⟩ fun b hb => .inl (by simp at hb; subst hb; exact own_mem h2), rfl, O, ?_, fun a h => .inl h⟩
    refine R₁.mut hx h2 (h1.keep x₁.all) hs' hl' ?_
    rw [Array.toList_push]
    exact (DenL.mono (fun _ e => e) hk _ _ hd₁).app (DenL.cons (Den.mono (fun _ e => e) hk _ _ d₁) DenL.nil)

theorem Ex.weak {b : List Stmt} {ρ' ρ'' : Rho} (h : Ex c n ρ b (.next ρ')) (hs : ∀ x u, ρ''.lookup x = some u → ρ'.lookup x = some u) : Ex c n ρ b (.next ρ'') := .mk fun A s env M₀ O rm R =>
  wpAny_imp (h.run A s env M₀ O rm R) fun fl s' ⟨x, e, O', R', hO⟩ => ⟨x, e, O', R'.sub hs, hO⟩
theorem Ex.pre {b : List Stmt} {ρ' : Rho} {o : Out} (h : Ex c n ρ' b o) (hs : ∀ x u, ρ'.lookup x = some u → ρ.lookup x = some u) : Ex c n ρ b o := .mk fun A s env M₀ O rm R => h.run A s env M₀ O rm (R.sub hs)
theorem sub_of_all {ρ ρ' : Rho} (h : ∀ p ∈ ρ, ρ'.lookup p.1 = some p.2) : ∀ x u, ρ.lookup x = some u → ρ'.lookup x = some u := fun x u e => by
  have : (x, u) ∈ ρ := by
    induction ρ with
    | nil => cases e
    | cons p r ih =>
      obtain ⟨y, v⟩ := p
      rw [List.lookup_cons] at e
      by_cases hy : x = y
      · subst hy; simp at e; subst e; exact List.mem_cons_self
      · rw [show (x == y) = false by simpa using hy] at e
        exact List.mem_cons_of_mem _ (ih (fun q hq => h q (List.mem_cons_of_mem _ hq)) e)
  exact h _ this

/-- list(x) -/
theorem EvN.copy {e : Expr} {p pos : Pos} {l : List T} (hk : c.ns.lookup ("list" : Str) = some .globalImplicit) (g : GV c "list" (.type "list")) (h : EvB c n ρ e (.list l)) (hs : notStar e = true) (hz : l.length ≤ sizeLine) :
    EvN c n ρ (.Call (.Name "list" p) [e] [] pos) l := .mk fun A s env M₀ O rm R => by
  refine wpAny_Call_NameR (wp_gname R hk g (wp_callWith (f := .type "list") trivial (.cons hs h .nil) (by simp) rm R fun vs s' x R' d => ?_) (by decide))
  obtain ⟨v, rfl, d1⟩ := d.one
  obtain ⟨a, ws, rfl, h1, h2⟩ := d1.list
  obtain ⟨k, ho⟩ := h1
  have hlen := h2.length
  simp only [Array.length_toList] at hlen
  refine call_list_seq (n := k) a (.inl rfl) ho rfl rfl (fun h' c' hk' hg' => ?_) (by rw [← hlen]; exact hz)
  have hsz : s'.heap.objs.size < h'.objs.size := Heap.lt_size hg'
  have y : Ext s' { s' with heap := h' } := ⟨fun b o _ e => hk' b o e, Nat.le_of_lt hsz, fun _ _ e => e, id, rfl, Nat.le_refl _⟩
  exact ⟨Ext.trans x y, _, ws, rfl, x.size, ⟨c', hg'⟩, (h2.newer (Nat.le_refl _)).keep y.all⟩
end
end Mine
end

section
set_option autoImplicit false
set_option linter.unusedVariables false
set_option linter.unusedSimpArgs false
namespace Mine
open PySem PySem.Calls PyProof.Rows PySem.SeqAt

/-- a function of the text, at its place -/
def FunAt (c : Cx) (a : Addr) (params : Arguments) (body : List Stmt) (scope : Scope) : Prop :=
  ∃ o fd, c.H.get? a = some o ∧ o.data = .func fd ∧ fd.scope = scope ∧ fd.body = .stmts body ∧ fd.closure = [] ∧ fd.globals = mainGlobals ∧ fd.builtins = builtinsNs ∧ fd.params = params ∧ fd.defaults = .none ∧ fd.kwdefaults = .none ∧ c.H.CodeRec fd.code fd.qualname

def BindOk (params : Arguments) (xs : List Str) : Prop := ∀ fd : FuncData, fd.params = params → fd.defaults = .none → fd.kwdefaults = .none → ∀ vals : List Value, vals.length = xs.length → bindArgs fd ⟨vals, []⟩ = pure (xs.zip vals)

theorem BindOk.one {ps : Arguments} {x : Str} (h : ∀ nm qn body sc gl cl doc pm an code ct bi v, bindArgs ⟨nm, qn, ps, body, sc, gl, cl, .none, .none, doc, pm, an, code, ct, bi⟩ ⟨[v], []⟩ = pure [(x, v)]) : BindOk ps [x] := by
  rintro ⟨⟩ h1 h2 h3 vals hl
  cases h1; cases h2; cases h3
  obtain ⟨v, rfl⟩ := one_of hl
  exact h _ _ _ _ _ _ _ _ _ _ _ _ _
theorem BindOk.two {ps : Arguments} {x y : Str} (h : ∀ nm qn body sc gl cl doc pm an code ct bi v v₂, bindArgs ⟨nm, qn, ps, body, sc, gl, cl, .none, .none, doc, pm, an, code, ct, bi⟩ ⟨[v, v₂], []⟩ = pure [(x, v), (y, v₂)]) : BindOk ps [x, y] := by
  rintro ⟨⟩ h1 h2 h3 vals hl
  cases h1; cases h2; cases h3
  obtain ⟨v, v₂, rfl⟩ := two_of hl
  exact h _ _ _ _ _ _ _ _ _ _ _ _ _ _
theorem BindOk.three {ps : Arguments} {x y z : Str} (h : ∀ nm qn body sc gl cl doc pm an code ct bi v v₂ v₃, bindArgs ⟨nm, qn, ps, body, sc, gl, cl, .none, .none, doc, pm, an, code, ct, bi⟩ ⟨[v, v₂, v₃], []⟩ = pure [(x, v), (y, v₂), (z, v₃)]) : BindOk ps [x, y, z] := by
  rintro ⟨⟩ h1 h2 h3 vals hl
  cases h1; cases h2; cases h3
  obtain ⟨v, v₂, v₃, rfl⟩ := three_of hl
  exact h _ _ _ _ _ _ _ _ _ _ _ _ _ _ _
theorem BindOk.four {ps : Arguments} {x y z u : Str} (h : ∀ nm qn body sc gl cl doc pm an code ct bi v v₂ v₃ v₄, bindArgs ⟨nm, qn, ps, body, sc, gl, cl, .none, .none, doc, pm, an, code, ct, bi⟩ ⟨[v, v₂, v₃, v₄], []⟩ = pure [(x, v), (y, v₂), (z, v₃), (u, v₄)]) : BindOk ps [x, y, z, u] := by
  rintro ⟨⟩ h1 h2 h3 vals hl
  cases h1; cases h2; cases h3
  obtain ⟨v, v₂, v₃, v₄, rfl⟩ := four_of hl
  exact h _ _ _ _ _ _ _ _ _ _ _ _ _ _ _ _

def funCx (c : Cx) (sc : Scope) : Cx := { c with ns := sc.names, cel := cellNames sc }
/-- a block's scope that is a plain function's -/
def funOk (sc : Scope) : Bool := (match sc.kind with | .function => true | _ => false) && !sc.isCoroutine && (sc.names.all fun p => !(p.2 == .free)) && (sc.names.all fun p => !(p.2 == .cell) || sc.names.lookup p.1 == some .cell)

section
variable {c : Cx} {n : Nat}

theorem wp_params {sc : Scope} {env : Env} {M₀ : List Addr} {f : Str × Value → PUnit → Sem (ForInStep PUnit)} (hf : ∀ n v u, f (n, v) u = (do storeName env n v; pure (.yield ⟨⟩))) : ∀ (xs : List Str) (ts : List T) (vs : List Value) (s : Shared) (O : List (Str × Addr)) (ρ : Rho) {A : Around} {Q : PUnit → Shared → Prop} {E : Value → Shared → Prop},
    xs.all (canStore c) = true → Rel c env M₀ O ρ s → DenL c.w (nOf c env O ++ M₀) s.heap ts vs → xs.length = ts.length →
    (∀ O' s', Chg (nOf c env O) s s' → (∀ a ∈ nOf c env O', a ∈ nOf c env O) → Rel c env M₀ O' (putAll xs ts ρ) s' → Q ⟨⟩ s') → wpAny (model c.prog c.w) A (forIn (xs.zip vs) ⟨⟩ f) Q E s
  | [], ts, vs, s, O, ρ, A, Q, E, _, R, d, hl, k => by
    rw [List.zip_nil_left, List.forIn_nil]
    exact wpAny_pure (k O s (Chg.refl _) (fun _ h => h) (by cases ts <;> exact R))
  | x :: xs, ts, vs, s, O, ρ, A, Q, E, hc, R, d, hl, k => by
    simp only [List.all_cons, Bool.and_eq_true] at hc
    cases ts with
    | nil => simp at hl
    | cons t ts =>
      simp only [DenL] at d
      obtain ⟨v, r, rfl, d1, d2⟩ := d
      rw [List.zip_cons_cons, List.forIn_cons, hf]
      refine wpAny_bind (wpAny_bind (wp_store (u := .sh t) R (Chg.refl _) d1 hc.1 fun s' x' R' => wpAny_pure ?_))
      rw [ownPut_sh] at R'
      refine wp_params (sc := sc) hf xs ts r s' _ _ hc.2 R' (DenL.mono (fun a ha h => ha ?_) (fun b o hb => x'.heap b o (fun h => hb (List.mem_append_left _ h))) _ _ d2) (by simpa using hl) fun O' s'' x'' hs R'' => k O' s'' (Chg.trans x' x'' fun a ha => .inl (nOf_unset a ha)) (fun a ha => nOf_unset a (hs a ha)) R''
      rcases List.mem_append.mp h with h | h
      · exact List.mem_append_left _ (nOf_unset a h)
      · exact List.mem_append_right _ h

theorem fun_enter {s : Shared} (B : Bas c s) {M : List Addr} (hM : ∀ a ∈ M, c.H.objs.size ≤ a ∧ a < s.heap.objs.size) {sc : Scope} (ok : funOk sc = true) {xs : List Str} {ts : List T} {vs : List Value} (hc : xs.all (canStore (funCx c sc)) = true) (hl : xs.length = ts.length) (d : DenL c.w M s.heap ts vs)
    {A : Around} {E : Value → Shared → Prop} {Q : Env → Shared → Prop} {qual : Str} {func : Option Addr} {code : Value}
    (k : ∀ (env : Env) (s' : Shared), env.scope = sc → Ext s s' → (∀ a ∈ nOf (funCx c sc) env [], s.heap.objs.size ≤ a) → Rel (funCx c sc) env M [] (putAll xs ts []) s' → Q env s') :
    wpAny (model c.prog c.w) A (newFunctionEnv sc mainGlobals [] (xs.zip vs) qual func code none builtinsNs) Q E s := by
  unfold funOk at ok
  simp only [Bool.and_eq_true, List.all_eq_true, Bool.or_eq_true, Bool.not_eq_true', beq_eq_false_iff_ne, beq_iff_eq, ne_eq] at ok
  obtain ⟨⟨⟨ok1, ok2⟩, ok3⟩, ok4⟩ := ok
  have hkind : sc.kind = .function := by revert ok1; cases sc.kind <;> simp
  simp only [newFunctionEnv, Option.isSome_none, Bool.false_eq_true, if_false]
  refine wpAny_bind (wpAny_alloc ?_)
  refine wpAny_bind (wpAny_layCells _ (fun name kind cells => by cases hkc : kind == NameKind.cell <;> simp [hkc]) _ _ _ _ ?_)
  have hsz : ({ s with heap := s.heap.push { cls := .type "frame", data := .dict #[] } } : Shared).heap.objs.size = s.heap.objs.size + 1 := Heap.size_push ..
  rw [hsz]
  have okc := cellsFrom_ok sc.names (s.heap.push { cls := .type "frame", data := .dict #[] }) (s.heap.objs.size + 1) [] ⟨fun _ _ hm => (nomatch hm), List.Pairwise.nil⟩ (by rw [Heap.size_push]; exact Nat.le_refl _)
  rw [Heap.size_push] at okc
  generalize hN : cellsFrom (s.heap.objs.size + 1) sc.names [] = N at okc
  generalize hH : pushCells (s.heap.push { cls := .type "frame", data := .dict #[] }) sc.names = H at okc
  have keep0 : ∀ b o, (s.heap.push { cls := .type "frame", data := .dict #[] }).get? b = some o → H.get? b = some o := by rw [← hH]; exact pushCells_keeps _ _
  have keep : ∀ b o, s.heap.get? b = some o → H.get? b = some o := fun b o e => keep0 b o (Heap.get?_push_of_some _ e)
  have hNs : H.Ns s.heap.objs.size (fun _ => none) := (Heap.Ns.new s.heap (.type "frame")).keeps keep0
  have hHsz : s.heap.objs.size < H.objs.size := hNs.lt
  have hE : Ext s { s with heap := H } := Ext.of_heap keep (Nat.le_of_lt hHsz) (Nat.le_refl _)
  have hNmem : ∀ y a, (y, a) ∈ N → (y, NameKind.cell) ∈ sc.names := fun y a h => by
    rcases cellsFrom_names _ _ _ y a (hN ▸ h) with h | h
    · exact h
    · cases h
  have hcel : ∀ y a, (y, a) ∈ N → (cellNames sc).contains y = true := fun y a h => by
    rw [List.contains_iff_mem]
    exact List.mem_map.mpr ⟨(y, .cell), List.mem_filter.mpr ⟨hNmem y a h, by simp⟩, rfl⟩
  generalize henv : ({ scope := sc, locals := s.heap.objs.size, globals := mainGlobals, cells := N, qual, func, code, frame := some s.heap.objs.size, builtins := builtinsNs } : Env) = env
  have e1 : env.locals = s.heap.objs.size := by rw [← henv]
  have e2 : env.cells = N := by rw [← henv]
  have e3 : env.scope = sc := by rw [← henv]
  have e4 : env.globals = mainGlobals := by rw [← henv]
  have e5 : env.builtins = builtinsNs := by rw [← henv]
  have hnOf : nOf (funCx c sc) env [] = s.heap.objs.size :: N.map (·.2) := by
    unfold nOf ownCells
    rw [e1, e2, List.filter_eq_self.mpr (fun p hp => hcel p.1 p.2 hp)]
    simp
  have hNlo : ∀ a ∈ N.map (·.2), s.heap.objs.size + 1 ≤ a ∧ a < H.objs.size := fun a h => by
    obtain ⟨p, hp, rfl⟩ := List.mem_map.mp h
    exact ⟨(okc.empty p.1 p.2 hp).2, (okc.empty p.1 p.2 hp).1.lt⟩
  have hbig : ∀ a ∈ s.heap.objs.size :: N.map (·.2), s.heap.objs.size ≤ a ∧ a < H.objs.size := fun a h => by
    rcases List.mem_cons.mp h with rfl | h
    · exact ⟨Nat.le_refl _, hHsz⟩
    · exact ⟨Nat.le_of_succ_le (hNlo a h).1, (hNlo a h).2⟩
  have B' := B.ext hE
  have R : Rel (funCx c sc) env M [] [] { s with heap := H } := {
    bas := ⟨B'.heap, B'.size, B'.toks, B'.lim⟩
    names := by rw [e3]; rfl
    kind := by rw [e3]; exact hkind
    glob := e4
    blt := e5
    nd := by
      rw [hnOf, List.nodup_cons]
      refine ⟨fun h => ?_, ?_⟩
      · have := (hNlo _ h).1; omega
      · have := okc.apart
        exact List.pairwise_map.mpr (this.imp fun h => h)
    hi := fun a ha => by
      rw [hnOf] at ha
      rcases List.mem_append.mp ha with h | h
      · exact ⟨Nat.le_trans B.size (hbig a h).1, (hbig a h).2⟩
      · exact ⟨(hM a h).1, Nat.lt_of_lt_of_le (hM a h).2 hE.size⟩
    dis := fun a ha h => by
      rw [hnOf] at ha
      exact absurd (hM a h).2 (Nat.not_lt.mpr (hbig a ha).1)
    loc := ⟨_, by rw [e1]; exact hNs⟩
    cells := fun y a h => by
      rw [e2] at h
      exact ⟨⟨none, (okc.empty y a h).1⟩, .inl (hcel y a h)⟩
    call := fun y h => by
      rw [e2]
      refine lookup_of_mem ?_
      rcases h with h | h
      · obtain ⟨a, ha⟩ := cellsFrom_has sc.names (s.heap.objs.size + 1) [] y (.inl (mem_of_lookup h))
        exact ⟨a, hN ▸ ha⟩
      · exact absurd rfl ((ok3 _ (mem_of_lookup h)))
    vars := fun x u e => by simp at e }
  have d' : DenL c.w (nOf (funCx c sc) env [] ++ M) H ts vs := denL_re (fun a ha hlt hm => by
    rw [hnOf] at hm
    rcases List.mem_append.mp hm with h | h
    · exact absurd hlt (Nat.not_lt.mpr (hbig a h).1)
    · exact ha h) (fun b o _ => keep b o) _ _ d
  have hnew : ∀ a ∈ nOf (funCx c sc) env [], s.heap.objs.size ≤ a := fun a h => by rw [hnOf] at h; exact (hbig a h).1
  refine wpAny_bind (wp_params (c := funCx c sc) (sc := sc) (fun _ _ _ => rfl) xs ts vs { s with heap := H } [] [] hc R d' hl fun O' s' x hO R' => wpAny_pure ?_)
  obtain rfl := R'.noOwn hO
  exact k env s' e3 (Chg.trans hE x fun a h => .inr (hnew a h)) hnew R'

theorem nolim {s : Shared} (B : Bas c s) : s.heap.NoLimit := let ⟨m, hm, h1, _⟩ := B.lim; ⟨m, hm.keeps B.heap, h1⟩

/-- what a call of f with the data ts comes to -/
structure FOk (c : Cx) (n : Nat) (f : Value) (ts : List T) (t : T) : Prop where
  run : ∀ (A : Around) (s : Shared) (M : List Addr) (vs : List Value), Room A n → Bas c s → (∀ x ∈ M, c.H.objs.size ≤ x ∧ x < s.heap.objs.size) →
  DenL c.w M s.heap ts vs → wpAny (model c.prog c.w) A (call f vs) (fun v s' => Ext s s' ∧ Den c.w M s'.heap t v) NoE s
structure FNew (c : Cx) (n : Nat) (f : Value) (ts : List T) (l : List T) : Prop where
  run : ∀ (A : Around) (s : Shared) (M : List Addr) (vs : List Value), Room A n → Bas c s → (∀ x ∈ M, c.H.objs.size ≤ x ∧ x < s.heap.objs.size) →
  DenL c.w M s.heap ts vs → wpAny (model c.prog c.w) A (call f vs) (fun v s' => Ext s s' ∧ ∃ a ws, v = .ref a ∧ s.heap.objs.size ≤ a ∧ s'.heap.PlainList a ws ∧ DenL c.w (a :: M) s'.heap l ws.toList) NoE s

theorem Room.deeper {A : Around} {n : Nat} {env : Env} (rm : Room A (n + 1)) : Room (A.deeper env) n := ⟨rm.1, by have := rm.2.1; simp only [Around.deeper]; omega, by have := rm.2.2; simp only [Around.deeper]; omega⟩

theorem call_fun {a : Addr} {params : Arguments} {body : List Stmt} {sc : Scope} (hf : FunAt c a params body sc) (ok : funOk sc = true) (hg : sc.isGenerator = false) {xs : List Str} (hb : BindOk params xs) (hc : xs.all (canStore (funCx c sc)) = true)
    {ts : List T} (hl : xs.length = ts.length) {o : Out} (h : Ex (funCx c sc) n (putAll xs ts []) body o) {A : Around} (rm : Room A (n + 1)) {s : Shared} (B : Bas c s) {M : List Addr} (hM : ∀ x ∈ M, c.H.objs.size ≤ x ∧ x < s.heap.objs.size) {vs : List Value} (d : DenL c.w M s.heap ts vs) {Q : Value → Shared → Prop}
    (k : ∀ (env : Env) (O : List (Str × Addr)) (lo : Nat) (fl : Flow) (s' : Shared), Ext s s' → (∀ a ∈ nOf (funCx c sc) env O, s.heap.objs.size ≤ a) → s.heap.objs.size ≤ lo → Post (funCx c sc) env M O lo o fl s' → Q (match fl with | .ret v => v | _ => .none) s') :
    wpAny (model c.prog c.w) A (call (.ref a) vs) Q NoE s := by
  obtain ⟨ob, fd, h1, h2, h3, h4, h5, h6, h7, h8, h9, h10, h11⟩ := hf
  have hco : sc.isCoroutine = false := by
    unfold funOk at ok
    simp only [Bool.and_eq_true, Bool.not_eq_true'] at ok
    exact ok.1.1.2
  refine wpAny_call (codeAny_call_function (body := body) ?_ (B.heap a ob h1) h2 (by rw [h3]; exact hco) (by rw [h3]; exact hg) h4 (h11.keeps B.heap) ?_)
  · have := rm.2.1
    have e : recursionLimit = 1000 := rfl
    rw [e]; omega
  rw [hb fd h8 h9 h10 vs (by rw [hl]; exact d.length.symm), h3, h5, h6, h7]
  refine wpAny_pure (fun_enter B hM ok hc hl d fun env s' _ x hnew R => ⟨nolim (B.ext x), codeAny_func (wpAny_no ?_)⟩)
  refine wpAny_imp (h.run _ s' env M [] rm.deeper R) fun fl s'' ⟨y, p⟩ => ?_
  exact k env [] s'.heap.objs.size fl s'' (Chg.trans x y fun a h => .inr (hnew a h)) hnew x.size p

theorem FOk.of {a : Addr} {params : Arguments} {body : List Stmt} {sc : Scope} {xs : List Str} {ts : List T} {t : T} (hf : FunAt c a params body sc) (hb : BindOk params xs) (h : Ex (funCx c sc) n (putAll xs ts []) body (.ret t false))
    (ok : funOk sc = true := by rfl) (hg : sc.isGenerator = false := by rfl) (hc : xs.all (canStore (funCx c sc)) = true := by rfl) (hl : xs.length = ts.length := by rfl) : FOk c (n + 1) (.ref a) ts t := .mk fun A s M vs rm B hM d =>
  call_fun hf ok hg hb hc hl h rm B hM d fun env O lo fl s' x hO hlo hx => by obtain ⟨v, rfl, dv⟩ := hx; exact ⟨x, dv⟩
theorem FNew.of {a : Addr} {params : Arguments} {body : List Stmt} {sc : Scope} {xs : List Str} {ts : List T} {l : List T} (hf : FunAt c a params body sc) (hb : BindOk params xs) (h : Ex (funCx c sc) n (putAll xs ts []) body (.ret (.list l) true))
    (ok : funOk sc = true := by rfl) (hg : sc.isGenerator = false := by rfl) (hc : xs.all (canStore (funCx c sc)) = true := by rfl) (hl : xs.length = ts.length := by rfl) : FNew c (n + 1) (.ref a) ts l := .mk fun A s M vs rm B hM d =>
  call_fun hf ok hg hb hc hl h rm B hM d fun env O lo fl s' x hO hlo hx => by
    obtain ⟨v, l', a', ws, rfl, e2, e3, e4, e5, e6⟩ := hx
    cases e2
    exact ⟨x, a', ws, e3, e4.elim (hO a') fun q => Nat.le_trans hlo q, e5, e6⟩
theorem wp_callF {a : Addr} (hf : Callee c (.ref a)) {ρ : Rho} {pos : Pos} {es : List Expr} {ts : List T} (h : Each c n ρ es ts) (hne : es ≠ []) {A : Around} {env : Env} {M₀ : List Addr} {O : List (Str × Addr)} (rm : Room A n)
    {s : Shared} {Q : Value → Shared → Prop} (R : Rel c env M₀ O ρ s)
    (k : ∀ vs s', Ext s s' → Rel c env M₀ O ρ s' → DenL c.w (nOf c env O ++ M₀) s'.heap ts vs → wpAny (model c.prog c.w) A (call (.ref a) vs) Q NoE s') :
    wpAny (model c.prog c.w) A (callWith pos (.ref a) [] (backTo pos (starEach es env)) []) Q NoE s := by
  obtain ⟨o, fd, ho, hd⟩ := hf
  have hp : starEach es env = es.map fun e => (false, eval e env) := starEach_plain es env (by
    clear hne k
    induction h with
    | nil => simp
    | cons q _ _ ih => intro e he; rcases List.mem_cons.mp he with rfl | he; exact q; exact ih e he)
  have hcons : ∃ x r, backTo pos (starEach es env) = (false, x) :: r := by
    rw [hp]
    cases es with
    | nil => exact absurd rfl hne
    | cons e r => exact ⟨_, _, rfl⟩
  obtain ⟨x, r, hx⟩ := hcons
  rw [hx]
  refine callWith_function (o := o) (fd := fd) (evalArgs_plain ?_)
  rw [← hx]
  exact h.go pos rm s _ R fun vs s' x R' d => ⟨⟨R'.bas.heap a o ho, hd⟩, k vs s' x R' d⟩

theorem FunAt.callee {a : Addr} {params : Arguments} {body : List Stmt} {sc : Scope} (hf : FunAt c a params body sc) : Callee c (.ref a) := let ⟨o, fd, h1, h2, _⟩ := hf; ⟨o, fd, h1, h2⟩

theorem Ev.fcall {ρ : Rho} {f : Str} {p pos : Pos} {es : List Expr} {ts : List T} {a : Addr} {r : T} (hk : c.ns.lookup f = some .globalImplicit) (g : GV c f (.ref a)) (hf : Callee c (.ref a)) (hx : nameOk f = true)
    (h : Each c n ρ es ts) (hne : es ≠ []) (hc : FOk c n (.ref a) ts r) : Ev c n ρ (.Call (.Name f p) es [] pos) r := .mk fun A s env M₀ O rm R =>
  wpAny_Call_NameR (wp_gname R hk g (wp_callF hf h hne rm R fun vs s' x R' d => wpAny_imp (hc.run A s' _ vs rm R'.bas R'.hi d) fun v s'' y => ⟨Ext.trans x y.1, y.2⟩) hx)
theorem EvN.fcall {ρ : Rho} {f : Str} {p pos : Pos} {es : List Expr} {ts : List T} {a : Addr} {r : List T} (hk : c.ns.lookup f = some .globalImplicit) (g : GV c f (.ref a)) (hf : Callee c (.ref a)) (hx : nameOk f = true)
    (h : Each c n ρ es ts) (hne : es ≠ []) (hc : FNew c n (.ref a) ts r) : EvN c n ρ (.Call (.Name f p) es [] pos) r := .mk fun A s env M₀ O rm R =>
  wpAny_Call_NameR (wp_gname R hk g (wp_callF hf h hne rm R fun vs s' x R' d => wpAny_imp (hc.run A s' _ vs rm R'.bas R'.hi d) fun v s'' ⟨y, a, ws, h1, h2, h3, h4⟩ => ⟨Ext.trans x y, a, ws, h1, Nat.le_trans x.size h2, h3, h4⟩) hx)
end
end Mine
end

section
set_option autoImplicit false
set_option linter.unusedVariables false
set_option linter.unusedSimpArgs false
namespace Mine
open PySem PySem.Calls PyProof.Rows PySem.SeqAt

/-- as Chg, but the generator g may have gone on -/
structure ChgG (g : Nat) (N : List Addr) (s s' : Shared) : Prop where
  heap : ∀ b o, b ∉ N → s.heap.get? b = some o → s'.heap.get? b = some o
  size : s.heap.objs.size ≤ s'.heap.objs.size
  gens : ∀ (i : Nat) (x : GenState), i ≠ g → s.gens[i]? = some x → s'.gens[i]? = some x
  bare : AllBare s.gens → AllBare s'.gens
  os : s'.os = s.os
  toks : s.toks ≤ s'.toks
  gsz : s.gens.size ≤ s'.gens.size

theorem Chg.gsz {N : List Addr} {s s' : Shared} (x : Chg N s s') : s.gens.size ≤ s'.gens.size := by
  by_cases h : s.gens.size = 0
  · omega
  · have hl : s.gens.size - 1 < s.gens.size := by omega
    have := (Array.getElem?_eq_some_iff.mp (x.gens _ _ (Array.getElem?_eq_getElem hl))).1
    omega
theorem Chg.g {N : List Addr} {s s' : Shared} (x : Chg N s s') (g : Nat) : ChgG g N s s' := ⟨x.heap, x.size, fun i y _ => x.gens i y, x.bare, x.os, x.toks, x.gsz⟩
theorem ChgG.h {g : Nat} {N : List Addr} {s s' : Shared} (x : ChgG g N s s') : Chh N s s' := ⟨x.heap, x.size, x.toks⟩
theorem ChgG.refl {g : Nat} {N : List Addr} (s : Shared) : ChgG g N s s := (Chg.refl s).g g
theorem ChgG.mono {g : Nat} {N N' : List Addr} {s s' : Shared} (x : ChgG g N s s') (h : ∀ a ∈ N, a ∈ N' ∨ s.heap.objs.size ≤ a) : ChgG g N' s s' :=
  ⟨fun b o hb e => x.heap b o (fun m => (h b m).elim hb fun q => absurd (Heap.lt_size e) (Nat.not_lt.mpr q)) e, x.size, x.gens, x.bare, x.os, x.toks, x.gsz⟩
theorem ChgG.trans {g : Nat} {N N' : List Addr} {s s' s'' : Shared} (x : ChgG g N s s') (y : ChgG g N' s' s'') (h : ∀ a ∈ N', a ∈ N ∨ s.heap.objs.size ≤ a) : ChgG g N s s'' :=
  ⟨fun b o hb e => y.heap b o (fun m => (h b m).elim hb fun q => absurd (Heap.lt_size e) (Nat.not_lt.mpr q)) (x.heap b o hb e), Nat.le_trans x.size y.size,
    fun i z hi e => y.gens i z hi (x.gens i z hi e), fun b => y.bare (x.bare b), y.os.trans x.os, Nat.le_trans x.toks y.toks, Nat.le_trans x.gsz y.gsz⟩
/-- before g was made -/
theorem ChgG.back {g : Nat} {N N' : List Addr} {s s' s'' : Shared} (x : Chg N s s') (y : ChgG g N' s' s'') (hg : s.gens.size ≤ g) (h : ∀ a ∈ N', a ∈ N ∨ s.heap.objs.size ≤ a) : Chg N s s'' :=
  ⟨fun b o hb e => y.heap b o (fun m => (h b m).elim hb fun q => absurd (Heap.lt_size e) (Nat.not_lt.mpr q)) (x.heap b o hb e), Nat.le_trans x.size y.size,
    fun i z e => y.gens i z (fun q => absurd (Array.getElem?_eq_some_iff.mp e).1 (Nat.not_lt.mpr (q ▸ hg))) (x.gens i z e), fun b => y.bare (x.bare b), y.os.trans x.os, Nat.le_trans x.toks y.toks⟩

/-- a generator that still has the items l from its place i on; W: what is its own -/
structure GWalk (c : Cx) (A : Around) (it : Addr) (g : Nat) (l : List T) (St : Nat → List Addr → Shared → Prop) : Prop where
  self : ∀ i W s, St i W s → it ∈ W
  frame : ∀ i W s s', St i W s → (∀ b ∈ W, ∀ o, s.heap.get? b = some o → s'.heap.get? b = some o) → Bas c s' → s.heap.objs.size ≤ s'.heap.objs.size → (∀ x, s.gens[g]? = some x → s'.gens[g]? = some x) → St i W s'
  item : ∀ i t W s (Q : Option Value → Shared → Prop), l[i]? = some t → St i W s → Bas c s →
    (∀ v s' W', ChgG g W s s' → St (i + 1) (W' ++ W) s' → (∀ a ∈ W', s.heap.objs.size ≤ a ∧ a < s'.heap.objs.size) → (∀ M', (∀ a ∈ M', (c.H.objs.size ≤ a ∧ a < s.heap.objs.size) ∨ a ∈ W') → Den c.w M' s'.heap t v) → Q (some v) s') → wpAny (model c.prog c.w) A (pyNext (.ref it)) Q NoE s
  done : ∀ W s (Q : Option Value → Shared → Prop), St l.length W s → Bas c s → (∀ s', ChgG g W s s' → Q none s') → wpAny (model c.prog c.w) A (pyNext (.ref it)) Q NoE s
  iter : ∀ i W s (Q : Value → Shared → Prop) (E : Value → Shared → Prop), St i W s → Q (.ref it) s → wpAny (model c.prog c.w) A (pyIter (.ref it)) Q E s
  owned : ∀ i W s target v (Q : Unit → Shared → Prop) (E : Value → Shared → Prop), St i W s → Q () s → wpAny (model c.prog c.w) A (letOwnedTupleGo target (.ref it) v) Q E s

section
variable {c : Cx} {n : Nat}

/-- e makes a generator over the items l -/
structure EvG (c : Cx) (n : Nat) (ρ : Rho) (e : Expr) (l : List T) : Prop where
  run : ∀ A s env M₀ O, Room A n → Rel c env M₀ O ρ s →
  wpAny (model c.prog c.w) A (eval e env) (fun x s₁ => Ext s s₁ ∧ ∃ a W g St, x = .ref a ∧ s.gens.size ≤ g ∧ (∀ b ∈ W, s.heap.objs.size ≤ b ∧ b < s₁.heap.objs.size) ∧ GWalk c A a g l St ∧ St 0 W s₁) NoE s

theorem Rel.app {env : Env} {M₀ : List Addr} {O : List (Str × Addr)} {ρ : Rho} {s s₂ : Shared} {W W' : List Addr} (R : Rel c env (W ++ M₀) O ρ s₂) (hs : ∀ a ∈ W', s.heap.objs.size ≤ a ∧ a < s₂.heap.objs.size) (R₀ : Rel c env (W ++ M₀) O ρ s) (x : Chh W s s₂) (hW : ∀ a ∈ W, a ∈ W ++ M₀ ∧ ∀ y, (y, a) ∉ env.cells) : Rel c env (W' ++ (W ++ M₀)) O ρ s₂ := by
  have hM : ∀ a, a ∉ nOf c env O ++ (W ++ M₀) → a < s.heap.objs.size → a ∉ nOf c env O ++ (W' ++ (W ++ M₀)) := fun a ha hl hm => by
    rcases List.mem_append.mp hm with h | h
    · exact ha (List.mem_append_left _ h)
    · rcases List.mem_append.mp h with h | h
      · exact absurd hl (Nat.not_lt.mpr (hs a h).1)
      · exact ha (List.mem_append_right _ h)
  have hk : ∀ b o, b ∉ nOf c env O ++ (W ++ M₀) → s.heap.get? b = some o → s₂.heap.get? b = some o := fun b o hb => x.heap b o fun h => hb (List.mem_append_right _ (hW b h).1)
  exact {
    bas := R.bas
    names := R.names
    kind := R.kind
    glob := R.glob
    blt := R.blt
    nd := R.nd
    hi := fun a ha => by
      rcases List.mem_append.mp ha with h | h
      · exact R.hi a (List.mem_append_left _ h)
      · rcases List.mem_append.mp h with h | h
        · exact ⟨Nat.le_trans R₀.bas.size (hs a h).1, (hs a h).2⟩
        · exact R.hi a (List.mem_append_right _ h)
    dis := fun a ha h => by
      rcases List.mem_append.mp h with h | h
      · exact R₀.new (hs a h).1 (List.mem_append_left _ ha)
      · exact R.dis a ha h
    loc := R.loc
    cells := fun y a e => ⟨(R.cells y a e).1, (R.cells y a e).2.imp id (List.mem_append_right _)⟩
    call := R.call
    vars := fun y u e => by
      obtain ⟨v, h1, h2⟩ := R₀.vars y u e
      obtain ⟨v', h1', h2'⟩ := R.vars y u e
      have hl : Loads env s₂.heap y v := h1.mono (fun o => x.heap _ o fun h => R.dis _ List.mem_cons_self (hW _ h).1) (fun a m o => x.heap a o fun h => (hW a h).2 y m)
      refine ⟨v, hl, ?_⟩
      cases u with
      | sh t => exact den_re hM hk t v h2
      | own l =>
        obtain ⟨a, vs, e1, e2, e3, e4⟩ := h2
        exact ⟨a, vs, e1, e2, e3.at fun o => x.heap a o fun h => R.dis a (own_mem e2) (hW a h).1, denL_re hM hk l _ e4⟩ }

theorem gen_loop {target : Expr} {body : List Stmt} {l : List T} {A : Around} (rm : Room A n) {env : Env} {M₀ : List Addr} {it : Addr} {lo g : Nat} {St : Nat → List Addr → Shared → Prop}
    (G : GWalk c A it g l St) (hcl : ∀ y a, (y, a) ∈ env.cells → a < lo) {o : Out} {R' : Result → Shared → Prop} :
    ∀ (rest done : List T) (ρ : Rho) (s : Shared) (O : List (Str × Addr)) (W : List Addr), done ++ rest = l → Loops c n target body ρ rest o → Rel c env (W ++ M₀) O ρ s → (∀ a ∈ W, lo ≤ a) → lo ≤ s.heap.objs.size → St done.length W s →
      (∀ fl s' W', ChgG g (W ++ nOf c env O) s s' → (∀ a ∈ W', lo ≤ a) → Post c env (W' ++ M₀) O s.heap.objs.size o fl s' → R' (.ok fl) s') →
      codeAny (model c.prog c.w) A (.forLoop target (.ref it) body [] env) R' s := by
  intro rest
  induction rest with
  | nil =>
    intro done ρ s O W hl ht R hW hlo st kk
    cases ht
    rw [List.append_nil] at hl; subst hl
    refine codeAny_of_tree ?_
    show wpAny _ _ ((forTurn target (.ref it) body [] env).onRaise (fun x => do noteFrame x env; theTreesLotGoes x)) _ _ s
    refine wpAny_noted (wpAny_no ?_)
    unfold forTurn
    refine wpAny_bind (wpAny_standAt (wpAny_bind (wpAny_onRaise (wpAny_no (G.done W s _ st R.bas fun s' x => wpAny_pure ⟨rfl, codeAny_block (wpAny_execs_nil ?_)⟩)))))
    have hWc : ∀ a ∈ W, a ∈ W ++ M₀ ∧ ∀ y, (y, a) ∉ env.cells := fun a h => ⟨List.mem_append_left _ h, fun y q => absurd (hcl y a q) (Nat.not_lt.mpr (hW a h))⟩
    exact kk _ _ W (x.mono fun a h => .inl (List.mem_append_left _ h)) hW ⟨rfl, O, R.step x.h hWc, fun a h => .inl h⟩
  | cons t ts ih =>
    intro done ρ s O W hl ht R hW hlo st kk
    refine codeAny_of_tree ?_
    show wpAny _ _ ((forTurn target (.ref it) body [] env).onRaise (fun x => do noteFrame x env; theTreesLotGoes x)) _ _ s
    refine wpAny_noted (wpAny_no ?_)
    unfold forTurn
    have hitem : l[done.length]? = some t := by rw [← hl]; simp
    have hdone : (done ++ [t]) ++ ts = l := by rw [← hl]; simp
    have hWc : ∀ a ∈ W, a ∈ W ++ M₀ ∧ ∀ y, (y, a) ∉ env.cells := fun a h => ⟨List.mem_append_left _ h, fun y q => absurd (hcl y a q) (Nat.not_lt.mpr (hW a h))⟩
    refine wpAny_bind (wpAny_standAt (wpAny_bind (wpAny_onRaise (wpAny_no (G.item done.length t W s _ hitem st R.bas fun v s₁ W' x₁ st₁ hW' hv => ?_)))))
    have R₁ : Rel c env (W' ++ (W ++ M₀)) O ρ s₁ := (R.step x₁.h hWc).app hW' R x₁.h hWc
    refine wpAny_bind (G.owned _ _ s₁ target v _ _ st₁ ?_)
    have hWW : ∀ a ∈ W' ++ W, lo ≤ a := fun a h => (List.mem_append.mp h).elim (fun q => Nat.le_trans hlo (hW' a q).1) (hW a)
    have R₁' : Rel c env ((W' ++ W) ++ M₀) O ρ s₁ := by rw [List.append_assoc]; exact R₁
    have y1 : ChgG g (W ++ nOf c env O) s s₁ := x₁.mono fun a h => .inl (List.mem_append_left _ h)
    have hfr : ∀ s₃, Chg (nOf c env O) s₁ s₃ → St (done.length + 1) (W' ++ W) s₃ := fun s₃ x => G.frame _ _ _ _ st₁ (fun b hb o e => x.heap b o (fun h => R₁'.dis b h (List.mem_append_left _ hb)) e) (R₁.bas.keep x fun a h => (R₁.hi a (List.mem_append_left _ h)).1) x.size (fun y => x.gens g y)
    have dv : Den c.w (nOf c env O ++ ((W' ++ W) ++ M₀)) s₁.heap t v := hv _ fun a h => by
      rcases List.mem_append.mp h with h | h
      · exact .inl (R.hi a (List.mem_append_left _ h))
      · rcases List.mem_append.mp h with h | h
        · rcases List.mem_append.mp h with h | h
          · exact .inr h
          · exact .inl (R.hi a (List.mem_append_right _ (List.mem_append_left _ h)))
        · exact .inl (R.hi a (List.mem_append_right _ (List.mem_append_right _ h)))
    cases ht with
    | @next _ ρ₁ ρ₂ _ _ _ hb hbody hrest =>
      refine wpAny_bind (wp_bind rm.1 R₁' dv hb fun O' s₂ x₂ hO' R₂ => ?_)
      refine wpAny_bind (wpAny_imp (hbody.run A s₂ env ((W' ++ W) ++ M₀) O' rm R₂) fun fl s₃ ⟨x₃, e, O'', R₃, hO''⟩ => ?_)
      subst e
      refine wpAny_pure ⟨rfl, ?_⟩
      have x13 : Chg (nOf c env O) s₁ s₃ := Chg.trans x₂ x₃ fun a h => .inl (hO' a h)
      have st₃ : St (done ++ [t]).length (W' ++ W) s₃ := by
        rw [List.length_append]
        exact hfr s₃ x13
      have hsz : s.heap.objs.size ≤ s₂.heap.objs.size := Nat.le_trans x₁.size x₂.size
      have hnew : ∀ a ∈ nOf c env O'', a ∈ nOf c env O ∨ s.heap.objs.size ≤ a := fun a h => (hO'' a h).imp (hO' a) fun q => Nat.le_trans hsz q
      have x03 : ChgG g (W ++ nOf c env O) s s₃ := y1.trans (x13.g g) fun a h => .inl (List.mem_append_right _ h)
      refine ih (done ++ [t]) ρ₂ s₃ O'' (W' ++ W) hdone hrest R₃ hWW (Nat.le_trans hlo x03.size) st₃ fun fl s' W'' x hW'' p => kk fl s' W'' ?_ hW'' ?_
      · refine x03.trans x fun a h => ?_
        rcases List.mem_append.mp h with h | h
        · rcases List.mem_append.mp h with h | h
          · exact .inr (hW' a h).1
          · exact .inl (List.mem_append_left _ h)
        · exact (hnew a h).imp (List.mem_append_right _) id
      · exact p.chain hnew x03.size
    | @ret _ ρ₁ _ r _ b hb hbody =>
      refine wpAny_bind (wp_bind rm.1 R₁' dv hb fun O' s₂ x₂ hO' R₂ => ?_)
      refine wpAny_bind (wpAny_imp (hbody.run A s₂ env ((W' ++ W) ++ M₀) O' rm R₂) fun fl s₃ ⟨x₃, p⟩ => ?_)
      have : ∃ v, fl = .ret v := by
        cases b with
        | false => obtain ⟨v, e, _⟩ := p; exact ⟨v, e⟩
        | true => obtain ⟨v, l, a, vs, e, _⟩ := p; exact ⟨v, e⟩
      obtain ⟨v, e⟩ := this
      subst e
      refine wpAny_pure ?_
      have x13 : Chg (nOf c env O) s₁ s₃ := Chg.trans x₂ x₃ fun a h => .inl (hO' a h)
      refine kk _ _ (W' ++ W) (y1.trans (x13.g g) fun a h => .inl (List.mem_append_right _ h)) hWW ?_
      exact p.chain (fun a h => .inl (hO' a h)) (Nat.le_trans x₁.size x₂.size)

theorem Post.dropW {env : Env} {M₀ : List Addr} {O O₀ : List (Str × Addr)} {W : List Addr} {lo : Nat} {o : Out} {fl : Flow} {s s₀ : Shared} {ρ₀ : Rho} (R : Rel c env M₀ O₀ ρ₀ s₀) (h : Post c env (W ++ M₀) O lo o fl s) : Post c env M₀ O lo o fl s := by
  cases o with
  | next ρ =>
    obtain ⟨h1, O'', h2, h3⟩ := h
    exact ⟨h1, O'', R.dropM h2, h3⟩
  | ret t b =>
    cases b with
    | false =>
      obtain ⟨v, e, d⟩ := h
      exact ⟨v, e, Den.mono (fun a ha hm => ha (List.mem_append_right _ hm)) (fun _ _ _ e => e) t v d⟩
    | true =>
      obtain ⟨v, l, a, vs, h1, h2, h3, h4, h5, h6⟩ := h
      refine ⟨v, l, a, vs, h1, h2, h3, h4, h5, DenL.mono (fun b hb hm => hb ?_) (fun _ _ _ e => e) _ _ h6⟩
      rcases List.mem_cons.mp hm with rfl | hm
      · exact List.mem_cons_self
      · exact List.mem_cons_of_mem _ (List.mem_append_right _ hm)

theorem Ex1.forG {ρ : Rho} {target iter : Expr} {body : List Stmt} {pos : Pos} {l : List T} {o : Out} (hi : EvG c n ρ iter l) (hs : notSet iter = true) (ht : Loops c n target body ρ l o) : Ex1 c n ρ (.For target iter body [] pos) o := .mk fun A s env M₀ O rm R => by
  rw [exec_For]
  refine wpAny_bind (wpAny_standAt (wpAny_bind (wpAny_imp (hi.run A s env M₀ O rm R) fun xv s₁ hx => ?_)))
  obtain ⟨x₁, a, W, g, St, e, hg, hW, G, st⟩ := hx
  refine wpAny_bind (wpAny_of_eq (foldedSet_of hs xv) (wpAny_bind (wpAny_standAt (wpAny_bind (wpAny_holding ?_)))))
  subst e
  refine G.iter 0 W s₁ _ _ st (wpAny_runOwn ?_)
  have R₁ : Rel c env (W ++ M₀) O ρ s₁ := R.addM x₁ hW
  have hcl : ∀ y b, (y, b) ∈ env.cells → b < s.heap.objs.size := fun y b h =>
    (R.cellIn h).elim (fun q => R.lt b (List.mem_append_left _ q)) (fun q => R.lt b (List.mem_append_right _ q))
  have loop : codeAny (model c.prog c.w) A (.forLoop target (.ref a) body [] env) (fun r s' => match r with | .ok f => Chg (nOf c env O) s s' ∧ Post c env M₀ O s.heap.objs.size o f s' | .error e => NoE e s') s₁ := by
    refine gen_loop (lo := s.heap.objs.size) rm G hcl l [] ρ s₁ O W rfl ht R₁ (fun b h => (hW b h).1) x₁.size st fun fl s' W' x hW' p => ?_
    refine ⟨ChgG.back x₁.chg x hg fun b h => ?_, (p.dropW R).chain (fun a h => .inl h) x₁.size⟩
    rcases List.mem_append.mp h with h | h
    · exact .inr (hW b h).1
    · exact .inl h
  refine codeAny_mono loop fun r s' h => ?_
  cases r with
  | ok f => exact h
  | error e => exact h.elim
end
end Mine
end

section
set_option autoImplicit false
set_option linter.unusedVariables false
set_option linter.unusedSimpArgs false
namespace Mine
open PySem PySem.Calls PyProof.Rows PySem.SeqAt

def Agree (c : Cx) (W : List Addr) (s s₁ : Shared) : Prop := (∀ b ∈ W, ∀ o, s.heap.get? b = some o → s₁.heap.get? b = some o) ∧ Bas c s₁ ∧ s.heap.objs.size ≤ s₁.heap.objs.size

/-- the generator's next stretch comes to Φ -/
def Res (M : Model) (A : Around) : GenState → Shared → (End → Shared → Prop) → Prop
  | .fresh c, s, Φ => PySem.W.X.SegX M A c (denote table c) [] s Φ
  | .suspended k _ c _ fs _, s, Φ => PySem.W.X.SegX M A c (k (.send .none)) fs s Φ
  | _, _, _ => False

def Going (c : Cx) (A : Around) (g : Nat) : List T → List Addr → GenState → Shared → Prop
  | [], W, gs, s => ∀ s₁, Agree c W s s₁ → Res (model c.prog c.w) A gs s₁ (fun e s' => e = .ret (.ok (.ret .none)) ∧ ChgG g W s₁ s')
  | t :: ts, W, gs, s => ∀ s₁, Agree c W s s₁ → Res (model c.prog c.w) A gs s₁ (fun e s' => (∃ v lv k c' p fs, e = .susp v false lv k c' p fs ∧ ∃ W', ChgG g W s₁ s' ∧ (∀ a ∈ W', s₁.heap.objs.size ≤ a ∧ a < s'.heap.objs.size) ∧
      (∀ M', (∀ a ∈ M', (c.H.objs.size ≤ a ∧ a < s₁.heap.objs.size) ∨ a ∈ W') → Den c.w M' s'.heap t v) ∧ Going c A g ts (W' ++ W) e.genState s'))

section
variable {prog : Program} {w : World} {A : Around} {E : Value → Shared → Prop} {s : Shared}

theorem next_res {a : Addr} {g : Nat} {gs : GenState} {Φ : End → Shared → Prop} {Q : Option Value → Shared → Prop} (hh : A.handled = none)
    (hl : s.heap.NoLimit) (hroom : A.depth < recursionLimit) (hg : s.heap.IsGen a g) (hgs : s.gens[g]? = some gs)
    (hgo : Res (model prog w) A.in1 gs (s.setGen g .running) Φ)
    (hΦ : ∀ e s₁, e.quiet = true → Φ e s₁ → (e = .ret (.ok (.ret .none)) ∧ ∀ h', (∀ b o, s₁.heap.get? b = some o → h'.get? b = some o) → Q none { s₁.setGen g .finished with heap := h' }) ∨
      (∃ v q l k c p fs, e = .susp v q l k c p fs ∧ Q (some v) (s₁.setGen g e.genState))) :
    wpAny (model prog w) A (pyNext (.ref a)) Q E s := by
  unfold pyNext
  refine wpAny_bind (wpAny_attempt (wpAny_callSpecial?_slot (name := Str.ofString "__next__") hg.typeIs slot_gen_next
    (wpAny_call_entry slot_gen_next hg.typeIs entry_gen_next ?_ (args_gen_next _))))
  show wpAny _ _ (Builtin.Generator.genWake (.ref a) (.send .none)) _ _ s
  unfold Builtin.Generator.genWake
  refine wpAny_bind (wpAny_holding (wpAny_genNumber hg (wpAny_bind (wpAny_genState hgs ?_))))
  have main : ∀ {α : Type} {k : GenResult → Sem α} {Q' : α → Shared → Prop} {E' : Value → Shared → Prop}, (∀ e s₁, e.quiet = true → Φ e s₁ → wpAny (model prog w) A.in1 (k e.result) Q' E' (s₁.setGen g e.genState)) → wpAny (model prog w) A.in1 (.resume g (.send .none) [] k) Q' E' s := by
    intro α k Q' E' hk
    have key : ∀ (c₀ : Code) (t₀ : Sem Fin) (fs₀ : List Frame), ((gs = .fresh c₀ ∧ Resume.send .none = .send .none ∧ t₀ = denote table c₀ ∧ fs₀ = []) ∨ (∃ k₀ l₀ p₀ cl, gs = .suspended k₀ l₀ c₀ p₀ fs₀ cl ∧ t₀ = k₀ (.send .none))) →
        PySem.W.X.SegX (model prog w) A.in1 c₀ t₀ fs₀ (s.setGen g .running) Φ → wpAny (model prog w) A.in1 (.resume g (.send .none) [] k) Q' E' s := by
      intro c₀ t₀ fs₀ hd hx
      have hx' : PySem.W.X.SegX (model prog w) A.in1 c₀ t₀ fs₀ (s.setGen g .running) (fun e s₁ => e.quiet = true ∧ Φ e s₁) := fun Γ p hc hΓ => by
        obtain ⟨e, s', hr, hq, hp⟩ := hx Γ p hc hΓ
        exact ⟨e, s', hr, hq, hq, hp⟩
      exact PySem.W.X.wake_any α prog w hgs hd (fun Γ => Γ.In A.in1) (fun _ h => h) (hx'.mono fun e s₁ h Γ p hΓ => hk e s₁ h.1 h.2 Γ p hΓ)
    cases gs with
    | fresh c => exact key c _ [] (.inl ⟨rfl, rfl, rfl, rfl⟩) hgo
    | suspended k₀ l₀ c₀ p₀ fs₀ cl => exact key c₀ _ fs₀ (.inr ⟨k₀, l₀, p₀, cl, rfl, rfl⟩) hgo
    | running => exact hgo.elim
    | finished => exact hgo.elim
  cases gs with
  | running => exact hgo.elim
  | finished => exact hgo.elim
  | _ =>
    refine wpAny_bind (wpAny_roomToWake hl hroom ?_)
    show wpAny _ _ (.resume g (.send .none) [] _) _ _ s
    refine main fun e s₁ hq he => ?_
    rcases hΦ e s₁ hq he with ⟨rfl, hp⟩ | ⟨v, q, l, k, c', p, fs, rfl, hv⟩
    · show wpAny _ _ (newExc (.type "StopIteration") [] >>= _) _ _ _
      refine wpAny_bind ?_
      simp only [newExc, newTuple]
      refine wpAny_bind (wpAny_newObj_type ?_ (by size_fits))
      refine wpAny_bind (m := firstArgMember _ _) (wpAny_of_eq (a := Value.none) (by first | rfl | (simp only [firstArgMember]; rfl)) ?_)
      refine wpAny_newObj_type ?_ (by size_fits)
      simp only [raiseNew]
      refine wpAny_bind (wpAny_bind (wpAny_handled ?_))
      rw [show A.in1.handled = none from hh]
      refine wpAny_throw ?_
      refine wpAny_bind (wpAny_isInstance (T := "StopIteration") (b := true) ⟨_, Heap.get?_push_size _ rfl, rfl⟩ isSubtype_stop ?_)
      exact wpAny_pure (hp _ fun b o hb => Heap.get?_push_of_some _ (Heap.get?_push_of_some _ hb))
    · exact wpAny_pure ⟨v, rfl, wpAny_pure hv⟩
end

section
variable {c : Cx} {n : Nat}

def GSt (c : Cx) (A : Around) (it : Addr) (g : Nat) (l : List T) (i : Nat) (W : List Addr) (s : Shared) : Prop :=
  it ∈ W ∧ s.heap.IsGen it g ∧ ∃ gs W₀, s.gens[g]? = some gs ∧ (∀ b ∈ W₀, b ∈ W) ∧ it ∉ W₀ ∧ Going c A.in1 g (l.drop i) W₀ gs s

theorem Going.agree {A : Around} {g : Nat} {l : List T} {W : List Addr} {gs : GenState} {s s' : Shared} (h : Going c A g l W gs s) (hk : ∀ b ∈ W, ∀ o, s.heap.get? b = some o → s'.heap.get? b = some o) (hs : s.heap.objs.size ≤ s'.heap.objs.size) : Going c A g l W gs s' := by
  cases l with
  | nil => exact fun s₁ x => h s₁ ⟨fun b hb o e => x.1 b hb o (hk b hb o e), x.2.1, Nat.le_trans hs x.2.2⟩
  | cons t ts => exact fun s₁ x => h s₁ ⟨fun b hb o e => x.1 b hb o (hk b hb o e), x.2.1, Nat.le_trans hs x.2.2⟩

theorem bas_gen {s : Shared} {g : Nat} {x : GenState} (B : Bas c s) : Bas c (s.setGen g x) := ⟨B.heap, B.size, B.toks, B.lim⟩
theorem chgG_set {s : Shared} {g : Nat} {x y : GenState} {N : List Addr} (h : s.gens[g]? = some x) (hy : y.bare = true) : ChgG g N s (s.setGen g y) :=
  ⟨fun _ _ _ e => e, Nat.le_refl _, fun i z hi e => (GenOnly.setGen s g y).2 i hi ▸ e, fun b => (GenOnlyQ.of (GenOnly.setGen s g y) (setGen_self h) hy).bare b, rfl, Nat.le_refl _, Nat.le_of_eq (GenOnly.setGen s g y).1.symm⟩

theorem GWalk.of {A : Around} {m : Nat} (rm : Room A m) {it g : Addr} {l : List T} : GWalk c A it g l (GSt c A it g l) where
  self := fun i W s st => st.1
  frame := fun i W s s' st hk B hs hg => by
    obtain ⟨h1, h2, gs, W₀, h3, h5, h6, h4⟩ := st
    refine ⟨h1, ?_, gs, W₀, hg _ h3, h5, h6, h4.agree (fun b hb => hk b (h5 b hb)) hs⟩
    obtain ⟨o, nm, qn, ho, r⟩ := h2
    exact ⟨o, nm, qn, hk it h1 o ho, r⟩
  item := fun i t W s Q hi st B k => by
    obtain ⟨h1, h2, gs, W₀, h3, h5, h6, h4⟩ := st
    have hd : l.drop i = t :: l.drop (i + 1) := by
      obtain ⟨hlt, e⟩ := List.getElem?_eq_some_iff.mp hi
      rw [← e]; exact List.drop_eq_getElem_cons hlt
    rw [hd] at h4
    have hroom : A.depth < recursionLimit := by have := rm.2.1; have e : recursionLimit = 1000 := rfl; rw [e]; omega
    have hit : it < s.heap.objs.size := let ⟨o, nm, qn, ho, r⟩ := h2; Heap.lt_size ho
    refine next_res rm.1 (nolim B) hroom h2 h3 (h4 (s.setGen g .running) ⟨fun _ _ _ e => e, bas_gen B, Nat.le_refl _⟩) fun e s₁ hq hx => ?_
    obtain ⟨v, lv, kk, c', p, fs, e1, W', x, hW', hv, hgo⟩ := hx
    refine .inr ⟨v, false, lv, kk, c', p, fs, e1, ?_⟩
    have x0 : ChgG g W₀ s (s.setGen g .running) := chgG_set h3 rfl
    have hb : e.genState.bare = true := PySem.End.bare_of_quiet hq
    have x1 := x0.trans x fun a h => .inl h
    have hlt : g < s₁.gens.size := Nat.lt_of_lt_of_le (Array.getElem?_eq_some_iff.mp h3).1 x1.gsz
    have hy : s₁.gens[g]? = some s₁.gens[g] := Array.getElem?_eq_getElem hlt
    have x2 : ChgG g W₀ s₁ (s₁.setGen g e.genState) := chgG_set hy hb
    have x3 := x1.trans x2 fun a h => .inl h
    refine k v _ W' (x3.mono fun a h => .inl (h5 a h)) ⟨List.mem_append_right _ h1, ?_, _, W' ++ W₀, setGen_self hy, fun b hb => ?_, fun hb => ?_, hgo.agree (fun _ _ _ e => e) (Nat.le_refl _)⟩ hW' hv
    · obtain ⟨o, nm, qn, ho, r⟩ := h2
      exact ⟨o, nm, qn, x3.heap it o h6 ho, r⟩
    · rcases List.mem_append.mp hb with h | h
      · exact List.mem_append_left _ h
      · exact List.mem_append_right _ (h5 b h)
    · rcases List.mem_append.mp hb with h | h
      · exact absurd hit (Nat.not_lt.mpr (hW' it h).1)
      · exact h6 h
  done := fun W s Q st B k => by
    obtain ⟨h1, h2, gs, W₀, h3, h5, h6, h4⟩ := st
    have hd : l.drop l.length = [] := List.drop_length
    rw [hd] at h4
    have hroom : A.depth < recursionLimit := by have := rm.2.1; have e : recursionLimit = 1000 := rfl; rw [e]; omega
    refine wp_grow (next_res rm.1 (nolim B) hroom h2 h3 (h4 (s.setGen g .running) ⟨fun _ _ _ e => e, bas_gen B, Nat.le_refl _⟩) fun e s₁ hq hx => .inl ⟨hx.1, fun h' hk hz ht => ?_⟩)
    have x := hx.2
    have x0 : ChgG g W₀ s (s.setGen g .running) := chgG_set h3 rfl
    have x1 := x0.trans x fun a h => .inl h
    have hlt : g < s₁.gens.size := Nat.lt_of_lt_of_le (Array.getElem?_eq_some_iff.mp h3).1 x1.gsz
    have hy : s₁.gens[g]? = some s₁.gens[g] := Array.getElem?_eq_getElem hlt
    have x2 : ChgG g W₀ s₁ (s₁.setGen g .finished) := chgG_set hy rfl
    have x3 := x1.trans x2 fun a h => .inl h
    exact k _ ⟨fun b o hb e => hk b o (x3.heap b o (fun q => hb (h5 b q)) e), hz, x3.gens, x3.bare, x3.os, x3.toks, x3.gsz⟩
  iter := fun i W s Q E st h => wpAny_pyIter_gen st.2.1 h
  owned := fun i W s target v Q E st h => by
    obtain ⟨h1, ⟨o, nm, qn, ho, hc, hd, hs⟩, _⟩ := st
    exact wp_owned ho hc (by decide) h
end
end Mine
end

section
set_option autoImplicit false
set_option linter.unusedVariables false
set_option linter.unusedSimpArgs false
namespace Mine
open PySem PySem.Calls PyProof.Rows PySem.SeqAt PySem.W.X

section
variable {prog : Program} {w : World} {A : Around} {c : Code} {fs : List Frame} {P : End → Shared → Prop} {s : Shared} {K : Flow → Sem Fin} {H : Value → Sem Fin}

/-- a part of a generator's stretch -/
theorem g_wrap {α : Type} {m : Sem α} {K : α → Sem Fin} (h : wpAny (model prog w) (A.over c fs) m (fun a s' => SegX (model prog w) A c (K a) fs s' P) NoE s) : SegX (model prog w) A c (m.wrap K H id id) fs s P := by
  rintro Γ p rfl hΓ
  obtain ⟨e, s', hr, hq⟩ := runs_wrap_of_wp (Φ := fun e s' => e.quiet = true ∧ P e s') K H id id m (h (Γ.over fs) p (hΓ.over fs)) (fun a p' s' h' => by
    obtain ⟨e, s'', x, y⟩ := h' Γ p' rfl hΓ
    exact ⟨e, s'', x, y⟩) (fun x p' s' h' => h'.elim)
  exact ⟨e, s', hr, hq⟩
theorem g_bind {α β : Type} {m : Sem α} {f : α → Sem β} {K : β → Sem Fin} (h : wpAny (model prog w) (A.over c fs) m (fun a s' => SegX (model prog w) A c ((f a).wrap K H id id) fs s' P) NoE s) : SegX (model prog w) A c ((m >>= f).wrap K H id id) fs s P := by
  rw [Sem.bind_eq_wrap', Sem.wrap_wrap]
  exact g_wrap h
theorem g_bind' {α β : Type} {m : Sem α} {f : α → Sem β} {K : β → Sem Fin} (h : SegX (model prog w) A c (m.wrap (fun a => (f a).wrap K H id id) H id id) fs s P) : SegX (model prog w) A c ((m >>= f).wrap K H id id) fs s P := by
  rw [Sem.bind_eq_wrap', Sem.wrap_wrap]
  exact h

theorem g_cons {env : Env} {st : Stmt} {rest : List Stmt} (h : SegX (model prog w) A c ((exec st env).wrap (fun f => match f with | .next => (execs rest env).wrap K H id id | f => K f) H id id) fs s P) :
    SegX (model prog w) A c ((execs (st :: rest) env).wrap K H id id) fs s P := by rw [execs_cons_wrap]; exact h

theorem g_yield {env : Env} {e : Expr} {ypos pos : Pos} (hco : env.scope.isCoroutine = false) (hk : env.scope.kind = .function) (hfs : splitAtGen fs = none) (hfg : fs.any Frame.guarded = false)
    (h : wpAny (model prog w) (A.over c fs) (eval e env) (fun v s' => ∀ l k p, (∀ A' s'' P', SegX (model prog w) A' c (K .next) fs s'' P' → SegX (model prog w) A' c (k (.send .none)) fs s'' P') → P (.susp v false l k c p fs) s') NoE s) :
    SegX (model prog w) A c ((exec (.Expr (.Yield (some e) ypos) pos) env).wrap K H id id) fs s P := by
  rw [exec_Expr env _ pos (by unfold interactive; rw [hk]; rfl) rfl]
  have hy : ∀ v, yieldOut env v = yieldValue v := fun v => by simp only [yieldOut, hco, Bool.false_eq_true, if_false]
  refine g_bind (wpAny_standAt ?_)
  refine g_bind' ?_
  show SegX (model prog w) A c ((eval e env >>= fun v => (standAt ypos >>= fun _ => yieldOut env v)).wrap _ H id id) fs s P
  refine g_bind (wpAny_imp h fun v s' h' => ?_)
  simp only [hy]
  refine g_bind (wpAny_standAt ?_)
  refine s_yield prog w A c fs P s' v _ _ hfs hfg fun p => h' _ _ p fun A' s'' P' hx => ?_
  exact hx

theorem g_if {env : Env} {t : Expr} {a b : List Stmt} {pos : Pos} (h : wpAny (model prog w) (A.over c fs) (isTrue t env (eval t env)) (fun q s' => SegX (model prog w) A c ((execs (if q = true then a else b) env).wrap K H id id) fs s' P) NoE s) :
    SegX (model prog w) A c ((exec (.If t a b pos) env).wrap K H id id) fs s P := by
  rw [exec_If]
  refine g_bind (wpAny_standAt (g_bind (wpAny_imp h fun q s' h' => ?_)))
  cases q <;> exact h'

theorem g_for {env : Env} {target iter : Expr} {body : List Stmt} {pos : Pos} (hs : notSet iter = true)
    (h : wpAny (model prog w) (A.over c fs) (eval iter env) (fun x s₁ => wpAny (model prog w) (A.over c fs) (pyIter x) (fun it s₂ => ∀ k p l, (∀ A' s' P', SegX (model prog w) A' c (K .next) fs s' P' → SegX (model prog w) A' c (k (.ok .next)) fs s' P') →
      SegX (model prog w) A (.forLoop target it body [] env) (denote table (.forLoop target it body [] env)) (.ret k none false l c p [] :: fs) s₂ P) NoE s₁) NoE s) :
    SegX (model prog w) A c ((exec (.For target iter body [] pos) env).wrap K H id id) fs s P := by
  rw [exec_For]
  refine g_bind (wpAny_standAt ?_)
  refine g_bind (wpAny_imp h fun x s₁ h₁ => ?_)
  refine g_bind (wpAny_of_eq (foldedSet_of hs x) ?_)
  refine g_bind (wpAny_standAt ?_)
  refine g_bind (wpAny_holding (wpAny_imp h₁ fun it s₂ h₂ => ?_))
  refine s_call prog w A c fs P s₂ (.forLoop target it body [] env) none false _ _ fun p => h₂ _ p _ fun A' s' P' hx => ?_
  exact hx

theorem g_func {body : List Stmt} {env : Env}
    (h : ∀ H, SegX (model prog w) A (.func body env) ((execs body env).wrap (fun f => .pure (.done (.ret (match f with | .ret v => v | _ => .none)))) H id id) fs s P) :
    SegX (model prog w) A (.func body env) (denote table (.func body env)) fs s P := by
  refine s_skim prog w A _ fs P s _ 1 ?_
  show SegX (model prog w) A (.func body env) (((execs body env).onRaise (leaving env)) >>= _) fs s P
  rw [Sem.onRaise_eq_wrap, Sem.bind_eq_wrap', Sem.wrap_wrap]
  rw [Sem.wrap_congr (execs body env) _ _ (K' := fun f => .pure (.done (.ret (match f with | .ret v => v | _ => .none))))
    (H' := fun e => (leaving env e).wrap (fun _ => .raise e) .raise id id) (fun f => by cases f <;> rfl)
    (fun e => by rw [Sem.bind_eq_wrap, Sem.wrap_wrap]; rfl)]
  exact h _

theorem g_turn0 {env : Env} {target : Expr} {it : Value} {body : List Stmt}
    (h : wpAny (model prog w) (A.over (.forLoop target it body [] env) fs) (pyNext it) (fun r s₁ => match r with
      | none => SegX (model prog w) A (.forLoop target it body [] env) (.pure (.again (.block [] env))) fs s₁ P
      | some v => wpAny (model prog w) (A.over (.forLoop target it body [] env) fs) (letOwnedTupleGo target it v) (fun _ s₂ => wpAny (model prog w) (A.over (.forLoop target it body [] env) fs) (assign target env v) (fun _ s₃ =>
          SegX (model prog w) A (.forLoop target it body [] env) ((execs body env).wrap (fun f => match f with
            | .next | .cont => .pure (.again (.forLoop target it body [] env))
            | .brk => .pure (.done .next)
            | .ret v => .pure (.done (.ret v))) H id id) fs s₃ P) NoE s₂) NoE s₁) NoE s) :
    SegX (model prog w) A (.forLoop target it body [] env) ((forTurn target it body [] env).wrap .pure H id id) fs s P := by
  unfold forTurn
  refine g_bind (wpAny_standAt ?_)
  refine g_bind (wpAny_onRaise (wpAny_no (wpAny_imp h fun r s₁ h₁ => ?_)))
  cases r with
  | none => exact h₁
  | some v =>
    refine g_bind (wpAny_imp h₁ fun _ s₂ h₂ => ?_)
    refine g_bind (wpAny_imp h₂ fun _ s₃ h₃ => ?_)
    refine g_bind' ?_
    rw [Sem.wrap_congr (execs body env) _ _ (K' := fun f => match f with
            | .next | .cont => .pure (.again (.forLoop target it body [] env))
            | .brk => .pure (.done .next)
            | .ret v => .pure (.done (.ret v))) (H' := H) (fun f => by cases f <;> rfl) (fun e => rfl)]
    exact h₃
theorem g_turn {env : Env} {target : Expr} {it : Value} {body : List Stmt}
    (h : ∀ H, wpAny (model prog w) (A.over (.forLoop target it body [] env) fs) (pyNext it) (fun r s₁ => match r with
      | none => SegX (model prog w) A (.forLoop target it body [] env) (.pure (.again (.block [] env))) fs s₁ P
      | some v => wpAny (model prog w) (A.over (.forLoop target it body [] env) fs) (letOwnedTupleGo target it v) (fun _ s₂ => wpAny (model prog w) (A.over (.forLoop target it body [] env) fs) (assign target env v) (fun _ s₃ =>
          SegX (model prog w) A (.forLoop target it body [] env) ((execs body env).wrap (fun f => match f with
            | .next | .cont => .pure (.again (.forLoop target it body [] env))
            | .brk => .pure (.done .next)
            | .ret v => .pure (.done (.ret v))) H id id) fs s₃ P) NoE s₂) NoE s₁) NoE s) :
    SegX (model prog w) A (.forLoop target it body [] env) (denote table (.forLoop target it body [] env)) fs s P := by
  show SegX (model prog w) A _ ((forTurn target it body [] env).onRaise (fun x => do noteFrame x env; theTreesLotGoes x)) fs s P
  rw [Sem.onRaise_eq_wrap]
  exact g_turn0 (h _)
end
end Mine
end

section
set_option autoImplicit false
set_option linter.unusedVariables false
set_option linter.unusedSimpArgs false
namespace Mine
open PySem PySem.Calls PyProof.Rows PySem.SeqAt PySem.W.X

/-- data that lie nowhere -/
def flat : T → Bool
  | .none | .bool _ | .int _ | .float _ | .str _ => true
  | _ => false
theorem Den.flat {w : World} {M M' : List Addr} {h h' : Heap} {t : T} {v : Value} (hf : flat t = true) (d : Den w M h t v) : Den w M' h' t v := by
  cases t <;> first | exact d | simp [Mine.flat] at hf
def FlatRho (ρ : Rho) : Prop := ∀ x u, ρ.lookup x = some u → ∃ t, u = .sh t ∧ flat t = true

section
variable {c : Cx} {n : Nat} {env : Env} {ρ : Rho} {s s₁ : Shared}

theorem Rel.noCells {M : List Addr} (R : Rel c env [] [] ρ s) (hc : c.cel = []) : ∀ x a, (x, a) ∉ env.cells := fun x a h => by
  rcases (R.cells x a h).2 with q | q
  · rw [hc] at q; simp at q
  · simp at q

theorem Rel.agree (R : Rel c env [] [] ρ s) (hc : c.cel = []) (hf : FlatRho ρ) (hk : ∀ o, s.heap.get? env.locals = some o → s₁.heap.get? env.locals = some o) (B : Bas c s₁) (hs : s.heap.objs.size ≤ s₁.heap.objs.size) : Rel c env [] [] ρ s₁ where
  bas := B
  names := R.names
  kind := R.kind
  glob := R.glob
  blt := R.blt
  nd := R.nd
  hi := fun a ha => ⟨(R.hi a ha).1, Nat.lt_of_lt_of_le (R.hi a ha).2 hs⟩
  dis := R.dis
  loc := let ⟨m, hm⟩ := R.loc; ⟨m, hm.at' hk⟩
  cells := fun x a h => absurd h (R.noCells (M := []) hc x a)
  call := R.call
  vars := fun x u h => by
    obtain ⟨v, h1, h2⟩ := R.vars x u h
    obtain ⟨t, rfl, ht⟩ := hf x u h
    exact ⟨v, h1.mono hk (fun a q => absurd q (R.noCells (M := []) hc x a)), Den.flat (t := t) ht h2⟩

/-- all that lies in the heap, but for what is the block's own -/
def allM (c : Cx) (env : Env) (s : Shared) : List Addr := (List.range s.heap.objs.size).filter fun a => decide (c.H.objs.size ≤ a) && !(nOf c env []).contains a
theorem mem_all {a : Addr} (h1 : c.H.objs.size ≤ a) (h2 : a < s.heap.objs.size) : a ∈ nOf c env [] ++ (allM c env s ++ []) := by
  by_cases h : a ∈ nOf c env []
  · exact List.mem_append_left _ h
  · refine List.mem_append_right _ (List.mem_append_left _ (List.mem_filter.mpr ⟨List.mem_range.mpr h2, ?_⟩))
    have : decide (c.H.objs.size ≤ a) = true := decide_eq_true h1
    rw [this]; simpa using h
theorem Rel.flatM {M : List Addr} (R : Rel c env [] [] ρ s) (hc : c.cel = []) (hf : FlatRho ρ) (hM : ∀ a ∈ M, (c.H.objs.size ≤ a ∧ a < s.heap.objs.size) ∧ a ∉ nOf c env []) : Rel c env (M ++ []) [] ρ s where
  bas := R.bas
  names := R.names
  kind := R.kind
  glob := R.glob
  blt := R.blt
  nd := R.nd
  hi := fun a ha => by
    rcases List.mem_append.mp ha with h | h
    · exact R.hi a (List.mem_append_left _ h)
    · rw [List.append_nil] at h
      exact (hM a h).1
  dis := fun a ha h => by
    rw [List.append_nil] at h
    exact (hM a h).2 ha
  loc := R.loc
  cells := fun x a h => absurd h (R.noCells (M := []) hc x a)
  call := R.call
  vars := fun x u h => by
    obtain ⟨v, h1, h2⟩ := R.vars x u h
    obtain ⟨t, rfl, ht⟩ := hf x u h
    exact ⟨v, h1, Den.flat (t := t) ht h2⟩
theorem allM_ok {s' : Shared} (hs : s.heap.objs.size ≤ s'.heap.objs.size) : ∀ a ∈ Mine.allM c env s, (c.H.objs.size ≤ a ∧ a < s'.heap.objs.size) ∧ a ∉ nOf c env [] := fun a h => by
  obtain ⟨h1, h2⟩ := List.mem_filter.mp h
  simp only [Bool.and_eq_true, decide_eq_true_eq, Bool.not_eq_true', List.contains_eq_mem, decide_eq_false_iff_not] at h2
  exact ⟨⟨h2.1, Nat.lt_of_lt_of_le (List.mem_range.mp h1) hs⟩, h2.2⟩
theorem Rel.allM (R : Rel c env [] [] ρ s) (hc : c.cel = []) (hf : FlatRho ρ) : Rel c env (Mine.allM c env s ++ []) [] ρ s := R.flatM hc hf (allM_ok (Nat.le_refl _))

def PN (c : Cx) (A : Around) (g : Nat) : List T → List Addr → Shared → End → Shared → Prop
  | [], W, s₁ => fun e s' => e = .ret (.ok (.ret .none)) ∧ ChgG g W s₁ s'
  | t :: ts, W, s₁ => fun e s' => (∃ v lv k c' p fs, e = .susp v false lv k c' p fs ∧ ∃ W', ChgG g W s₁ s' ∧ (∀ a ∈ W', s₁.heap.objs.size ≤ a ∧ a < s'.heap.objs.size) ∧
      (∀ M', (∀ a ∈ M', (c.H.objs.size ≤ a ∧ a < s₁.heap.objs.size) ∨ a ∈ W') → Den c.w M' s'.heap t v) ∧ Going c A g ts (W' ++ W) e.genState s')
theorem going_iff {A : Around} {g : Nat} {l : List T} {W : List Addr} {gs : GenState} : Going c A g l W gs s ↔ ∀ s₁, Agree c W s s₁ → Res (model c.prog c.w) A gs s₁ (PN c A g l W s₁) := by
  cases l <;> rfl

theorem room_func {A : Around} {body : List Stmt} (rm : Room A (n + 2)) : Room (A.in1.over (.func body env) []) n := by
  obtain ⟨h1, h2, h3⟩ := rm
  refine ⟨h1, ?_, ?_⟩
  · show A.depth + 0 + 1 + n < 800
    lia
  · show A.units + 1 + 0 + 3 + 8 * n < 9000
    lia
theorem room_for {A : Around} {t : Expr} {it : Value} {b o body : List Stmt} {k : Result → Sem Fin} {l : List Value} {p : Pos} (rm : Room A (n + 2)) : Room (A.in1.over (.forLoop t it b o env) [.ret k none false l (.func body env) p []]) n := by
  obtain ⟨h1, h2, h3⟩ := rm
  refine ⟨h1, ?_, ?_⟩
  · show A.depth + (1 + 0) + 0 + n < 800
    lia
  · show A.units + 1 + (3 + 0) + 0 + 8 * n < 9000
    lia

/-- an assignment, the block's own as it was -/
theorem assign_sh {M₀ : List Addr} {A : Around} {x : Str} {e : Expr} {p pos : Pos} {t : T} (h : Ev c n ρ e t) (hn : notComp e = true) (hc : canStore c x = true) (rm : Room A n) (R : Rel c env M₀ [] ρ s) :
    wpAny (model c.prog c.w) A (exec (.Assign [.Name x p] e pos) env) (fun fl s' => Chg (nOf c env []) s s' ∧ fl = .next ∧ Rel c env M₀ [] (put x (.sh t) ρ) s') NoE s :=
  wpAny_Assign_Name (h.go rm R fun v s' y R' d => wp_store (u := .sh t) R y d hc fun s'' z R'' => ⟨Chg.trans y.chg z fun a h => .inl h, rfl, by rw [ownPut_sh] at R''; exact R''⟩) (swaps_of hn _ _ _)

/-- what a generator's own iterator changes -/
theorem Rel.drop0 {X : List Addr} {ρ' : Rho} {s₂ : Shared} (R : Rel c env [] [] ρ s) (R₂ : Rel c env (X ++ []) [] ρ' s₂) : Rel c env [] [] ρ' s₂ := R.dropM R₂
end
end Mine
end

section
set_option autoImplicit false
set_option linter.unusedVariables false
set_option linter.unusedSimpArgs false
namespace Mine
open PySem PySem.Calls PyProof.Rows PySem.SeqAt

theorem flatMap_one {α β : Type} (o : α → β) (l : List α) : l.flatMap (fun a => [o a]) = l.map o := by
  induction l with
  | nil => rfl
  | cons a l ih => rw [List.flatMap_cons, ih]; rfl

/-- all that ρ says ρ' says -/
abbrev Sub (ρ ρ' : Rho) : Prop := ∀ x u, ρ.lookup x = some u → ρ'.lookup x = some u
theorem Sub.nil {ρ' : Rho} : Sub [] ρ' := fun _ _ h => by simp at h
theorem Sub.cons {ρ ρ' : Rho} {x : Str} {u : Var} (h : ρ'.lookup x = some u) (r : Sub ρ ρ') : Sub ((x, u) :: ρ) ρ' := fun y w e => by
  rw [List.lookup_cons] at e
  by_cases hy : y = x
  · subst hy; simp at e; subst e; exact h
  · rw [show (y == x) = false by simpa using hy] at e; exact r y w e
theorem Sub.one {ρ' : Rho} {x : Str} {u : Var} (h : ρ'.lookup x = some u) : Sub [(x, u)] ρ' := .cons h .nil

section
variable {c : Cx} {n : Nat}

theorem strsOf_map : ∀ l : List Str, strsOf (l.map .str) = some l
  | [] => rfl
  | x :: l => by show (strsOf (l.map .str)).map (x :: ·) = _; rw [strsOf_map l]; rfl
theorem Ev.joinS {ρ : Rho} {o e : Expr} {apos pos : Pos} {x : Str} {l : List Str} (ho : EvB c n ρ o (.str x)) (he : EvB c n ρ e (.list (l.map .str))) (hn : noSuper o = true) (hs : notStar e = true) (hl : (apos.endLine == pos.line) = true)
    (hz : (l.map (·.length)).sum + l.length * x.length ≤ 16777216) : Ev c n ρ (.Call (.Attribute o "join" apos) [e] [] pos) (.str (Txt.join x l)) := by
  refine @Ev.meth1 _ _ _ _ _ _ _ _ (.str x) (.list (l.map .str)) _ ho he hn hs hl ?_
  unfold meth
  rw [if_pos (by decide)]
  dsimp only
  rw [strsOf_map]
  exact if_pos hz
theorem Ev.countS {ρ : Rho} {o e : Expr} {apos pos : Pos} {x y : Str} (ho : EvB c n ρ o (.str x)) (he : EvB c n ρ e (.str y)) (hn : noSuper o = true) (hs : notStar e = true) (hl : (apos.endLine == pos.line) = true) :
    Ev c n ρ (.Call (.Attribute o "count" apos) [e] [] pos) (.int (Txt.count x y)) := by
  refine @Ev.meth1 _ _ _ _ _ _ _ _ (.str x) (.str y) _ ho he hn hs hl ?_
  unfold meth
  rw [if_neg (by decide), if_pos (by decide)]

/-- as fold, with something that holds at r items to come -/
theorem Loops.foldI {σ α : Type} (R : σ → Rho) (f : σ → α → σ) (g : α → T) (I : Nat → σ → Prop) {target : Expr} {body : List Stmt} : ∀ (l : List α) (s : σ), I l.length s → (∀ s a r, a ∈ l → I (r + 1) s → I r (f s a) ∧ ∃ ρ₁, bindT c target (g a) (R s) = some ρ₁ ∧ Ex c n ρ₁ body (.next (R (f s a)))) →
    Loops c n target body (R s) (l.map g) (.next (R (l.foldl f s)))
  | [], s, _, _ => .nil
  | a :: l, s, hi, h => by
    obtain ⟨h0, ρ₁, h1, h2⟩ := h s a l.length List.mem_cons_self hi
    exact .next h1 h2 (Loops.foldI R f g I l (f s a) h0 fun s b r hb => h s b r (List.mem_cons_of_mem _ hb))

def StepOk (c : Cx) (n : Nat) {σ : Type} (R : σ → Rho) (r : T) (b : Bool) (ρ₁ : Rho) (body : List Stmt) : Option σ → Prop
  | some s' => Ex c n ρ₁ body (.next (R s'))
  | none => Ex c n ρ₁ body (.ret r b)
def outM {σ : Type} (R : σ → Rho) (r : T) (b : Bool) : Option σ → Out
  | some s' => .next (R s')
  | none => .ret r b
/-- a loop that may give a result back -/
theorem Loops.foldM {σ α : Type} (R : σ → Rho) (f : σ → α → Option σ) (g : α → T) (r : T) (b : Bool) {target : Expr} {body : List Stmt} : ∀ (l : List α) (s : σ), (∀ s a, a ∈ l → ∃ ρ₁, bindT c target (g a) (R s) = some ρ₁ ∧ StepOk c n R r b ρ₁ body (f s a)) →
    Loops c n target body (R s) (l.map g) (outM R r b (l.foldlM f s))
  | [], s, _ => .nil
  | a :: l, s, h => by
    obtain ⟨ρ₁, h1, h2⟩ := h s a List.mem_cons_self
    rw [List.foldlM_cons]
    cases hf : f s a with
    | none =>
      rw [hf] at h2
      exact .ret h1 h2
    | some s' =>
      rw [hf] at h2
      exact .next h1 h2 (Loops.foldM R f g r b l s' fun s b hb => h s b (List.mem_cons_of_mem _ hb))
theorem Loops.cast {ρ : Rho} {target : Expr} {body : List Stmt} {l : List T} {o o' : Out} (e : o = o') (h : Loops c n target body ρ l o) : Loops c n target body ρ l o' := e ▸ h

/-- a comprehension's part over items -/
theorem Turns.items {α : Type} {elt : Expr} {gens : List Comprehension} {sc : Scope} {pos : Pos} {d : Nat} {g : Comprehension} {ρ : Rho} (m : α → T) (o : α → List T) (p : α → Bool) : ∀ (l : List α),
    (∀ a ∈ l, ∃ ρ', bindT c g.target (m a) ρ = some ρ' ∧ (∀ x u, ρ.lookup x = some u → ρ'.lookup x = some u) ∧ Ifs c n ρ' g.ifs (p a) ∧ (p a = true → Tail c n elt gens sc pos d ρ' (o a))) →
    Turns c n elt gens sc pos d g ρ (l.map m) ((l.filter p).flatMap o)
  | [], _ => .nil
  | a :: l, h => by
    obtain ⟨ρ', h1, h2, h3, h4⟩ := h a List.mem_cons_self
    have ih := Turns.items (elt := elt) (gens := gens) (sc := sc) (pos := pos) (d := d) (g := g) (ρ := ρ) m o p l fun b hb => h b (List.mem_cons_of_mem _ hb)
    cases hp : p a with
    | true =>
      rw [List.filter_cons_of_pos hp, List.flatMap_cons]
      rw [hp] at h3
      exact .yes h1 h2 h3 (h4 hp) ih
    | false =>
      rw [List.filter_cons_of_neg (by rw [hp]; simp)]
      rw [hp] at h3
      exact .no h1 h2 h3 ih

theorem Turns.cast {elt : Expr} {gens : List Comprehension} {sc : Scope} {pos : Pos} {d : Nat} {g : Comprehension} {ρ : Rho} {l l' o o' : List T} (h : Turns c n elt gens sc pos d g ρ l o) (hl : l = l') (ho : o = o') : Turns c n elt gens sc pos d g ρ l' o' := by subst hl ho; exact h

/-- [f x for x in l] -/
theorem Turns.map1 {α : Type} {elt : Expr} {gens : List Comprehension} {sc : Scope} {pos : Pos} {d : Nat} {g : Comprehension} {ρ : Rho} (m o : α → T) (hg : gens[d + 1]? = none) (hi : g.ifs = []) (l : List α)
    (h : ∀ a ∈ l, ∃ ρ', bindT c g.target (m a) ρ = some ρ' ∧ (∀ x u, ρ.lookup x = some u → ρ'.lookup x = some u) ∧ Ev c n ρ' elt (o a)) :
    Turns c n elt gens sc pos d g ρ (l.map m) (l.map o) := by
  have := Turns.items (c := c) (n := n) (elt := elt) (gens := gens) (sc := sc) (pos := pos) (d := d) (g := g) (ρ := ρ) m (fun a => [o a]) (fun _ => true) l fun a ha => by
    obtain ⟨ρ', h1, h2, h3⟩ := h a ha
    exact ⟨ρ', h1, h2, by rw [hi]; exact .nil, fun _ => Tail.emit hg h3⟩
  have e : (l.filter fun _ => true).flatMap (fun a => [o a]) = l.map o := by
    rw [List.filter_eq_self.mpr (by simp), flatMap_one]
  rwa [e] at this

/-- [f x for x in l if p] -/
theorem Turns.map2 {α : Type} {elt e : Expr} {gens : List Comprehension} {sc : Scope} {pos : Pos} {d : Nat} {g : Comprehension} {ρ : Rho} (m o : α → T) (p : α → Bool) (hg : gens[d + 1]? = none) (hi : g.ifs = [e]) (l : List α)
    (h : ∀ a ∈ l, ∃ ρ', bindT c g.target (m a) ρ = some ρ' ∧ (∀ x u, ρ.lookup x = some u → ρ'.lookup x = some u) ∧ EvT c n ρ' e (p a) ∧ (p a = true → Ev c n ρ' elt (o a))) :
    Turns c n elt gens sc pos d g ρ (l.map m) ((l.filter p).map o) := by
  have := Turns.items (c := c) (n := n) (elt := elt) (gens := gens) (sc := sc) (pos := pos) (d := d) (g := g) (ρ := ρ) m (fun a => [o a]) p l fun a ha => by
    obtain ⟨ρ', h1, h2, h3, h4⟩ := h a ha
    refine ⟨ρ', h1, h2, ?_, fun hp => Tail.emit hg (h4 hp)⟩
    rw [hi]
    cases hp : p a with
    | true => rw [hp] at h3; exact .consT h3 .nil
    | false => rw [hp] at h3; exact .consF h3
  have e : (l.filter p).flatMap (fun a => [o a]) = (l.filter p).map o := by
    rw [flatMap_one]
  rwa [e] at this
end
end Mine
end

section
set_option autoImplicit false
namespace Mine
open PySem PySem.Calls PyProof.Rows PySem.SeqAt PySem.W.X

abbrev PW : Program := PySem.Challenge.pw_rw0119_02
def fnBody (p : Program) (i : Nat) : List Stmt := match p.main.body[i]? with
  | some (.FunctionDef _ _ b _ _ _ _ _ _ _) => b
  | _ => []
def fnScope (p : Program) (i : Nat) : Scope := match p.main.body[i]? with
  | some (.FunctionDef _ _ _ _ _ _ s _ _ _) => s
  | _ => default
def fnArgs (p : Program) (i : Nat) : Arguments := match p.main.body[i]? with
  | some (.FunctionDef _ a _ _ _ _ _ _ _ _) => a
  | _ => default
abbrev iIter : Nat := 1
end Mine
end

section
set_option autoImplicit false
set_option linter.unusedVariables false
set_option linter.unusedSimpArgs false
namespace Mine
open PySem PySem.Calls PyProof.Rows PySem.SeqAt PySem.W.X

def bsl : Str := "\\"
/-- what _iter_escaped_chars tells of the signs from place j on; e: a backslash stands ahead; q: the last place -/
def escL : List Nat → Int → Bool → Int → List T
  | [], _, e, q => if e = true then [.tup [.int q, .str bsl]] else []
  | ch :: r, j, true, _ => .tup [.int j, .str (bsl ++ ⟨#[ch]⟩)] :: escL r (j + 1) false j
  | ch :: r, j, false, _ => if (⟨#[ch]⟩ : Str) == bsl then escL r (j + 1) true j else .tup [.int j, .str ⟨#[ch]⟩] :: escL r (j + 1) false j

abbrev iterSc : Scope := fnScope PW iIter
abbrev iterBody : List Stmt := fnBody PW iIter
def iterRho (x : Str) (q : Int) (b : Bool) : Rho := [("addr", .sh (.str x)), ("pos", .sh (.int q)), ("escape", .sh (.bool b))]

theorem iterRho_flat (x : Str) (q : Int) (b : Bool) : FlatRho (iterRho x q b) := fun y u h => by
  have := mem_of_lookup h
  simp only [iterRho, List.mem_cons, Prod.mk.injEq, List.not_mem_nil, or_false] at this
  rcases this with ⟨_, rfl⟩ | ⟨_, rfl⟩ | ⟨_, rfl⟩ <;> exact ⟨_, rfl, rfl⟩

section
variable {c : Cx} {n : Nat}

theorem strDraws {A : Around} (hh : A.handled = none) (it : Addr) (x : Str) (t : Tok) : Draws c.prog c.w A it [it] x.cps.size (fun i v => ∃ ch u, x.cps[i]? = some ch ∧ v = .str ⟨#[ch]⟩ u) (fun i h => h.IsStrIter it (strIterType x) x t i) := by
  cases ha : x.cps.all (· < 128)
  · have e : strIterType x = "str_iterator" := by unfold strIterType; rw [ha]; rfl
    rw [e]; exact Draws.strWide hh it x t
  · have e : strIterType x = "str_ascii_iterator" := by unfold strIterType; rw [ha]; rfl
    rw [e]; exact Draws.strAscii hh it x t

theorem sub3 {x : Str} {q : Int} {b : Bool} {ρ : Rho} (h1 : ρ.lookup ("addr" : Str) = some (.sh (.str x))) (h2 : ρ.lookup ("pos" : Str) = some (.sh (.int q))) (h3 : ρ.lookup ("escape" : Str) = some (.sh (.bool b))) : ∀ y u, (iterRho x q b).lookup y = some u → ρ.lookup y = some u :=
  sub_of_all fun p hp => by
    simp only [iterRho, List.mem_cons, List.not_mem_nil, or_false] at hp
    rcases hp with rfl | rfl | rfl
    · exact h1
    · exact h2
    · exact h3

abbrev KF : Flow → Sem Fin := fun f => .pure (.done (.ret (match f with | .ret v => v | _ => .none)))

/-- a yield of a generator that has only what it was made of: s₁ where it was waked, s now -/
theorem pn_yield {A : Around} {g : Nat} {env : Env} {s s₁ s₂ : Shared} {W W' : List Addr} {v : Value} {l : T} {ts : List T} {lv : List Value} {k : Resume → Sem Fin} {c' : Code} {p : Pos} {fs : List Frame}
    (x2 : ChgG g W s₁ s₂) (hs : s₁.heap.objs.size ≤ s.heap.objs.size) (hs2 : s.heap.objs.size ≤ s₂.heap.objs.size) (hW' : ∀ a ∈ W', s₁.heap.objs.size ≤ a ∧ a < s.heap.objs.size) (hH : c.H.objs.size ≤ s₁.heap.objs.size) (d : Den c.w (nOf (funCx c iterSc) env [] ++ (allM (funCx c iterSc) env s ++ [])) s₂.heap l v)
    (hfg : fs.any Frame.guarded = false) (hgo : Going c A g ts (W' ++ W) (.suspended k lv c' p fs false) s₂) : PN c A g (l :: ts) W s₁ (.susp v false lv k c' p fs) s₂ := by
  refine ⟨v, lv, k, c', p, fs, rfl, W', x2, fun a h => ⟨(hW' a h).1, Nat.lt_of_lt_of_le (hW' a h).2 hs2⟩, fun M' hM' => Den.mono (fun a ha hm => ha ?_) (fun _ _ _ e => e) l v d, ?_⟩
  · rcases hM' a hm with h | h
    · exact mem_all h.1 (Nat.lt_of_lt_of_le h.2 hs)
    · exact mem_all (Nat.le_trans hH (hW' a h).1) (hW' a h).2
  · show Going c A g ts (W' ++ W) (.suspended k lv c' p fs (false || fs.any Frame.guarded)) s₂
    rw [hfg]
    exact hgo

theorem res_susp {M : Model} {A : Around} {k : Resume → Sem Fin} {lv : List Value} {c' : Code} {p : Pos} {fs : List Frame} {cl : Bool} {s : Shared} {Φ : End → Shared → Prop} (h : SegX M A c' (k (.send .none)) fs s Φ) : Res M A (.suspended k lv c' p fs cl) s Φ := h

/-- what stands behind the loop -/
theorem iter_tail {A : Around} (rm : Room A (n + 2)) {g : Nat} {x : Str} {env : Env} (henv : env.scope = iterSc) {H : Value → Sem Fin} {q : Int} {b : Bool} {s s₁ : Shared} {W W' : List Addr} (R : Rel (funCx c iterSc) env [] [] (iterRho x q b) s)
    (x0 : ChgG g W s₁ s) (hW' : ∀ a ∈ W', s₁.heap.objs.size ≤ a ∧ a < s.heap.objs.size) (hH : c.H.objs.size ≤ s₁.heap.objs.size) :
    SegX (model c.prog c.w) A.in1 (.func iterBody env) ((execs (iterBody.drop 3) env).wrap KF H id id) [] s (PN c A.in1 g (escL [] 0 b q) W s₁) := by
  conv in (List.drop _ _) => whnf
  have R' := R.allM rfl (iterRho_flat x q b)
  refine g_cons (g_if ?_)
  refine EvT.go (EvT.val (Ev.name (t := .bool b) rfl rfl) rfl) (room_func rm) R' fun s' y R1 => ?_
  cases b with
  | false =>
    refine s_end c.prog c.w A.in1 _ _ s' (.ok (.ret .none)) _ rfl ?_
    exact ⟨rfl, x0.trans (y.g g) (by simp)⟩
  | true =>
    refine g_cons (g_yield (by rw [henv]; rfl) (by rw [henv]; rfl) rfl rfl ?_)
    refine Ev.go (Ev.tup (.cons rfl (Ev.name (t := .int q) rfl rfl) (.cons rfl Ev.cstr .nil)) (by show 2 ≤ sizeLine; decide)) (room_func rm) R1 fun v s₂ y₂ R2 d l k p hk => ?_
    refine pn_yield (s := s) (ts := []) (x0.trans ((Ext.trans y y₂).g g) (by simp)) x0.size (Ext.trans y y₂).size hW' hH d rfl ?_
    intro s₃ hag
    refine res_susp (hk _ _ _ ?_)
    refine s_end c.prog c.w A.in1 _ _ s₃ (.ok (.ret .none)) _ rfl ?_
    exact ⟨rfl, ChgG.refl s₃⟩
end
end Mine
end

section
set_option autoImplicit false
set_option linter.unusedVariables false
set_option linter.unusedSimpArgs false
namespace Mine
open PySem PySem.Calls PyProof.Rows PySem.SeqAt PySem.W.X

section
variable {c : Cx} {n : Nat}

theorem of_bas {sc : Scope} {s : Shared} (B : Bas c s) : Bas (funCx c sc) s := ⟨B.heap, B.size, B.toks, B.lim⟩

/-- the loop of _iter_escaped_chars from its place j on -/
theorem iter_loop {A : Around} (rm : Room A (n + 2)) {g : Nat} {x : Str} {t : Tok} {e it : Addr} (hne : e ≠ it) {env : Env} (henv : env.scope = iterSc) {target iter : Expr} {body : List Stmt} {p : Pos} {k : Result → Sem Fin} {lv : List Value} {pos : Pos}
    (hL : env.locals ≠ e ∧ env.locals ≠ it) {H : Value → Sem Fin} (hei : c.H.objs.size ≤ e ∧ c.H.objs.size ≤ it) (hb : iterBody[2]? = some (.For target iter body [] pos))
    (hK : ∀ A' s' P', SegX (model c.prog c.w) A' (.func iterBody env) ((execs (iterBody.drop 3) env).wrap KF H id id) [] s' P' → SegX (model c.prog c.w) A' (.func iterBody env) (k (.ok .next)) [] s' P') :
    ∀ (r : List Nat) (j : Nat) (b : Bool) (q : Int) (s s₁ : Shared) (W W' : List Addr), x.cps.toList.drop j = r → j ≤ x.cps.size → Rel (funCx c iterSc) env [] [] (iterRho x q b) s → (∃ old, IsEnum s.heap e it j old) → s.heap.IsStrIter it (strIterType x) x t j →
      ChgG g W s₁ s → (∀ a ∈ W', s₁.heap.objs.size ≤ a ∧ a < s.heap.objs.size) → c.H.objs.size ≤ s₁.heap.objs.size → env.locals ∈ W' ++ W → e ∈ W' ++ W → it ∈ W' ++ W →
      SegX (model c.prog c.w) A.in1 (.forLoop target (.ref e) body [] env) (denote table (.forLoop target (.ref e) body [] env)) [.ret k none false lv (.func iterBody env) p []] s (PN c A.in1 g (escL r j b q) W s₁) := by
  have rm' : Room (A.in1.over (.forLoop target (.ref e) body [] env) [.ret k none false lv (.func iterBody env) p []]) n := room_for rm
  have D := fun (A' : Around) (h : A'.handled = none) => WalksT.enumerateD (prog := c.prog) (w := c.w) (A := A') (strDraws (c := c) (A := A'.in1) h it x t) e hne (by simpa using hne) (by simp)
  conv at hb => lhs; whnf
  cases hb
  intro r
  have chgW : ∀ {s s' : Shared} {W W' : List Addr} {s₁ : Shared}, ChgG g W s₁ s → (∀ a ∈ W', s₁.heap.objs.size ≤ a) → ∀ {N : List Addr}, ChgG g N s s' → (∀ a ∈ N, a ∈ W' ++ W) → ChgG g W s₁ s' := by
    intro s s' W W' s₁ x0 hW' N x1 h
    refine x0.trans x1 fun a ha => ?_
    rcases List.mem_append.mp (h a ha) with q | q
    · exact .inr (hW' a q)
    · exact .inl q
  induction r with
  | nil =>
    intro j b q s s₁ W W' hr hj R hE hI x0 hW' hH hWl hWe hWi
    have hjz : j = x.cps.size := by
      have := congrArg List.length hr
      simp at this; omega
    refine g_turn fun H' => ?_
    refine wp_grow ((D _ rm'.1).done s _ _ ⟨by rw [← hjz]; exact hE, by rw [← hjz]; exact hI⟩ fun h' tk hk hs ht => ?_)
    have x1 : Chg [e, it] s { s with heap := h', toks := tk } := ⟨hk, hs, fun _ _ e => e, id, rfl, ht⟩
    refine s_again c.prog c.w _ _ _ _ _ _ rfl ?_
    refine s_pop c.prog c.w _ _ _ _ _ (.ok .next) _ rfl k none false lv _ p [] ?_
    refine hK _ _ _ ?_
    have R1 : Rel (funCx c iterSc) env [] [] (iterRho x q b) { s with heap := h', toks := tk } := R.agree rfl (iterRho_flat x q b) (fun o => hk _ o (by simp [hL.1, hL.2])) ⟨fun b o eo => hk b o (fun h => ?_) (R.bas.heap b o eo), Nat.le_trans R.bas.size hs, Nat.lt_of_lt_of_le R.bas.toks ht, R.bas.lim⟩ hs
    · exact iter_tail rm henv R1 (chgW x0 (fun a h => (hW' a h).1) (x1.g g) fun a h => by
        simp only [List.mem_cons, List.not_mem_nil, or_false] at h
        rcases h with rfl | rfl
        · exact hWe
        · exact hWi) (fun a h => ⟨(hW' a h).1, Nat.lt_of_lt_of_le (hW' a h).2 hs⟩) hH
    · simp only [List.mem_cons, List.not_mem_nil, or_false] at h
      have hlt := Heap.lt_size eo
      rcases h with rfl | rfl
      · exact absurd hei.1 (Nat.not_le.mpr hlt)
      · exact absurd hei.2 (Nat.not_le.mpr hlt)
  | cons ch r ih =>
    intro j b q s s₁ W W' hr hj R hE hI x0 hW' hH hWl hWe hWi
    have hlt : j < x.cps.size := by
      have := congrArg List.length hr
      simp at this; omega
    have hch : x.cps[j] = ch ∧ x.cps.toList.drop (j + 1) = r := by
      have := List.drop_eq_getElem_cons (l := x.cps.toList) (i := j) (by simpa using hlt)
      rw [hr] at this
      injection this with h1 h2
      exact ⟨by simpa using h1.symm, h2.symm⟩
    have hnl : ∀ {s' : Shared} {N : List Addr}, (∀ a ∈ N, a = e ∨ a = it) → env.locals ∉ N := fun h hm => (h _ hm).elim hL.1 hL.2
    refine g_turn fun H' => ?_
    refine wp_grow ((D _ rm'.1).item j s _ _ hlt ⟨hE, hI⟩ fun Ta vals h' tk hv hT hTup hMid hk hs ht => ?_)
    obtain ⟨t', xv, ⟨ch', u', hch', rfl⟩, rfl⟩ := hv
    have hc' : ch' = ch := by rw [Array.getElem?_eq_getElem hlt] at hch'; rw [← hch.1]; exact (Option.some.inj hch').symm
    subst hc'
    refine wp_grow ((D _ rm'.1).go _ _ _ j Ta _ _ _ hMid fun h2 hst hk2 hs2 ht2 => ?_)
    have x1 : Chg [e, it] s { s with heap := h2, toks := tk } := ⟨fun b o hb eo => hk2 b o hb (hk b o hb eo), Nat.le_trans hs hs2, fun _ _ e => e, id, rfl, ht⟩
    have hTne : Ta ∉ [e, it] := (D _ rm'.1).apart _ _ _ hMid
    have hTup2 : h2.IsTuple Ta #[.int j t', .str ⟨#[ch']⟩ u'] := hTup.at fun o eo => hk2 Ta o hTne eo
    generalize hs2' : ({ s with heap := h2, toks := tk } : Shared) = s2 at x1
    have hh2 : s2.heap = h2 := by rw [← hs2']
    have B2 : Bas (funCx c iterSc) s2 := R.bas.keep (c := funCx c iterSc) x1 fun a h => by
      simp only [List.mem_cons, List.not_mem_nil, or_false] at h
      rcases h with rfl | rfl
      · exact hei.1
      · exact hei.2
    have R2 : Rel (funCx c iterSc) env [] [] (iterRho x q b) s2 := R.agree rfl (iterRho_flat x q b) (fun o => x1.heap _ o (by simp [hL.1, hL.2])) B2 x1.size
    have R2' := R2.flatM (M := allM (funCx c iterSc) env s) rfl (iterRho_flat x q b) (allM_ok x1.size)
    have dT : Den c.w (nOf (funCx c iterSc) env [] ++ (allM (funCx c iterSc) env s ++ [])) s2.heap (.tup [.int j, .str ⟨#[ch']⟩]) (.ref Ta) := by
      refine Den.of_tup (vs := #[.int j t', .str ⟨#[ch']⟩ u']) (fun h => ?_) (hh2 ▸ hTup2) (DenL.cons Den.of_int (DenL.cons Den.of_str DenL.nil))
      rcases List.mem_append.mp h with h | h
      · exact absurd (R.lt Ta (List.mem_append_left _ h)) (Nat.not_lt.mpr hT)
      · rw [List.append_nil] at h
        exact absurd (allM_ok (Nat.le_refl s.heap.objs.size) Ta h).1.2 (Nat.not_lt.mpr hT)
    refine wp_bind (c := funCx c iterSc) (ρ := iterRho x q b) (t := .tup [.int j, .str ⟨#[ch']⟩]) rm'.1 R2' dT (ρ' := [("addr", .sh (.str x)), ("pos", .sh (.int j)), ("escape", .sh (.bool b)), ("ch", .sh (.str ⟨#[ch']⟩))]) rfl fun O' s3 x3 hO R3 => ?_
    obtain rfl := R3.noOwn hO
    have hnOf : nOf (funCx c iterSc) env [] = [env.locals] := by
      have hcel : ownCells (funCx c iterSc) env = [] := by
        unfold ownCells
        refine List.map_eq_nil_iff.mpr (List.filter_eq_nil_iff.mpr fun p hp => ?_)
        exact absurd hp (R.noCells (M := []) rfl p.1 p.2)
      unfold nOf
      rw [hcel]; rfl
    have hin : ∀ a ∈ nOf (funCx c iterSc) env [], a ∈ W' ++ W := fun a h => by
      rw [hnOf] at h; simp at h; subst h; exact hWl
    have hee : ∀ a ∈ nOf (funCx c iterSc) env [], a ≠ e ∧ a ≠ it := fun a h => by
      rw [hnOf] at h; simp at h; subst h; exact hL
    obtain ⟨⟨old, hE2⟩, hI2⟩ := hst
    have hE2' : IsEnum s2.heap e it ((j + 1 : Nat) : Int) old := by rw [hh2]; exact hE2
    have hI2' : s2.heap.IsStrIter it (strIterType x) x t (j + 1) := by rw [hh2]; exact hI2
    have keepE : ∀ {s s' : Shared} {N : List Addr}, Chh N s s' → (∀ a ∈ N, a ≠ e ∧ a ≠ it) → (∃ old, IsEnum s.heap e it ((j + 1 : Nat) : Int) old) ∧ s.heap.IsStrIter it (strIterType x) x t (j + 1) → (∃ old, IsEnum s'.heap e it ((j + 1 : Nat) : Int) old) ∧ s'.heap.IsStrIter it (strIterType x) x t (j + 1) := by
      intro s s' N y hN ⟨⟨old, h1⟩, o, h2, h3⟩
      exact ⟨⟨old, y.heap e _ (fun h => (hN e h).1 rfl) h1⟩, o, y.heap it _ (fun h => (hN it h).2 rfl) h2, h3⟩
    have st3 := keepE x3.h hee ⟨⟨old, hE2'⟩, hI2'⟩
    have x13 : ChgG g W s₁ s3 := chgW (chgW x0 (fun a h => (hW' a h).1) (x1.g g) fun a h => by
        simp only [List.mem_cons, List.not_mem_nil, or_false] at h
        rcases h with rfl | rfl
        · exact hWe
        · exact hWi) (fun a h => (hW' a h).1) (x3.g g) hin
    have hz3 : s.heap.objs.size ≤ s3.heap.objs.size := Nat.le_trans x1.size x3.size
    -- a yield of l, and the way on
    have way : ∀ (cc : Code) (ts : List T) (l : T) (s5 : Shared) (v : Value) (ρ5 : Rho) (lv' : List Value) (kk : Resume → Sem Fin) (p' : Pos), Ext s3 s5 → Rel (funCx c iterSc) env (allM (funCx c iterSc) env s ++ []) [] ρ5 s5 → Den c.w (nOf (funCx c iterSc) env [] ++ (allM (funCx c iterSc) env s ++ [])) s5.heap l v → FlatRho ρ5 →
        (∀ s6, Rel (funCx c iterSc) env [] [] ρ5 s6 → (∃ old, IsEnum s6.heap e it ((j + 1 : Nat) : Int) old) ∧ s6.heap.IsStrIter it (strIterType x) x t (j + 1) → c.H.objs.size ≤ s6.heap.objs.size → SegX (model c.prog c.w) A.in1 cc (kk (.send .none)) [.ret k none false lv (.func iterBody env) p []] s6 (PN c A.in1 g ts (W' ++ W) s6)) →
        PN c A.in1 g (l :: ts) W s₁ (.susp v false lv' kk cc p' [.ret k none false lv (.func iterBody env) p []]) s5 := by
      intro cc ts l s5 v ρ5 lv' kk p' x5 R5 d5 hf5 hgo
      have st5 := keepE (N := []) x5.h (by simp) st3
      refine pn_yield (s := s) (x13.trans (x5.g g) (by simp)) x0.size (Nat.le_trans hz3 x5.size) hW' hH d5 rfl ?_
      refine going_iff.mpr fun s6 hag => res_susp ?_
      have R6 : Rel (funCx c iterSc) env [] [] ρ5 s6 := (R.drop0 R5).agree rfl hf5 (fun o => hag.1 _ hWl o) (of_bas hag.2.1) hag.2.2
      obtain ⟨⟨old5, h1⟩, o5, h2, h3⟩ := st5
      exact hgo s6 R6 ⟨⟨old5, hag.1 e hWe _ h1⟩, o5, hag.1 it hWi _ h2, h3⟩ hag.2.1.size
    have flat4 : ∀ (b : Bool), FlatRho [("addr", .sh (.str x)), ("pos", .sh (.int j)), ("escape", .sh (.bool b)), ("ch", .sh (.str ⟨#[ch']⟩))] := fun b y u h => by
      have := mem_of_lookup h
      simp only [List.mem_cons, Prod.mk.injEq, List.not_mem_nil, or_false] at this
      rcases this with ⟨_, rfl⟩ | ⟨_, rfl⟩ | ⟨_, rfl⟩ | ⟨_, rfl⟩ <;> exact ⟨_, rfl, rfl⟩
    have hlen : bsl.length + (⟨#[ch']⟩ : Str).length ≤ sizeLine := by show 1 + 1 ≤ sizeLine; decide
    have step : ∀ {b' : Bool} {s6 s7 : Shared} {Wb Wb' : List Addr} {base : Shared} {M : List Addr}, Rel (funCx c iterSc) env [] [] [("addr", .sh (.str x)), ("pos", .sh (.int j)), ("escape", .sh (.bool b')), ("ch", .sh (.str ⟨#[ch']⟩))] s7 → True := fun _ => trivial
    refine g_cons (g_if ?_)
    refine EvT.go (EvT.val (Ev.name (t := .bool b) rfl rfl) rfl) rm' R3 fun s4 y4 R4 => ?_
    cases b with
    | true =>
      refine g_cons (g_yield (by rw [henv]; rfl) (by rw [henv]; rfl) rfl rfl ?_)
      refine Ev.go (Ev.tup (.cons rfl (Ev.name (t := .int j) rfl rfl) (.cons rfl (Ev.bin Ev.cstr.b (Ev.name (t := .str ⟨#[ch']⟩) rfl rfl).b (BinOk.add_str hlen)) .nil)) (by show 2 ≤ sizeLine; decide)) rm' R4 fun v s5 y5 R5 d lk kk p' hk5 => ?_
      refine way _ (escL r (j + 1) false j) _ s5 v _ lk kk p' (Ext.trans y4 y5) R5 d (flat4 true) fun s6 R6 st6 hH6 => hk5 _ _ _ ?_
      refine g_cons (g_wrap (wpAny_imp (assign_sh (c := funCx c iterSc) (n := n) (t := .bool false) Ev.cbool rfl rfl rm' R6) fun fl s7 ⟨x7, e7, R7⟩ => ?_))
      subst e7
      refine s_again c.prog c.w _ _ _ _ _ _ rfl ?_
      refine ih (j + 1) false j s7 s6 (W' ++ W) [] hch.2 hlt (R7.sub (sub3 rfl rfl rfl)) (keepE x7.h hee st6).1 (keepE x7.h hee st6).2 (x7.g g |>.mono fun a h => .inl (hin a h)) (by simp) hH6 ?_ ?_ ?_
      · exact hWl
      · exact hWe
      · exact hWi
    | false =>
      refine g_cons (g_if ?_)
      refine EvT.go (EvT.cmp (a := .str ⟨#[ch']⟩) (b := .str bsl) (q := (⟨#[ch']⟩ : Str) == bsl) (Ev.name rfl rfl).b Ev.cstr.b rfl rfl) rm' R4 fun s5 y5 R5 => ?_
      cases hq : (⟨#[ch']⟩ : Str) == bsl with
      | true =>
        refine g_cons (g_wrap (wpAny_imp (assign_sh (c := funCx c iterSc) (n := n) (t := .bool true) Ev.cbool rfl rfl rm' R5) fun fl s7 ⟨x7, e7, R7⟩ => ?_))
        subst e7
        refine s_again c.prog c.w _ _ _ _ _ _ rfl ?_
        have e1 : escL (ch' :: r) j false q = escL r (j + 1) true j := by
          show (if ((⟨#[ch']⟩ : Str) == bsl) = true then _ else _) = _
          rw [hq]; rfl
        rw [e1]
        have x37 : ChgG g W s₁ s7 := chgW (x13.trans ((Ext.trans y4 y5).g g) (by simp)) (fun a h => (hW' a h).1) (x7.g g) hin
        have st5 := keepE (N := []) (Ext.trans y4 y5).h (by simp) st3
        exact ih (j + 1) true j s7 s₁ W W' hch.2 hlt ((R.drop0 R7).sub (sub3 rfl rfl rfl)) (keepE x7.h hee st5).1 (keepE x7.h hee st5).2 x37 (fun a h => ⟨(hW' a h).1, Nat.lt_of_lt_of_le (hW' a h).2 (Nat.le_trans hz3 (Nat.le_trans (Ext.trans y4 y5).size x7.size))⟩) hH hWl hWe hWi
      | false =>
        have e1 : escL (ch' :: r) j false q = .tup [.int j, .str ⟨#[ch']⟩] :: escL r (j + 1) false j := by
          show (if ((⟨#[ch']⟩ : Str) == bsl) = true then _ else _) = _
          rw [hq]; rfl
        rw [e1]
        refine g_cons (g_yield (by rw [henv]; rfl) (by rw [henv]; rfl) rfl rfl ?_)
        refine Ev.go (Ev.tup (.cons rfl (Ev.name (t := .int j) rfl rfl) (.cons rfl (Ev.name (t := .str ⟨#[ch']⟩) rfl rfl) .nil)) (by show 2 ≤ sizeLine; decide)) rm' R5 fun v s6 y6 R6 d lk kk p' hk5 => ?_
        refine way _ (escL r (j + 1) false j) _ s6 v _ lk kk p' (Ext.trans y4 (Ext.trans y5 y6)) R6 d (flat4 false) fun s7 R7 st7 hH7 => hk5 _ _ _ ?_
        refine s_again c.prog c.w _ _ _ _ _ _ rfl ?_
        exact ih (j + 1) false j s7 s7 (W' ++ W) [] hch.2 hlt (R7.sub (sub3 rfl rfl rfl)) st7.1 st7.2 (ChgG.refl s7) (by simp) hH7 hWl hWe hWi
end
end Mine
end

section
set_option autoImplicit false
set_option linter.unusedVariables false
set_option linter.unusedSimpArgs false
namespace Mine
open PySem PySem.Calls PyProof.Rows PySem.SeqAt PySem.W.X

section
variable {c : Cx} {n : Nat} {ρ : Rho}

theorem iter_bind : BindOk (fnArgs PW iIter) ["addr"] := by
  exact .one fun _ _ _ _ _ _ _ _ _ _ _ _ _ => rfl

theorem iter_start {A : Around} (rm : Room A (n + 2)) {g : Nat} {x : Str} {env : Env} (henv : env.scope = iterSc) (gE : GV c "enumerate" (.type "enumerate")) {s : Shared} (R : Rel (funCx c iterSc) env [] [] [("addr", .sh (.str x))] s) :
    Going c A.in1 g (escL x.cps.toList 0 false 0) [env.locals] (.fresh (.func iterBody env)) s := by
  refine going_iff.mpr fun s1 hag => ?_
  show SegX (model c.prog c.w) A.in1 (.func iterBody env) (denote table (.func iterBody env)) [] s1 _
  have hf : FlatRho [("addr", .sh (.str x))] := fun y u h => by
    have := mem_of_lookup h
    simp only [List.mem_cons, Prod.mk.injEq, List.not_mem_nil, or_false] at this
    exact ⟨_, this.2, rfl⟩
  have R1 : Rel (funCx c iterSc) env [] [] [("addr", .sh (.str x))] s1 := R.agree rfl hf (fun o => hag.1 _ (by simp) o) (of_bas hag.2.1) hag.2.2
  have hH := hag.2.1.size
  have hnOf : ∀ {ρ s}, Rel (funCx c iterSc) env [] [] ρ s → nOf (funCx c iterSc) env [] = [env.locals] := by
    intro ρ s R
    have hcel : ownCells (funCx c iterSc) env = [] := by
      unfold ownCells
      refine List.map_eq_nil_iff.mpr (List.filter_eq_nil_iff.mpr fun p hp => ?_)
      exact absurd hp (R.noCells (M := []) rfl p.1 p.2)
    unfold nOf
    rw [hcel]; rfl
  have hn1 := hnOf R1
  refine g_func fun H => ?_
  refine g_cons (g_wrap (wpAny_imp (assign_sh (c := funCx c iterSc) (n := n) (t := .int 0) Ev.cint rfl rfl (room_func rm) R1) fun fl s2 ⟨x2, e2, R2⟩ => ?_))
  subst e2
  refine g_cons (g_wrap (wpAny_imp (assign_sh (c := funCx c iterSc) (n := n) (t := .bool false) Ev.cbool rfl rfl (room_func rm) R2) fun fl s3 ⟨x3, e3, R3⟩ => ?_))
  subst e3
  refine g_cons (g_for rfl ?_)
  refine wpAny_Call_NameR (wp_gname (c := funCx c iterSc) R3 rfl gE (wp_callWith (c := funCx c iterSc) (f := .type "enumerate") trivial (.cons rfl (Ev.name (t := .str x) rfl rfl).b .nil) (by simp) (room_func rm) R3 fun vs s4 x4 R4 d4 => ?_) rfl)
  obtain ⟨v, rfl, d5⟩ := d4.one
  obtain ⟨t, rfl⟩ := d5.str
  refine call_enumerate_str fun h' hE hI hsz hk => ?_
  refine wpAny_pyIter_enum hE fun k p l hK => ?_
  have x5 : Ext s4 { s4 with heap := h' } := ⟨fun b o _ => hk b o, by show s4.heap.objs.size ≤ h'.objs.size; rw [hsz]; omega, fun _ _ e => e, id, rfl, Nat.le_refl _⟩
  have x15 : Chg [env.locals] s1 { s4 with heap := h' } := by
    have a := Chg.trans (Chg.trans (Chg.trans x2 x3 fun a h => .inl h) x4 (by simp)) x5 (by simp)
    rw [hn1] at a
    exact a
  have hL := (R4.hi env.locals (List.mem_append_left _ List.mem_cons_self)).2
  have h14 : s1.heap.objs.size ≤ s4.heap.objs.size := Nat.le_trans x2.size (Nat.le_trans x3.size x4.size)
  refine iter_loop (H := H) rm (e := s4.heap.objs.size + 1) (it := s4.heap.objs.size) (Nat.succ_ne_self _) henv ⟨fun q => ?_, fun q => ?_⟩ ⟨?_, ?_⟩ rfl ?_ x.cps.toList 0 false 0 { s4 with heap := h' } s1 [env.locals] [s4.heap.objs.size + 1, s4.heap.objs.size] rfl (Nat.zero_le _) ?_ ⟨_, hE⟩ hI (x15.g g) ?_ hH ?_ ?_ ?_
  · rw [q] at hL; exact absurd hL (Nat.not_lt.mpr (Nat.le_succ _))
  · rw [q] at hL; exact absurd hL (Nat.lt_irrefl _)
  · exact Nat.le_trans hH (Nat.le_trans h14 (Nat.le_succ _))
  · exact Nat.le_trans hH h14
  · exact hK
  · exact (R4.ext x5).sub (sub3 rfl rfl rfl)
  · intro a h
    have hz : ({ s4 with heap := h' } : Shared).heap.objs.size = s4.heap.objs.size + 2 := hsz
    rw [hz]
    simp only [List.mem_cons, List.not_mem_nil, or_false] at h
    rcases h with rfl | rfl
    · exact ⟨Nat.le_trans h14 (Nat.le_succ _), Nat.lt_succ_self _⟩
    · exact ⟨h14, Nat.lt_succ_of_lt (Nat.lt_succ_self _)⟩
  · simp
  · simp
  · simp

theorem EvG.iter {f : Str} {p pos : Pos} {e : Expr} {a : Addr} {x : Str} (hk : c.ns.lookup f = some .globalImplicit) (g : GV c f (.ref a)) (hf : FunAt c a (fnArgs PW iIter) iterBody iterSc) (hx : nameOk f = true) (gE : GV c "enumerate" (.type "enumerate"))
    (hs : notStar e = true) (h : Ev c (n + 2) ρ e (.str x)) : EvG c (n + 2) ρ (.Call (.Name f p) [e] [] pos) (escL x.cps.toList 0 false 0) := .mk fun A s env M₀ O rm R => by
  refine wpAny_Call_NameR (wp_gname R hk g (wp_callF hf.callee (.cons hs h .nil) (by simp) rm R fun vs s1 x1 R1 d1 => ?_) hx)
  obtain ⟨ob, fd, h1, h2, h3, h4, h5, h6, h7, h8, h9, h10, h11⟩ := hf
  have hroom : A.depth < recursionLimit := by have := rm.2.1; have e : recursionLimit = 1000 := rfl; rw [e]; omega
  refine wpAny_call (codeAny_call_generator (body := iterBody) hroom (R1.bas.heap a ob h1) h2 (by rw [h3]; rfl) (by rw [h3]; rfl) h4 (h11.keeps R1.bas.heap) ?_)
  rw [iter_bind fd h8 h9 h10 vs (by rw [← d1.length]; rfl), h3, h5, h6, h7]
  have d0 : DenL c.w [] s1.heap [.str x] vs := by
    simp only [DenL] at d1 ⊢
    obtain ⟨v, r, e1, e2, e3⟩ := d1
    exact ⟨v, r, e1, e2, e3⟩
  refine wpAny_pure (fun_enter R1.bas (M := []) (by simp) (sc := iterSc) rfl rfl rfl d0 fun cenv s2 hsc x2 hnew R2 => ⟨nolim (R1.bas.ext x2), ?_⟩)
  have hb : ∀ o, Ext s2 { s2 with gens := s2.gens.push (.fresh (.func iterBody cenv)), toks := s2.toks + 1 + 1, heap := s2.heap.push o } := fun o =>
    ⟨fun b o' _ e => Heap.get?_push_of_some _ e, by rw [Heap.size_push]; omega, fun i y e => by
      have := (Array.getElem?_eq_some_iff.mp e).1
      show (s2.gens.push _)[i]? = some y
      rw [Array.getElem?_push_lt this]; exact (Array.getElem?_eq_some_iff.mp e).2 ▸ rfl, fun hb => hb.push rfl, rfl, by show s2.toks ≤ s2.toks + 1 + 1; omega⟩
  refine ⟨Ext.trans x1 (Ext.trans x2 (hb _)), s2.heap.objs.size, [s2.heap.objs.size, cenv.locals], s2.gens.size, GSt c A s2.heap.objs.size s2.gens.size (escL x.cps.toList 0 false 0), rfl, (Ext.trans x1 x2).gsz, fun b hb' => ?_, GWalk.of rm, by simp, ?_, _, [cenv.locals], Array.getElem?_push_size .., by simp, ?_, ?_⟩
  · have hL := (R2.hi cenv.locals (List.mem_append_left _ List.mem_cons_self)).2
    rw [Heap.size_push]
    simp only [List.mem_cons, List.not_mem_nil, or_false] at hb'
    rcases hb' with rfl | rfl
    · exact ⟨(Ext.trans x1 x2).size, Nat.lt_succ_self _⟩
    · exact ⟨Nat.le_trans x1.size (hnew _ List.mem_cons_self), Nat.lt_succ_of_lt hL⟩
  · exact ⟨_, _, _, Heap.get?_push_size _ rfl, rfl, rfl, rfl⟩
  · have hL := (R2.hi cenv.locals (List.mem_append_left _ List.mem_cons_self)).2
    intro hm
    simp at hm
    rw [← hm] at hL
    exact Nat.lt_irrefl _ hL
  · exact iter_start rm hsc gE (R2.ext (hb _))
end
end Mine
end

section
set_option autoImplicit false
set_option linter.unusedVariables false
set_option linter.unusedSimpArgs false
namespace Mine
open PySem PySem.Calls PyProof.Rows PySem.SeqAt

def fnName (p : Program) (i : Nat) : Str := match p.main.body[i]? with
  | some (.FunctionDef x _ _ _ _ _ _ _ _ _) => x
  | _ => ""
def biNames : List Str := ["len", "abs", "ord", "chr", "int", "sum", "max", "min"]
def f1 : UInt64 := 0x3FF0000000000000
def f2 : UInt64 := 0x4000000000000000
def f3 : UInt64 := 0x4008000000000000
def f4 : UInt64 := 0x4010000000000000
def f6 : UInt64 := 0x4018000000000000
def fh : UInt64 := 0x3FE0000000000000
def f13 : UInt64 := Float64.div f1 f3
def f16 : UInt64 := Float64.div f1 f6
def f23 : UInt64 := Float64.div f2 f3

def b1L : List Int := [173, 847, 6150, 6155, 6156, 6157, 8203, 8204, 8205, 8288, 65279] ++ (List.range 16).map fun (i : Nat) => (65024 : Int) + (i : Int)
def b1S (k : Int) : Bool := b1L.contains k
def b3D : List (PyData × PyData) := (tabIntOf PW "b3_exceptions").getD []
/-- what the top has made -/
structure Top (c : Cx) : Prop where
  fn : ∀ i, i < PW.main.body.length → fnName PW i ≠ "" → ∃ a, GV c (fnName PW i) (.ref a) ∧ FunAt c a (fnArgs PW i) (fnBody PW i) (fnScope PW i)
  bi : ∀ f ∈ biNames, GV c f (biV f)
  enumerate : GV c "enumerate" (.type "enumerate")
  range : GV c "range" (.type "range")
  list : GV c "list" (.type "list")
  b1 : ∃ a m, GV c "b1_set" (.ref a) ∧ c.H.SetOf (intKind c.prog c.w) a b1S m
  b3 : ∃ a, GV c "b3_exceptions" (.ref a) ∧ IntTab c.prog c.w c.H a b3D
  third : ∃ u, u ≠ 0 ∧ GV c "ONE_THIRD" (.float f13 u)
  sixth : ∃ u, u ≠ 0 ∧ GV c "ONE_SIXTH" (.float f16 u)
  two : ∃ u, u ≠ 0 ∧ GV c "TWO_THIRD" (.float f23 u)

section
variable {c : Cx} {n : Nat} {ρ : Rho}
theorem biV_callee (f : Str) : Callee c (biV f) := by unfold biV; split <;> trivial
theorem Ev.bi {f : Str} {p pos : Pos} {es : List Expr} {ts : List T} {r : T} (hT : Top c) (hf : biNames.contains f = true) (hk : c.ns.lookup f = some .globalImplicit) (h : EachB c n ρ es ts) (hne : es ≠ []) (hr : Mine.bi f ts = some r) (hx : nameOk f = true) : Ev c n ρ (.Call (.Name f p) es [] pos) r :=
  Ev.call hk (hT.bi f (List.contains_iff_mem.mp hf)) (biV_callee f) hx h hne (bi_ok hr)
theorem Top.sub {sc : Scope} (h : Top c) : Top (funCx c sc) := ⟨h.fn, h.bi, h.enumerate, h.range, h.list, h.b1, h.b3, h.third, h.sixth, h.two⟩
theorem Top.comp {sc : Scope} (h : Top c) : Top (compCx c sc) := ⟨h.fn, h.bi, h.enumerate, h.range, h.list, h.b1, h.b3, h.third, h.sixth, h.two⟩

/-! _iter_escaped_chars: the items -/
def escP : List Nat → Int → Bool → Int → List (Int × Str)
  | [], _, e, q => if e = true then [(q, bsl)] else []
  | ch :: r, j, true, _ => (j, bsl ++ ⟨#[ch]⟩) :: escP r (j + 1) false j
  | ch :: r, j, false, _ => if (⟨#[ch]⟩ : Str) == bsl then escP r (j + 1) true j else (j, ⟨#[ch]⟩) :: escP r (j + 1) false j
def item (p : Int × Str) : T := .tup [.int p.1, .str p.2]
theorem escL_eq : ∀ (r : List Nat) (j : Int) (e : Bool) (q : Int), escL r j e q = (escP r j e q).map item
  | [], j, e, q => by cases e <;> rfl
  | ch :: r, j, true, q => by
    show _ :: escL r (j + 1) false j = _ :: _
    rw [escL_eq r]; rfl
  | ch :: r, j, false, q => by
    show (if _ then escL r (j + 1) true j else _ :: escL r (j + 1) false j) = ((if _ then escP r (j + 1) true j else _ :: escP r (j + 1) false j) : List (Int × Str)).map item
    split
    · exact escL_eq r _ _ _
    · rw [escL_eq r]; rfl
theorem escP_len : ∀ (r : List Nat) (j : Int) (e : Bool) (q : Int), (escP r j e q).length ≤ r.length + 1
  | [], j, e, q => by cases e <;> simp [escP]
  | ch :: r, j, true, q => by simp only [escP, List.length_cons]; have := escP_len r (j + 1) false j; lia
  | ch :: r, j, false, q => by
    simp only [escP]
    split
    · have := escP_len r (j + 1) true j; simp only [List.length_cons]; lia
    · have := escP_len r (j + 1) false j; simp only [List.length_cons]; lia
def esc (x : Str) : List (Int × Str) := escP x.cps.toList 0 false 0

theorem EvG.esc {p pos : Pos} {e : Expr} {x : Str} (hT : Top c) (hk : c.ns.lookup (fnName PW iIter) = some .globalImplicit) (hs : notStar e = true) (h : Ev c (n + 2) ρ e (.str x)) : EvG c (n + 2) ρ (.Call (.Name (fnName PW iIter) p) [e] [] pos) ((Mine.esc x).map item) := by
  obtain ⟨a, g, hf⟩ := hT.fn iIter (by decide) (by decide)
  have := EvG.iter (p := p) (pos := pos) hk g hf rfl hT.enumerate hs h
  rwa [escL_eq] at this

/-! _strip_quoted_realnames -/
def dq : Str := "\""
def stripStep (x : Str) (s : Int × Option Int × List Str) (i : Int × Str) : Int × Option Int × List Str :=
  if i.2 == dq then (match s.2.1 with
    | none => (s.1, some i.1, s.2.2)
    | some o => (i.1 + 1, none, if s.1 == o then s.2.2 else s.2.2 ++ [Txt.slice x (some s.1) (some o)]))
  else s
def stripR (x : Str) : Int × Option Int × List Str := (esc x).foldl (stripStep x) (0, none, [])
def stripF (x : Str) : Str :=
  if strIn x dq = true then Txt.join "" (if (stripR x).1 < x.length then (stripR x).2.2 ++ [Txt.slice x (some (stripR x).1) none] else (stripR x).2.2) else x

theorem strip_len (x : Str) (l : List (Int × Str)) (s : Int × Option Int × List Str) (hs : ∀ y ∈ s.2.2, y.length ≤ x.length) : (l.foldl (stripStep x) s).2.2.length ≤ s.2.2.length + l.length ∧ ∀ y ∈ (l.foldl (stripStep x) s).2.2, y.length ≤ x.length := by
  induction l generalizing s with
  | nil => exact ⟨Nat.le_refl _, hs⟩
  | cons i l ih =>
    rw [List.foldl_cons]
    have h1 : (stripStep x s i).2.2.length ≤ s.2.2.length + 1 ∧ ∀ y ∈ (stripStep x s i).2.2, y.length ≤ x.length := by
      unfold stripStep
      split
      · split
        · exact ⟨Nat.le_succ _, hs⟩
        · dsimp only
          split
          · exact ⟨Nat.le_succ _, hs⟩
          · refine ⟨by simp, fun y hy => ?_⟩
            rcases List.mem_append.mp hy with h | h
            · exact hs y h
            · simp at h; subst h; exact Txt.slice_le x _ _
      · exact ⟨Nat.le_succ _, hs⟩
    obtain ⟨i1, i2⟩ := ih _ h1.2
    refine ⟨?_, i2⟩
    simp only [List.length_cons]; lia

theorem sum_le {l : List Nat} {k : Nat} (h : ∀ x ∈ l, x ≤ k) : l.sum ≤ l.length * k := by
  induction l with
  | nil => simp
  | cons a l ih =>
    rw [List.sum_cons, List.length_cons, Nat.succ_mul]
    have := ih fun x hx => h x (List.mem_cons_of_mem _ hx)
    have := h a List.mem_cons_self
    lia

def stripRho (x : Str) (s : Int × Option Int × List Str) : Rho := [("addr", .sh (.str x)), ("start", .sh (.int s.1)), ("open_pos", .sh (s.2.1.elim .none .int)), ("result", .own (s.2.2.map .str))]

theorem esc_len {x : Str} (hx : x.length ≤ 1000) : (esc x).length ≤ 1001 := by
  have := escP_len x.cps.toList 0 false 0
  have h2 : x.cps.toList.length = x.length := by simp [Str.length]
  unfold esc; lia
theorem step_len {x : Str} {s : Int × Option Int × List Str} {i : Int × Str} {r : Nat} (h : s.2.2.length + (r + 1) ≤ 1001) : (stripStep x s i).2.2.length + r ≤ 1001 := by
  unfold stripStep
  split
  · split
    · show s.2.2.length + r ≤ 1001; lia
    · dsimp only
      split
      · lia
      · simp; lia
  · lia
theorem bi_len {x : Str} (h : x.length ≤ 16777216) : Mine.bi "len" [.str x] = some (.int x.length) := by
  rw [bi_len0]
  exact if_pos h
theorem bi_lenL {l : List T} (h : l.length ≤ 16777216) : Mine.bi "len" [.list l] = some (.int l.length) := by
  rw [bi_len0]
  exact if_pos h
theorem join_sz {res : List Str} {x : Str} (h1 : res.length ≤ 1002) (h2 : ∀ y ∈ res, y.length ≤ 1000) (h3 : x.length = 0) : (res.map (·.length)).sum + res.length * x.length ≤ 16777216 := by
  have h4 := sum_le (l := res.map (·.length)) (k := 1000) fun y hy => by
    obtain ⟨z, hz, rfl⟩ := List.mem_map.mp hy
    exact h2 z hz
  rw [h3, Nat.mul_zero, Nat.add_zero]
  rw [List.length_map] at h4
  lia

theorem strip_body (hT : Top c) {x : Str} (hx : x.length ≤ 1000) : Ex (funCx c (fnScope PW 2)) (n + 2) [("addr", .sh (.str x))] (fnBody PW 2) (.ret (.str (stripF x)) false) := by
  have hz : (1000000 : Nat) ≤ sizeLine := by decide
  conv in (fnBody _ _) => whnf
  cases hq : strIn x dq with
  | false =>
    refine Ex.ret (Ex1.ite (q := true) (EvT.cmp (a := .str dq) (b := .str x) Ev.cstr.b (Ev.name rfl rfl).b (by show some (!strIn x dq) = _; rw [hq]; rfl) rfl) (fun _ => Ex.ret (Ex1.ret ?_)) (fun h => by cases h))
    unfold stripF; rw [hq]
    exact Ev.name rfl rfl
  | true =>
    refine Ex.cons (Ex1.ite (q := false) (EvT.cmp (a := .str dq) (b := .str x) Ev.cstr.b (Ev.name rfl rfl).b (by show some (!strIn x dq) = _; rw [hq]; rfl) rfl) (fun h => by cases h) (fun _ => Ex.nil)) ?_
    refine Ex.cons (Ex1.assign (t := .int 0) Ev.cint rfl rfl) ?_
    refine Ex.cons (Ex1.assign (t := .none) Ev.cnone rfl rfl) ?_
    refine Ex.cons (Ex1.assignOwn (l := []) (EvN.list .nil (by simp)) rfl rfl) ?_
    refine Ex.cons (ρ' := stripRho x (stripR x)) (Ex1.forG (EvG.esc (hT.sub) rfl rfl (Ev.name (t := .str x) rfl rfl)) rfl ?_) ?_
    · refine Loops.foldI (stripRho x) (stripStep x) item (fun r s => s.2.2.length + r ≤ 1001) (esc x) (0, none, []) (by have := esc_len hx; simpa using this) fun s i r hi hI => ⟨step_len hI, putAll ["pos", "ch"] [.int i.1, .str i.2] (stripRho x s), rfl, ?_⟩
      obtain ⟨st, op, res⟩ := s
      obtain ⟨ip, ic⟩ := i
      have hlen : res.length ≤ 1000000 → (res.map T.str).length ≤ sizeLine := fun h => by rw [List.length_map]; exact Nat.le_trans h hz
      cases hd : ic == dq with
      | false =>
        have e : stripStep x (st, op, res) (ip, ic) = (st, op, res) := by unfold stripStep; rw [hd]; rfl
        rw [e]
        exact Ex.cons (Ex1.ite (q := false) (EvT.cmp (a := .str ic) (b := .str dq) (Ev.name rfl rfl).b Ev.cstr.b (by show some _ = some _; rw [hd]) rfl) (fun h => by cases h) (fun _ => Ex.nil)) (Ex.weak Ex.nil (Sub.cons rfl (Sub.cons rfl (Sub.cons rfl (Sub.one rfl)))))
      | true =>
        refine Ex.weak (ρ' := ?r) (Ex.cons (Ex1.ite (q := true) (EvT.cmp (a := .str ic) (b := .str dq) (Ev.name rfl rfl).b Ev.cstr.b (by show some _ = some _; rw [hd]) rfl) (fun _ => ?_) (fun h => by cases h)) Ex.nil) ?_
        case r => exact putAll ["pos", "ch"] [.int ip, .str ic] (stripRho x (stripStep x (st, op, res) (ip, ic)))
        · cases op with
          | none =>
            have e : stripStep x (st, none, res) (ip, ic) = (st, some ip, res) := by unfold stripStep; rw [hd]; rfl
            rw [e]
            refine Ex.cons (Ex1.ite (q := true) (EvT.cmp (a := .none) (b := .none) (Ev.name rfl rfl).b Ev.cnone.b rfl rfl) (fun _ => ?_) (fun h => by cases h)) Ex.nil
            exact Ex.cons (Ex1.assign (t := .int ip) (Ev.name rfl rfl) rfl rfl) Ex.nil
          | some o =>
            have e : stripStep x (st, some o, res) (ip, ic) = (ip + 1, none, if st == o then res else res ++ [Txt.slice x (some st) (some o)]) := by unfold stripStep; rw [hd]; rfl
            rw [e]
            refine Ex.cons (Ex1.ite (q := false) (EvT.cmp (a := .int o) (b := .none) (Ev.name rfl rfl).b Ev.cnone.b rfl rfl) (fun h => by cases h) (fun _ => ?_)) Ex.nil
            refine Ex.cons (ρ' := putAll ["pos", "ch"] [.int ip, .str ic] (stripRho x (st, some o, if st == o then res else res ++ [Txt.slice x (some st) (some o)]))) ?_ (Ex.cons (Ex1.assign (t := .int (ip + 1)) (Ev.bin (Ev.name rfl rfl).b Ev.cint.b BinOk.add_int) rfl rfl) (Ex.cons (Ex1.assign (t := .none) Ev.cnone rfl rfl) Ex.nil))
            cases ho : st == o with
            | true =>
              exact Ex1.ite (q := false) (EvT.cmp (a := .int st) (b := .int o) (Ev.name rfl rfl).b (Ev.name rfl rfl).b (by show (some (st == o)).map _ = _; rw [ho]; rfl) rfl) (fun h => by cases h) (fun _ => Ex.nil)
            | false =>
              refine Ex1.ite (q := true) (EvT.cmp (a := .int st) (b := .int o) (Ev.name rfl rfl).b (Ev.name rfl rfl).b (by show (some (st == o)).map _ = _; rw [ho]; rfl) rfl) (fun _ => ?_) (fun h => by cases h)
              refine Ex.weak (Ex.cons (Ex1.append (l := res.map T.str) (t := .str (Txt.slice x (some st) (some o))) rfl rfl (Ev.sliceS (Ev.name rfl rfl).b (.yes (Ev.name rfl rfl)) (.yes (Ev.name rfl rfl)) (by lia)) rfl rfl (hlen (by simp at hI; lia))) Ex.nil) ?_
              · refine Sub.cons rfl (Sub.cons rfl (Sub.cons rfl (Sub.cons ?_ (Sub.cons rfl (Sub.one rfl)))))
                show some (Var.own (res.map T.str ++ [T.str _])) = some (Var.own ((res ++ [_]).map T.str))
                rw [List.map_append]; rfl
        · exact Sub.cons rfl (Sub.cons rfl (Sub.cons rfl (Sub.one rfl)))
    · have hl := strip_len x (esc x) (0, none, []) (by simp)
      have he := esc_len hx
      generalize hr : stripR x = r at *
      have hr' : (esc x).foldl (stripStep x) (0, none, []) = r := hr
      rw [hr'] at hl
      obtain ⟨st, op, res⟩ := r
      have hn : res.length ≤ 1001 := by have := hl.1; simp at this; lia
      have hs := hl.2
      have hlenx : Mine.bi "len" [.str x] = some (.int x.length) := bi_len (by lia)
      have hF : stripF x = Txt.join "" (if st < x.length then res ++ [Txt.slice x (some st) none] else res) := by unfold stripF; rw [if_pos hq, hr]
      rw [hF]
      have hres : ∀ y ∈ (if st < x.length then res ++ [Txt.slice x (some st) none] else res), y.length ≤ 1000 := fun y hy => by
        split at hy
        · rcases List.mem_append.mp hy with h | h
          · exact Nat.le_trans (hs y h) hx
          · simp at h; subst h; exact Nat.le_trans (Txt.slice_le x _ _) hx
        · exact Nat.le_trans (hs y hy) hx
      have hres2 : (if st < (x.length : Int) then res ++ [Txt.slice x (some st) none] else res).length ≤ 1002 := by
        split
        · simp; lia
        · lia
      have hj := join_sz (x := "") hres2 hres rfl
      generalize hres3 : (if st < (x.length : Int) then res ++ [Txt.slice x (some st) none] else res) = res3 at hj
      refine Ex.cons (ρ' := stripRho x (st, op, res3)) ?_ ?_
      rotate_left
      · refine Ex.ret (Ex1.ret ?_)
        refine Ev.joinS ?_ ?_ ?_ ?_ ?_ ?_
        · exact Ev.cstr.b
        · exact EvB.own rfl rfl
        · rfl
        · rfl
        · rfl
        · exact hj
      rw [← hres3]
      refine Ex1.ite (q := decide (st < x.length)) (EvT.cmp (a := .int st) (b := .int x.length) (Ev.name rfl rfl).b (Ev.bi hT.sub rfl rfl (EachB.cons rfl (Ev.name rfl rfl).b .nil) (by simp) hlenx rfl).b rfl rfl) (fun h => ?_) (fun h => ?_)
      · have h' : st < x.length := of_decide_eq_true h
        rw [if_pos h']
        refine Ex.weak (Ex.cons (Ex1.append (l := res.map T.str) (t := .str (Txt.slice x (some st) none)) rfl rfl (Ev.sliceS (Ev.name rfl rfl).b (.yes (Ev.name rfl rfl)) .no (by lia)) rfl rfl (by rw [List.length_map]; lia)) Ex.nil) ?_
        refine Sub.cons rfl (Sub.cons rfl (Sub.cons rfl (Sub.one ?_)))
        show some (Var.own (res.map T.str ++ [T.str _])) = some (Var.own ((res ++ [_]).map T.str))
        rw [List.map_append]; rfl
      · have h' : ¬ st < x.length := of_decide_eq_false h
        rw [if_neg h']
        exact Ex.nil
end
end Mine
end

section
set_option autoImplicit false
set_option linter.unusedVariables false
set_option linter.unusedSimpArgs false
namespace Mine
open PySem PySem.Calls PyProof.Rows PySem.SeqAt

section
variable {c : Cx} {n : Nat} {ρ : Rho}

/-- the function at the top's place i comes to r -/
def FnV (c : Cx) (n i : Nat) (ts : List T) (r : T) : Prop := ∀ a, FunAt c a (fnArgs PW i) (fnBody PW i) (fnScope PW i) → FOk c n (.ref a) ts r
def FnN (c : Cx) (n i : Nat) (ts l : List T) : Prop := ∀ a, FunAt c a (fnArgs PW i) (fnBody PW i) (fnScope PW i) → FNew c n (.ref a) ts l

theorem Ev.fn (i : Nat) {p pos : Pos} {es : List Expr} {ts : List T} {r : T} (hT : Top c) (hk : c.ns.lookup (fnName PW i) = some .globalImplicit) (hx : nameOk (fnName PW i) = true) (h : Each c n ρ es ts) (hne : es ≠ []) (hc : FnV c n i ts r) (hi : i < PW.main.body.length := by decide) (hi' : fnName PW i ≠ "" := by decide) :
    Ev c n ρ (.Call (.Name (fnName PW i) p) es [] pos) r := by
  obtain ⟨a, g, hf⟩ := hT.fn i hi hi'
  exact Ev.fcall hk g hf.callee hx h hne (hc a hf)
theorem EvN.fn (i : Nat) {p pos : Pos} {es : List Expr} {ts : List T} {r : List T} (hT : Top c) (hk : c.ns.lookup (fnName PW i) = some .globalImplicit) (hx : nameOk (fnName PW i) = true) (h : Each c n ρ es ts) (hne : es ≠ []) (hc : FnN c n i ts r) (hi : i < PW.main.body.length := by decide) (hi' : fnName PW i ≠ "" := by decide) :
    EvN c n ρ (.Call (.Name (fnName PW i) p) es [] pos) r := by
  obtain ⟨a, g, hf⟩ := hT.fn i hi hi'
  exact EvN.fcall hk g hf.callee hx h hne (hc a hf)
theorem strip_ok (hT : Top c) {x : Str} (hx : x.length ≤ 1000) : FnV c (n + 3) 2 [.str x] (.str (stripF x)) := fun a hf => by
  refine FOk.of (n := n + 2) (xs := ["addr"]) hf ?_ (strip_body hT hx)
  exact .one fun _ _ _ _ _ _ _ _ _ _ _ _ _ => rfl

/-! _check_parenthesis -/
def checkStep (o : Int) (i : Int × Str) : Option Int := if i.2 == "(" then some (o + 1) else if i.2 == ")" then (if o - 1 < 0 then none else some (o - 1)) else some o
def checkF (x : Str) : Bool := match (esc (stripF x)).foldlM checkStep 0 with
  | some o => o == 0
  | none => false
def checkRho (y : Str) (o : Int) : Rho := [("addr", .sh (.str y)), ("opens", .sh (.int o))]

def checkLoop : List Stmt := match (fnBody PW 3)[2]? with
  | some (Stmt.For _ _ b _ _) => b
  | _ => []
theorem check_turn {x : Str} (s : Int) (i : Int × Str) : StepOk (funCx c (fnScope PW 3)) (n + 3) (checkRho x) (.bool false) false (putAll ["pos", "ch"] [.int i.1, .str i.2] (checkRho x s)) checkLoop (checkStep s i) := by
  conv in checkLoop => whnf
  obtain ⟨ip, ic⟩ := i
  have hs : Sub (checkRho x s) (putAll ["pos", "ch"] [.int ip, .str ic] (checkRho x s)) := Sub.cons rfl (Sub.one rfl)
  have hs' : ∀ o, Sub (checkRho x o) (putAll ["pos", "ch"] [.int ip, .str ic] (checkRho x o)) := fun o => Sub.cons rfl (Sub.one rfl)
  unfold checkStep
  cases h1 : ic == "(" with
  | true =>
    show Ex _ _ _ _ (.next (checkRho x (s + 1)))
    refine Ex.weak (Ex.cons (Ex1.ite (q := true) (EvT.cmp (a := .str ic) (b := .str "(") (Ev.name rfl rfl).b Ev.cstr.b (by show some _ = some _; rw [h1]) rfl) (fun _ => ?_) (fun h => by cases h)) Ex.nil) (hs' (s + 1))
    exact Ex.cons (Ex1.aug (a := .int s) (b := .int 1) rfl rfl Ev.cint.b InOk.add_int rfl) Ex.nil
  | false =>
    cases h2 : ic == ")" with
    | true =>
      by_cases h3 : s - 1 < 0
      · rw [if_neg (by simp), if_pos rfl, if_pos h3]
        show Ex _ _ _ _ (.ret (.bool false) false)
        refine Ex.ret (Ex1.ite (q := false) (EvT.cmp (a := .str ic) (b := .str "(") (Ev.name rfl rfl).b Ev.cstr.b (by show some _ = some _; rw [h1]) rfl) (fun h => by cases h) (fun _ => ?_))
        refine Ex.ret (Ex1.ite (q := true) (EvT.cmp (a := .str ic) (b := .str ")") (Ev.name rfl rfl).b Ev.cstr.b (by show some _ = some _; rw [h2]) rfl) (fun _ => ?_) (fun h => by cases h))
        refine Ex.cons (Ex1.aug (a := .int s) (b := .int 1) rfl rfl Ev.cint.b InOk.sub_int rfl) ?_
        refine Ex.ret (Ex1.ite (q := true) (EvT.cmp (a := .int (s - 1)) (b := .int 0) (Ev.name rfl rfl).b Ev.cint.b (by show some (decide _) = _; rw [decide_eq_true h3]) rfl) (fun _ => ?_) (fun h => by cases h))
        exact Ex.ret (Ex1.ret Ev.cbool)
      · rw [if_neg (by simp), if_pos rfl, if_neg h3]
        show Ex _ _ _ _ (.next (checkRho x (s - 1)))
        refine Ex.weak (Ex.cons (Ex1.ite (q := false) (EvT.cmp (a := .str ic) (b := .str "(") (Ev.name rfl rfl).b Ev.cstr.b (by show some _ = some _; rw [h1]) rfl) (fun h => by cases h) (fun _ => ?_)) Ex.nil) (hs' (s - 1))
        refine Ex.cons (Ex1.ite (q := true) (EvT.cmp (a := .str ic) (b := .str ")") (Ev.name rfl rfl).b Ev.cstr.b (by show some _ = some _; rw [h2]) rfl) (fun _ => ?_) (fun h => by cases h)) Ex.nil
        refine Ex.cons (Ex1.aug (a := .int s) (b := .int 1) rfl rfl Ev.cint.b InOk.sub_int rfl) ?_
        exact Ex.cons (Ex1.ite (q := false) (EvT.cmp (a := .int (s - 1)) (b := .int 0) (Ev.name rfl rfl).b Ev.cint.b (by show some (decide _) = _; rw [decide_eq_false h3]) rfl) (fun h => by cases h) (fun _ => Ex.nil)) Ex.nil
    | false =>
      rw [if_neg (by simp), if_neg (by simp)]
      show Ex _ _ _ _ (.next (checkRho x s))
      refine Ex.weak (Ex.cons (Ex1.ite (q := false) (EvT.cmp (a := .str ic) (b := .str "(") (Ev.name rfl rfl).b Ev.cstr.b (by show some _ = some _; rw [h1]) rfl) (fun h => by cases h) (fun _ => ?_)) Ex.nil) hs
      exact Ex.cons (Ex1.ite (q := false) (EvT.cmp (a := .str ic) (b := .str ")") (Ev.name rfl rfl).b Ev.cstr.b (by show some _ = some _; rw [h2]) rfl) (fun h => by cases h) (fun _ => Ex.nil)) Ex.nil

theorem check_body (hT : Top c) {x : Str} (hx : x.length ≤ 1000) : Ex (funCx c (fnScope PW 3)) (n + 3) [("addr", .sh (.str x))] (fnBody PW 3) (.ret (.bool (checkF x)) false) := by
  conv in (fnBody _ _) => whnf
  refine Ex.cons (Ex1.assign (t := .str (stripF x)) (Ev.fn 2 hT.sub rfl rfl (.cons rfl (Ev.name rfl rfl) .nil) (by simp) (strip_ok hT.sub hx)) rfl rfl) ?_
  refine Ex.cons (Ex1.assign (t := .int 0) Ev.cint rfl rfl) ?_
  cases hm : (esc (stripF x)).foldlM checkStep 0 with
  | some o =>
    have hF : checkF x = (o == 0) := by unfold checkF; rw [hm]
    rw [hF]
    refine Ex.cons (ρ' := checkRho (stripF x) o) (Ex1.forG (EvG.esc (hT.sub) rfl rfl (Ev.name (t := .str (stripF x)) rfl rfl)) rfl (Loops.cast (by rw [hm]; rfl) (Loops.foldM (checkRho (stripF x)) checkStep item (.bool false) false (esc (stripF x)) 0 fun s i hi => ⟨putAll ["pos", "ch"] [.int i.1, .str i.2] (checkRho (stripF x) s), rfl, check_turn s i⟩))) ?_
    exact Ex.ret (Ex1.ret (Ev.cmp (a := .int o) (b := .int 0) (Ev.name rfl rfl).b Ev.cint.b rfl rfl))
  | none =>
    have hF : checkF x = false := by unfold checkF; rw [hm]
    rw [hF]
    exact Ex.ret (Ex1.forG (EvG.esc (hT.sub) rfl rfl (Ev.name (t := .str (stripF x)) rfl rfl)) rfl (Loops.cast (by rw [hm]; rfl) (Loops.foldM (checkRho (stripF x)) checkStep item (.bool false) false (esc (stripF x)) 0 fun s i hi => ⟨putAll ["pos", "ch"] [.int i.1, .str i.2] (checkRho (stripF x) s), rfl, check_turn s i⟩)))
end
end Mine
end

section
set_option autoImplicit false
set_option linter.unusedVariables false
set_option linter.unusedSimpArgs false
namespace Mine
open PySem PySem.Calls PyProof.Rows PySem.SeqAt

section
variable {c : Cx} {n : Nat} {ρ : Rho}

theorem check_ok (hT : Top c) {x : Str} (hx : x.length ≤ 1000) : FnV c (n + 4) 3 [.str x] (.bool (checkF x)) := fun a hf => by
  refine FOk.of (n := n + 3) (xs := ["addr"]) hf ?_ (check_body hT hx)
  exact .one fun _ _ _ _ _ _ _ _ _ _ _ _ _ => rfl

/-! _pre_parse_validation -/
def none2 : Str := "('', '')"
def preOne (v : Str) : Str := if checkF v = true then v else none2
def preRho (l : List Str) (acc : List Str) : Rho := [("email_header_fields", .sh (.list (l.map .str))), ("accepted_values", .own (acc.map .str))]

theorem pre_fold : ∀ (l acc : List Str), l.foldl (fun acc v => acc ++ [preOne v]) acc = acc ++ l.map preOne
  | [], acc => by simp
  | v :: l, acc => by rw [List.foldl_cons, pre_fold l]; simp

theorem pre_body (hT : Top c) {l : List Str} (hl : l.length ≤ 100000) (hx : ∀ x ∈ l, x.length ≤ 1000) : Ex (funCx c (fnScope PW 4)) (n + 4) [("email_header_fields", .sh (.list (l.map .str)))] (fnBody PW 4) (.ret (.list ((l.map preOne).map .str)) true) := by
  have hz : (1000000 : Nat) ≤ sizeLine := by decide
  conv in (fnBody _ _) => whnf
  refine Ex.cons (Ex1.assignOwn (l := []) (EvN.list .nil (by simp)) rfl rfl) ?_
  refine Ex.cons (ρ' := preRho l (l.map preOne)) (Ex1.for (EvI.listF (l := l.map .str) (Ev.name rfl rfl)) rfl (Loops.cast (by rw [pre_fold]; rfl) (Loops.foldI (preRho l) (fun acc v => acc ++ [preOne v]) .str (fun r acc => acc.length + r ≤ 100000) l [] (by simpa using hl) fun acc v r hv hI => ⟨by simp; lia, putAll ["v"] [.str v] (preRho l acc), rfl, ?_⟩))) (Ex.ret (Ex1.retOwn rfl rfl))
  refine Ex.cons (ρ' := putAll ["v"] [.str (preOne v)] (preRho l acc)) ?_ (Ex.weak (Ex.cons (Ex1.append (l := acc.map .str) (t := .str (preOne v)) rfl rfl (Ev.name rfl rfl) rfl rfl (by rw [List.length_map]; lia)) Ex.nil) ?_)
  · cases hc : checkF v with
    | true =>
      have e : preOne v = v := by unfold preOne; rw [hc]; rfl
      rw [e]
      exact Ex1.ite (q := !true) (EvT.not (EvT.val (hc ▸ Ev.fn 3 hT.sub rfl rfl (.cons rfl (Ev.name rfl rfl) .nil) (by simp) (check_ok hT.sub (hx v hv))) rfl)) (fun h => by cases h) (fun _ => Ex.nil)
    | false =>
      have e : preOne v = none2 := by unfold preOne; rw [hc]; rfl
      rw [e]
      exact Ex1.ite (q := !false) (EvT.not (EvT.val (hc ▸ Ev.fn 3 hT.sub rfl rfl (.cons rfl (Ev.name rfl rfl) .nil) (by simp) (check_ok hT.sub (hx v hv))) rfl)) (fun _ => Ex.cons (Ex1.assign Ev.cstr rfl rfl) Ex.nil) (fun h => by cases h)
  · refine Sub.cons rfl (Sub.one ?_)
    show some (Var.own (acc.map T.str ++ [T.str (preOne v)])) = some (Var.own ((acc ++ [preOne v]).map T.str))
    rw [List.map_append]; rfl

theorem pre_ok (hT : Top c) {l : List Str} (hl : l.length ≤ 100000) (hx : ∀ x ∈ l, x.length ≤ 1000) : FnN c (n + 5) 4 [.list (l.map .str)] ((l.map preOne).map .str) := fun a hf => by
  refine FNew.of (n := n + 4) (xs := ["email_header_fields"]) hf ?_ (pre_body hT hl hx)
  exact .one fun _ _ _ _ _ _ _ _ _ _ _ _ _ => rfl
end
end Mine
end

section
set_option autoImplicit false
set_option linter.unusedVariables false
set_option linter.unusedSimpArgs false
namespace Mine
open PySem PySem.Calls PyProof.Rows PySem.SeqAt

def fgt (a b : UInt64) : Bool := Float64.cmp a b == some .gt
def flt (a b : UInt64) : Bool := Float64.cmp a b == some .lt
def fle (a b : UInt64) : Bool := Float64.cmp a b == some .lt || Float64.cmp a b == some .eq
def fmax (x y z : UInt64) : UInt64 := [y, z].foldl (fun b y => if fgt y b then y else b) x
def fmin (x y z : UInt64) : UInt64 := [y, z].foldl (fun b y => if flt y b then y else b) x
theorem bi_max {x y z : UInt64} : Mine.bi "max" [.float x, .float y, .float z] = some (.float (fmax x y z)) := by
  rfl
theorem bi_min {x y z : UInt64} : Mine.bi "min" [.float x, .float y, .float z] = some (.float (fmin x y z)) := by
  rfl
def truncF (x : UInt64) : Option Int := match Float64.decode x with
  | .fin sg m e => some (Float64.truncOf sg m e)
  | _ => none
theorem bi_int {x : UInt64} {i : Int} (h : truncF x = some i) : Mine.bi "int" [.float x] = some (.int i) := by
  rw [bi_int0]
  unfold truncF at h
  show (match Float64.decode x with
      | .fin sg m e => some (T.int (Float64.truncOf sg m e))
      | _ => none) = _
  split at h
  · cases h; rfl
  · cases h

/-- the hue of three -/
def hueF (r g b maxc rangec : UInt64) : UInt64 :=
  let rc := Float64.div (Float64.sub maxc r) rangec
  let gc := Float64.div (Float64.sub maxc g) rangec
  let bc := Float64.div (Float64.sub maxc b) rangec
  let h := if eqF r maxc then Float64.sub bc gc else if eqF g maxc then Float64.sub (Float64.add f2 rc) bc else Float64.sub (Float64.add f4 gc) rc
  (Float64.divmod (Float64.div h f6) f1).2
def toHsv (r g b : UInt64) : Option (UInt64 × UInt64 × UInt64) :=
  let maxc := fmax r g b
  let minc := fmin r g b
  let rangec := Float64.sub maxc minc
  if eqF minc maxc then some (0, 0, maxc)
  else if Float64.isZero maxc || Float64.isZero rangec then none
  else some (hueF r g b maxc rangec, Float64.div rangec maxc, maxc)
def toHls (r g b : UInt64) : Option (UInt64 × UInt64 × UInt64) :=
  let maxc := fmax r g b
  let minc := fmin r g b
  let sumc := Float64.add maxc minc
  let rangec := Float64.sub maxc minc
  let l := Float64.div sumc f2
  if eqF minc maxc then some (0, l, 0)
  else if Float64.isZero rangec then none
  else if fle l fh then (if Float64.isZero sumc then none else some (hueF r g b maxc rangec, l, Float64.div rangec sumc))
  else if Float64.isZero (Float64.sub (Float64.sub f2 maxc) minc) then none else some (hueF r g b maxc rangec, l, Float64.div rangec (Float64.sub (Float64.sub f2 maxc) minc))
def tup3 (p : UInt64 × UInt64 × UInt64) : T := .tup [.float p.1, .float p.2.1, .float p.2.2]

theorem z1 : Float64.isZero f1 = false := by decide +kernel
theorem z2 : Float64.isZero f2 = false := by decide +kernel
theorem z6 : Float64.isZero f6 = false := by decide +kernel

section
variable {c : Cx} {n : Nat} {ρ : Rho}
theorem hsv_body (hT : Top c) {r g b : UInt64} {p : UInt64 × UInt64 × UInt64} (h : toHsv r g b = some p) : Ex (funCx c (fnScope PW 12)) n [("r", .sh (.float r)), ("g", .sh (.float g)), ("b", .sh (.float b))] (fnBody PW 12) (.ret (tup3 p) false) := by
  have h3 : (3 : Nat) ≤ sizeLine := by decide
  conv in (fnBody _ _) => whnf
  unfold toHsv at h
  dsimp only at h
  refine Ex.cons (Ex1.assign (t := .float (fmax r g b)) (Ev.bi hT.sub rfl rfl (EachB.cons rfl (Ev.name rfl rfl).b (EachB.cons rfl (Ev.name rfl rfl).b (EachB.cons rfl (Ev.name rfl rfl).b .nil))) (by simp) bi_max rfl) rfl rfl) ?_
  refine Ex.cons (Ex1.assign (t := .float (fmin r g b)) (Ev.bi hT.sub rfl rfl (EachB.cons rfl (Ev.name rfl rfl).b (EachB.cons rfl (Ev.name rfl rfl).b (EachB.cons rfl (Ev.name rfl rfl).b .nil))) (by simp) bi_min rfl) rfl rfl) ?_
  generalize fmax r g b = mx at h ⊢
  generalize fmin r g b = mn at h ⊢
  refine Ex.cons (Ex1.assign (t := .float (Float64.sub mx mn)) (Ev.bin (Ev.name rfl rfl).b (Ev.name rfl rfl).b BinOk.sub_ff) rfl rfl) ?_
  refine Ex.cons (Ex1.assign (t := .float mx) (Ev.name rfl rfl) rfl rfl) ?_
  cases he : eqF mn mx with
  | true =>
    rw [he, if_pos rfl] at h
    cases h
    refine Ex.ret (Ex1.ite (q := true) (EvT.cmp (a := .float mn) (b := .float mx) (Ev.name rfl rfl).b (Ev.name rfl rfl).b (by show some _ = _; rw [he]) rfl) (fun _ => ?_) (fun h => by cases h))
    exact Ex.ret (Ex1.ret (Ev.tup (.cons rfl Ev.cfloat (.cons rfl Ev.cfloat (.cons rfl (Ev.name rfl rfl) .nil))) h3))
  | false =>
    rw [he, if_neg (by simp)] at h
    refine Ex.cons (Ex1.ite (q := false) (EvT.cmp (a := .float mn) (b := .float mx) (Ev.name rfl rfl).b (Ev.name rfl rfl).b (by show some _ = _; rw [he]) rfl) (fun h => by cases h) (fun _ => Ex.nil)) ?_
    split at h
    · cases h
    · rename_i hz
      simp only [Bool.or_eq_true, not_or, Bool.not_eq_true] at hz
      cases h
      refine Ex.cons (Ex1.assign (Ev.bin (Ev.name rfl rfl).b (Ev.name rfl rfl).b (BinOk.div_ff hz.1)) rfl rfl) ?_
      refine Ex.cons (Ex1.assign (Ev.bin (Ev.bin (Ev.name rfl rfl).b (Ev.name rfl rfl).b BinOk.sub_ff).b (Ev.name rfl rfl).b (BinOk.div_ff hz.2)) rfl rfl) ?_
      refine Ex.cons (Ex1.assign (Ev.bin (Ev.bin (Ev.name rfl rfl).b (Ev.name rfl rfl).b BinOk.sub_ff).b (Ev.name rfl rfl).b (BinOk.div_ff hz.2)) rfl rfl) ?_
      refine Ex.cons (Ex1.assign (Ev.bin (Ev.bin (Ev.name rfl rfl).b (Ev.name rfl rfl).b BinOk.sub_ff).b (Ev.name rfl rfl).b (BinOk.div_ff hz.2)) rfl rfl) ?_
      cases hr : eqF r mx with
      | true =>
        have e : hueF r g b mx (Float64.sub mx mn) = (Float64.divmod (Float64.div (Float64.sub (Float64.div (Float64.sub mx b) (Float64.sub mx mn)) (Float64.div (Float64.sub mx g) (Float64.sub mx mn))) f6) f1).2 := by unfold hueF; rw [hr]; rfl
        rw [e]
        refine Ex.cons (Ex1.ite (q := true) (EvT.cmp (a := .float r) (b := .float mx) (Ev.name rfl rfl).b (Ev.name rfl rfl).b (by show some _ = _; rw [hr]) rfl) (fun _ => Ex.cons (Ex1.assign (Ev.bin (Ev.name rfl rfl).b (Ev.name rfl rfl).b BinOk.sub_ff) rfl rfl) Ex.nil) (fun h => by cases h)) ?_
        refine Ex.cons (Ex1.assign (Ev.bin (Ev.bin (Ev.name rfl rfl).b Ev.cfloat.b (BinOk.div_ff (y := f6) z6)).b Ev.cfloat.b (BinOk.mod_ff (y := f1) z1)) rfl rfl) ?_
        exact Ex.ret (Ex1.ret (Ev.tup (.cons rfl (Ev.name rfl rfl) (.cons rfl (Ev.name rfl rfl) (.cons rfl (Ev.name rfl rfl) .nil))) h3))
      | false =>
        cases hg : eqF g mx with
        | true =>
          have e : hueF r g b mx (Float64.sub mx mn) = (Float64.divmod (Float64.div (Float64.sub (Float64.add f2 (Float64.div (Float64.sub mx r) (Float64.sub mx mn))) (Float64.div (Float64.sub mx b) (Float64.sub mx mn))) f6) f1).2 := by unfold hueF; rw [hr, hg]; rfl
          rw [e]
          refine Ex.cons (Ex1.ite (q := false) (EvT.cmp (a := .float r) (b := .float mx) (Ev.name rfl rfl).b (Ev.name rfl rfl).b (by show some _ = _; rw [hr]) rfl) (fun h => by cases h) (fun _ => Ex.cons (Ex1.ite (q := true) (EvT.cmp (a := .float g) (b := .float mx) (Ev.name rfl rfl).b (Ev.name rfl rfl).b (by show some _ = _; rw [hg]) rfl) (fun _ => Ex.cons (Ex1.assign (Ev.bin (Ev.bin Ev.cfloat.b (Ev.name rfl rfl).b BinOk.add_ff).b (Ev.name rfl rfl).b BinOk.sub_ff) rfl rfl) Ex.nil) (fun h => by cases h)) Ex.nil)) ?_
          refine Ex.cons (Ex1.assign (Ev.bin (Ev.bin (Ev.name rfl rfl).b Ev.cfloat.b (BinOk.div_ff (y := f6) z6)).b Ev.cfloat.b (BinOk.mod_ff (y := f1) z1)) rfl rfl) ?_
          exact Ex.ret (Ex1.ret (Ev.tup (.cons rfl (Ev.name rfl rfl) (.cons rfl (Ev.name rfl rfl) (.cons rfl (Ev.name rfl rfl) .nil))) h3))
        | false =>
          have e : hueF r g b mx (Float64.sub mx mn) = (Float64.divmod (Float64.div (Float64.sub (Float64.add f4 (Float64.div (Float64.sub mx g) (Float64.sub mx mn))) (Float64.div (Float64.sub mx r) (Float64.sub mx mn))) f6) f1).2 := by unfold hueF; rw [hr, hg]; rfl
          rw [e]
          refine Ex.cons (Ex1.ite (q := false) (EvT.cmp (a := .float r) (b := .float mx) (Ev.name rfl rfl).b (Ev.name rfl rfl).b (by show some _ = _; rw [hr]) rfl) (fun h => by cases h) (fun _ => Ex.cons (Ex1.ite (q := false) (EvT.cmp (a := .float g) (b := .float mx) (Ev.name rfl rfl).b (Ev.name rfl rfl).b (by show some _ = _; rw [hg]) rfl) (fun h => by cases h) (fun _ => Ex.cons (Ex1.assign (Ev.bin (Ev.bin Ev.cfloat.b (Ev.name rfl rfl).b BinOk.add_ff).b (Ev.name rfl rfl).b BinOk.sub_ff) rfl rfl) Ex.nil)) Ex.nil)) ?_
          refine Ex.cons (Ex1.assign (Ev.bin (Ev.bin (Ev.name rfl rfl).b Ev.cfloat.b (BinOk.div_ff (y := f6) z6)).b Ev.cfloat.b (BinOk.mod_ff (y := f1) z1)) rfl rfl) ?_
          exact Ex.ret (Ex1.ret (Ev.tup (.cons rfl (Ev.name rfl rfl) (.cons rfl (Ev.name rfl rfl) (.cons rfl (Ev.name rfl rfl) .nil))) h3))

theorem hsv_ok (hT : Top c) {r g b : UInt64} {p : UInt64 × UInt64 × UInt64} (h : toHsv r g b = some p) : FnV c (n + 1) 12 [.float r, .float g, .float b] (tup3 p) := fun a hf => by
  refine FOk.of (n := n) (xs := ["r", "g", "b"]) hf ?_ (hsv_body hT h)
  exact .three fun _ _ _ _ _ _ _ _ _ _ _ _ _ _ _ => rfl

theorem hls_body (hT : Top c) {r g b : UInt64} {p : UInt64 × UInt64 × UInt64} (h : toHls r g b = some p) : Ex (funCx c (fnScope PW 9)) n [("r", .sh (.float r)), ("g", .sh (.float g)), ("b", .sh (.float b))] (fnBody PW 9) (.ret (tup3 p) false) := by
  have h3 : (3 : Nat) ≤ sizeLine := by decide
  conv in (fnBody _ _) => whnf
  unfold toHls at h
  dsimp only at h
  refine Ex.cons (Ex1.assign (t := .float (fmax r g b)) (Ev.bi hT.sub rfl rfl (EachB.cons rfl (Ev.name rfl rfl).b (EachB.cons rfl (Ev.name rfl rfl).b (EachB.cons rfl (Ev.name rfl rfl).b .nil))) (by simp) bi_max rfl) rfl rfl) ?_
  refine Ex.cons (Ex1.assign (t := .float (fmin r g b)) (Ev.bi hT.sub rfl rfl (EachB.cons rfl (Ev.name rfl rfl).b (EachB.cons rfl (Ev.name rfl rfl).b (EachB.cons rfl (Ev.name rfl rfl).b .nil))) (by simp) bi_min rfl) rfl rfl) ?_
  generalize fmax r g b = mx at h ⊢
  generalize fmin r g b = mn at h ⊢
  refine Ex.cons (Ex1.assign (t := .float (Float64.add mx mn)) (Ev.bin (Ev.name rfl rfl).b (Ev.name rfl rfl).b BinOk.add_ff) rfl rfl) ?_
  refine Ex.cons (Ex1.assign (t := .float (Float64.sub mx mn)) (Ev.bin (Ev.name rfl rfl).b (Ev.name rfl rfl).b BinOk.sub_ff) rfl rfl) ?_
  refine Ex.cons (Ex1.assign (t := .float (Float64.div (Float64.add mx mn) f2)) (Ev.bin (Ev.name rfl rfl).b Ev.cfloat.b (BinOk.div_ff (y := f2) z2)) rfl rfl) ?_
  cases he : eqF mn mx with
  | true =>
    rw [he, if_pos rfl] at h
    cases h
    refine Ex.ret (Ex1.ite (q := true) (EvT.cmp (a := .float mn) (b := .float mx) (Ev.name rfl rfl).b (Ev.name rfl rfl).b (by show some _ = _; rw [he]) rfl) (fun _ => ?_) (fun h => by cases h))
    exact Ex.ret (Ex1.ret (Ev.tup (.cons rfl Ev.cfloat (.cons rfl (Ev.name rfl rfl) (.cons rfl Ev.cfloat .nil))) h3))
  | false =>
    rw [he, if_neg (by simp)] at h
    refine Ex.cons (Ex1.ite (q := false) (EvT.cmp (a := .float mn) (b := .float mx) (Ev.name rfl rfl).b (Ev.name rfl rfl).b (by show some _ = _; rw [he]) rfl) (fun h => by cases h) (fun _ => Ex.nil)) ?_
    split at h
    · cases h
    · rename_i hz
      have hz : True ∧ Float64.isZero (Float64.sub mx mn) = false := ⟨trivial, by simpa using hz⟩
      have main : ∀ S : UInt64, p = (hueF r g b mx (Float64.sub mx mn), Float64.div (Float64.add mx mn) f2, S) → Ex (funCx c (fnScope PW 9)) n (put "s" (.sh (.float S)) [("r", .sh (.float r)), ("g", .sh (.float g)), ("b", .sh (.float b)), ("maxc", .sh (.float mx)), ("minc", .sh (.float mn)), ("sumc", .sh (.float (Float64.add mx mn))), ("rangec", .sh (.float (Float64.sub mx mn))), ("l", .sh (.float (Float64.div (Float64.add mx mn) f2)))]) ((fnBody PW 9).drop 7) (.ret (tup3 p) false) := by
        intro S hp
        subst hp
        conv in (List.drop _ _) => whnf
        refine Ex.cons (Ex1.assign (Ev.bin (Ev.bin (Ev.name rfl rfl).b (Ev.name rfl rfl).b BinOk.sub_ff).b (Ev.name rfl rfl).b (BinOk.div_ff hz.2)) rfl rfl) ?_
        refine Ex.cons (Ex1.assign (Ev.bin (Ev.bin (Ev.name rfl rfl).b (Ev.name rfl rfl).b BinOk.sub_ff).b (Ev.name rfl rfl).b (BinOk.div_ff hz.2)) rfl rfl) ?_
        refine Ex.cons (Ex1.assign (Ev.bin (Ev.bin (Ev.name rfl rfl).b (Ev.name rfl rfl).b BinOk.sub_ff).b (Ev.name rfl rfl).b (BinOk.div_ff hz.2)) rfl rfl) ?_
        cases hr : eqF r mx with
        | true =>
          have e : hueF r g b mx (Float64.sub mx mn) = (Float64.divmod (Float64.div (Float64.sub (Float64.div (Float64.sub mx b) (Float64.sub mx mn)) (Float64.div (Float64.sub mx g) (Float64.sub mx mn))) f6) f1).2 := by unfold hueF; rw [hr]; rfl
          rw [e]
          refine Ex.cons (Ex1.ite (q := true) (EvT.cmp (a := .float r) (b := .float mx) (Ev.name rfl rfl).b (Ev.name rfl rfl).b (by show some _ = _; rw [hr]) rfl) (fun _ => Ex.cons (Ex1.assign (Ev.bin (Ev.name rfl rfl).b (Ev.name rfl rfl).b BinOk.sub_ff) rfl rfl) Ex.nil) (fun h => by cases h)) ?_
          refine Ex.cons (Ex1.assign (Ev.bin (Ev.bin (Ev.name rfl rfl).b Ev.cfloat.b (BinOk.div_ff (y := f6) z6)).b Ev.cfloat.b (BinOk.mod_ff (y := f1) z1)) rfl rfl) ?_
          exact Ex.ret (Ex1.ret (Ev.tup (.cons rfl (Ev.name rfl rfl) (.cons rfl (Ev.name rfl rfl) (.cons rfl (Ev.name rfl rfl) .nil))) h3))
        | false =>
          cases hg : eqF g mx with
          | true =>
            have e : hueF r g b mx (Float64.sub mx mn) = (Float64.divmod (Float64.div (Float64.sub (Float64.add f2 (Float64.div (Float64.sub mx r) (Float64.sub mx mn))) (Float64.div (Float64.sub mx b) (Float64.sub mx mn))) f6) f1).2 := by unfold hueF; rw [hr, hg]; rfl
            rw [e]
            refine Ex.cons (Ex1.ite (q := false) (EvT.cmp (a := .float r) (b := .float mx) (Ev.name rfl rfl).b (Ev.name rfl rfl).b (by show some _ = _; rw [hr]) rfl) (fun h => by cases h) (fun _ => Ex.cons (Ex1.ite (q := true) (EvT.cmp (a := .float g) (b := .float mx) (Ev.name rfl rfl).b (Ev.name rfl rfl).b (by show some _ = _; rw [hg]) rfl) (fun _ => Ex.cons (Ex1.assign (Ev.bin (Ev.bin Ev.cfloat.b (Ev.name rfl rfl).b BinOk.add_ff).b (Ev.name rfl rfl).b BinOk.sub_ff) rfl rfl) Ex.nil) (fun h => by cases h)) Ex.nil)) ?_
            refine Ex.cons (Ex1.assign (Ev.bin (Ev.bin (Ev.name rfl rfl).b Ev.cfloat.b (BinOk.div_ff (y := f6) z6)).b Ev.cfloat.b (BinOk.mod_ff (y := f1) z1)) rfl rfl) ?_
            exact Ex.ret (Ex1.ret (Ev.tup (.cons rfl (Ev.name rfl rfl) (.cons rfl (Ev.name rfl rfl) (.cons rfl (Ev.name rfl rfl) .nil))) h3))
          | false =>
            have e : hueF r g b mx (Float64.sub mx mn) = (Float64.divmod (Float64.div (Float64.sub (Float64.add f4 (Float64.div (Float64.sub mx g) (Float64.sub mx mn))) (Float64.div (Float64.sub mx r) (Float64.sub mx mn))) f6) f1).2 := by unfold hueF; rw [hr, hg]; rfl
            rw [e]
            refine Ex.cons (Ex1.ite (q := false) (EvT.cmp (a := .float r) (b := .float mx) (Ev.name rfl rfl).b (Ev.name rfl rfl).b (by show some _ = _; rw [hr]) rfl) (fun h => by cases h) (fun _ => Ex.cons (Ex1.ite (q := false) (EvT.cmp (a := .float g) (b := .float mx) (Ev.name rfl rfl).b (Ev.name rfl rfl).b (by show some _ = _; rw [hg]) rfl) (fun h => by cases h) (fun _ => Ex.cons (Ex1.assign (Ev.bin (Ev.bin Ev.cfloat.b (Ev.name rfl rfl).b BinOk.add_ff).b (Ev.name rfl rfl).b BinOk.sub_ff) rfl rfl) Ex.nil)) Ex.nil)) ?_
            refine Ex.cons (Ex1.assign (Ev.bin (Ev.bin (Ev.name rfl rfl).b Ev.cfloat.b (BinOk.div_ff (y := f6) z6)).b Ev.cfloat.b (BinOk.mod_ff (y := f1) z1)) rfl rfl) ?_
            exact Ex.ret (Ex1.ret (Ev.tup (.cons rfl (Ev.name rfl rfl) (.cons rfl (Ev.name rfl rfl) (.cons rfl (Ev.name rfl rfl) .nil))) h3))

      have hrest : ∃ x, fnBody PW 9 = x := ⟨_, rfl⟩
      cases hl : fle (Float64.div (Float64.add mx mn) f2) fh with
      | true =>
        rw [hl, if_pos rfl] at h
        split at h
        · cases h
        · rename_i hs
          cases h
          refine Ex.cons (Ex1.ite (q := true) (EvT.cmp (a := .float (Float64.div (Float64.add mx mn) f2)) (b := .float fh) (Ev.name rfl rfl).b Ev.cfloat.b (by show some _ = _; exact congrArg some hl) rfl) (fun _ => Ex.cons (Ex1.assign (Ev.bin (Ev.name rfl rfl).b (Ev.name rfl rfl).b (BinOk.div_ff (by simpa using hs))) rfl rfl) Ex.nil) (fun h => by cases h)) ?_
          exact main _ rfl
      | false =>
        rw [hl, if_neg (by simp)] at h
        split at h
        · cases h
        · rename_i hs
          cases h
          refine Ex.cons (Ex1.ite (q := false) (EvT.cmp (a := .float (Float64.div (Float64.add mx mn) f2)) (b := .float fh) (Ev.name rfl rfl).b Ev.cfloat.b (by show some _ = _; exact congrArg some hl) rfl) (fun h => by cases h) (fun _ => Ex.cons (Ex1.assign (Ev.bin (Ev.name rfl rfl).b (Ev.bin (Ev.bin Ev.cfloat.b (Ev.name rfl rfl).b BinOk.sub_ff).b (Ev.name rfl rfl).b BinOk.sub_ff).b (BinOk.div_ff (y := Float64.sub (Float64.sub f2 mx) mn) (by simpa using hs))) rfl rfl) Ex.nil)) ?_
          exact main _ rfl

theorem hls_ok (hT : Top c) {r g b : UInt64} {p : UInt64 × UInt64 × UInt64} (h : toHls r g b = some p) : FnV c (n + 1) 9 [.float r, .float g, .float b] (tup3 p) := fun a hf => by
  refine FOk.of (n := n) (xs := ["r", "g", "b"]) hf ?_ (hls_body hT h)
  exact .three fun _ _ _ _ _ _ _ _ _ _ _ _ _ _ _ => rfl
end
end Mine
end

section
set_option autoImplicit false
set_option linter.unusedVariables false
set_option linter.unusedSimpArgs false
namespace Mine
open PySem PySem.Calls PyProof.Rows PySem.SeqAt

def vF (m1 m2 h : UInt64) : UInt64 :=
  let hue := (Float64.divmod h f1).2
  if flt hue f16 then Float64.add m1 (Float64.mul (Float64.mul (Float64.sub m2 m1) hue) f6)
  else if flt hue fh then m2
  else if flt hue f23 then Float64.add m1 (Float64.mul (Float64.mul (Float64.sub m2 m1) (Float64.sub f23 hue)) f6)
  else m1
def ofHls (h l s : UInt64) : UInt64 × UInt64 × UInt64 :=
  if eqF s 0 then (l, l, l) else
  let m2 := if fle l fh then Float64.mul l (Float64.add f1 s) else Float64.sub (Float64.add l s) (Float64.mul l s)
  let m1 := Float64.sub (Float64.mul f2 l) m2
  (vF m1 m2 (Float64.add h f13), vF m1 m2 h, vF m1 m2 (Float64.sub h f13))
def ofHsv (h s v : UInt64) : Option (UInt64 × UInt64 × UInt64) :=
  if eqF s 0 then some (v, v, v) else
  match truncF (Float64.mul h f6) with
  | none => none
  | some i =>
    if i.natAbs < 2 ^ 1023 then
      let f := Float64.sub (Float64.mul h f6) (Float64.ofInt i)
      let p := Float64.mul v (Float64.sub f1 s)
      let q := Float64.mul v (Float64.sub f1 (Float64.mul s f))
      let t := Float64.mul v (Float64.sub f1 (Float64.mul s (Float64.sub f1 f)))
      if i % 6 = 0 then some (v, t, p) else if i % 6 = 1 then some (q, v, p) else if i % 6 = 2 then some (p, v, t) else if i % 6 = 3 then some (p, q, v) else if i % 6 = 4 then some (t, p, v) else some (v, p, q)
    else none

section
variable {c : Cx} {n : Nat} {ρ : Rho}

theorem v_body (hT : Top c) {m1 m2 h : UInt64} : Ex (funCx c (fnScope PW 11)) n [("m1", .sh (.float m1)), ("m2", .sh (.float m2)), ("hue", .sh (.float h))] (fnBody PW 11) (.ret (.float (vF m1 m2 h)) false) := by
  conv in (fnBody _ _) => whnf
  obtain ⟨u6, hu6, g6⟩ := (hT.sub (sc := fnScope PW 11)).sixth
  obtain ⟨u2, hu2, g2⟩ := (hT.sub (sc := fnScope PW 11)).two
  refine Ex.cons (Ex1.assign (Ev.bin (Ev.name rfl rfl).b Ev.cfloat.b (BinOk.mod_ff (y := f1) z1)) rfl rfl) ?_
  unfold vF
  dsimp only
  generalize (Float64.divmod h f1).2 = hue
  cases h1 : flt hue f16 with
  | true =>
    rw [if_pos rfl]
    refine Ex.ret (Ex1.ite (q := true) (EvT.cmp (a := .float hue) (b := .float f16) (Ev.name rfl rfl).b (Ev.gfloat rfl g6 hu6 rfl).b (by show some _ = _; exact congrArg some h1) rfl) (fun _ => ?_) (fun h => by cases h))
    refine Ex.ret (Ex1.ret ?_)
    exact Ev.bin (Ev.name rfl rfl).b (Ev.bin (Ev.bin (Ev.bin (Ev.name rfl rfl).b (Ev.name rfl rfl).b BinOk.sub_ff).b (Ev.name rfl rfl).b BinOk.mul_ff).b Ev.cfloat.b BinOk.mul_ff).b BinOk.add_ff
  | false =>
    rw [if_neg (by simp)]
    refine Ex.cons (Ex1.ite (q := false) (EvT.cmp (a := .float hue) (b := .float f16) (Ev.name rfl rfl).b (Ev.gfloat rfl g6 hu6 rfl).b (by show some _ = _; exact congrArg some h1) rfl) (fun h => by cases h) (fun _ => Ex.nil)) ?_
    cases h2 : flt hue fh with
    | true =>
      rw [if_pos rfl]
      refine Ex.ret (Ex1.ite (q := true) (EvT.cmp (a := .float hue) (b := .float fh) (Ev.name rfl rfl).b Ev.cfloat.b (by show some _ = _; exact congrArg some h2) rfl) (fun _ => ?_) (fun h => by cases h))
      exact Ex.ret (Ex1.ret (Ev.name rfl rfl))
    | false =>
      rw [if_neg (by simp)]
      refine Ex.cons (Ex1.ite (q := false) (EvT.cmp (a := .float hue) (b := .float fh) (Ev.name rfl rfl).b Ev.cfloat.b (by show some _ = _; exact congrArg some h2) rfl) (fun h => by cases h) (fun _ => Ex.nil)) ?_
      cases h3 : flt hue f23 with
      | true =>
        rw [if_pos rfl]
        refine Ex.ret (Ex1.ite (q := true) (EvT.cmp (a := .float hue) (b := .float f23) (Ev.name rfl rfl).b (Ev.gfloat rfl g2 hu2 rfl).b (by show some _ = _; exact congrArg some h3) rfl) (fun _ => ?_) (fun h => by cases h))
        refine Ex.ret (Ex1.ret ?_)
        exact Ev.bin (Ev.name rfl rfl).b (Ev.bin (Ev.bin (Ev.bin (Ev.name rfl rfl).b (Ev.name rfl rfl).b BinOk.sub_ff).b (Ev.bin (Ev.gfloat rfl g2 hu2 rfl).b (Ev.name rfl rfl).b BinOk.sub_ff).b BinOk.mul_ff).b Ev.cfloat.b BinOk.mul_ff).b BinOk.add_ff
      | false =>
        rw [if_neg (by simp)]
        refine Ex.cons (Ex1.ite (q := false) (EvT.cmp (a := .float hue) (b := .float f23) (Ev.name rfl rfl).b (Ev.gfloat rfl g2 hu2 rfl).b (by show some _ = _; exact congrArg some h3) rfl) (fun h => by cases h) (fun _ => Ex.nil)) ?_
        exact Ex.ret (Ex1.ret (Ev.name rfl rfl))

theorem v_ok (hT : Top c) {m1 m2 h : UInt64} : FnV c (n + 1) 11 [.float m1, .float m2, .float h] (.float (vF m1 m2 h)) := fun a hf => by
  refine FOk.of (n := n) (xs := ["m1", "m2", "hue"]) hf ?_ (v_body hT)
  exact .three fun _ _ _ _ _ _ _ _ _ _ _ _ _ _ _ => rfl

theorem ofHls_body (hT : Top c) {h l s : UInt64} : Ex (funCx c (fnScope PW 10)) (n + 1) [("h", .sh (.float h)), ("l", .sh (.float l)), ("s", .sh (.float s))] (fnBody PW 10) (.ret (tup3 (ofHls h l s)) false) := by
  have h3 : (3 : Nat) ≤ sizeLine := by decide
  conv in (fnBody _ _) => whnf
  obtain ⟨u3, hu3, g3⟩ := (hT.sub (sc := fnScope PW 10)).third
  unfold ofHls
  cases h0 : eqF s 0 with
  | true =>
    rw [if_pos rfl]
    refine Ex.ret (Ex1.ite (q := true) (EvT.cmp (a := .float s) (b := .float 0) (Ev.name rfl rfl).b Ev.cfloat.b (by show some _ = _; exact congrArg some h0) rfl) (fun _ => ?_) (fun h => by cases h))
    exact Ex.ret (Ex1.ret (Ev.tup (.cons rfl (Ev.name rfl rfl) (.cons rfl (Ev.name rfl rfl) (.cons rfl (Ev.name rfl rfl) .nil))) h3))
  | false =>
    rw [if_neg (by simp)]
    dsimp only
    refine Ex.cons (Ex1.ite (q := false) (EvT.cmp (a := .float s) (b := .float 0) (Ev.name rfl rfl).b Ev.cfloat.b (by show some _ = _; exact congrArg some h0) rfl) (fun h => by cases h) (fun _ => Ex.nil)) ?_
    refine Ex.cons (ρ' := put "m2" (.sh (.float (if fle l fh then Float64.mul l (Float64.add f1 s) else Float64.sub (Float64.add l s) (Float64.mul l s)))) [("h", .sh (.float h)), ("l", .sh (.float l)), ("s", .sh (.float s))]) ?_ ?_
    · refine Ex1.ite (q := fle l fh) (EvT.cmp (a := .float l) (b := .float fh) (Ev.name rfl rfl).b Ev.cfloat.b rfl rfl) (fun h1 => ?_) (fun h1 => ?_)
      · rw [h1, if_pos rfl]
        exact Ex.cons (Ex1.assign (Ev.bin (Ev.name rfl rfl).b (Ev.bin Ev.cfloat.b (Ev.name rfl rfl).b BinOk.add_ff).b BinOk.mul_ff) rfl rfl) Ex.nil
      · rw [h1, if_neg (by simp)]
        exact Ex.cons (Ex1.assign (Ev.bin (Ev.bin (Ev.name rfl rfl).b (Ev.name rfl rfl).b BinOk.add_ff).b (Ev.bin (Ev.name rfl rfl).b (Ev.name rfl rfl).b BinOk.mul_ff).b BinOk.sub_ff) rfl rfl) Ex.nil
    · generalize (if fle l fh then Float64.mul l (Float64.add f1 s) else Float64.sub (Float64.add l s) (Float64.mul l s)) = m2
      refine Ex.cons (Ex1.assign (Ev.bin (Ev.bin Ev.cfloat.b (Ev.name rfl rfl).b BinOk.mul_ff).b (Ev.name rfl rfl).b BinOk.sub_ff) rfl rfl) ?_
      refine Ex.ret (Ex1.ret (Ev.tup (.cons rfl (Ev.fn 11 hT.sub rfl rfl (.cons rfl (Ev.name rfl rfl) (.cons rfl (Ev.name rfl rfl) (.cons rfl (Ev.bin (Ev.name rfl rfl).b (Ev.gfloat rfl g3 hu3 rfl).b BinOk.add_ff) .nil))) (by simp) (v_ok hT.sub)) (.cons rfl (Ev.fn 11 hT.sub rfl rfl (.cons rfl (Ev.name rfl rfl) (.cons rfl (Ev.name rfl rfl) (.cons rfl (Ev.name rfl rfl) .nil))) (by simp) (v_ok hT.sub)) (.cons rfl (Ev.fn 11 hT.sub rfl rfl (.cons rfl (Ev.name rfl rfl) (.cons rfl (Ev.name rfl rfl) (.cons rfl (Ev.bin (Ev.name rfl rfl).b (Ev.gfloat rfl g3 hu3 rfl).b BinOk.sub_ff) .nil))) (by simp) (v_ok hT.sub)) .nil))) h3))

theorem ofHls_ok (hT : Top c) {h l s : UInt64} : FnV c (n + 2) 10 [.float h, .float l, .float s] (tup3 (ofHls h l s)) := fun a hf => by
  refine FOk.of (n := n + 1) (xs := ["h", "l", "s"]) hf ?_ (ofHls_body hT)
  exact .three fun _ _ _ _ _ _ _ _ _ _ _ _ _ _ _ => rfl

theorem ofHsv_body (hT : Top c) {h s v : UInt64} {w : UInt64 × UInt64 × UInt64} (hw : ofHsv h s v = some w) : Ex (funCx c (fnScope PW 13)) n [("h", .sh (.float h)), ("s", .sh (.float s)), ("v", .sh (.float v))] (fnBody PW 13) (.ret (tup3 w) false) := by
  have h3 : (3 : Nat) ≤ sizeLine := by decide
  conv in (fnBody _ _) => whnf
  unfold ofHsv at hw
  cases h0 : eqF s 0 with
  | true =>
    rw [h0, if_pos rfl] at hw
    cases hw
    refine Ex.ret (Ex1.ite (q := true) (EvT.cmp (a := .float s) (b := .float 0) (Ev.name rfl rfl).b Ev.cfloat.b (by show some _ = _; exact congrArg some h0) rfl) (fun _ => ?_) (fun h => by cases h))
    exact Ex.ret (Ex1.ret (Ev.tup (.cons rfl (Ev.name rfl rfl) (.cons rfl (Ev.name rfl rfl) (.cons rfl (Ev.name rfl rfl) .nil))) h3))
  | false =>
    rw [h0, if_neg (by simp)] at hw
    refine Ex.cons (Ex1.ite (q := false) (EvT.cmp (a := .float s) (b := .float 0) (Ev.name rfl rfl).b Ev.cfloat.b (by show some _ = _; exact congrArg some h0) rfl) (fun h => by cases h) (fun _ => Ex.nil)) ?_
    cases ht : truncF (Float64.mul h f6) with
    | none => rw [ht] at hw; cases hw
    | some i =>
      rw [ht] at hw
      dsimp only at hw
      by_cases hi : i.natAbs < 2 ^ 1023
      · rw [if_pos hi] at hw
        refine Ex.cons (Ex1.assign (t := .int i) (Ev.bi hT.sub rfl rfl (EachB.cons rfl (Ev.bin (Ev.name rfl rfl).b Ev.cfloat.b BinOk.mul_ff).b .nil) (by simp) (bi_int ht) rfl) rfl rfl) ?_
        refine Ex.cons (Ex1.assign (Ev.bin (Ev.bin (Ev.name rfl rfl).b Ev.cfloat.b BinOk.mul_ff).b (Ev.name rfl rfl).b (BinOk.sub_fi hi)) rfl rfl) ?_
        refine Ex.cons (Ex1.assign (Ev.bin (Ev.name rfl rfl).b (Ev.bin Ev.cfloat.b (Ev.name rfl rfl).b BinOk.sub_ff).b BinOk.mul_ff) rfl rfl) ?_
        refine Ex.cons (Ex1.assign (Ev.bin (Ev.name rfl rfl).b (Ev.bin Ev.cfloat.b (Ev.bin (Ev.name rfl rfl).b (Ev.name rfl rfl).b BinOk.mul_ff).b BinOk.sub_ff).b BinOk.mul_ff) rfl rfl) ?_
        refine Ex.cons (Ex1.assign (Ev.bin (Ev.name rfl rfl).b (Ev.bin Ev.cfloat.b (Ev.bin (Ev.name rfl rfl).b (Ev.bin Ev.cfloat.b (Ev.name rfl rfl).b BinOk.sub_ff).b BinOk.mul_ff).b BinOk.sub_ff).b BinOk.mul_ff) rfl rfl) ?_
        refine Ex.cons (Ex1.assign (t := .int (i % 6)) (Ev.bin (Ev.name rfl rfl).b Ev.cint.b (BinOk.mod_int (by decide))) rfl rfl) ?_
        have hr : 0 ≤ i % 6 ∧ i % 6 < 6 := ⟨Int.emod_nonneg _ (by decide), Int.emod_lt_of_pos _ (by decide)⟩
        generalize i % 6 = k at hw hr ⊢
        have hk := iLt6 hr.1 hr.2
        have no : ∀ {st : Stmt} {rest : List Stmt} {o : Out} {ρ : Rho}, Ex1 (funCx c (fnScope PW 13)) n ρ st (.next ρ) → Ex (funCx c (fnScope PW 13)) n ρ rest o → Ex (funCx c (fnScope PW 13)) n ρ (st :: rest) o := fun a b => Ex.cons a b
        rcases hk with rfl | rfl | rfl | rfl | rfl | rfl
        · simp at hw; subst hw
          refine Ex.ret (Ex1.ite (q := true) (EvT.cmp (a := .int 0) (b := .int 0) (Ev.name rfl rfl).b Ev.cint.b rfl rfl) (fun _ => ?_) (fun h => by cases h))
          exact Ex.ret (Ex1.ret (Ev.tup (.cons rfl (Ev.name rfl rfl) (.cons rfl (Ev.name rfl rfl) (.cons rfl (Ev.name rfl rfl) .nil))) h3))
        · simp at hw; subst hw
          refine no (Ex1.ite (q := false) (EvT.cmp (a := .int 1) (b := .int 0) (Ev.name rfl rfl).b Ev.cint.b rfl rfl) (fun h => by cases h) (fun _ => Ex.nil)) ?_
          refine Ex.ret (Ex1.ite (q := true) (EvT.cmp (a := .int 1) (b := .int 1) (Ev.name rfl rfl).b Ev.cint.b rfl rfl) (fun _ => ?_) (fun h => by cases h))
          exact Ex.ret (Ex1.ret (Ev.tup (.cons rfl (Ev.name rfl rfl) (.cons rfl (Ev.name rfl rfl) (.cons rfl (Ev.name rfl rfl) .nil))) h3))
        · simp at hw; subst hw
          refine no (Ex1.ite (q := false) (EvT.cmp (a := .int 2) (b := .int 0) (Ev.name rfl rfl).b Ev.cint.b rfl rfl) (fun h => by cases h) (fun _ => Ex.nil)) ?_
          refine no (Ex1.ite (q := false) (EvT.cmp (a := .int 2) (b := .int 1) (Ev.name rfl rfl).b Ev.cint.b rfl rfl) (fun h => by cases h) (fun _ => Ex.nil)) ?_
          refine Ex.ret (Ex1.ite (q := true) (EvT.cmp (a := .int 2) (b := .int 2) (Ev.name rfl rfl).b Ev.cint.b rfl rfl) (fun _ => ?_) (fun h => by cases h))
          exact Ex.ret (Ex1.ret (Ev.tup (.cons rfl (Ev.name rfl rfl) (.cons rfl (Ev.name rfl rfl) (.cons rfl (Ev.name rfl rfl) .nil))) h3))
        · simp at hw; subst hw
          refine no (Ex1.ite (q := false) (EvT.cmp (a := .int 3) (b := .int 0) (Ev.name rfl rfl).b Ev.cint.b rfl rfl) (fun h => by cases h) (fun _ => Ex.nil)) ?_
          refine no (Ex1.ite (q := false) (EvT.cmp (a := .int 3) (b := .int 1) (Ev.name rfl rfl).b Ev.cint.b rfl rfl) (fun h => by cases h) (fun _ => Ex.nil)) ?_
          refine no (Ex1.ite (q := false) (EvT.cmp (a := .int 3) (b := .int 2) (Ev.name rfl rfl).b Ev.cint.b rfl rfl) (fun h => by cases h) (fun _ => Ex.nil)) ?_
          refine Ex.ret (Ex1.ite (q := true) (EvT.cmp (a := .int 3) (b := .int 3) (Ev.name rfl rfl).b Ev.cint.b rfl rfl) (fun _ => ?_) (fun h => by cases h))
          exact Ex.ret (Ex1.ret (Ev.tup (.cons rfl (Ev.name rfl rfl) (.cons rfl (Ev.name rfl rfl) (.cons rfl (Ev.name rfl rfl) .nil))) h3))
        · simp at hw; subst hw
          refine no (Ex1.ite (q := false) (EvT.cmp (a := .int 4) (b := .int 0) (Ev.name rfl rfl).b Ev.cint.b rfl rfl) (fun h => by cases h) (fun _ => Ex.nil)) ?_
          refine no (Ex1.ite (q := false) (EvT.cmp (a := .int 4) (b := .int 1) (Ev.name rfl rfl).b Ev.cint.b rfl rfl) (fun h => by cases h) (fun _ => Ex.nil)) ?_
          refine no (Ex1.ite (q := false) (EvT.cmp (a := .int 4) (b := .int 2) (Ev.name rfl rfl).b Ev.cint.b rfl rfl) (fun h => by cases h) (fun _ => Ex.nil)) ?_
          refine no (Ex1.ite (q := false) (EvT.cmp (a := .int 4) (b := .int 3) (Ev.name rfl rfl).b Ev.cint.b rfl rfl) (fun h => by cases h) (fun _ => Ex.nil)) ?_
          refine Ex.ret (Ex1.ite (q := true) (EvT.cmp (a := .int 4) (b := .int 4) (Ev.name rfl rfl).b Ev.cint.b rfl rfl) (fun _ => ?_) (fun h => by cases h))
          exact Ex.ret (Ex1.ret (Ev.tup (.cons rfl (Ev.name rfl rfl) (.cons rfl (Ev.name rfl rfl) (.cons rfl (Ev.name rfl rfl) .nil))) h3))
        · simp at hw; subst hw
          refine no (Ex1.ite (q := false) (EvT.cmp (a := .int 5) (b := .int 0) (Ev.name rfl rfl).b Ev.cint.b rfl rfl) (fun h => by cases h) (fun _ => Ex.nil)) ?_
          refine no (Ex1.ite (q := false) (EvT.cmp (a := .int 5) (b := .int 1) (Ev.name rfl rfl).b Ev.cint.b rfl rfl) (fun h => by cases h) (fun _ => Ex.nil)) ?_
          refine no (Ex1.ite (q := false) (EvT.cmp (a := .int 5) (b := .int 2) (Ev.name rfl rfl).b Ev.cint.b rfl rfl) (fun h => by cases h) (fun _ => Ex.nil)) ?_
          refine no (Ex1.ite (q := false) (EvT.cmp (a := .int 5) (b := .int 3) (Ev.name rfl rfl).b Ev.cint.b rfl rfl) (fun h => by cases h) (fun _ => Ex.nil)) ?_
          refine no (Ex1.ite (q := false) (EvT.cmp (a := .int 5) (b := .int 4) (Ev.name rfl rfl).b Ev.cint.b rfl rfl) (fun h => by cases h) (fun _ => Ex.nil)) ?_
          refine Ex.ret (Ex1.ite (q := true) (EvT.cmp (a := .int 5) (b := .int 5) (Ev.name rfl rfl).b Ev.cint.b rfl rfl) (fun _ => ?_) (fun h => by cases h))
          exact Ex.ret (Ex1.ret (Ev.tup (.cons rfl (Ev.name rfl rfl) (.cons rfl (Ev.name rfl rfl) (.cons rfl (Ev.name rfl rfl) .nil))) h3))
      · rw [if_neg hi] at hw; cases hw

theorem ofHsv_ok (hT : Top c) {h s v : UInt64} {w : UInt64 × UInt64 × UInt64} (hw : ofHsv h s v = some w) : FnV c (n + 1) 13 [.float h, .float s, .float v] (tup3 w) := fun a hf => by
  refine FOk.of (n := n) (xs := ["h", "s", "v"]) hf ?_ (ofHsv_body hT hw)
  exact .three fun _ _ _ _ _ _ _ _ _ _ _ _ _ _ _ => rfl
end
end Mine
end

section
set_option autoImplicit false
set_option linter.unusedVariables false
set_option linter.unusedSimpArgs false
namespace Mine
open PySem PySem.Calls PyProof.Rows PySem.SeqAt PySem.Spec

/-- what map_table_b3 makes of a sign -/
def b3F (q : Nat) : Str := match lookup (.int q) b3D with
  | some (.str y) => y
  | _ => Txt.lower ⟨#[q]⟩
def b3Ok (q : Nat) : Bool := match lookup (.int q) b3D with
  | some (.str _) => true
  | none => !Builtin.Str.tooLong (Txt.lower ⟨#[q]⟩).length
  | _ => false

section
variable {c : Cx} {n : Nat} {ρ : Rho}
theorem setOf_keep {h h' : Heap} {a m : Nat} {S : Int → Bool} (x : h.SetOf (intKind c.prog c.w) a S m) (hk : ∀ b o, h.get? b = some o → h'.get? b = some o) : h'.SetOf (intKind c.prog c.w) a S m :=
  let ⟨o, es, ep, t, ho, r⟩ := x; ⟨o, es, ep, t, hk _ _ ho, r⟩

theorem bi_ord {q : Nat} : Mine.bi "ord" [.str ⟨#[q]⟩] = some (.int q) := by
  rw [bi_ord0]; rfl

theorem Ev.inB1 (hT : Top c) {e : Expr} {p pos : Pos} {q : Nat} (hk : c.ns.lookup ("b1_set" : Str) = some .globalImplicit) (h : Ev c n ρ e (.int q)) : Ev c n ρ (.Compare e [.In] [.Name "b1_set" p] pos) (.bool (b1S q)) := .mk fun A s env M₀ O rm R => by
  obtain ⟨a, m, g, hs⟩ := hT.b1
  refine wpAny_Compare1 (h.go rm R fun v s₁ x₁ R₁ d₁ => wp_gname R₁ hk g ?_ rfl) (marks_of rfl)
  obtain ⟨t, rfl⟩ := d₁.borrow.int
  refine wpAny_inSet_of (knd := intKind c.prog c.w) (k := (q : Int)) (intKind_is c.prog c.w _ t) rfl (setOf_keep hs R₁.bas.heap) ?_
  exact ⟨Ext.trans x₁ (Ext.tok _), Den.of_bool⟩

theorem Ev.getB3 (hT : Top c) {e : Expr} {p ap pos : Pos} {q : Nat} {r : T} (hk : c.ns.lookup ("b3_exceptions" : Str) = some .globalImplicit) (h : Ev c n ρ e (.int q)) (hs : notStar e = true) (hl : (ap.endLine == pos.line) = true)
    (hr : (match lookup (.int q) b3D with | some (.str y) => some (.str y) | none => some .none | _ => none) = some r) : Ev c n ρ (.Call (.Attribute (.Name "b3_exceptions" p) "get" ap) [e] [] pos) r := .mk fun A s env M₀ O rm R => by
  obtain ⟨a, g, hT3⟩ := hT.b3
  refine Call_method1 (base_of rfl) (by rw [starEach_cons hs]; rfl) hl (wp_gname R hk g ?_ rfl)
  have T₀ := hT3.keep R.bas.heap
  obtain ⟨lo, kvs, hd, hf⟩ := id T₀
  refine ⟨"dict", "dict.get", PySem.F.plainAttrs_dict, PySem.F.slot_dict_get, PySem.F.type_dict_get, hd.typeIs, hd.mapOf.noDict, ?_⟩
  refine callWith_builtin rfl (evalArgs_plain (spliced_cons (h.go rm R fun v s₂ x₂ R₂ d₂ => spliced_nil ?_)))
  obtain ⟨t, rfl⟩ := d₂.borrow.int
  refine call_get1_intTab (hT3.keep R₂.bas.heap) fun v hv => ?_
  refine ⟨Ext.trans x₂ (Ext.tok _), ?_⟩
  split at hr
  · rename_i y hy
    cases hr
    rw [hy] at hv
    obtain ⟨t', rfl⟩ := hv.str_inv
    exact Den.of_str
  · rename_i hy
    cases hr
    rw [hy] at hv
    cases hv.none_inv
    exact Den.of_none
  · cases hr

theorem Ev.lower {o : Expr} {ap pos : Pos} {x : Str} (ho : EvB c n ρ o (.str x)) (hn : noSuper o = true) (hl : (ap.endLine == pos.line) = true) (hz : Builtin.Str.tooLong (Txt.lower x).length = false) : Ev c n ρ (.Call (.Attribute o "lower" ap) [] [] pos) (.str (Txt.lower x)) := .mk fun A s env M₀ O rm R => by
  refine Call_method0 (base_of hn) hl (ho.go rm R fun ov s₁ x₁ R₁ d₁ => ?_)
  obtain ⟨t, rfl⟩ := d₁.str
  exact SB.lower hz ⟨Ext.trans x₁ (Ext.tok _), Den.of_str⟩
end
end Mine
end

section
set_option autoImplicit false
set_option linter.unusedVariables false
set_option linter.unusedSimpArgs false
namespace Mine
open PySem PySem.Calls PyProof.Rows PySem.SeqAt PySem.Spec

section
variable {c : Cx} {n : Nat} {ρ : Rho}
theorem b1_ok (hT : Top c) {q : Nat} : FnV c (n + 1) 16 [.str ⟨#[q]⟩] (.bool (b1S q)) := fun a hf => by
  refine FOk.of (n := n) (xs := ["code"]) hf ?_ ?_
  · exact .one fun _ _ _ _ _ _ _ _ _ _ _ _ _ => rfl
  · conv in (fnBody _ _) => whnf
    refine Ex.ret (Ex1.ret ?_)
    exact Ev.inB1 hT.sub rfl (Ev.bi hT.sub rfl rfl (EachB.cons rfl (Ev.name rfl rfl).b .nil) (by simp) bi_ord rfl)

theorem b3_ok (hT : Top c) {q : Nat} (hq : b3Ok q = true) : FnV c (n + 1) 18 [.str ⟨#[q]⟩] (.str (b3F q)) := fun a hf => by
  refine FOk.of (n := n) (xs := ["code"]) hf ?_ ?_
  · exact .one fun _ _ _ _ _ _ _ _ _ _ _ _ _ => rfl
  · conv in (fnBody _ _) => whnf
    unfold b3Ok at hq
    unfold b3F
    split at hq
    · rename_i y hy
      refine Ex.cons (Ex1.assign (t := .str y) (Ev.getB3 hT.sub rfl (Ev.bi (r := .int q) hT.sub rfl rfl (EachB.cons rfl (Ev.name rfl rfl).b .nil) (by simp) bi_ord rfl) rfl rfl (by rw [hy])) rfl rfl) ?_
      rw [hy]
      refine Ex.ret (Ex1.ite (q := true) (EvT.cmp (a := .str y) (b := .none) (Ev.name rfl rfl).b Ev.cnone.b rfl rfl) (fun _ => ?_) (fun h => by cases h))
      exact Ex.ret (Ex1.ret (Ev.name rfl rfl))
    · rename_i hy
      refine Ex.cons (Ex1.assign (t := .none) (Ev.getB3 hT.sub rfl (Ev.bi (r := .int q) hT.sub rfl rfl (EachB.cons rfl (Ev.name rfl rfl).b .nil) (by simp) bi_ord rfl) rfl rfl (by rw [hy])) rfl rfl) ?_
      rw [hy]
      refine Ex.cons (Ex1.ite (q := false) (EvT.cmp (a := .none) (b := .none) (Ev.name rfl rfl).b Ev.cnone.b rfl rfl) (fun h => by cases h) (fun _ => Ex.nil)) ?_
      exact Ex.ret (Ex1.ret (Ev.lower (Ev.name rfl rfl).b rfl rfl (by simpa using hq)))
    · cases hq
end
end Mine
end

section
set_option autoImplicit false
set_option linter.unusedVariables false
set_option linter.unusedSimpArgs false
namespace Mine
open PySem PySem.Calls PyProof.Rows PySem.SeqAt PySem.Spec

/-- f, i, l -/
def letter (k : Nat) : Nat := if k = 0 then 102 else if k = 1 then 105 else 108
def wordS (w : List Nat) : Str := ⟨(w.map letter).toArray⟩
theorem wordS_snoc (w : List Nat) (k : Nat) : wordS w ++ ⟨#[letter k]⟩ = wordS (w ++ [k]) := by
  show (⟨(w.map letter).toArray ++ #[letter k]⟩ : Str) = ⟨((w ++ [k]).map letter).toArray⟩
  rw [List.map_append]; simp
theorem wordS_len (w : List Nat) : (wordS w).length = w.length := by simp [wordS, Str.length]

section
variable {c : Cx} {n : Nat} {ρ : Rho}
theorem EvT.and2 {x y : Expr} {pos : Pos} {q r : Bool} (hx : EvT c n ρ x q) (hy : EvT c n ρ y r) : EvT c n ρ (.BoolOp .And [x, y] pos) (q && r) := by
  cases q
  · exact EvT.boolop (.andF hx)
  · cases r
    · exact EvT.boolop (.andT hx (.andF hy))
    · exact EvT.boolop (.andT hx (.andT hy .andNil))
theorem EvT.or2 {x y : Expr} {pos : Pos} {q r : Bool} (hx : EvT c n ρ x q) (hy : EvT c n ρ y r) : EvT c n ρ (.BoolOp .Or [x, y] pos) (q || r) := by
  cases q
  · cases r
    · exact EvT.boolop (.orF hx (.orF hy .orNil))
    · exact EvT.boolop (.orF hx (.orT hy))
  · exact EvT.boolop (.orT hx)

/-! _law_drawn -/
def kindOf (wish near far : Int) : Nat :=
  let k := if wish % 3 = 2 ∧ far = 0 then 1 else (wish % 3).toNat
  if k = 1 ∧ near = 0 then 0 else k
def lead (k : Nat) : Int := if k = 0 then 1 else if k = 1 then -1 else 0
def lead2 (k : Nat) : Int := if k = 0 then 0 else if k = 1 then 1 else -1
def drawStep (s : List Nat × Int × Int) (wish : Int) : List Nat × Int × Int :=
  let k := kindOf wish s.2.1 s.2.2
  (s.1 ++ [k], s.2.1 + lead k, s.2.2 + lead2 k)
def drawF (wishes : List Int) (near far : Int) : List Nat := (wishes.foldl drawStep ([], near, far)).1
theorem kind_lt (wish near far : Int) : kindOf wish near far = 0 ∨ kindOf wish near far = 1 ∨ kindOf wish near far = 2 := by
  unfold kindOf
  have h1 := Int.emod_nonneg wish (b := 3) (by decide)
  have h2 := Int.emod_lt_of_pos wish (b := 3) (by decide)
  dsimp only
  split
  · split <;> simp
  · split <;> omega

def drawRho (ws : List Int) (s : List Nat × Int × Int) : Rho := [("wishes", .sh (.list (ws.map .int))), ("near", .sh (.int s.2.1)), ("far", .sh (.int s.2.2)), ("word", .sh (.str (wordS s.1)))]

theorem draw_body (hT : Top c) {ws : List Int} {near far : Int} (hl : ws.length ≤ 1000) : Ex (funCx c (fnScope PW 20)) n [("wishes", .sh (.list (ws.map .int))), ("near", .sh (.int near)), ("far", .sh (.int far))] (fnBody PW 20) (.ret (.str (wordS (drawF ws near far))) false) := by
  have hz : (1000000 : Nat) ≤ sizeLine := by decide
  conv in (fnBody _ _) => whnf
  refine Ex.cons (Ex1.assign (t := .str "") Ev.cstr rfl rfl) ?_
  refine Ex.cons (ρ' := drawRho ws (ws.foldl drawStep ([], near, far))) (Ex1.for (EvI.listF (l := ws.map .int) (Ev.name rfl rfl)) rfl (Loops.foldI (drawRho ws) drawStep .int (fun r s => s.1.length + r ≤ 1000) ws ([], near, far) (by simpa using hl) fun s wish r hw hI => ⟨by simp [drawStep]; omega, putAll ["wish"] [.int wish] (drawRho ws s), rfl, ?_⟩)) (Ex.ret (Ex1.ret (Ev.name rfl rfl)))
  obtain ⟨w, nr, fr⟩ := s
  have hk := kind_lt wish nr fr
  have hmod := Int.emod_nonneg wish (b := 3) (by decide)
  have hK0 : ∃ K0 : Int, K0 = (if (wish % 3 == 2 && fr == 0) = true then 1 else wish % 3) := ⟨_, rfl⟩
  obtain ⟨K0, hK0⟩ := hK0
  have hK1 : ∃ K1 : Int, K1 = (if (K0 == 1 && nr == 0) = true then 0 else K0) := ⟨_, rfl⟩
  obtain ⟨K1, hK1⟩ := hK1
  have hKk : K1 = (kindOf wish nr fr : Int) := by
    rw [hK1, hK0]
    unfold kindOf
    dsimp only
    have hm : wish % 3 = 0 ∨ wish % 3 = 1 ∨ wish % 3 = 2 := iLt3 (Int.emod_nonneg _ (by decide)) (Int.emod_lt_of_pos _ (by decide))
    clear hK0 hK1 hk hmod hw hI
    generalize wish % 3 = m at hm ⊢
    rcases hm with rfl | rfl | rfl <;> by_cases a2 : fr = 0 <;> by_cases a3 : nr = 0 <;> simp [a2, a3]
  refine Ex.cons (Ex1.assign (t := .int K0) (Ev.ifexp (q := (wish % 3 == 2 && fr == 0)) (EvT.and2 (EvT.cmp (a := .int (wish % 3)) (b := .int 2) (Ev.bin (Ev.name rfl rfl).b Ev.cint.b (BinOk.mod_int (by decide))).b Ev.cint.b rfl rfl) (EvT.cmp (a := .int fr) (b := .int 0) (Ev.name rfl rfl).b Ev.cint.b rfl rfl)) (fun h => ?_) (fun h => ?_)) rfl rfl) ?_
  · rw [hK0, h, if_pos rfl]; exact Ev.cint
  · rw [hK0, h, if_neg (by simp)]; exact Ev.bin (Ev.name rfl rfl).b Ev.cint.b (BinOk.mod_int (by decide))
  refine Ex.cons (Ex1.assign (t := .int K1) (Ev.ifexp (q := (K0 == 1 && nr == 0)) (EvT.and2 (EvT.cmp (a := .int K0) (b := .int 1) (Ev.name rfl rfl).b Ev.cint.b rfl rfl) (EvT.cmp (a := .int nr) (b := .int 0) (Ev.name rfl rfl).b Ev.cint.b rfl rfl)) (fun h => ?_) (fun h => ?_)) rfl rfl) ?_
  · rw [hK1, h, if_pos rfl]; exact Ev.cint
  · rw [hK1, h, if_neg (by simp)]; exact Ev.name rfl rfl
  clear hK0 hK1
  subst hKk
  have hst : drawStep (w, nr, fr) wish = (w ++ [kindOf wish nr fr], nr + lead (kindOf wish nr fr), fr + lead2 (kindOf wish nr fr)) := rfl
  rw [hst]
  have hwl : (wordS w).length ≤ 1000 := by rw [wordS_len]; simp at hI; omega
  generalize kindOf wish nr fr = k at hk ⊢
  rcases hk with rfl | rfl | rfl
  · refine Ex.cons (Ex1.aug (a := .str (wordS w)) (b := .str ⟨#[letter 0]⟩) rfl rfl (Ev.ix (o := .str "fil") (k := .int ((0 : Nat) : Int)) Ev.cstr.b (Ev.name rfl rfl) rfl rfl).b (InOk.add_str (by show _ + 1 ≤ _; omega)) rfl) ?_
    refine Ex.weak (Ex.cons (Ex1.assignT (ts := [.int (nr + 1), .int (fr + 0)]) (xs := ["near", "far"]) (Ev.tup (.cons rfl (Ev.bin (Ev.name rfl rfl).b (Ev.ix (o := .list [.int 1, .int (-1), .int 0]) (k := .int ((0 : Nat) : Int)) (EvN.list (.cons rfl Ev.cint (.cons rfl (Ev.neg Ev.cint) (.cons rfl Ev.cint .nil))) (by show 3 ≤ sizeLine; decide)).ev.b (Ev.name rfl rfl) rfl rfl).b BinOk.add_int) (.cons rfl (Ev.bin (Ev.name rfl rfl).b (Ev.ix (o := .list [.int 0, .int 1, .int (-1)]) (k := .int ((0 : Nat) : Int)) (EvN.list (.cons rfl Ev.cint (.cons rfl Ev.cint (.cons rfl (Ev.neg Ev.cint) .nil))) (by show 3 ≤ sizeLine; decide)).ev.b (Ev.name rfl rfl) rfl rfl).b BinOk.add_int) .nil)) (by show 2 ≤ sizeLine; decide)) rfl rfl rfl rfl rfl) Ex.nil) (Sub.cons rfl (Sub.cons rfl (Sub.cons rfl (Sub.one ?_))))
    show some (Var.sh (.str (wordS w ++ ⟨#[letter 0]⟩))) = _
    rw [wordS_snoc]
  · refine Ex.cons (Ex1.aug (a := .str (wordS w)) (b := .str ⟨#[letter 1]⟩) rfl rfl (Ev.ix (o := .str "fil") (k := .int ((1 : Nat) : Int)) Ev.cstr.b (Ev.name rfl rfl) rfl rfl).b (InOk.add_str (by show _ + 1 ≤ _; omega)) rfl) ?_
    refine Ex.weak (Ex.cons (Ex1.assignT (ts := [.int (nr + -1), .int (fr + 1)]) (xs := ["near", "far"]) (Ev.tup (.cons rfl (Ev.bin (Ev.name rfl rfl).b (Ev.ix (o := .list [.int 1, .int (-1), .int 0]) (k := .int ((1 : Nat) : Int)) (EvN.list (.cons rfl Ev.cint (.cons rfl (Ev.neg Ev.cint) (.cons rfl Ev.cint .nil))) (by show 3 ≤ sizeLine; decide)).ev.b (Ev.name rfl rfl) rfl rfl).b BinOk.add_int) (.cons rfl (Ev.bin (Ev.name rfl rfl).b (Ev.ix (o := .list [.int 0, .int 1, .int (-1)]) (k := .int ((1 : Nat) : Int)) (EvN.list (.cons rfl Ev.cint (.cons rfl Ev.cint (.cons rfl (Ev.neg Ev.cint) .nil))) (by show 3 ≤ sizeLine; decide)).ev.b (Ev.name rfl rfl) rfl rfl).b BinOk.add_int) .nil)) (by show 2 ≤ sizeLine; decide)) rfl rfl rfl rfl rfl) Ex.nil) (Sub.cons rfl (Sub.cons rfl (Sub.cons rfl (Sub.one ?_))))
    show some (Var.sh (.str (wordS w ++ ⟨#[letter 1]⟩))) = _
    rw [wordS_snoc]
  · refine Ex.cons (Ex1.aug (a := .str (wordS w)) (b := .str ⟨#[letter 2]⟩) rfl rfl (Ev.ix (o := .str "fil") (k := .int ((2 : Nat) : Int)) Ev.cstr.b (Ev.name rfl rfl) rfl rfl).b (InOk.add_str (by show _ + 1 ≤ _; omega)) rfl) ?_
    refine Ex.weak (Ex.cons (Ex1.assignT (ts := [.int (nr + 0), .int (fr + -1)]) (xs := ["near", "far"]) (Ev.tup (.cons rfl (Ev.bin (Ev.name rfl rfl).b (Ev.ix (o := .list [.int 1, .int (-1), .int 0]) (k := .int ((2 : Nat) : Int)) (EvN.list (.cons rfl Ev.cint (.cons rfl (Ev.neg Ev.cint) (.cons rfl Ev.cint .nil))) (by show 3 ≤ sizeLine; decide)).ev.b (Ev.name rfl rfl) rfl rfl).b BinOk.add_int) (.cons rfl (Ev.bin (Ev.name rfl rfl).b (Ev.ix (o := .list [.int 0, .int 1, .int (-1)]) (k := .int ((2 : Nat) : Int)) (EvN.list (.cons rfl Ev.cint (.cons rfl Ev.cint (.cons rfl (Ev.neg Ev.cint) .nil))) (by show 3 ≤ sizeLine; decide)).ev.b (Ev.name rfl rfl) rfl rfl).b BinOk.add_int) .nil)) (by show 2 ≤ sizeLine; decide)) rfl rfl rfl rfl rfl) Ex.nil) (Sub.cons rfl (Sub.cons rfl (Sub.cons rfl (Sub.one ?_))))
    show some (Var.sh (.str (wordS w ++ ⟨#[letter 2]⟩))) = _
    rw [wordS_snoc]
end
end Mine
end

section
set_option autoImplicit false
set_option linter.unusedVariables false
set_option linter.unusedSimpArgs false
namespace Mine
open PySem PySem.Calls PyProof.Rows PySem.SeqAt PySem.Spec

/-- all words of n letters -/
def wordsOf : Nat → List (List Nat)
  | 0 => [[]]
  | n + 1 => (wordsOf n).flatMap fun w => [w ++ [0], w ++ [1], w ++ [2]]
theorem count_all : ∀ n ∈ [0, 1, 2, 3, 4], ∀ w ∈ wordsOf n, ∀ k ∈ [0, 1, 2], Txt.count (wordS w) ⟨#[letter k]⟩ = w.count k := by decide +kernel
/-- a word of at most four letters -/
def Good (w : List Nat) : Prop := w.length ≤ 4 ∧ ∀ k ∈ w, k < 3
theorem mem_words : ∀ (n : Nat) (w : List Nat), w.length = n → (∀ k ∈ w, k < 3) → w ∈ wordsOf n
  | 0, w, h, _ => by rw [List.length_eq_zero_iff.mp h]; simp [wordsOf]
  | n + 1, w, h, hk => by
    have hne : w ≠ [] := by intro e; rw [e] at h; simp at h
    have e := List.dropLast_concat_getLast hne
    rw [← e]
    refine List.mem_flatMap.mpr ⟨w.dropLast, mem_words n _ (by simp; omega) fun k hm => hk k ((List.dropLast_sublist w).subset hm), ?_⟩
    have := hk _ (List.getLast_mem hne)
    generalize w.getLast hne = x at this ⊢
    have := n3 x this
    rcases this with rfl | rfl | rfl <;> simp
theorem Good.mem {w : List Nat} (h : Good w) : w ∈ wordsOf w.length := mem_words _ w rfl h.2
theorem mem3 {k : Nat} (hk : k < 3) : k ∈ [0, 1, 2] := by
  have := n3 k hk
  rcases this with rfl | rfl | rfl <;> simp
theorem mem5 {k : Nat} (hk : k ≤ 4) : k ∈ [0, 1, 2, 3, 4] := by
  have := n5 k (Nat.lt_succ_of_le hk)
  rcases this with rfl | rfl | rfl | rfl | rfl <;> simp
theorem Good.count {w : List Nat} (h : Good w) {k : Nat} (hk : k < 3) : Txt.count (wordS w) ⟨#[letter k]⟩ = w.count k :=
  count_all w.length (mem5 h.1) w h.mem k (mem3 hk)

def growOne (word o : List Nat) : List (List Nat) := ([0, 1, 2].filter fun k => decide ((o.count k : Int) < word.count k)).map fun k => o ++ [k]
def ordStep (word : List Nat) (os : List (List Nat)) (_ : Nat) : List (List Nat) := os.flatMap (growOne word)
def ordersF (word : List Nat) : List (List Nat) := word.foldl (ordStep word) [[]]
def ordRho (word : List Nat) (os : List (List Nat)) : Rho := [("word", .sh (.str (wordS word))), ("orders", .sh (.list (os.map fun o => .str (wordS o))))]

theorem chars_word (w : List Nat) : charsL (wordS w) = w.map fun k => .str ⟨#[letter k]⟩ := by
  unfold charsL wordS
  simp

section
variable {c : Cx} {n : Nat} {ρ : Rho}
def OrdI (r : Nat) (os : List (List Nat)) : Prop := os.length * 3 ^ r ≤ 81 ∧ ∀ o ∈ os, o.length + r ≤ 4 ∧ ∀ k ∈ o, k < 3
theorem grow_len (word o : List Nat) : (growOne word o).length ≤ 3 := by
  unfold growOne
  rw [List.length_map]
  exact List.length_filter_le _ _
theorem ord_len (word : List Nat) : ∀ os : List (List Nat), (os.flatMap (growOne word)).length ≤ os.length * 3
  | [] => by simp
  | o :: os => by
    rw [List.flatMap_cons, List.length_append, List.length_cons]
    have := ord_len word os
    have := grow_len word o
    omega
theorem ord_step {word : List Nat} {os : List (List Nat)} {k r : Nat} (h : OrdI (r + 1) os) : OrdI r (ordStep word os k) := by
  refine ⟨?_, fun o ho => ?_⟩
  · have h1 := h.1
    have h2 := ord_len word os
    have h3 : (os.flatMap (growOne word)).length * 3 ^ r ≤ os.length * 3 * 3 ^ r := Nat.mul_le_mul_right _ h2
    rw [Nat.pow_succ, Nat.mul_comm (3 ^ r) 3, ← Nat.mul_assoc] at h1
    exact Nat.le_trans h3 h1
  · obtain ⟨o', ho', hg⟩ := List.mem_flatMap.mp ho
    obtain ⟨k', hk', rfl⟩ := List.mem_map.mp hg
    have hk3 : k' < 3 := by
      have := (List.mem_filter.mp hk').1
      simp at this; omega
    have := h.2 o' ho'
    refine ⟨by simp; omega, fun k hk => ?_⟩
    rcases List.mem_append.mp hk with h | h
    · exact this.2 k h
    · simp at h; omega

theorem orders_body (hT : Top c) {word : List Nat} (hw : Good word) : Ex (funCx c (fnScope PW 21)) n [("word", .sh (.str (wordS word)))] (fnBody PW 21) (.ret (.list ((ordersF word).map fun o => .str (wordS o))) false) := by
  have hz : (1000000 : Nat) ≤ sizeLine := by decide
  conv in (fnBody _ _) => whnf
  refine Ex.cons (Ex1.assign (t := .list [.str ""]) (EvN.list (.cons rfl Ev.cstr .nil) (by show 1 ≤ sizeLine; omega)).ev rfl rfl) ?_
  refine Ex.cons (ρ' := ordRho word (ordersF word)) (Ex1.for (EvI.str (x := wordS word) (Ev.name rfl rfl).b) rfl ?_) (Ex.ret (Ex1.ret (Ev.name rfl rfl)))
  rw [chars_word]
  refine Loops.foldI (ordRho word) (ordStep word) (fun k => .str ⟨#[letter k]⟩) OrdI word [[]] ⟨?_, fun o ho => ?_⟩ fun os k r hk hI => ⟨ord_step hI, putAll ["step"] [.str ⟨#[letter k]⟩] (ordRho word os), rfl, ?_⟩
  · have h1 := hw.1
    have : 3 ^ word.length ≤ 3 ^ 4 := Nat.pow_le_pow_right (by decide) h1
    simpa using this
  · simp at ho; subst ho; exact ⟨by simpa using hw.1, by simp⟩
  · have hlen : (ordStep word os k).length ≤ 81 := by
      have := (ord_step (k := k) (word := word) hI).1
      have h3 : 1 ≤ 3 ^ r := Nat.one_le_pow _ _ (by decide)
      exact Nat.le_trans (Nat.le_mul_of_pos_right _ h3) this
    refine Ex.weak (Ex.cons (Ex1.assignComp (l := os.map fun o => .str (wordS o)) (out := (ordStep word os k).map fun o => .str (wordS o)) rfl rfl (EvI.list (Ev.name rfl rfl).b) ?_ (by rw [List.length_map]; omega) rfl) Ex.nil) (Sub.cons rfl (Sub.one rfl))
    refine Turns.cast (l := os.map fun o => .str (wordS o)) (Turns.items (fun o => .str (wordS o)) (fun o => (growOne word o).map fun o' => .str (wordS o')) (fun _ => true) os fun o ho => ?_) rfl ?_
    · have hg : Good o := ⟨by have := (hI.2 o ho).1; omega, (hI.2 o ho).2⟩
      have hol : (wordS o).length ≤ 4 := by rw [wordS_len]; exact hg.1
      refine ⟨put "order" (.sh (.str (wordS o))) [("word", .sh (.str (wordS word)))], rfl, Sub.one rfl, .nil, fun _ => ?_⟩
      refine Tail.gen rfl rfl rfl (EvI.str (x := "fil") Ev.cstr.b) ?_
      refine Turns.cast (Turns.map2 (fun k => .str ⟨#[letter k]⟩) (fun k => .str (wordS (o ++ [k]))) (fun k => decide ((o.count k : Int) < word.count k)) rfl rfl [0, 1, 2] fun k' hk' => ?_) rfl ?_
      · have hk3 : k' < 3 := by simp at hk'; omega
        refine ⟨put "one" (.sh (.str ⟨#[letter k']⟩)) (put "order" (.sh (.str (wordS o))) [("word", .sh (.str (wordS word)))]), rfl, Sub.cons rfl (Sub.one rfl), ?_, fun _ => ?_⟩
        · refine EvT.cmp (a := .int (o.count k')) (b := .int (word.count k')) (hg.count hk3 ▸ Ev.countS (x := wordS o) (y := ⟨#[letter k']⟩) (Ev.name rfl rfl).b (Ev.name rfl rfl).b rfl rfl rfl).b (hw.count hk3 ▸ Ev.countS (x := wordS word) (y := ⟨#[letter k']⟩) (Ev.name rfl rfl).b (Ev.name rfl rfl).b rfl rfl rfl).b rfl rfl
        · rw [← wordS_snoc]
          exact Ev.bin (Ev.name rfl rfl).b (Ev.name rfl rfl).b (BinOk.add_str (by show _ + 1 ≤ _; omega))
      · unfold growOne
        rw [List.map_map]; rfl
    · rw [List.filter_eq_self.mpr (by simp)]
      unfold ordStep
      rw [List.map_flatMap]
end
end Mine
end

section
set_option autoImplicit false
set_option linter.unusedVariables false
set_option linter.unusedSimpArgs false
namespace Mine
open PySem PySem.Calls PyProof.Rows PySem.SeqAt

section
variable {c : Cx} {n : Nat} {ρ : Rho}

inductive DEach (c : Cx) (n : Nat) (ρ : Rho) : List (Option Expr) → List Expr → List (Str × Int) → Prop
  | nil : DEach c n ρ [] [] []
  | cons {k v : Expr} {ks : List (Option Expr)} {vs : List Expr} {x : Str} {i : Int} {l : List (Str × Int)} : Ev c n ρ k (.str x) → Ev c n ρ v (.int i) → DEach c n ρ ks vs l → DEach c n ρ (some k :: ks) (v :: vs) ((x, i) :: l)

inductive DVals : List (Value × Value) → List (Str × Int) → Prop
  | nil : DVals [] []
  | cons {x : Str} {i : Int} {t u : Tok} {vs : List (Value × Value)} {l : List (Str × Int)} : DVals vs l → DVals ((.str x t, .int i u) :: vs) ((x, i) :: l)

theorem DEach.len {ks : List (Option Expr)} {vs : List Expr} {l : List (Str × Int)} (h : DEach c n ρ ks vs l) : ks.all (·.isSome) = true ∧ ks.length = vs.length ∧ ks.length = l.length := by
  induction h with
  | nil => exact ⟨rfl, rfl, rfl⟩
  | cons _ _ _ ih => exact ⟨by simp [ih.1], by simp [ih.2.1], by simp [ih.2.2]⟩

theorem DEach.go {ks : List (Option Expr)} {vs : List Expr} {l : List (Str × Int)} (h : DEach c n ρ ks vs l) (pos : Pos) {A : Around} {env : Env} {M₀ : List Addr} {O : List (Str × Addr)} (rm : Room A n) :
    ∀ (s : Shared) (Q : List (Value × Value) → Shared → Prop), Rel c env M₀ O ρ s → (∀ ws s', Ext s s' → DVals ws l → Q ws s') → wpAny (model c.prog c.w) A (evalPairs (pairTrees ks vs env pos)) Q NoE s := by
  induction h with
  | nil => exact fun s Q R k => pairTrees_nil_walk (k [] s (Chg.refl _) .nil)
  | cons h1 h2 _ ih =>
    intro s Q R k
    refine pairTrees_cons_walk (h1.go rm R fun kv s₁ x₁ R₁ d₁ => h2.go rm R₁ fun vv s₂ x₂ R₂ d₂ => ih s₂ _ R₂ fun ws s₃ x₃ hw => ?_)
    obtain ⟨t, rfl⟩ := d₁.borrow.str
    obtain ⟨u, rfl⟩ := d₂.borrow.int
    exact k _ s₃ (Ext.trans x₁ (Ext.trans x₂ x₃)) (.cons hw)

theorem DVals.keys {vs : List (Value × Value)} {l : List (Str × Int)} (h : DVals vs l) : allStrKeys vs = true ∧ (strPairs vs).map (·.1) = l.map (·.1) := by
  induction h with
  | nil => exact ⟨rfl, rfl⟩
  | cons _ ih => exact ⟨ih.1, by simp [strPairs, ih.2]⟩

theorem SEnts.of {prog : Program} {w : World} {vs : List (Value × Value)} {l : List (Str × Int)} (h : DVals vs l) : ∀ {es : List DictEntry}, (∀ e ∈ es, ∃ k, (PySem.strKind prog w).is k e.key = true ∧ e.hash = (PySem.strKind prog w).hash k) → Pairs (PySem.strKind prog w) es (strPairs vs) → SEnts w l es := by
  induction h with
  | nil => intro es _ hp; cases hp; rfl
  | @cons x i t u vs l _ ih =>
    intro es hk hp
    cases hp with
    | @cons e kv es kvs h1 h2 h3 =>
      obtain ⟨k, hk1, hk2⟩ := hk e List.mem_cons_self
      have hx : k = x := (PySem.strKind prog w).inj e.key k x hk1 h1
      subst hx
      obtain ⟨t', ht⟩ := Value.isStrOf_shape (show Value.isStrOf k e.key = true from h1)
      exact ⟨e, es, rfl, hk2, ⟨t', ht⟩, ⟨u, h2⟩, ih (fun e' he' => hk e' (List.mem_cons_of_mem _ he')) h3⟩

/-- {str: int, ..} -/
theorem Ev.dictS {ks : List (Option Expr)} {vs : List Expr} {pos : Pos} {l : List (Str × Int)} (h : DEach c n ρ ks vs l) (h0 : l ≠ []) (h15 : l.length ≤ 15) (hn : (l.map (·.1)).Nodup) : Ev c n ρ (.Dict ks vs pos) (.sdict l) := .mk fun A s env M₀ O rm R => by
  obtain ⟨e1, e2, e3⟩ := h.len
  refine wpAny_Dict_walk (knd := PySem.strKind c.prog c.w) e1 e2 (by intro e; rw [e] at e3; exact h0 (List.length_eq_zero_iff.mp e3.symm)) (by lia) ?_
  have x0 : Ext s { s with heap := s.heap.push { cls := .type "dict", data := .dict #[] } } := Ext.push _ _
  have hd0 : ({ s with heap := s.heap.push { cls := .type "dict", data := .dict #[] } } : Shared).heap.DictOf (PySem.strKind c.prog c.w) s.heap.objs.size [] := Heap.DictOf.new s.heap
  refine h.go pos rm _ _ (R.ext x0) fun ws s₁ x₁ hw => ?_
  have hd1 := hd0.keep x₁.all
  refine display_done_str (hw.keys).1 (by rw [(hw.keys).2]; exact hn) hd1 fun h' hm hs => ?_
  obtain ⟨o, es, ep, ho, hex, hdt, hko, hp, hnd⟩ := hm
  have hsz : s₁.heap.objs.size ≤ h'.objs.size := Nat.le_of_eq hs.1.symm
  have x2 : Ext s { s₁ with heap := h', toks := s₁.toks + ws.length } := by
    have a : Chg [s.heap.objs.size] s₁ { s₁ with heap := h', toks := s₁.toks + ws.length } := sb_chg hs (Nat.le_add_right _ _)
    exact Chg.trans (Ext.trans x0 x₁) a fun b hb => .inr (by simp at hb; subst hb; exact Nat.le_refl _)
  refine ⟨x2, ?_⟩
  simp only [Den]
  refine ⟨s.heap.objs.size, es, ep, rfl, R.new (Nat.le_refl _), ?_, ?_, SEnts.of hw (fun e he => hko e (by simpa using he)) hp⟩
  · obtain ⟨m, hm, _⟩ := R.bas.lim
    have h1 : cStatics < c.H.objs.size := hm.lt
    have h2 := R.bas.size
    have h3 : sysModules < c.H.objs.size := Nat.lt_of_le_of_lt (by decide) h1
    have : s.heap.objs.size ≠ sysModules := Nat.ne_of_gt (Nat.lt_of_lt_of_le h3 h2)
    simpa using this
  · rw [ho]
    obtain ⟨cl, d, dt, sl⟩ := o
    obtain ⟨q1, q2, q3⟩ := hex
    dsimp only at q1 q2 q3 hdt
    subst q1 q2 q3 hdt
    rfl
end
end Mine
end

section
set_option autoImplicit false
set_option linter.unusedVariables false
set_option linter.unusedSimpArgs false
namespace Mine
open PySem PySem.Calls PyProof.Rows PySem.SeqAt PySem.Spec

def strL (l : List Nat) : Str := ⟨l.toArray⟩
theorem strL_snoc (l : List Nat) (q : Nat) : strL l ++ ⟨#[q]⟩ = strL (l ++ [q]) := by
  show (⟨l.toArray ++ #[q]⟩ : Str) = ⟨(l ++ [q]).toArray⟩
  simp
theorem strL_len (l : List Nat) : (strL l).length = l.length := by simp [strL, Str.length]

theorem nth_in {α : Type} {l : List α} {i : Int} (d : α) (h0 : 0 ≤ i) (h1 : i < l.length) (h2 : l.length < 1000000) : nth l i = some (l.getD i.toNat d) := by
  unfold nth
  have hs : small62 i = true := by unfold small62; simp; lia
  rw [if_pos hs]
  have hi : seqIndex? i l.length = some i.toNat := by
    unfold seqIndex?
    have : ¬ i < 0 := by lia
    simp only [this, if_false]
    rw [if_pos]
    simp; lia
  rw [hi]
  show l[i.toNat]? = _
  have hlt : i.toNat < l.length := by lia
  rw [List.getElem?_eq_getElem hlt, List.getD_eq_getElem?_getD, List.getElem?_eq_getElem hlt]; rfl
theorem bi_chr {i : Int} (h0 : 0 ≤ i) (h1 : i ≤ 1114111) : Mine.bi "chr" [.int i] = some (.str ⟨#[i.toNat]⟩) := by
  rw [bi_chr0]
  exact if_pos ⟨h0, h1⟩

def joinL : List (Str × Int) := [("ffi", 64259), ("ffl", 64260), ("ff", 64256), ("fi", 64257), ("fl", 64258)]
def noL : List Int := [173, 847, 6150, 6155, 6156, 6157, 8203, 8204, 8205, 8288, 65279]
def grL : List Int := [119808, 119860, 119912, 120016, 120172, 120224, 120276, 120328, 120380, 120432]
def scL : List (Str × Int) := [("f", 8497), ("i", 8464), ("l", 8466)]
def hidQ (seed : Int) : Int := if seed % 27 < 11 then noL.getD (seed % 27).toNat 0 else 65013 + seed % 27
def sliceW (w : List Nat) (p z : Int) : Str := Txt.slice (wordS w) (some p) (some (p + z))
def sizesF (w : List Nat) (odd : Bool) (p : Int) : List Int := [3, 2].filter fun z => odd && (joinL.lookup (sliceW w p z)).isSome
def styleQ (k : Nat) (st : Int) : Int := if st = 0 then letter k else if st = 1 then (letter k : Int) - 32 else if k = 0 then 8497 else if k = 1 then 8464 else 8466
def typedOne (w : List Nat) (seed : Int) (p : Nat) : Int :=
  let st := (seed / 2 + p) % 13
  if 2 < st then grL.getD (st - 3).toNat 0 + letter (w.getD p 0) - 97 else styleQ (w.getD p 0) st
def typedStep (w : List Nat) (seed : Int) (s : List Nat × Int) (p : Nat) : List Nat × Int :=
  let t1 := if (p : Int) = seed / 2 % 4 then s.1 ++ [(hidQ seed).toNat] else s.1
  if s.2 ≤ p then (match sizesF w (seed % 2 == 1) p with
    | z :: _ => (t1 ++ [((joinL.lookup (sliceW w p z)).getD 0).toNat], p + z)
    | [] => (t1 ++ [(typedOne w seed p).toNat], s.2))
  else (t1, s.2)
def typedF (w : List Nat) (seed : Int) : List Nat := ((List.range w.length).foldl (typedStep w seed) ([], 0)).1

theorem hid_ok (seed : Int) : 0 ≤ hidQ seed ∧ hidQ seed ≤ 1114111 := by
  have h1 := Int.emod_nonneg seed (b := 27) (by decide)
  have h2 := Int.emod_lt_of_pos seed (b := 27) (by decide)
  unfold hidQ
  split
  · have key : ∀ k : Nat, k < 11 → 0 ≤ noL.getD k 0 ∧ noL.getD k 0 ≤ 1114111 := by decide
    exact key _ (by lia)
  · lia
theorem gr_ok : ∀ k : Nat, k < 10 → 119808 ≤ grL.getD k 0 ∧ grL.getD k 0 ≤ 120432 := by decide
theorem letter_ok (k : Nat) : letter k = 102 ∨ letter k = 105 ∨ letter k = 108 := by
  unfold letter; split
  · simp
  · split <;> simp
theorem one_ok (w : List Nat) (seed : Int) (p : Nat) : 0 ≤ typedOne w seed p ∧ typedOne w seed p ≤ 1114111 := by
  have h1 := Int.emod_nonneg (seed / 2 + p) (b := 13) (by decide)
  have h2 := Int.emod_lt_of_pos (seed / 2 + p) (b := 13) (by decide)
  unfold typedOne
  dsimp only
  have hl := letter_ok (w.getD p 0)
  split
  · have := gr_ok ((seed / 2 + p) % 13 - 3).toNat (by lia)
    lia
  · unfold styleQ
    split
    · lia
    · split
      · lia
      · split
        · lia
        · split <;> lia
end Mine
end

section
set_option autoImplicit false
set_option linter.unusedVariables false
set_option linter.unusedSimpArgs false
namespace Mine
open PySem PySem.Calls PyProof.Rows PySem.SeqAt PySem.Spec

section
variable {c : Cx} {n : Nat} {ρ : Rho}
theorem Each.ints : ∀ {es : List Expr} {l : List Int}, litInts es = some l → Each c n ρ es (l.map .int)
  | [], _, h => by cases h; exact .nil
  | e :: es, _, h => by
    obtain ⟨i, p, q, ms, rfl, h2, rfl⟩ := litInts_cons h
    exact .cons rfl Ev.cint (Each.ints h2)

def typRho (w : List Nat) (seed : Int) (s : List Nat × Int) : Rho := [("word", .sh (.str (wordS w))), ("seed", .sh (.int seed)), ("joined", .sh (.sdict joinL)), ("nothing", .sh (.list (noL.map .int))), ("great", .sh (.list (grL.map .int))), ("typed", .sh (.str (strL s.1))), ("done", .sh (.int s.2))]

theorem ixT_str (x : Str) (i : Int) : ixT (.str x) (.int i) = (nth x.cps.toList i).map fun c => .str ⟨#[c]⟩ := rfl
theorem ixT_list (l : List T) (i : Int) : ixT (.list l) (.int i) = nth l i := rfl
theorem word_at {w : List Nat} {p : Nat} (hw : w.length = 4) (hp : p < 4) : ixT (.str (wordS w)) (.int p) = some (.str ⟨#[letter (w.getD p 0)]⟩) := by
  rw [ixT_str]
  have e : (wordS w).cps.toList = w.map letter := by simp [wordS]
  rw [e, nth_in 0 (by lia) (by rw [List.length_map]; lia) (by rw [List.length_map]; lia)]
  have : (p : Int).toNat = p := by simp
  rw [this]
  have e2 : (w.map letter).getD p 0 = letter (w.getD p 0) := by
    rw [List.getD_eq_getElem?_getD, List.getElem?_map, List.getD_eq_getElem?_getD, List.getElem?_eq_getElem (by lia)]; rfl
  rw [e2]; rfl

theorem list_at {l : List Int} {i : Int} (h0 : 0 ≤ i) (h1 : i < l.length) (h2 : l.length < 1000000) : ixT (.list (l.map .int)) (.int i) = some (.int (l.getD i.toNat 0)) := by
  rw [ixT_list, nth_in (.int 0) h0 (by rw [List.length_map]; exact h1) (by rw [List.length_map]; exact h2)]
  have hlt : i.toNat < l.length := by lia
  rw [List.getD_eq_getElem?_getD, List.getElem?_map, List.getD_eq_getElem?_getD, List.getElem?_eq_getElem hlt]; rfl

theorem typed_body (hT : Top c) {w : List Nat} {seed : Int} (hw : Good w) (h4 : w.length = 4) : Ex (funCx c (fnScope PW 22)) n [("word", .sh (.str (wordS w))), ("seed", .sh (.int seed))] (fnBody PW 22) (.ret (.str (strL (typedF w seed))) false) := by
  have hz : (1000000 : Nat) ≤ sizeLine := by decide
  have hwl : (wordS w).length = 4 := by rw [wordS_len]; exact h4
  conv in (fnBody _ _) => whnf
  refine Ex.cons (Ex1.assign (t := .sdict joinL) (Ev.dictS (.cons Ev.cstr Ev.cint (.cons Ev.cstr Ev.cint (.cons Ev.cstr Ev.cint (.cons Ev.cstr Ev.cint (.cons Ev.cstr Ev.cint .nil))))) (by simp [joinL]) (by decide) (by decide)) rfl rfl) ?_
  refine Ex.cons (Ex1.assign (t := .list (noL.map .int)) (EvN.list (Each.ints (l := noL) rfl) (by show 11 ≤ sizeLine; lia)).ev rfl rfl) ?_
  refine Ex.cons (Ex1.assign (t := .list (grL.map .int)) (EvN.list (Each.ints (l := grL) rfl) (by show 10 ≤ sizeLine; lia)).ev rfl rfl) ?_
  refine Ex.cons (Ex1.assignT (ts := [.str "", .int 0]) (xs := ["typed", "done"]) (Ev.tup (.cons rfl Ev.cstr (.cons rfl Ev.cint .nil)) (by show 2 ≤ sizeLine; lia)) rfl rfl rfl rfl rfl) ?_
  have hlen : Mine.bi "len" [.str (wordS w)] = some (.int 4) := by rw [bi_len (by lia), hwl]; rfl
  have hF : typedF w seed = ((List.range 4).foldl (typedStep w seed) ([], 0)).1 := by unfold typedF; rw [h4]
  rw [hF]
  refine Ex.cons (ρ' := typRho w seed ((List.range 4).foldl (typedStep w seed) ([], 0))) (Ex1.for (EvI.range (ts := [.int 4]) (q := (0, 4, 1)) (m := 4) rfl (hT.sub (sc := fnScope PW 22)).range (EachB.cons rfl (Ev.bi hT.sub rfl rfl (EachB.cons rfl (Ev.name rfl rfl).b .nil) (by simp) hlen rfl).b .nil) (by simp) rfl rfl) rfl ?_) (Ex.ret (Ex1.ret (Ev.name rfl rfl)))
  refine Loops.foldI (typRho w seed) (typedStep w seed) (fun p => .int (p : Nat)) (fun r s => s.1.length + 2 * r ≤ 8) (List.range 4) ([], 0) (by simp) fun s p r hp hI => ⟨?_, putAll ["place"] [.int p] (typRho w seed s), rfl, ?_⟩
  · unfold typedStep
    dsimp only
    split <;> (try split) <;> (try split) <;> simp <;> lia
  · have hp4 : p < 4 := by simpa using hp
    obtain ⟨t, dn⟩ := s
    have hI : t.length + 2 * (r + 1) ≤ 8 := hI
    have h13 : 0 ≤ (seed / 2 + p) % 13 ∧ (seed / 2 + p) % 13 < 13 := ⟨Int.emod_nonneg _ (by decide), Int.emod_lt_of_pos _ (by decide)⟩
    have h27 : 0 ≤ seed % 27 ∧ seed % 27 < 27 := ⟨Int.emod_nonneg _ (by decide), Int.emod_lt_of_pos _ (by decide)⟩
    have htl : (strL t).length ≤ 8 := by rw [strL_len]; lia
    -- the hidden sign
    refine Ex.cons (ρ' := putAll ["place"] [.int p] (typRho w seed (if (p : Int) = seed / 2 % 4 then t ++ [(hidQ seed).toNat] else t, dn))) (Ex1.ite (q := ((p : Int) == seed / 2 % 4)) (EvT.cmp (a := .int p) (b := .int (seed / 2 % 4)) (Ev.name rfl rfl).b (Ev.bin (Ev.bin (Ev.name rfl rfl).b Ev.cint.b (BinOk.div_int (by decide) (by decide))).b Ev.cint.b (BinOk.mod_int (by decide))).b rfl rfl) (fun h => ?_) (fun h => ?_)) ?_
    · rw [if_pos (by simpa using h)]
      refine Ex.weak (Ex.cons (Ex1.aug (a := .str (strL t)) (b := .str ⟨#[(hidQ seed).toNat]⟩) rfl rfl (Ev.bi hT.sub rfl rfl (EachB.cons rfl (Ev.ifexp (q := decide (seed % 27 < 11)) (r := .int (hidQ seed)) (EvT.cmp (a := .int (seed % 27)) (b := .int 11) (Ev.bin (Ev.name rfl rfl).b Ev.cint.b (BinOk.mod_int (by decide))).b Ev.cint.b rfl rfl) (fun h1 => ?_) (fun h1 => ?_)).b .nil) (by simp) (bi_chr (hid_ok seed).1 (hid_ok seed).2) rfl).b (InOk.add_str (by show _ + 1 ≤ _; lia)) rfl) Ex.nil) (Sub.cons rfl (Sub.cons rfl (Sub.cons rfl (Sub.cons rfl (Sub.cons rfl (Sub.cons ?_ (Sub.cons rfl (Sub.one rfl))))))))
      · have h1 := of_decide_eq_true h1
        have e : hidQ seed = noL.getD (seed % 27).toNat 0 := by unfold hidQ; rw [if_pos h1]
        rw [e]
        exact Ev.ix (o := .list (noL.map .int)) (k := .int (seed % 27)) (Ev.name rfl rfl).b (Ev.bin (Ev.name rfl rfl).b Ev.cint.b (BinOk.mod_int (by decide))) rfl (list_at h27.1 (by show _ < (11 : Int); exact h1) (by decide))
      · have h1 := of_decide_eq_false h1
        have e : hidQ seed = 65013 + seed % 27 := by unfold hidQ; rw [if_neg h1]
        rw [e]
        exact Ev.bin Ev.cint.b (Ev.bin (Ev.name rfl rfl).b Ev.cint.b (BinOk.mod_int (by decide))).b BinOk.add_int
      · show some (Var.sh (.str (strL t ++ ⟨#[(hidQ seed).toNat]⟩))) = _
        rw [strL_snoc]
    · rw [if_neg (by simpa using h)]
      exact Ex.nil
    have ht1 : (if (p : Int) = seed / 2 % 4 then t ++ [(hidQ seed).toNat] else t).length ≤ t.length + 1 := by split <;> simp
    have hst : typedStep w seed (t, dn) p = (let t1 := if (p : Int) = seed / 2 % 4 then t ++ [(hidQ seed).toNat] else t
      if dn ≤ p then (match sizesF w (seed % 2 == 1) p with
        | z :: _ => (t1 ++ [((joinL.lookup (sliceW w p z)).getD 0).toNat], p + z)
        | [] => (t1 ++ [(typedOne w seed p).toNat], dn))
      else (t1, dn)) := rfl
    rw [hst]
    generalize (if (p : Int) = seed / 2 % 4 then t ++ [(hidQ seed).toNat] else t) = t1 at ht1 ⊢
    dsimp only
    have ht1l : (strL t1).length ≤ 8 := by rw [strL_len]; lia
    -- sizes
    refine Ex.cons (Ex1.assignComp (l := [.int 3, .int 2]) (out := (sizesF w (seed % 2 == 1) p).map .int) rfl rfl (EvI.tup (Ev.tup (.cons rfl Ev.cint (.cons rfl Ev.cint .nil)) (by show 2 ≤ sizeLine; lia)).b) (Turns.cast (Turns.map2 .int .int (fun z => (seed % 2 == 1) && (joinL.lookup (sliceW w p z)).isSome) rfl rfl [3, 2] fun z hz => ⟨_, rfl, ?_, ?_, fun _ => Ev.name rfl rfl⟩) rfl rfl) (by rw [List.length_map]; exact Nat.le_trans (List.length_filter_le _ _) (by show 2 ≤ sizeLine; lia)) rfl) ?_
    · exact Sub.cons rfl (Sub.cons rfl (Sub.cons rfl (Sub.one rfl)))
    · refine EvT.and2 (EvT.cmp (a := .int (seed % 2)) (b := .int 1) (Ev.bin (Ev.name rfl rfl).b Ev.cint.b (BinOk.mod_int (by decide))).b Ev.cint.b rfl rfl) (EvT.cmp (a := .str (sliceW w p z)) (b := .sdict joinL) (Ev.sliceS (Ev.name rfl rfl).b (.yes (Ev.name rfl rfl)) (.yes (Ev.bin (Ev.name rfl rfl).b (Ev.name rfl rfl).b BinOk.add_int)) (by lia)).b (Ev.name rfl rfl).b rfl rfl)
    refine Ex.cons (Ex1.assign (t := .int ((seed / 2 + p) % 13)) (Ev.bin (Ev.bin (Ev.bin (Ev.name rfl rfl).b Ev.cint.b (BinOk.div_int (by decide) (by decide))).b (Ev.name rfl rfl).b BinOk.add_int).b Ev.cint.b (BinOk.mod_int (by decide))) rfl rfl) ?_
    have hsub : ∀ (t' : List Nat) (dn' : Int) (ρ' : Rho), ρ'.lookup ("word" : Str) = some (.sh (.str (wordS w))) → ρ'.lookup ("seed" : Str) = some (.sh (.int seed)) → ρ'.lookup ("joined" : Str) = some (.sh (.sdict joinL)) → ρ'.lookup ("nothing" : Str) = some (.sh (.list (noL.map .int))) → ρ'.lookup ("great" : Str) = some (.sh (.list (grL.map .int))) →
        ρ'.lookup ("typed" : Str) = some (.sh (.str (strL t'))) → ρ'.lookup ("done" : Str) = some (.sh (.int dn')) → Sub (typRho w seed (t', dn')) ρ' := fun t' dn' ρ' h1 h2 h3 h4 h5 h6 h7 => Sub.cons h1 (Sub.cons h2 (Sub.cons h3 (Sub.cons h4 (Sub.cons h5 (Sub.cons h6 (Sub.one h7))))))
    by_cases hd : dn ≤ (p : Int)
    · rw [if_pos hd]
      have hge : ∀ {ρ : Rho} {x y : Expr} {pos : Pos}, EvB (funCx c (fnScope PW 22)) n ρ x (.int p) → EvB (funCx c (fnScope PW 22)) n ρ y (.int dn) → notSet y = true → EvT (funCx c (fnScope PW 22)) n ρ (.Compare x [.GtE] [y] pos) true := fun hx hy hs => EvT.cmp (a := .int p) (b := .int dn) hx hy (by show some (decide _) = _; rw [decide_eq_true hd]) hs
      cases hzs : sizesF w (seed % 2 == 1) p with
      | cons z zs =>
        dsimp only
        have hmem : z ∈ sizesF w (seed % 2 == 1) p := by rw [hzs]; exact List.mem_cons_self
        have hjo : (joinL.lookup (sliceW w p z)).isSome = true := by
          have := (List.mem_filter.mp hmem).2
          simp only [Bool.and_eq_true] at this
          exact this.2
        obtain ⟨v, hv⟩ := Option.isSome_iff_exists.mp hjo
        have hzl : (z :: zs).length ≤ 2 := by rw [← hzs]; exact List.length_filter_le _ _
        have hix0 : ixT (.list ((z :: zs).map .int)) (.int 0) = some (.int z) := list_at (l := z :: zs) (i := 0) (by decide) (by simp) (by lia)
        rw [hv]
        have hvb : 0 ≤ v ∧ v ≤ 1114111 := by
          have key : ∀ p ∈ joinL, 0 ≤ p.2 ∧ p.2 ≤ 1114111 := by decide
          exact key _ (mem_of_lookup hv)
        refine Ex.weak (Ex.cons (Ex1.ite (q := true) (EvT.and2 (q := true) (r := true) (hge (Ev.name rfl rfl).b (Ev.name rfl rfl).b rfl) (EvT.cmp (a := .list ((z :: zs).map .int)) (b := .list []) (Ev.name rfl rfl).b (EvN.list .nil (by simp)).ev.b rfl rfl)) (fun _ => ?_) (fun h => by cases h)) Ex.nil) (hsub _ _ (put "done" (.sh (.int (p + z))) (put "typed" (.sh (.str (strL t1 ++ ⟨#[v.toNat]⟩))) (put "style" (.sh (.int ((seed / 2 + p) % 13))) (put "sizes" (.sh (.list ((z :: zs).map .int))) (putAll ["place"] [.int p] (typRho w seed (t1, dn))))))) rfl rfl rfl rfl rfl ?_ rfl)
        · refine Ex.cons (Ex1.aug (a := .str (strL t1)) (b := .str ⟨#[v.toNat]⟩) rfl rfl (Ev.bi hT.sub rfl rfl (EachB.cons rfl (Ev.ix (o := .sdict joinL) (k := .str (sliceW w p z)) (r := .int v) (Ev.name rfl rfl).b (Ev.sliceS (Ev.name rfl rfl).b (.yes (Ev.name rfl rfl)) (.yes (Ev.bin (Ev.name rfl rfl).b (Ev.ix (o := .list ((z :: zs).map .int)) (k := .int 0) (r := .int z) (Ev.name rfl rfl).b Ev.cint rfl hix0).b BinOk.add_int)) (by lia)) rfl ?_).b .nil) (by simp) (bi_chr hvb.1 hvb.2) rfl).b (InOk.add_str (by show _ + 1 ≤ _; lia)) rfl) ?_
          · show (joinL.lookup (sliceW w p z)).map T.int = _
            rw [hv]; rfl
          · exact Ex.cons (Ex1.assign (Ev.bin (Ev.name rfl rfl).b (Ev.ix (o := .list ((z :: zs).map .int)) (k := .int 0) (r := .int z) (Ev.name rfl rfl).b Ev.cint rfl hix0).b BinOk.add_int) rfl rfl) Ex.nil
        · show some (Var.sh (.str (strL t1 ++ ⟨#[v.toNat]⟩))) = _
          rw [strL_snoc]; rfl
      | nil =>
        dsimp only
        have hone := one_ok w seed p
        refine Ex.weak (Ex.cons (Ex1.ite (q := false) (EvT.and2 (q := true) (r := false) (hge (Ev.name rfl rfl).b (Ev.name rfl rfl).b rfl) (EvT.cmp (a := .list []) (b := .list []) (Ev.name rfl rfl).b (EvN.list .nil (by simp)).ev.b rfl rfl)) (fun h => by cases h) (fun _ => ?_)) Ex.nil) (hsub _ _ (put "typed" (.sh (.str (strL t1 ++ ⟨#[(typedOne w seed p).toNat]⟩))) (put "style" (.sh (.int ((seed / 2 + p) % 13))) (put "sizes" (.sh (.list [])) (putAll ["place"] [.int p] (typRho w seed (t1, dn)))))) rfl rfl rfl rfl rfl ?_ rfl)
        · by_cases h2 : 2 < (seed / 2 + p) % 13
          · have e1 : typedOne w seed p = grL.getD ((seed / 2 + p) % 13 - 3).toNat 0 + letter (w.getD p 0) - 97 := by unfold typedOne; rw [if_pos h2]
            refine Ex.cons (Ex1.ite (q := true) (EvT.and2 (q := true) (r := true) (hge (Ev.name rfl rfl).b (Ev.name rfl rfl).b rfl) (EvT.cmp (a := .int ((seed / 2 + p) % 13)) (b := .int 2) (Ev.name rfl rfl).b Ev.cint.b (by show some (decide _) = _; rw [decide_eq_true h2]) rfl)) (fun _ => ?_) (fun h => by cases h)) Ex.nil
            refine Ex.cons (Ex1.aug (a := .str (strL t1)) (b := .str ⟨#[(typedOne w seed p).toNat]⟩) rfl rfl (Ev.bi hT.sub rfl rfl (EachB.cons rfl ?_ .nil) (by simp) (bi_chr hone.1 hone.2) rfl).b (InOk.add_str (by show _ + 1 ≤ _; lia)) rfl) Ex.nil
            rw [e1]
            refine (Ev.bin (Ev.bin (Ev.ix (o := .list (grL.map .int)) (k := .int ((seed / 2 + p) % 13 - 3)) (Ev.name rfl rfl).b (Ev.bin (Ev.name rfl rfl).b Ev.cint.b BinOk.sub_int) rfl (list_at (by lia) (by show _ < (10 : Int); lia) (by decide))).b (Ev.bi hT.sub rfl rfl (EachB.cons rfl (Ev.ix (o := .str (wordS w)) (k := .int p) (Ev.name rfl rfl).b (Ev.name rfl rfl) rfl (word_at h4 hp4)).b .nil) (by simp) bi_ord rfl).b BinOk.add_int).b Ev.cint.b BinOk.sub_int).b
          · have e1 : typedOne w seed p = styleQ (w.getD p 0) ((seed / 2 + p) % 13) := by unfold typedOne; rw [if_neg h2]
            refine Ex.cons (Ex1.ite (q := false) (EvT.and2 (q := true) (r := false) (hge (Ev.name rfl rfl).b (Ev.name rfl rfl).b rfl) (EvT.cmp (a := .int ((seed / 2 + p) % 13)) (b := .int 2) (Ev.name rfl rfl).b Ev.cint.b (by show some (decide _) = _; rw [decide_eq_false h2]) rfl)) (fun h => by cases h) (fun _ => ?_)) Ex.nil
            refine Ex.cons (Ex1.ite (q := true) (hge (Ev.name rfl rfl).b (Ev.name rfl rfl).b rfl) (fun _ => ?_) (fun h => by cases h)) Ex.nil
            refine Ex.cons (Ex1.aug (a := .str (strL t1)) (b := .str ⟨#[(typedOne w seed p).toNat]⟩) rfl rfl (Ev.bi hT.sub rfl rfl (EachB.cons rfl ?_ .nil) (by simp) (bi_chr hone.1 hone.2) rfl).b (InOk.add_str (by show _ + 1 ≤ _; lia)) rfl) Ex.nil
            rw [e1]
            have hk3 : w.getD p 0 < 3 := by
              rw [List.getD_eq_getElem?_getD, List.getElem?_eq_getElem (by lia)]
              exact hw.2 _ (List.getElem_mem _)
            have hwat := word_at h4 hp4
            have hs : (seed / 2 + p) % 13 = 0 ∨ (seed / 2 + p) % 13 = 1 ∨ (seed / 2 + p) % 13 = 2 := iLt3 h13.1 (by lia)
            have hsc : (scL.lookup ⟨#[letter (w.getD p 0)]⟩).map T.int = some (.int (if w.getD p 0 = 0 then 8497 else if w.getD p 0 = 1 then 8464 else 8466)) := by
              have : w.getD p 0 = 0 ∨ w.getD p 0 = 1 ∨ w.getD p 0 = 2 := n3 _ hk3
              rcases this with h | h | h <;> rw [h] <;> rfl
            have hix : ixT (.list [.int (letter (w.getD p 0)), .int ((letter (w.getD p 0) : Int) - 32), .int (if w.getD p 0 = 0 then 8497 else if w.getD p 0 = 1 then 8464 else 8466)]) (.int ((seed / 2 + p) % 13)) = some (.int (styleQ (w.getD p 0) ((seed / 2 + p) % 13))) := by
              rcases hs with h | h | h <;> rw [h] <;> rfl
            refine (Ev.ix (EvN.list (.cons rfl (Ev.bi hT.sub rfl rfl (EachB.cons rfl (Ev.ix (o := .str (wordS w)) (k := .int p) (Ev.name rfl rfl).b (Ev.name rfl rfl) rfl hwat).b .nil) (by simp) bi_ord rfl) (.cons rfl (Ev.bin (Ev.bi hT.sub rfl rfl (EachB.cons rfl (Ev.ix (o := .str (wordS w)) (k := .int p) (Ev.name rfl rfl).b (Ev.name rfl rfl) rfl hwat).b .nil) (by simp) bi_ord rfl).b Ev.cint.b BinOk.sub_int) (.cons rfl (Ev.ix (o := .sdict scL) (k := .str ⟨#[letter (w.getD p 0)]⟩) (Ev.dictS (.cons Ev.cstr Ev.cint (.cons Ev.cstr Ev.cint (.cons Ev.cstr Ev.cint .nil))) (by simp [scL]) (by decide) (by decide)).b (Ev.ix (o := .str (wordS w)) (k := .int p) (Ev.name rfl rfl).b (Ev.name rfl rfl) rfl hwat) rfl hsc) .nil))) (by show 3 ≤ sizeLine; lia)).ev.b (Ev.name rfl rfl) rfl hix).b
        · show some (Var.sh (.str (strL t1 ++ ⟨#[(typedOne w seed p).toNat]⟩))) = _
          rw [strL_snoc]
    · rw [if_neg hd]
      have hlt : ∀ {ρ : Rho} {x y : Expr} {pos : Pos}, EvB (funCx c (fnScope PW 22)) n ρ x (.int p) → EvB (funCx c (fnScope PW 22)) n ρ y (.int dn) → notSet y = true → EvT (funCx c (fnScope PW 22)) n ρ (.Compare x [.GtE] [y] pos) false := fun hx hy hs => EvT.cmp (a := .int p) (b := .int dn) hx hy (by show some (decide _) = _; rw [decide_eq_false (by lia)]) hs
      refine Ex.weak (Ex.cons (Ex1.ite (q := false) (EvT.boolop (.andF (hlt (Ev.name rfl rfl).b (Ev.name rfl rfl).b rfl))) (fun h => by cases h) (fun _ => ?_)) Ex.nil) (hsub _ _ (put "style" (.sh (.int ((seed / 2 + p) % 13))) (put "sizes" (.sh (.list ((sizesF w (seed % 2 == 1) p).map .int))) (putAll ["place"] [.int p] (typRho w seed (t1, dn))))) rfl rfl rfl rfl rfl rfl rfl)
      refine Ex.cons (Ex1.ite (q := false) (EvT.boolop (.andF (hlt (Ev.name rfl rfl).b (Ev.name rfl rfl).b rfl))) (fun h => by cases h) (fun _ => ?_)) Ex.nil
      exact Ex.cons (Ex1.ite (q := false) (hlt (Ev.name rfl rfl).b (Ev.name rfl rfl).b rfl) (fun h => by cases h) (fun _ => Ex.nil)) Ex.nil
end
end Mine
end

section
set_option autoImplicit false
set_option linter.unusedVariables false
set_option linter.unusedSimpArgs false
namespace Mine
open PySem PySem.Calls PyProof.Rows PySem.SeqAt PySem.Spec

/-! _law_prepared -/
def okSign (q : Nat) : Bool := b1S q || (b3Ok q && decide ((b3F q).length ≤ 4))
def prepF (l : List Nat) : Str := Txt.join "" ((l.filter fun (q : Nat) => !b1S q).map b3F)
theorem chars_strL (l : List Nat) : charsL (strL l) = l.map fun q => .str ⟨#[q]⟩ := by
  unfold charsL strL
  simp

section
variable {c : Cx} {n : Nat} {ρ : Rho}
theorem prep_body (hT : Top c) {l : List Nat} (hl : l.length ≤ 1000) (hq : ∀ q ∈ l, okSign q = true) : Ex (funCx c (fnScope PW 23)) (n + 1) [("text", .sh (.str (strL l)))] (fnBody PW 23) (.ret (.str (prepF l)) false) := by
  have hz : (1000000 : Nat) ≤ sizeLine := by decide
  conv in (fnBody _ _) => whnf
  have hlen : ((l.filter fun (q : Nat) => !b1S q).map b3F).length ≤ 1000 := by
    rw [List.length_map]; exact Nat.le_trans (List.length_filter_le _ _) hl
  have hb3 : ∀ q ∈ l, b1S q = false → b3Ok q = true ∧ (b3F q).length ≤ 4 := fun q h1 h2 => by
    have := hq q h1
    unfold okSign at this
    rw [h2] at this
    simpa using this
  refine Ex.ret (Ex1.ret (Ev.joinS (l := (l.filter fun (q : Nat) => !b1S q).map b3F) Ev.cstr.b ?_ rfl rfl rfl ?_))
  · refine (EvN.comp (l := charsL (strL l)) (out := ((l.filter fun (q : Nat) => !b1S q).map b3F).map .str) rfl rfl (EvI.str (Ev.name rfl rfl).b) ?_ (by rw [List.length_map]; lia)).ev.b
    rw [chars_strL]
    refine Turns.cast (Turns.map2 (fun q => .str ⟨#[q]⟩) (fun q => .str (b3F q)) (fun (q : Nat) => !b1S q) rfl rfl l fun q hm => ⟨_, rfl, Sub.nil, ?_, fun hp => ?_⟩) rfl (by rw [List.map_map]; rfl)
    · exact EvT.not (EvT.val (Ev.fn 16 hT.sub.comp rfl rfl (.cons rfl (Ev.name rfl rfl) .nil) (by simp) (b1_ok hT.sub.comp)) rfl)
    · exact Ev.fn 18 hT.sub.comp rfl rfl (.cons rfl (Ev.name rfl rfl) .nil) (by simp) (b3_ok hT.sub.comp (hb3 q hm (by simpa using hp)).1)
  · have h4 := sum_le (l := ((l.filter fun (q : Nat) => !b1S q).map b3F).map (·.length)) (k := 4) fun y hy => by
      obtain ⟨z, hz, rfl⟩ := List.mem_map.mp hy
      obtain ⟨q, hq, rfl⟩ := List.mem_map.mp hz
      obtain ⟨h1, h2⟩ := List.mem_filter.mp hq
      exact (hb3 q h1 (by simpa using h2)).2
    rw [List.length_map] at h4
    have h0 : ("" : Str).length = 0 := rfl
    rw [h0, Nat.mul_zero]
    lia

theorem prep_ok (hT : Top c) {l : List Nat} (hl : l.length ≤ 1000) (hq : ∀ q ∈ l, okSign q = true) : FnV c (n + 2) 23 [.str (strL l)] (.str (prepF l)) := fun a hf => by
  refine FOk.of (n := n + 1) (xs := ["text"]) hf ?_ (prep_body hT hl hq)
  exact .one fun _ _ _ _ _ _ _ _ _ _ _ _ _ => rfl
theorem typed_ok (hT : Top c) {w : List Nat} {seed : Int} (hw : Good w) (h4 : w.length = 4) : FnV c (n + 1) 22 [.str (wordS w), .int seed] (.str (strL (typedF w seed))) := fun a hf => by
  refine FOk.of (n := n) (xs := ["word", "seed"]) hf ?_ (typed_body hT hw h4)
  exact .two fun _ _ _ _ _ _ _ _ _ _ _ _ _ _ => rfl
theorem orders_ok (hT : Top c) {word : List Nat} (hw : Good word) : FnV c (n + 1) 21 [.str (wordS word)] (.list ((ordersF word).map fun o => .str (wordS o))) := fun a hf => by
  refine FOk.of (n := n) (xs := ["word"]) hf ?_ (orders_body hT hw)
  exact .one fun _ _ _ _ _ _ _ _ _ _ _ _ _ => rfl
theorem draw_ok (hT : Top c) {ws : List Int} {near far : Int} (hl : ws.length ≤ 1000) : FnV c (n + 1) 20 [.list (ws.map .int), .int near, .int far] (.str (wordS (drawF ws near far))) := fun a hf => by
  refine FOk.of (n := n) (xs := ["wishes", "near", "far"]) hf ?_ (draw_body hT hl)
  exact .three fun _ _ _ _ _ _ _ _ _ _ _ _ _ _ _ => rfl

/-! _law_ways -/
def wayStep (s : Int × Int) (k : Nat) : Int × Int := ((s.1 * (s.2 + 1)) / ((k : Int) + 1), s.2 + 1)
def wayPart (s : Int × Int) (part : Int) : Int × Int := (List.range part.toNat).foldl wayStep s
def min3 (a b d : Int) : Int := [b, d].foldl (fun x y => if decide (y < x) then y else x) a
def waysF (a b d : Int) : Int := ([a, b, d].foldl wayPart (if min3 a b d ≥ 0 then 1 else 0, 0)).1
end
end Mine
end

section
set_option autoImplicit false
set_option linter.unusedVariables false
set_option linter.unusedSimpArgs false
namespace Mine
open PySem PySem.Calls PyProof.Rows PySem.SeqAt PySem.Spec

theorem rangeL_eq : ∀ (m : Nat) (a : Int), rangeL a 1 m = (List.range m).map fun (k : Nat) => T.int (a + k)
  | 0, a => rfl
  | m + 1, a => by
    show T.int a :: rangeL (a + 1) 1 m = _
    rw [rangeL_eq m (a + 1), List.range_succ_eq_map, List.map_cons, List.map_map]
    congr 1
    · congr 1; lia
    · refine List.map_congr_left fun k _ => ?_
      show T.int (a + 1 + k) = T.int (a + ((k + 1 : Nat) : Int))
      congr 1; push_cast; lia
theorem rangeL0 (m : Nat) : rangeL 0 1 m = (List.range m).map fun (k : Nat) => T.int k := by
  rw [rangeL_eq]
  refine List.map_congr_left fun k _ => ?_
  show T.int (0 + (k : Int)) = T.int k
  rw [Int.zero_add]
theorem rangeN_all : ∀ k : Nat, k < 201 → rangeN (0, (k : Int) - 100, 1) = some ((k : Int) - 100).toNat := by decide +kernel
theorem rangeN_ok {part : Int} (h0 : -100 ≤ part) (h1 : part ≤ 100) : rangeN (0, part, 1) = some part.toNat := by
  have := rangeN_all (part + 100).toNat (by lia)
  have e : ((part + 100).toNat : Int) - 100 = part := by lia
  rwa [e] at this

def JW (r : Nat) (s : Int × Int) : Prop := s.1 = 0 ∨ (s.1.natAbs * 9 ^ r ≤ 9 ^ 8 ∧ 0 ≤ s.2 ∧ s.2 + r ≤ 8)
theorem JW.lt {r : Nat} {s : Int × Int} (h : JW r s) : s.1.natAbs < 2 ^ 64 := by
  rcases h with h | h
  · rw [h]; decide
  · have h3 : 1 ≤ 9 ^ r := Nat.one_le_pow _ _ (by decide)
    have := Nat.le_trans (Nat.le_mul_of_pos_right s.1.natAbs h3) h.1
    have h2 : (9 : Nat) ^ 8 < 2 ^ 64 := by decide
    lia
theorem JW.step {r : Nat} {s : Int × Int} {k : Nat} (h : JW (r + 1) s) : JW r (wayStep s k) := by
  unfold wayStep
  rcases h with h | ⟨h1, h2, h3⟩
  · left; dsimp only; rw [h]; simp
  · right
    refine ⟨?_, by dsimp only; lia, by dsimp only; push_cast at h3; lia⟩
    dsimp only
    have e1 : ((s.1 * (s.2 + 1)) / ((k : Int) + 1)).natAbs ≤ (s.1 * (s.2 + 1)).natAbs := Int.natAbs_ediv_le_natAbs _ _
    have e2 : (s.1 * (s.2 + 1)).natAbs = s.1.natAbs * (s.2 + 1).natAbs := Int.natAbs_mul _ _
    have e3 : (s.2 + 1).natAbs ≤ 9 := by push_cast at h3; lia
    have e4 : s.1.natAbs * (s.2 + 1).natAbs ≤ s.1.natAbs * 9 := Nat.mul_le_mul_left _ e3
    rw [Nat.pow_succ, Nat.mul_comm (9 ^ r) 9, ← Nat.mul_assoc] at h1
    exact Nat.le_trans (Nat.mul_le_mul_right _ (by lia)) h1
theorem JW.fold {r : Nat} : ∀ (l : List Nat) (s : Int × Int), JW (l.length + r) s → JW r (l.foldl wayStep s)
  | [], s, h => by simpa using h
  | k :: l, s, h => JW.fold l _ (JW.step (by rw [List.length_cons] at h; rwa [Nat.add_right_comm] at h))

theorem bi_minL {a b d : Int} : Mine.bi "min" [.list [.int a, .int b, .int d]] = some (.int (min3 a b d)) := by
  rfl

def wayRho (a b d : Int) (s : Int × Int) : Rho := [("parts", .sh (.list [.int a, .int b, .int d])), ("ways", .sh (.int s.1)), ("count", .sh (.int s.2))]

section
variable {c : Cx} {n : Nat} {ρ : Rho}
def wayLoop : List Stmt := match (fnBody PW 26)[2]? with
  | some (Stmt.For _ _ b _ _) => b
  | _ => []
theorem ways_turn (hT : Top c) {a b d part : Int} {s : Int × Int} {r : Nat} (hp : -100 ≤ part ∧ part ≤ 100) (hJ : JW (part.toNat + r) s) : Ex (funCx c (fnScope PW 26)) n (putAll ["part"] [.int part] (wayRho a b d s)) wayLoop (.next (wayRho a b d (wayPart s part))) := by
  conv in wayLoop => whnf
  refine Ex.weak (ρ' := putAll ["part"] [.int part] (wayRho a b d (wayPart s part))) (Ex.cons (Ex1.for (EvI.range (ts := [.int part]) (q := (0, part, 1)) (m := part.toNat) rfl (hT.sub (sc := fnScope PW 26)).range (EachB.cons rfl (Ev.name rfl rfl).b .nil) (by simp) rfl (rangeN_ok hp.1 hp.2)) rfl ?_) Ex.nil) (Sub.cons rfl (Sub.cons rfl (Sub.one rfl)))
  show Loops _ _ _ _ _ (rangeL 0 1 part.toNat) _
  rw [rangeL0]
  refine Loops.foldI (fun s => putAll ["part"] [.int part] (wayRho a b d s)) wayStep (fun (k : Nat) => T.int k) (fun k s => JW (k + r) s) (List.range part.toNat) s (by rw [List.length_range]; exact hJ) fun s k q hk hI => ⟨JW.step (by rwa [Nat.add_right_comm] at hI), putAll ["step"] [.int k] (putAll ["part"] [.int part] (wayRho a b d s)), rfl, ?_⟩
  have hk2 : k < 100 + 1 := by have := List.mem_range.mp hk; lia
  refine Ex.weak (Ex.cons (Ex1.aug (a := .int s.2) (b := .int 1) rfl rfl Ev.cint.b InOk.add_int rfl) (Ex.cons (Ex1.assign (t := .int ((s.1 * (s.2 + 1)) / ((k : Int) + 1))) (Ev.bin (Ev.bin (Ev.name rfl rfl).b (Ev.name rfl rfl).b (BinOk.mul_int hI.lt)).b (Ev.bin (Ev.name rfl rfl).b Ev.cint.b BinOk.add_int).b (BinOk.div_int (by lia) (by lia))) rfl rfl) Ex.nil)) (Sub.cons rfl (Sub.cons rfl (Sub.cons rfl (Sub.one rfl))))

theorem ways_body (hT : Top c) {a b d : Int} (ha : -100 ≤ a ∧ a ≤ 100) (hb : -100 ≤ b ∧ b ≤ 100) (hd : -100 ≤ d ∧ d ≤ 100) (hJ : min3 a b d < 0 ∨ (0 ≤ a ∧ 0 ≤ b ∧ 0 ≤ d ∧ a + b + d ≤ 8)) : Ex (funCx c (fnScope PW 26)) n [("parts", .sh (.list [.int a, .int b, .int d]))] (fnBody PW 26) (.ret (.int (waysF a b d)) false) := by
  conv in (fnBody _ _) => whnf
  obtain ⟨w0, hw0⟩ : ∃ w0 : Int, w0 = if min3 a b d ≥ 0 then 1 else 0 := ⟨_, rfl⟩
  have hF : waysF a b d = (wayPart (wayPart (wayPart (w0, 0) a) b) d).1 := by unfold waysF; rw [hw0]; rfl
  rw [hF]
  have hJ0 : JW (a.toNat + (b.toNat + (d.toNat + 0))) (w0, 0) := by
    rcases hJ with h | ⟨h1, h2, h3, h4⟩
    · left; rw [hw0]; rw [if_neg (by lia)]
    · right
      refine ⟨?_, Int.le_refl 0, by push_cast; lia⟩
      have : w0.natAbs ≤ 1 := by rw [hw0]; split <;> decide
      have h5 : (9 : Nat) ^ (a.toNat + (b.toNat + (d.toNat + 0))) ≤ 9 ^ 8 := Nat.pow_le_pow_right (by decide) (by lia)
      calc w0.natAbs * 9 ^ _ ≤ 1 * 9 ^ 8 := Nat.mul_le_mul this h5
        _ = 9 ^ 8 := Nat.one_mul _
  refine Ex.cons (Ex1.assign (t := .int w0) (Ev.ifexp (q := decide (min3 a b d ≥ 0)) (EvT.cmp (a := .int (min3 a b d)) (b := .int 0) (Ev.bi hT.sub rfl rfl (EachB.cons rfl (Ev.name rfl rfl).b .nil) (by simp) bi_minL rfl).b Ev.cint.b rfl rfl) (fun h => ?_) (fun h => ?_)) rfl rfl) ?_
  · rw [hw0, if_pos (of_decide_eq_true h)]; exact Ev.cint
  · rw [hw0, if_neg (of_decide_eq_false h)]; exact Ev.cint
  refine Ex.cons (Ex1.assign (t := .int 0) Ev.cint rfl rfl) ?_
  have hJ1 := JW.fold (List.range a.toNat) (w0, 0) (by rw [List.length_range]; exact hJ0)
  have hJ2 := JW.fold (List.range b.toNat) _ (by rw [List.length_range]; exact hJ1)
  have hJ3 := JW.fold (List.range d.toNat) _ (by rw [List.length_range]; exact hJ2)
  refine Ex.cons (ρ' := wayRho a b d (wayPart (wayPart (wayPart (w0, 0) a) b) d)) (Ex1.for (EvI.listF (l := [.int a, .int b, .int d]) (Ev.name rfl rfl)) rfl ?_) (Ex.ret (Ex1.ret (Ev.name rfl rfl)))
  refine Loops.next (ρ₁ := putAll ["part"] [.int a] (wayRho a b d (w0, 0))) (ρ₂ := wayRho a b d (wayPart (w0, 0) a)) rfl ?_ (Loops.next (ρ₁ := putAll ["part"] [.int b] (wayRho a b d (wayPart (w0, 0) a))) (ρ₂ := wayRho a b d (wayPart (wayPart (w0, 0) a) b)) rfl ?_ (Loops.next (ρ₁ := putAll ["part"] [.int d] (wayRho a b d (wayPart (wayPart (w0, 0) a) b))) (ρ₂ := wayRho a b d (wayPart (wayPart (wayPart (w0, 0) a) b) d)) rfl ?_ .nil))
  · exact ways_turn hT ha hJ0
  · exact ways_turn hT hb hJ1
  · exact ways_turn hT hd hJ2

theorem ways_ok (hT : Top c) {a b d : Int} (ha : -100 ≤ a ∧ a ≤ 100) (hb : -100 ≤ b ∧ b ≤ 100) (hd : -100 ≤ d ∧ d ≤ 100) (hJ : min3 a b d < 0 ∨ (0 ≤ a ∧ 0 ≤ b ∧ 0 ≤ d ∧ a + b + d ≤ 8)) : FnV c (n + 1) 26 [.list [.int a, .int b, .int d]] (.int (waysF a b d)) := fun x hf => by
  refine FOk.of (n := n) (xs := ["parts"]) hf ?_ (ways_body hT ha hb hd hJ)
  exact .one fun _ _ _ _ _ _ _ _ _ _ _ _ _ => rfl
end
end Mine
end

section
set_option autoImplicit false
set_option linter.unusedVariables false
set_option linter.unusedSimpArgs false
namespace Mine
open PySem PySem.Calls PyProof.Rows PySem.SeqAt PySem.Spec

/-! _law_stays -/
def bump (v : Int × Int × Int) (k : Nat) : Int × Int × Int := if k = 0 then (v.1 + 1, v.2.1, v.2.2) else if k = 1 then (v.1, v.2.1 + 1, v.2.2) else (v.1, v.2.1, v.2.2 + 1)
def cold (v : Int × Int × Int) : Bool := decide (v.2.1 ≤ v.1) && decide (v.2.2 ≤ v.2.1)
def stayStep (v : Int × Int × Int) (k : Nat) : Option (Int × Int × Int) := if cold (bump v k) = true then some (bump v k) else none
def stayF (w : List Nat) (v : Int × Int × Int) : Bool := (w.foldlM stayStep v).isSome
def hotF (p : UInt64 × UInt64 × UInt64) : Bool := Float64.cmpInt (Float64.mul p.1 (Float64.ofInt 6)) 1 == some .gt
def stayOne (v : Int × Int × Int) : Bool := match toHsv (fdivI v.1 32) (fdivI v.2.1 32) (fdivI v.2.2 32) with
  | some p => hotF p == !cold v
  | none => false
/-- what a colour's hue tells is what whole numbers tell -/
def StayOk (v : Int × Int × Int) : Prop := (0 ≤ v.1 ∧ v.1 ≤ 40) ∧ (0 ≤ v.2.1 ∧ v.2.1 ≤ 40) ∧ (0 ≤ v.2.2 ∧ v.2.2 ≤ 40) ∧ stayOne v = true
theorem inf_all : ∀ k : Nat, k < 41 → Float64.isInf (fdivI k 32) = false := by decide +kernel
theorem inf_ok {i : Int} (h : 0 ≤ i ∧ i ≤ 40) : Float64.isInf (fdivI i 32) = false := by
  have := inf_all i.toNat (by omega)
  rwa [show ((i.toNat : Nat) : Int) = i by omega] at this
def vT (v : Int × Int × Int) : T := .list [.int v.1, .int v.2.1, .int v.2.2]
def stayRho (w : List Nat) (v : Int × Int × Int) : Rho := [("word", .sh (.str (wordS w))), ("votes", .sh (vT v))]
/-- v can be reached from v0 with r votes to come -/
def Reach (P : Int × Int × Int → Prop) : Nat → (Int × Int × Int) → Prop
  | 0, _ => True
  | r + 1, v => ∀ k, k < 3 → P (bump v k) ∧ Reach P r (bump v k)

section
variable {c : Cx} {n : Nat} {ρ : Rho}
theorem Loops.foldMI {σ α : Type} (R : σ → Rho) (f : σ → α → Option σ) (g : α → T) (r : T) (b : Bool) (I : Nat → σ → Prop) {target : Expr} {body : List Stmt} : ∀ (l : List α) (s : σ), I l.length s → (∀ s a k, a ∈ l → I (k + 1) s → (∀ s', f s a = some s' → I k s') ∧ ∃ ρ₁, bindT c target (g a) (R s) = some ρ₁ ∧ StepOk c n R r b ρ₁ body (f s a)) →
    Loops c n target body (R s) (l.map g) (outM R r b (l.foldlM f s))
  | [], s, _, _ => .nil
  | a :: l, s, hi, h => by
    obtain ⟨h0, ρ₁, h1, h2⟩ := h s a l.length List.mem_cons_self hi
    rw [List.foldlM_cons]
    cases hf : f s a with
    | none =>
      rw [hf] at h2
      exact .ret h1 h2
    | some s' =>
      rw [hf] at h2
      exact .next h1 h2 (Loops.foldMI R f g r b I l s' (h0 s' hf) fun s b k hb => h s b k (List.mem_cons_of_mem _ hb))

def stayLoop : List Stmt := match (fnBody PW 25)[0]? with
  | some (Stmt.For _ _ b _ _) => b
  | _ => []
def stayTest : Expr := match stayLoop[1]? with
  | some (Stmt.If t _ _ _) => t
  | _ => default
theorem small_lt {i : Int} (h : i.natAbs < 2 ^ 100) : i.natAbs < 2 ^ 1023 := Nat.lt_of_lt_of_le h (Nat.pow_le_pow_right (by decide) (by decide))
theorem six_lt : (6 : Int).natAbs < 2 ^ 1023 := small_lt (by decide)
theorem one_eq : ∀ j < 3, ∀ k < 3, ((⟨#[letter j]⟩ : Str) == ⟨#[letter k]⟩) = (j == k) := by decide
theorem ix3 {a b c : Int} : ∀ j : Nat, j < 3 → ixT (.list [.int a, .int b, .int c]) (.int (j : Int)) = some (.int (if j = 0 then a else if j = 1 then b else c)) := by
  intro j hj
  rcases n3 j hj with rfl | rfl | rfl <;> rfl
theorem fil_at {k : Nat} (hk : k < 3) : ixT (.str "fil") (.int k) = some (.str ⟨#[letter k]⟩) := by
  have := n3 k hk
  rcases this with rfl | rfl | rfl <;> rfl

theorem stay_turn (hT : Top c) {w : List Nat} {v : Int × Int × Int} {k : Nat} (hk : k < 3) (hok : StayOk (bump v k)) : StepOk (funCx c (fnScope PW 25)) (n + 1) (stayRho w) (.bool false) false (putAll ["one"] [.str ⟨#[letter k]⟩] (stayRho w v)) stayLoop (stayStep v k) := by
  have hz : (3 : Nat) ≤ sizeLine := by decide
  conv in stayLoop => whnf
  obtain ⟨h1, h2, h3, h4⟩ := hok
  unfold stayOne at h4
  have hvk : ∀ j : Nat, j < 3 → ixT (vT v) (.int (j : Int)) = some (.int (if j = 0 then v.1 else if j = 1 then v.2.1 else v.2.2)) := by
    exact ix3
  have hbump : ([0, 1, 2].map fun j => T.int ((if j = 0 then v.1 else if j = 1 then v.2.1 else v.2.2) + (if k = j then 1 else 0))) = [.int (bump v k).1, .int (bump v k).2.1, .int (bump v k).2.2] := by
    have := n3 k hk
    rcases this with rfl | rfl | rfl <;> simp [bump]
  have st1 : ∀ {rest : List Stmt} {o : Out}, Ex (funCx c (fnScope PW 25)) (n + 1) (put "votes" (.sh (vT (bump v k))) (putAll ["one"] [.str ⟨#[letter k]⟩] (stayRho w v))) (stayLoop.drop 1) o → Ex (funCx c (fnScope PW 25)) (n + 1) (putAll ["one"] [.str ⟨#[letter k]⟩] (stayRho w v)) stayLoop o := by
    intro rest o h
    conv in stayLoop => whnf
    refine Ex.cons (Ex1.assignComp (l := rangeL 0 1 3) (out := [.int (bump v k).1, .int (bump v k).2.1, .int (bump v k).2.2]) rfl rfl (EvI.range (ts := [.int 3]) (q := (0, 3, 1)) (m := 3) rfl (hT.sub (sc := fnScope PW 25)).range (EachB.cons rfl Ev.cint.b .nil) (by simp) rfl rfl) ?_ hz rfl) h
    rw [← hbump]
    refine Turns.map1 (fun (j : Nat) => T.int j) (fun j => T.int ((if j = 0 then v.1 else if j = 1 then v.2.1 else v.2.2) + (if k = j then 1 else 0))) rfl rfl [0, 1, 2] fun j hj => ⟨_, rfl, Sub.cons rfl (Sub.one rfl), ?_⟩
    have hj3 : j < 3 := by simp at hj; omega
    refine Ev.bin (Ev.ix (Ev.name rfl rfl).b (Ev.name rfl rfl) rfl (hvk j hj3)).b (Ev.ifexp (q := (k == j)) (EvT.cmp (a := .str ⟨#[letter k]⟩) (b := .str ⟨#[letter j]⟩) (Ev.name rfl rfl).b (Ev.ix (o := .str "fil") (k := .int j) Ev.cstr.b (Ev.name rfl rfl) rfl (fil_at hj3)).b (by show some (_ == _) = _; rw [one_eq k hk j hj3]) rfl) (fun h => ?_) (fun h => ?_)).b BinOk.add_int
    · have : k = j := by simpa using h
      rw [if_pos this]; exact Ev.cint
    · have : k ≠ j := by simpa using h
      rw [if_neg this]; exact Ev.cint
  have fin : ∀ {o : Out}, Ex (funCx c (fnScope PW 25)) (n + 1) (put "votes" (.sh (vT (bump v k))) (putAll ["one"] [.str ⟨#[letter k]⟩] (stayRho w v))) (stayLoop.drop 1) o → Ex (funCx c (fnScope PW 25)) (n + 1) (putAll ["one"] [.str ⟨#[letter k]⟩] (stayRho w v)) stayLoop o := fun h => st1 (rest := []) h
  unfold stayStep
  generalize bump v k = u at h1 h2 h3 h4 fin ⊢
  have huk : ∀ j : Nat, j < 3 → ixT (vT u) (.int (j : Int)) = some (.int (if j = 0 then u.1 else if j = 1 then u.2.1 else u.2.2)) := by
    exact ix3
  split at h4
  · rename_i q hq
    have hq2 : hotF q = !cold u := by simpa using h4
    have test : EvT (funCx c (fnScope PW 25)) (n + 1) (put "votes" (.sh (vT u)) (putAll ["one"] [.str ⟨#[letter k]⟩] (stayRho w v))) (stayTest) (!cold u) := by
      conv in stayTest => whnf
      rw [← hq2]
      refine EvT.cmp (a := .float (Float64.mul q.1 (Float64.ofInt 6))) (b := .int 1) (Ev.bin (Ev.ix (o := tup3 q) (k := .int 0) (r := .float q.1) (Ev.fn 12 hT.sub rfl rfl (.cons rfl ?_ (.cons rfl ?_ (.cons rfl ?_ .nil))) (by simp) (hsv_ok hT.sub hq)).b Ev.cint rfl rfl).b Ev.cint.b (BinOk.mul_fi six_lt)).b Ev.cint.b rfl rfl
      · exact Ev.bin (Ev.ix (Ev.name rfl rfl).b Ev.cint rfl (huk 0 (by decide))).b Ev.cint.b (BinOk.tdiv_int (by decide) (inf_ok h1))
      · exact Ev.bin (Ev.ix (Ev.name rfl rfl).b Ev.cint rfl (huk 1 (by decide))).b Ev.cint.b (BinOk.tdiv_int (by decide) (inf_ok h2))
      · exact Ev.bin (Ev.ix (Ev.name rfl rfl).b Ev.cint rfl (huk 2 (by decide))).b Ev.cint.b (BinOk.tdiv_int (by decide) (inf_ok h3))
    cases hc : cold u with
    | true =>
      rw [if_pos rfl]
      rw [hc] at test
      show Ex _ _ _ _ (.next (stayRho w u))
      refine Ex.weak (fin (Ex.cons (Ex1.ite (q := false) test (fun h => by cases h) (fun _ => Ex.nil)) Ex.nil)) (Sub.cons rfl (Sub.one rfl))
    | false =>
      rw [if_neg (by simp)]
      rw [hc] at test
      show Ex _ _ _ _ (.ret (.bool false) false)
      exact fin (Ex.ret (Ex1.ite (q := true) test (fun _ => Ex.ret (Ex1.ret Ev.cbool)) (fun h => by cases h)))
  · cases h4

theorem stay_body (hT : Top c) {w : List Nat} {v : Int × Int × Int} (hw : ∀ k ∈ w, k < 3) (hr : Reach StayOk w.length v) : Ex (funCx c (fnScope PW 25)) (n + 1) [("word", .sh (.str (wordS w))), ("votes", .sh (vT v))] (fnBody PW 25) (.ret (.bool (stayF w v)) false) := by
  conv in (fnBody _ _) => whnf
  unfold stayF
  cases hm : w.foldlM stayStep v with
  | some u =>
    refine Ex.cons (ρ' := stayRho w u) (Ex1.for (EvI.str (x := wordS w) (Ev.name rfl rfl).b) rfl ?_) (Ex.ret (Ex1.ret Ev.cbool))
    rw [chars_word]
    refine Loops.cast (by rw [hm]; rfl) (Loops.foldMI (stayRho w) stayStep (fun k => .str ⟨#[letter k]⟩) (.bool false) false (Reach StayOk) w v hr fun s k r hk hI => ⟨fun s' hs => ?_, putAll ["one"] [.str ⟨#[letter k]⟩] (stayRho w s), rfl, stay_turn hT (hw k hk) (hI k (hw k hk)).1⟩)
    unfold stayStep at hs
    split at hs
    · cases hs; exact (hI k (hw k hk)).2
    · cases hs
  | none =>
    refine Ex.ret (Ex1.for (EvI.str (x := wordS w) (Ev.name rfl rfl).b) rfl ?_)
    rw [chars_word]
    refine Loops.cast (by rw [hm]; rfl) (Loops.foldMI (stayRho w) stayStep (fun k => .str ⟨#[letter k]⟩) (.bool false) false (Reach StayOk) w v hr fun s k r hk hI => ⟨fun s' hs => ?_, putAll ["one"] [.str ⟨#[letter k]⟩] (stayRho w s), rfl, stay_turn hT (hw k hk) (hI k (hw k hk)).1⟩)
    unfold stayStep at hs
    split at hs
    · cases hs; exact (hI k (hw k hk)).2
    · cases hs

theorem stay_ok (hT : Top c) {w : List Nat} {v : Int × Int × Int} (hw : ∀ k ∈ w, k < 3) (hr : Reach StayOk w.length v) : FnV c (n + 2) 25 [.str (wordS w), vT v] (.bool (stayF w v)) := fun a hf => by
  refine FOk.of (n := n + 1) (xs := ["word", "votes"]) hf ?_ (stay_body hT hw hr)
  exact .two fun _ _ _ _ _ _ _ _ _ _ _ _ _ _ => rfl
end
end Mine
end

section
set_option autoImplicit false
set_option linter.unusedVariables false
set_option linter.unusedSimpArgs false
namespace Mine
open PySem PySem.Calls PyProof.Rows PySem.SeqAt PySem.Spec

/-! _law_line -/
def signOf (dress up down k : Nat) : Str := if k = up then "(" else if k = down then ")" else if dress = 0 then ⟨#[letter k]⟩ else if dress = 1 then "\\)" else "\")\""
def partF (w : List Nat) (dress : Nat) (acc : Str) (p : Nat × Nat × Int) : Str :=
  (w.foldl (fun a k => a ++ signOf dress p.1 p.2.1 k) (acc ++ Txt.mul "(" p.2.2)) ++ Txt.mul ")" (p.2.2 + w.count p.1 - w.count p.2.1)
def lineF (w : List Nat) (near far : Int) (dress : Nat) : Str := [(0, 1, near), (1, 2, far)].foldl (partF w dress) ""
theorem app_len (a b : Str) : (a ++ b).length = a.length + b.length := by
  show (a.cps ++ b.cps).size = _
  rw [Array.size_append]; rfl
theorem sign_len (dress up down k : Nat) : (signOf dress up down k).length ≤ 3 := by
  unfold signOf
  split
  · decide
  · split
    · decide
    · split
      · show 1 ≤ 3; decide
      · split <;> decide
theorem mul_all : ∀ k : Nat, k < 41 → (Txt.mul "(" ((k : Int) - 20)).length ≤ 20 ∧ (Txt.mul ")" ((k : Int) - 20)).length ≤ 20 := by decide +kernel
theorem mul_len {i : Int} (h0 : -20 ≤ i) (h1 : i ≤ 20) : (Txt.mul "(" i).length ≤ 20 ∧ (Txt.mul ")" i).length ≤ 20 := by
  have := mul_all (i + 20).toNat (by lia)
  rwa [show (((i + 20).toNat : Nat) : Int) - 20 = i by lia] at this
theorem signs_len (w : List Nat) (dress up down : Nat) : ∀ a : Str, (w.foldl (fun a k => a ++ signOf dress up down k) a).length ≤ a.length + 3 * w.length := by
  induction w with
  | nil => intro a; simp
  | cons k w ih =>
    intro a
    rw [List.foldl_cons]
    have h1 := ih (a ++ signOf dress up down k)
    rw [app_len] at h1
    have := sign_len dress up down k
    simp only [List.length_cons]; lia

def lineRho (w : List Nat) (near far : Int) (dress : Nat) (acc : Str) : Rho := [("word", .sh (.str (wordS w))), ("near", .sh (.int near)), ("far", .sh (.int far)), ("dress", .sh (.int dress)), ("line", .sh (.str acc))]
def lineItem (p : Nat × Nat × Int) : T := .tup [.str ⟨#[letter p.1]⟩, .str ⟨#[letter p.2.1]⟩, .int p.2.2]

section
variable {c : Cx} {n : Nat} {ρ : Rho}
def lineLoop : List Stmt := match (fnBody PW 24)[1]? with
  | some (Stmt.For _ _ b _ _) => b
  | _ => []
theorem line_turn (hT : Top c) {w : List Nat} {near far : Int} {dress : Nat} {acc : Str} {p : Nat × Nat × Int} (hw : Good w) (hd : dress < 3) (hp : p.1 < 3 ∧ p.2.1 < 3) (hl : 0 ≤ p.2.2 ∧ p.2.2 ≤ 10) (ha : acc.length ≤ 200) :
    Ex (funCx c (fnScope PW 24)) n (putAll ["up", "down", "lead"] [.str ⟨#[letter p.1]⟩, .str ⟨#[letter p.2.1]⟩, .int p.2.2] (lineRho w near far dress acc)) lineLoop (.next (lineRho w near far dress (partF w dress acc p))) := by
  have hz : (1000000 : Nat) ≤ sizeLine := by decide
  conv in lineLoop => whnf
  have hm1 := mul_len (i := p.2.2) (by lia) (by lia)
  have hw4 := hw.1
  have hc1 : w.count p.1 ≤ 4 := Nat.le_trans (List.count_le_length) hw4
  have hc2 : w.count p.2.1 ≤ 4 := Nat.le_trans (List.count_le_length) hw4
  refine Ex.cons (Ex1.aug (a := .str acc) (b := .str (Txt.mul "(" p.2.2)) rfl rfl (Ev.bin Ev.cstr.b (Ev.name rfl rfl).b (BinOk.mul_str (by decide) (by lia) (by lia))).b (InOk.add_str (by lia)) rfl) ?_
  have hsl := signs_len w dress p.1 p.2.1 (acc ++ Txt.mul "(" p.2.2)
  rw [app_len] at hsl
  refine Ex.cons (ρ' := putAll ["up", "down", "lead"] [.str ⟨#[letter p.1]⟩, .str ⟨#[letter p.2.1]⟩, .int p.2.2] (lineRho w near far dress (w.foldl (fun a k => a ++ signOf dress p.1 p.2.1 k) (acc ++ Txt.mul "(" p.2.2)))) (Ex1.for (EvI.str (x := wordS w) (Ev.name rfl rfl).b) rfl ?_) ?_
  · rw [chars_word]
    refine Loops.foldI (fun a => putAll ["up", "down", "lead"] [.str ⟨#[letter p.1]⟩, .str ⟨#[letter p.2.1]⟩, .int p.2.2] (lineRho w near far dress a)) (fun a k => a ++ signOf dress p.1 p.2.1 k) (fun k => .str ⟨#[letter k]⟩) (fun r a => a.length + 3 * r ≤ 500) w _ (by rw [app_len]; lia) fun a k r hk hI => ⟨by rw [app_len]; have := sign_len dress p.1 p.2.1 k; lia, putAll ["one"] [.str ⟨#[letter k]⟩] (putAll ["up", "down", "lead"] [.str ⟨#[letter p.1]⟩, .str ⟨#[letter p.2.1]⟩, .int p.2.2] (lineRho w near far dress a)), rfl, ?_⟩
    have hk3 := hw.2 k hk
    have hsg := sign_len dress p.1 p.2.1 k
    refine Ex.weak (Ex.cons (Ex1.aug (a := .str a) (b := .str (signOf dress p.1 p.2.1 k)) rfl rfl (Ev.ifexp (q := (k == p.1)) (EvT.cmp (a := .str ⟨#[letter k]⟩) (b := .str ⟨#[letter p.1]⟩) (Ev.name rfl rfl).b (Ev.name rfl rfl).b (by show some (_ == _) = _; rw [one_eq k hk3 p.1 hp.1]) rfl) (fun h => ?_) (fun h => Ev.ifexp (q := (k == p.2.1)) (EvT.cmp (a := .str ⟨#[letter k]⟩) (b := .str ⟨#[letter p.2.1]⟩) (Ev.name rfl rfl).b (Ev.name rfl rfl).b (by show some (_ == _) = _; rw [one_eq k hk3 p.2.1 hp.2]) rfl) (fun h' => ?_) (fun h' => ?_))).b (InOk.add_str (by lia)) rfl) Ex.nil) (Sub.cons rfl (Sub.cons rfl (Sub.cons rfl (Sub.cons rfl (Sub.cons rfl (Sub.cons rfl (Sub.cons rfl (Sub.one rfl))))))))
    · have : k = p.1 := by simpa using h
      unfold signOf; rw [if_pos this]; exact Ev.cstr
    · have e1 : k ≠ p.1 := by simpa using h
      have e2 : k = p.2.1 := by simpa using h'
      unfold signOf; rw [if_neg e1, if_pos e2]; exact Ev.cstr
    · have e1 : k ≠ p.1 := by simpa using h
      have e2 : k ≠ p.2.1 := by simpa using h'
      have hix : ixT (.list [.str ⟨#[letter k]⟩, .str "\\)", .str "\")\""]) (.int dress) = some (.str (signOf dress p.1 p.2.1 k)) := by
        unfold signOf; rw [if_neg e1, if_neg e2]
        have := n3 dress hd
        rcases this with rfl | rfl | rfl <;> rfl
      exact Ev.ix (EvN.list (.cons rfl (Ev.name rfl rfl) (.cons rfl Ev.cstr (.cons rfl Ev.cstr .nil))) (by show 3 ≤ sizeLine; lia)).ev.b (Ev.name rfl rfl) rfl hix
  · have hm2 := mul_len (i := p.2.2 + w.count p.1 - w.count p.2.1) (by lia) (by lia)
    refine Ex.weak (Ex.cons (Ex1.aug (a := .str (w.foldl (fun a k => a ++ signOf dress p.1 p.2.1 k) (acc ++ Txt.mul "(" p.2.2))) (b := .str (Txt.mul ")" (p.2.2 + w.count p.1 - w.count p.2.1))) rfl rfl (Ev.bin Ev.cstr.b (Ev.bin (Ev.bin (Ev.name rfl rfl).b (hw.count hp.1 ▸ Ev.countS (x := wordS w) (y := ⟨#[letter p.1]⟩) (Ev.name rfl rfl).b (Ev.name rfl rfl).b rfl rfl rfl).b BinOk.add_int).b (hw.count hp.2 ▸ Ev.countS (x := wordS w) (y := ⟨#[letter p.2.1]⟩) (Ev.name rfl rfl).b (Ev.name rfl rfl).b rfl rfl rfl).b BinOk.sub_int).b (BinOk.mul_str (by decide) (by lia) (by lia))).b (InOk.add_str (by lia)) rfl) Ex.nil) (Sub.cons rfl (Sub.cons rfl (Sub.cons rfl (Sub.cons rfl (Sub.one rfl)))))

theorem part_len (w : List Nat) (dress : Nat) (acc : Str) (p : Nat × Nat × Int) (hw : w.length ≤ 4) (hl : 0 ≤ p.2.2 ∧ p.2.2 ≤ 10) : (partF w dress acc p).length ≤ acc.length + 60 := by
  unfold partF
  have hc1 : w.count p.1 ≤ 4 := Nat.le_trans (List.count_le_length) hw
  have hc2 : w.count p.2.1 ≤ 4 := Nat.le_trans (List.count_le_length) hw
  have hm1 := mul_len (i := p.2.2) (by lia) (by lia)
  have hm2 := mul_len (i := p.2.2 + w.count p.1 - w.count p.2.1) (by lia) (by lia)
  have hsl := signs_len w dress p.1 p.2.1 (acc ++ Txt.mul "(" p.2.2)
  rw [app_len] at hsl ⊢
  lia

theorem line_body (hT : Top c) {w : List Nat} {near far : Int} {dress : Nat} (hw : Good w) (hd : dress < 3) (hn : 0 ≤ near ∧ near ≤ 10) (hf : 0 ≤ far ∧ far ≤ 10) :
    Ex (funCx c (fnScope PW 24)) n [("word", .sh (.str (wordS w))), ("near", .sh (.int near)), ("far", .sh (.int far)), ("dress", .sh (.int dress))] (fnBody PW 24) (.ret (.str (lineF w near far dress)) false) := by
  have hz : (1000000 : Nat) ≤ sizeLine := by decide
  conv in (fnBody _ _) => whnf
  refine Ex.cons (Ex1.assign (t := .str "") Ev.cstr rfl rfl) ?_
  refine Ex.cons (ρ' := lineRho w near far dress (lineF w near far dress)) (Ex1.for (EvI.tup (l := [(0, 1, near), (1, 2, far)].map lineItem) (Ev.tup (.cons rfl (Ev.tup (.cons rfl Ev.cstr (.cons rfl Ev.cstr (.cons rfl (Ev.name rfl rfl) .nil))) (by show 3 ≤ sizeLine; lia)) (.cons rfl (Ev.tup (.cons rfl Ev.cstr (.cons rfl Ev.cstr (.cons rfl (Ev.name rfl rfl) .nil))) (by show 3 ≤ sizeLine; lia)) .nil)) (by show 2 ≤ sizeLine; lia)).b) rfl ?_) (Ex.ret (Ex1.ret (Ev.name rfl rfl)))
  refine Loops.foldI (lineRho w near far dress) (partF w dress) lineItem (fun r acc => acc.length + 60 * r ≤ 200) [(0, 1, near), (1, 2, far)] "" (by show 0 + 60 * 2 ≤ 200; decide) fun acc p r hp hI => ?_
  have hp' : (p.1 < 3 ∧ p.2.1 < 3) ∧ (0 ≤ p.2.2 ∧ p.2.2 ≤ 10) := by
    simp only [List.mem_cons, List.not_mem_nil, or_false] at hp
    rcases hp with rfl | rfl
    · exact ⟨⟨by show 0 < 3; decide, by show 1 < 3; decide⟩, hn⟩
    · exact ⟨⟨by show 1 < 3; decide, by show 2 < 3; decide⟩, hf⟩
  exact ⟨by have := part_len w dress acc p hw.1 hp'.2; lia, putAll ["up", "down", "lead"] [.str ⟨#[letter p.1]⟩, .str ⟨#[letter p.2.1]⟩, .int p.2.2] (lineRho w near far dress acc), rfl, line_turn hT hw hd hp'.1 hp'.2 (by lia)⟩

theorem line_ok (hT : Top c) {w : List Nat} {near far : Int} {dress : Nat} (hw : Good w) (hd : dress < 3) (hn : 0 ≤ near ∧ near ≤ 10) (hf : 0 ≤ far ∧ far ≤ 10) : FnV c (n + 1) 24 [.str (wordS w), .int near, .int far, .int dress] (.str (lineF w near far dress)) := fun a hfn => by
  refine FOk.of (n := n) (xs := ["word", "near", "far", "dress"]) hfn ?_ (line_body hT hw hd hn hf)
  exact .four fun _ _ _ _ _ _ _ _ _ _ _ _ _ _ _ _ => rfl
end
end Mine
end

section
set_option autoImplicit false
set_option linter.unusedVariables false
set_option linter.unusedSimpArgs false
namespace Mine
open PySem PySem.Calls PyProof.Rows PySem.SeqAt PySem.Spec

/-! _law_images -/
def rowF (m d l : Int) (p : Nat) : Int × Int × Int := if p = 0 then (m, d, l) else if p = 1 then (m, l, d) else if p = 2 then (l, m, d) else if p = 3 then (d, m, l) else if p = 4 then (d, l, m) else (l, d, m)
def row0 (m d l : Int) (p : Nat) : List T := if p % 2 = 0 then [.int m, .int d, .int l] else [.int m, .int l, .int d]
def rowT (r : Int × Int × Int) : T := .list [.int r.1, .int r.2.1, .int r.2.2]
def stepF (m d l : Int) (p : Nat) : Int := (((p : Int) / 2 * 2) * (m - l) + (if p % 2 = 0 then d - l else l - d)) % (6 * (m - l))
def min2 (a b : Int) : Int := [b].foldl (fun x y => if decide (y < x) then y else x) a
def toldT (q : Bool) (i0 : Int) (deep br li full : UInt64) : List T := [.bool q, .int ((i0 + 1) / 2), .float deep, .float (Float64.mul br (Float64.ofInt 16)), .float (Float64.mul li (Float64.ofInt 32)), .float full]
def half3 (a : Int × Int × Int) : T := .list [.int ((a.1 + 1) / 2), .int ((a.2.1 + 1) / 2), .int ((a.2.2 + 1) / 2)]
def dueT (m d l : Int) (p : Nat) : List T := [.bool true, .int (stepF m d l p), .float (fdivI (m - l) m), .int m, .int (m + l), .float (fdivI (m - l) (min2 (m + l) (32 - (m + l)))), rowT (rowF m d l p), rowT (rowF m d l p)]
def trunc3 (x : UInt64 × UInt64 × UInt64) : Option (Int × Int × Int) := match truncF (Float64.mul x.1 (Float64.ofInt 32)), truncF (Float64.mul x.2.1 (Float64.ofInt 32)), truncF (Float64.mul x.2.2 (Float64.ofInt 32)) with
  | some a, some b, some c => some (a, b, c)
  | _, _, _ => none
def fin16 (i : Int) : Bool := !Float64.isInf (fdivI i 16)
/-- a place's colour is told as it is due -/
def imgB (m d l : Int) (p : Nat) : Bool :=
  let r := rowF m d l p
  fin16 r.1 && fin16 r.2.1 && fin16 r.2.2 && decide (0 < m - l) && decide (m - l < 100) && decide (m ≠ 0) && decide (min2 (m + l) (32 - (m + l)) ≠ 0) && !Float64.isInf (fdivI (m - l) m) && !Float64.isInf (fdivI (m - l) (min2 (m + l) (32 - (m + l)))) &&
  match toHsv (fdivI r.1 16) (fdivI r.2.1 16) (fdivI r.2.2 16), toHls (fdivI r.1 16) (fdivI r.2.1 16) (fdivI r.2.2 16) with
  | some h, some s =>
    (match truncF (Float64.mul (Float64.mul h.1 (Float64.ofInt 12)) (Float64.ofInt (m - l))), ofHsv (Float64.add h.1 (Float64.ofInt 1)) h.2.1 h.2.2 with
    | some i0, some x =>
      (match trunc3 x, trunc3 (ofHls (Float64.sub s.1 (Float64.ofInt 1)) s.2.1 s.2.2) with
      | some a, some b => (eqv 8 (.list (toldT (eqF s.1 h.1) i0 h.2.1 h.2.2 s.2.1 s.2.2 ++ [half3 a, half3 b])) (.list (dueT m d l p)) == some true) && (half3T a == rowF m d l p)
      | _, _ => false)
    | _, _ => false)
  | _, _ => false
where half3T (a : Int × Int × Int) : Int × Int × Int := ((a.1 + 1) / 2, (a.2.1 + 1) / 2, (a.2.2 + 1) / 2)

structure Img (m d l : Int) (p : Nat) (h s : UInt64 × UInt64 × UInt64) (i0 : Int) (x : UInt64 × UInt64 × UInt64) (a b : Int × Int × Int) : Prop where
  f0 : Float64.isInf (fdivI (rowF m d l p).1 16) = false
  f1 : Float64.isInf (fdivI (rowF m d l p).2.1 16) = false
  f2 : Float64.isInf (fdivI (rowF m d l p).2.2 16) = false
  w0 : 0 < m - l
  w1 : m - l < 100
  m0 : m ≠ 0
  k0 : min2 (m + l) (32 - (m + l)) ≠ 0
  q0 : Float64.isInf (fdivI (m - l) m) = false
  q1 : Float64.isInf (fdivI (m - l) (min2 (m + l) (32 - (m + l)))) = false
  hsv : toHsv (fdivI (rowF m d l p).1 16) (fdivI (rowF m d l p).2.1 16) (fdivI (rowF m d l p).2.2 16) = some h
  hls : toHls (fdivI (rowF m d l p).1 16) (fdivI (rowF m d l p).2.1 16) (fdivI (rowF m d l p).2.2 16) = some s
  tr : truncF (Float64.mul (Float64.mul h.1 (Float64.ofInt 12)) (Float64.ofInt (m - l))) = some i0
  oh : ofHsv (Float64.add h.1 (Float64.ofInt 1)) h.2.1 h.2.2 = some x
  ta : trunc3 x = some a
  tb : trunc3 (ofHls (Float64.sub s.1 (Float64.ofInt 1)) s.2.1 s.2.2) = some b
  eq : eqv 8 (.list (toldT (eqF s.1 h.1) i0 h.2.1 h.2.2 s.2.1 s.2.2 ++ [half3 a, half3 b])) (.list (dueT m d l p)) = some true
  row : half3 a = rowT (rowF m d l p)

theorem img_of {m d l : Int} {p : Nat} (h : imgB m d l p = true) : ∃ h s i0 x a b, Img m d l p h s i0 x a b := by
  unfold imgB fin16 at h
  dsimp only at h
  simp only [Bool.and_eq_true, decide_eq_true_eq, Bool.not_eq_true'] at h
  obtain ⟨⟨⟨⟨⟨⟨⟨⟨⟨f0, f1⟩, f2⟩, w0⟩, w1⟩, m0⟩, k0⟩, q0⟩, q1⟩, h⟩ := h
  split at h
  · rename_i hh ss e1 e2
    split at h
    · rename_i i0 x e3 e4
      split at h
      · rename_i a b e5 e6
        simp only [Bool.and_eq_true, beq_iff_eq] at h
        refine ⟨hh, ss, i0, x, a, b, f0, f1, f2, w0, w1, m0, k0, q0, q1, e1, e2, e3, e4, e5, e6, ?_, ?_⟩
        · exact h.1
        · rw [← h.2]; rfl
      · cases h
    · cases h
  · cases h
end Mine
end

section
set_option autoImplicit false
set_option linter.unusedVariables false
set_option linter.unusedSimpArgs false
namespace Mine
open PySem PySem.Calls PyProof.Rows PySem.SeqAt PySem.Spec

theorem bi_min2 {a b : Int} : Mine.bi "min" [.int a, .int b] = some (.int (min2 a b)) := by
  rfl
def imgRho (m d l : Int) (ims : List T) : Rho := [("most", .sh (.int m)), ("middle", .sh (.int d)), ("least", .sh (.int l)), ("wide", .sh (.int (m - l))), ("tall", .sh (.int (m + l))), ("images", .own ims)]
def imgLoop : List Stmt := match (fnBody PW 27)[2]? with
  | some (Stmt.For _ _ b _ _) => b
  | _ => []

theorem trunc3_at {x : UInt64 × UInt64 × UInt64} {a : Int × Int × Int} (h : trunc3 x = some a) : truncF (Float64.mul x.1 (Float64.ofInt 32)) = some a.1 ∧ truncF (Float64.mul x.2.1 (Float64.ofInt 32)) = some a.2.1 ∧ truncF (Float64.mul x.2.2 (Float64.ofInt 32)) = some a.2.2 := by
  unfold trunc3 at h
  split at h
  · rename_i e1 e2 e3
    cases h
    exact ⟨e1, e2, e3⟩
  · cases h

section
variable {c : Cx} {n : Nat} {ρ : Rho}
theorem c12 : (12 : Int).natAbs < 2 ^ 1023 := small_lt (by decide)
theorem c16 : (16 : Int).natAbs < 2 ^ 1023 := small_lt (by decide)
theorem c32 : (32 : Int).natAbs < 2 ^ 1023 := small_lt (by decide)
theorem c1 : (1 : Int).natAbs < 2 ^ 1023 := small_lt (by decide)

theorem EvN.castE {e : Expr} {l l' : List T} (h : EvN c n ρ e l) (he : l = l') : Ev c n ρ e (.list l') := by subst he; exact h.ev
theorem Ev.castB {e : Expr} {t t' : T} (h : EvB c n ρ e t) (he : t = t') : EvB c n ρ e t' := by subst he; exact h

def postRho (m d l : Int) (ims : List T) (p : Nat) (told : List T) : Rho := [("most", .sh (.int m)), ("middle", .sh (.int d)), ("least", .sh (.int l)), ("wide", .sh (.int (m - l))), ("tall", .sh (.int (m + l))), ("images", .own ims), ("place", .sh (.int p)), ("row", .sh (rowT (rowF m d l p))), ("told", .own told)]
def paintLoop : List Stmt := match imgLoop[5]? with
  | some (Stmt.For _ _ b _ _) => b
  | _ => []
theorem paint_turn (hT : Top c) {x : UInt64 × UInt64 × UInt64} {a : Int × Int × Int} {tl : List T} (hx : trunc3 x = some a) (hp : ρ.lookup ("paint" : Str) = some (.sh (tup3 x))) (ht : ρ.lookup ("told" : Str) = some (.own tl)) (hl : tl.length ≤ 10) :
    Ex (funCx c (fnScope PW 27)) n ρ paintLoop (.next (put "told" (.own (tl ++ [half3 a])) ρ)) := by
  have hz : (1000000 : Nat) ≤ sizeLine := by decide
  obtain ⟨e1, e2, e3⟩ := trunc3_at hx
  conv in paintLoop => whnf
  refine Ex.cons (Ex1.append (t := half3 a) ht rfl (EvN.comp (l := [.float x.1, .float x.2.1, .float x.2.2]) (out := [.int ((a.1 + 1) / 2), .int ((a.2.1 + 1) / 2), .int ((a.2.2 + 1) / 2)]) rfl rfl (EvI.tup (Ev.name hp rfl).b) ?_ (by show 3 ≤ sizeLine; lia)).ev rfl rfl (by lia)) Ex.nil
  refine Turns.map1 (fun (q : UInt64 × Int) => .float q.1) (fun q => .int ((q.2 + 1) / 2)) rfl rfl [(x.1, a.1), (x.2.1, a.2.1), (x.2.2, a.2.2)] fun q hq => ⟨_, rfl, Sub.nil, ?_⟩
  have hq' : truncF (Float64.mul q.1 (Float64.ofInt 32)) = some q.2 := by
    simp only [List.mem_cons, List.not_mem_nil, or_false] at hq
    rcases hq with rfl | rfl | rfl
    · exact e1
    · exact e2
    · exact e3
  exact Ev.bin (Ev.bin (Ev.bi (r := .int q.2) hT.sub.comp rfl rfl (EachB.cons rfl (Ev.bin (Ev.name rfl rfl).b Ev.cint.b (BinOk.mul_fi c32)).b .nil) (by simp) (bi_int hq') rfl).b Ev.cint.b BinOk.add_int).b Ev.cint.b (BinOk.div_int (by decide) (by decide))

set_option maxHeartbeats 8000000 in
theorem img_turn (hT : Top c) {m d l : Int} {p : Nat} {ims : List T} {h s x : UInt64 × UInt64 × UInt64} {i0 : Int} {a b : Int × Int × Int} (hp : p < 6) (I : Img m d l p h s i0 x a b) (hi : ims.length ≤ 10) :
    Ex (funCx c (fnScope PW 27)) (n + 2) (putAll ["place"] [.int p] (imgRho m d l ims)) imgLoop (.next (imgRho m d l (ims ++ [rowT (rowF m d l p)]))) := by
  have hz : (1000000 : Nat) ≤ sizeLine := by decide
  have z3 : (3 : Nat) ≤ sizeLine := by decide
  conv in imgLoop => whnf
  have hw : (m - l).natAbs < 2 ^ 1023 := small_lt (by have := I.w0; have := I.w1; lia)
  have hix : ixT (.list [.list [.int m, .int d, .int l], .list [.int m, .int l, .int d]]) (.int ((p : Int) % 2)) = some (.list (row0 m d l p)) := by
    have := n6 p hp
    rcases this with rfl | rfl | rfl | rfl | rfl | rfl <;> rfl
  have hcut : cut (row0 m d l p) (some (3 - (p : Int) / 2)) none ++ cut (row0 m d l p) none (some (3 - (p : Int) / 2)) = [.int (rowF m d l p).1, .int (rowF m d l p).2.1, .int (rowF m d l p).2.2] := by
    have := n6 p hp
    rcases this with rfl | rfl | rfl | rfl | rfl | rfl <;> rfl
  have hr0 : (row0 m d l p).length = 3 := by unfold row0; split <;> rfl
  have hcl : (cut (row0 m d l p) (some (3 - (p : Int) / 2)) none).length + (cut (row0 m d l p) none (some (3 - (p : Int) / 2))).length = 3 := by
    have := congrArg List.length hcut
    rw [List.length_append] at this
    exact this
  have hdl : ixT (.list [.int (d - l), .int (l - d)]) (.int ((p : Int) % 2)) = some (.int (if p % 2 = 0 then d - l else l - d)) := by
    have := n6 p hp
    rcases this with rfl | rfl | rfl | rfl | rfl | rfl <;> rfl
  refine Ex.cons (Ex1.assign (t := .list (row0 m d l p)) (Ev.ix (EvN.list (.cons rfl (EvN.list (.cons rfl (Ev.name rfl rfl) (.cons rfl (Ev.name rfl rfl) (.cons rfl (Ev.name rfl rfl) .nil))) z3).ev (.cons rfl (EvN.list (.cons rfl (Ev.name rfl rfl) (.cons rfl (Ev.name rfl rfl) (.cons rfl (Ev.name rfl rfl) .nil))) z3).ev .nil)) (by show 2 ≤ sizeLine; lia)).ev.b (Ev.bin (Ev.name rfl rfl).b Ev.cint.b (BinOk.mod_int (by decide))) rfl hix) rfl rfl) ?_
  refine Ex.cons (Ex1.assign (t := rowT (rowF m d l p)) (EvN.castE (EvN.add (a := cut (row0 m d l p) (some (3 - (p : Int) / 2)) none) (b := cut (row0 m d l p) none (some (3 - (p : Int) / 2))) (EvN.slice (Ev.name (t := .list (row0 m d l p)) rfl rfl).b (.yes (Ev.bin Ev.cint.b (Ev.bin (Ev.name rfl rfl).b Ev.cint.b (BinOk.div_int (by decide) (by decide))).b BinOk.sub_int)) .no (by lia)).ev.b (EvN.slice (Ev.name (t := .list (row0 m d l p)) rfl rfl).b .no (.yes (Ev.bin Ev.cint.b (Ev.bin (Ev.name rfl rfl).b Ev.cint.b (BinOk.div_int (by decide) (by decide))).b BinOk.sub_int)) (by lia)).ev.b (by lia)) hcut) rfl rfl) ?_
  have hrow : ∀ j : Nat, j < 3 → ixT (rowT (rowF m d l p)) (.int (j : Int)) = some (.int (if j = 0 then (rowF m d l p).1 else if j = 1 then (rowF m d l p).2.1 else (rowF m d l p).2.2)) := by
    exact ix3
  refine Ex.cons (Ex1.assignT (ts := [.float h.1, .float h.2.1, .float h.2.2]) (xs := ["hue", "deep", "bright"]) (Ev.fn 12 hT.sub rfl rfl (.cons rfl (Ev.bin (Ev.ix (Ev.name rfl rfl).b Ev.cint rfl (hrow 0 (by decide))).b Ev.cint.b (BinOk.tdiv_int (by decide) I.f0)) (.cons rfl (Ev.bin (Ev.ix (Ev.name rfl rfl).b Ev.cint rfl (hrow 1 (by decide))).b Ev.cint.b (BinOk.tdiv_int (by decide) I.f1)) (.cons rfl (Ev.bin (Ev.ix (Ev.name rfl rfl).b Ev.cint rfl (hrow 2 (by decide))).b Ev.cint.b (BinOk.tdiv_int (by decide) I.f2)) .nil))) (by simp) (hsv_ok hT.sub I.hsv)) rfl rfl rfl rfl rfl) ?_
  refine Ex.cons (Ex1.assignT (ts := [.float s.1, .float s.2.1, .float s.2.2]) (xs := ["same", "light", "full"]) (Ev.fn 9 hT.sub rfl rfl (.cons rfl (Ev.bin (Ev.ix (Ev.name rfl rfl).b Ev.cint rfl (hrow 0 (by decide))).b Ev.cint.b (BinOk.tdiv_int (by decide) I.f0)) (.cons rfl (Ev.bin (Ev.ix (Ev.name rfl rfl).b Ev.cint rfl (hrow 1 (by decide))).b Ev.cint.b (BinOk.tdiv_int (by decide) I.f1)) (.cons rfl (Ev.bin (Ev.ix (Ev.name rfl rfl).b Ev.cint rfl (hrow 2 (by decide))).b Ev.cint.b (BinOk.tdiv_int (by decide) I.f2)) .nil))) (by simp) (hls_ok hT.sub I.hls)) rfl rfl rfl rfl rfl) ?_
  refine Ex.cons (Ex1.assignOwn (l := toldT (eqF s.1 h.1) i0 h.2.1 h.2.2 s.2.1 s.2.2) (EvN.list (.cons rfl (Ev.cmp (a := .float s.1) (b := .float h.1) (Ev.name rfl rfl).b (Ev.name rfl rfl).b rfl rfl) (.cons rfl (Ev.bin (Ev.bin (Ev.bi (r := .int i0) hT.sub rfl rfl (EachB.cons rfl (Ev.bin (Ev.bin (Ev.name rfl rfl).b Ev.cint.b (BinOk.mul_fi c12)).b (Ev.name rfl rfl).b (BinOk.mul_fi hw)).b .nil) (by simp) (bi_int I.tr) rfl).b Ev.cint.b BinOk.add_int).b Ev.cint.b (BinOk.div_int (by decide) (by decide))) (.cons rfl (Ev.name rfl rfl) (.cons rfl (Ev.bin (Ev.name rfl rfl).b Ev.cint.b (BinOk.mul_fi c16)) (.cons rfl (Ev.bin (Ev.name rfl rfl).b Ev.cint.b (BinOk.mul_fi c32)) (.cons rfl (Ev.name rfl rfl) .nil)))))) (by show 6 ≤ sizeLine; lia)) rfl rfl) ?_
  have hwm : ((p : Int) / 2 * 2).natAbs < 2 ^ 64 := by lia
  have heq := I.eq
  have hrw := I.row
  generalize htold : toldT (eqF s.1 h.1) i0 h.2.1 h.2.2 s.2.1 s.2.2 = told at heq
  have htl : told.length = 6 := by rw [← htold]; rfl
  refine Ex.cons (ρ' := postRho m d l ims p ((told ++ [half3 a]) ++ [half3 b])) (Ex1.for (EvI.tup (l := [tup3 x, tup3 (ofHls (Float64.sub s.1 (Float64.ofInt 1)) s.2.1 s.2.2)]) (Ev.tup (.cons rfl (Ev.fn 13 hT.sub rfl rfl (.cons rfl (Ev.bin (Ev.name rfl rfl).b Ev.cint.b (BinOk.add_fi c1)) (.cons rfl (Ev.name rfl rfl) (.cons rfl (Ev.name rfl rfl) .nil))) (by simp) (ofHsv_ok hT.sub I.oh)) (.cons rfl (Ev.fn 10 hT.sub rfl rfl (.cons rfl (Ev.bin (Ev.name rfl rfl).b Ev.cint.b (BinOk.sub_fi c1)) (.cons rfl (Ev.name rfl rfl) (.cons rfl (Ev.name rfl rfl) .nil))) (by simp) (ofHls_ok hT.sub)) .nil)) (by show 2 ≤ sizeLine; lia)).b) rfl ?_) ?_
  · refine Loops.next (ρ₂ := postRho m d l ims p (told ++ [half3 a])) rfl (Ex.weak (paint_turn hT I.ta rfl rfl (by lia)) (Sub.cons rfl (Sub.cons rfl (Sub.cons rfl (Sub.cons rfl (Sub.cons rfl (Sub.cons rfl (Sub.cons rfl (Sub.cons rfl (Sub.one rfl)))))))))) (Loops.next (ρ₂ := postRho m d l ims p ((told ++ [half3 a]) ++ [half3 b])) rfl (Ex.weak (paint_turn hT I.tb rfl rfl (by simp; lia)) (Sub.cons rfl (Sub.cons rfl (Sub.cons rfl (Sub.cons rfl (Sub.cons rfl (Sub.cons rfl (Sub.cons rfl (Sub.cons rfl (Sub.one rfl)))))))))) .nil)
  · refine Ex.cons (Ex1.assign (t := .int (stepF m d l p)) (Ev.bin (Ev.bin (Ev.bin (Ev.bin (Ev.bin (Ev.name rfl rfl).b Ev.cint.b (BinOk.div_int (by decide) (by decide))).b Ev.cint.b (BinOk.mul_int (by lia))).b (Ev.name rfl rfl).b (BinOk.mul_int hwm)).b (Ev.ix (EvN.list (.cons rfl (Ev.bin (Ev.name rfl rfl).b (Ev.name rfl rfl).b BinOk.sub_int) (.cons rfl (Ev.bin (Ev.name rfl rfl).b (Ev.name rfl rfl).b BinOk.sub_int) .nil)) (by show 2 ≤ sizeLine; lia)).ev.b (Ev.bin (Ev.name rfl rfl).b Ev.cint.b (BinOk.mod_int (by decide))) rfl hdl).b BinOk.add_int).b (Ev.bin Ev.cint.b (Ev.name rfl rfl).b (BinOk.mul_int (by decide))).b (BinOk.mod_int (by have := I.w0; lia))) rfl rfl) ?_
    have heq2 : eqv 8 (.list ((told ++ [half3 a]) ++ [half3 b])) (.list (dueT m d l p)) = some true := by
      rw [List.append_assoc]; exact heq
    refine Ex.cons (Ex1.ite (q := false) (EvT.cmp (a := .list ((told ++ [half3 a]) ++ [half3 b])) (b := .list (dueT m d l p)) (EvB.own rfl rfl) (EvN.list (.cons rfl Ev.cbool (.cons rfl (Ev.name rfl rfl) (.cons rfl (Ev.bin (Ev.name rfl rfl).b (Ev.name rfl rfl).b (BinOk.tdiv_int I.m0 I.q0)) (.cons rfl (Ev.name rfl rfl) (.cons rfl (Ev.name rfl rfl) (.cons rfl (Ev.bin (Ev.name rfl rfl).b (Ev.bi hT.sub rfl rfl (EachB.cons rfl (Ev.name rfl rfl).b (EachB.cons rfl (Ev.bin Ev.cint.b (Ev.name rfl rfl).b BinOk.sub_int).b .nil)) (by simp) bi_min2 rfl).b (BinOk.tdiv_int I.k0 I.q1)) (.cons rfl (Ev.name rfl rfl) (.cons rfl (Ev.name rfl rfl) .nil)))))))) (by show 8 ≤ sizeLine; lia)).ev.b (by show (ceq _ _).map _ = _; rw [ceq_list, heq2]; rfl) rfl) (fun h => by cases h) (fun _ => Ex.nil)) ?_
    have h6 : ixT (.list ((told ++ [half3 a]) ++ [half3 b])) (.int 6) = some (rowT (rowF m d l p)) := by
      rw [← hrw, ← htold]; rfl
    refine Ex.weak (Ex.cons (Ex1.append (l := ims) (t := rowT (rowF m d l p)) rfl rfl (Ev.ix (EvB.own rfl rfl) Ev.cint rfl h6) rfl rfl (by lia)) Ex.nil) (Sub.cons rfl (Sub.cons rfl (Sub.cons rfl (Sub.cons rfl (Sub.cons rfl (Sub.one rfl))))))
end
end Mine
end

section
set_option autoImplicit false
set_option linter.unusedVariables false
set_option linter.unusedSimpArgs false
namespace Mine
open PySem PySem.Calls PyProof.Rows PySem.SeqAt PySem.Spec

def imgsT (m d l : Int) : List T := (List.range 6).map fun p => rowT (rowF m d l p)
theorem imgs_fold (m d l : Int) : ∀ (ps : List Nat) (ims : List T), ps.foldl (fun ims p => ims ++ [rowT (rowF m d l p)]) ims = ims ++ ps.map fun p => rowT (rowF m d l p)
  | [], ims => by simp
  | p :: ps, ims => by rw [List.foldl_cons, imgs_fold m d l ps]; simp

section
variable {c : Cx} {n : Nat} {ρ : Rho}
theorem imgs_body (hT : Top c) {m d l : Int} (hI : ∀ p, p < 6 → imgB m d l p = true) : Ex (funCx c (fnScope PW 27)) (n + 2) [("most", .sh (.int m)), ("middle", .sh (.int d)), ("least", .sh (.int l))] (fnBody PW 27) (.ret (.list (imgsT m d l)) true) := by
  have hz : (1000000 : Nat) ≤ sizeLine := by decide
  conv in (fnBody _ _) => whnf
  refine Ex.cons (Ex1.assignT (ts := [.int (m - l), .int (m + l)]) (xs := ["wide", "tall"]) (Ev.tup (.cons rfl (Ev.bin (Ev.name rfl rfl).b (Ev.name rfl rfl).b BinOk.sub_int) (.cons rfl (Ev.bin (Ev.name rfl rfl).b (Ev.name rfl rfl).b BinOk.add_int) .nil)) (by show 2 ≤ sizeLine; lia)) rfl rfl rfl rfl rfl) ?_
  refine Ex.cons (Ex1.assignOwn (l := []) (EvN.list .nil (by simp)) rfl rfl) ?_
  refine Ex.pre (ρ' := imgRho m d l []) ?_ (Sub.cons rfl (Sub.cons rfl (Sub.cons rfl (Sub.cons rfl (Sub.cons rfl (Sub.one rfl))))))
  refine Ex.cons (ρ' := imgRho m d l (imgsT m d l)) (Ex1.for (EvI.range (ts := [.int 6]) (q := (0, 6, 1)) (m := 6) rfl (hT.sub (sc := fnScope PW 27)).range (EachB.cons rfl Ev.cint.b .nil) (by simp) rfl rfl) rfl ?_) (Ex.ret (Ex1.retOwn rfl rfl))
  refine Loops.cast (o := .next (imgRho m d l ((List.range 6).foldl (fun ims p => ims ++ [rowT (rowF m d l p)]) []))) (by rw [imgs_fold]; rfl) (Loops.foldI (imgRho m d l) (fun ims p => ims ++ [rowT (rowF m d l p)]) (fun (p : Nat) => T.int p) (fun r ims => ims.length + r ≤ 6) (List.range 6) [] (by decide) fun ims p r hp hJ => ?_)
  have hp6 : p < 6 := List.mem_range.mp hp
  obtain ⟨h, s, i0, x, a, b, I⟩ := img_of (hI p hp6)
  exact ⟨by simp; lia, putAll ["place"] [.int p] (imgRho m d l ims), rfl, img_turn hT hp6 I (by lia)⟩

theorem imgs_ok (hT : Top c) {m d l : Int} (hI : ∀ p, p < 6 → imgB m d l p = true) : FnN c (n + 3) 27 [.int m, .int d, .int l] (imgsT m d l) := fun a hf => by
  refine FNew.of (n := n + 2) (xs := ["most", "middle", "least"]) hf ?_ (imgs_body hT hI)
  exact .three fun _ _ _ _ _ _ _ _ _ _ _ _ _ _ _ => rfl
end
end Mine
end

section
set_option autoImplicit false
set_option linter.unusedVariables false
set_option linter.unusedSimpArgs false
namespace Mine
open PySem PySem.Calls PyProof.Rows PySem.SeqAt PySem.Spec

/-! lists -/
theorem cut_take {α : Type} (l : List α) (k : Nat) : cut l none (some (k : Int)) = l.take k := by
  unfold cut
  simp only [Option.elim_none, Option.elim_some, List.drop_zero, Nat.sub_zero]
  have : clipAt l.length (k : Int) = min k l.length := by
    unfold clipAt; split <;> lia
  rw [this]
  by_cases h : k ≤ l.length
  · rw [Nat.min_eq_left h]
  · rw [Nat.min_eq_right (by lia), List.take_of_length_le (Nat.le_refl _), List.take_of_length_le (by lia)]
theorem cut_drop {α : Type} (l : List α) (k : Nat) : cut l (some (k : Int)) none = l.drop k := by
  unfold cut
  simp only [Option.elim_none, Option.elim_some]
  have : clipAt l.length (k : Int) = min k l.length := by
    unfold clipAt; split <;> lia
  rw [this]
  by_cases h : k ≤ l.length
  · rw [Nat.min_eq_left h, List.take_of_length_le (by rw [List.length_drop]; lia)]
  · rw [Nat.min_eq_right (by lia), Nat.sub_self, List.take_zero, List.drop_of_length_le (by lia)]
def restL : List Int := [1512, 301, 124, 123, 53]
def numsF (script : List Int) : List Int := (script.take 5).map (· % 1000000) ++ restL.drop (script.take 5).length
theorem nums_len (script : List Int) : (numsF script).length = 5 := by
  unfold numsF restL
  have : (script.take 5).length ≤ 5 := by rw [List.length_take]; lia
  simp only [List.length_append, List.length_map, List.length_drop, List.length_cons, List.length_nil]
  lia
theorem nums_ge (script : List Int) : ∀ x ∈ numsF script, 0 ≤ x := fun x hx => by
  rcases List.mem_append.mp hx with h | h
  · obtain ⟨y, _, rfl⟩ := List.mem_map.mp h
    exact Int.emod_nonneg _ (by decide)
  · have := List.mem_of_mem_drop h
    simp only [restL, List.mem_cons, List.not_mem_nil, or_false] at this
    lia
theorem eqv_strs (n : Nat) : ∀ l : List Str, eqv (n + 1) (.list (l.map .str)) (.list (l.map .str)) = some true := by
  intro l
  show (if ((l.map T.str).length == (l.map T.str).length) = true then eqAll (eqv n) (l.map T.str) (l.map T.str) else some false) = _
  rw [if_pos (by simp)]
  induction l with
  | nil => rfl
  | cons x l ih =>
    have : eqv n (.str x) (.str x) = some true := by
      rw [eqv_str, beq_self_eq_true]
    show (match eqv n (.str x) (.str x), eqAll (eqv n) (l.map T.str) (l.map T.str) with | some a, some b => some (a && b) | _, _ => none) = some true
    rw [this, ih]
    rfl
theorem getD_map (os : List (List Nat)) (f : List Nat → T) (k : Nat) (hk : k < os.length) : (os.map f)[k]? = some (f (os.getD k [])) := by
  rw [List.getElem?_map, List.getElem?_eq_getElem hk, List.getD_eq_getElem?_getD, List.getElem?_eq_getElem hk]; rfl
theorem range_map (os : List (List Nat)) (f : List Nat → T) : (List.range os.length).map (fun k => f (os.getD k [])) = os.map f := by
  apply List.ext_getElem?
  intro k
  by_cases hk : k < os.length
  · rw [List.getElem?_map, List.getElem?_range hk, getD_map os f k hk]; rfl
  · rw [List.getElem?_eq_none (by simp; lia), List.getElem?_eq_none (by simp; lia)]
theorem nth_nat {α : Type} {l : List α} {k : Nat} {x : α} (h : l[k]? = some x) (hl : l.length < 1000000) : nth l (k : Int) = some x := by
  have hk := (List.getElem?_eq_some_iff.mp h).1
  rw [nth_in x (by lia) (by lia) hl]
  rw [List.getD_eq_getElem?_getD, show (k : Int).toNat = k by simp, h]; rfl

theorem draw_len : ∀ (ws : List Int) (s : List Nat × Int × Int), (ws.foldl drawStep s).1.length = s.1.length + ws.length ∧ ((∀ k ∈ s.1, k < 3) → ∀ k ∈ (ws.foldl drawStep s).1, k < 3)
  | [], s => ⟨by simp, fun h => h⟩
  | x :: ws, s => by
    obtain ⟨h1, h2⟩ := draw_len ws (drawStep s x)
    rw [List.foldl_cons]
    refine ⟨by rw [h1]; simp [drawStep]; lia, fun h => h2 fun k hk => ?_⟩
    rcases List.mem_append.mp (show k ∈ s.1 ++ [kindOf x s.2.1 s.2.2] from hk) with q | q
    · exact h k q
    · simp at q; subst q
      have := kind_lt x s.2.1 s.2.2
      lia
theorem draw_good {ws : List Int} {near far : Int} (h : ws.length = 4) : Good (drawF ws near far) ∧ (drawF ws near far).length = 4 := by
  obtain ⟨h1, h2⟩ := draw_len ws ([], near, far)
  have e : (drawF ws near far).length = 4 := by unfold drawF; rw [h1, h]; rfl
  exact ⟨⟨by lia, h2 (by simp)⟩, e⟩
theorem ord_all {word : List Nat} : ∀ (ks : List Nat) (os : List (List Nat)) (j : Nat), (∀ o ∈ os, o.length = j ∧ ∀ k ∈ o, k < 3) → ∀ o ∈ ks.foldl (ordStep word) os, o.length = j + ks.length ∧ ∀ k ∈ o, k < 3
  | [], os, j, h => by simpa using h
  | x :: ks, os, j, h => by
    rw [List.foldl_cons]
    have := ord_all (word := word) ks (ordStep word os x) (j + 1) fun o ho => by
      obtain ⟨o', ho', hg⟩ := List.mem_flatMap.mp ho
      obtain ⟨k', hk', rfl⟩ := List.mem_map.mp hg
      have hk3 : k' < 3 := by
        have := (List.mem_filter.mp hk').1
        simp at this; lia
      have := h o' ho'
      refine ⟨by simp [this.1], fun k hk => ?_⟩
      rcases List.mem_append.mp hk with h | h
      · exact this.2 k h
      · simp at h; lia
    intro o ho
    have := this o ho
    refine ⟨by rw [this.1]; simp; lia, this.2⟩
theorem ord_good {word : List Nat} (hw : word.length = 4) : ∀ o ∈ ordersF word, Good o ∧ o.length = 4 := fun o ho => by
  obtain ⟨h1, h2⟩ := ord_all (word := word) word [[]] 0 (by simp) o ho
  have : o.length = 4 := by rw [h1]; simp [hw]
  exact ⟨⟨by lia, h2⟩, this⟩
end Mine
end

section
set_option autoImplicit false
set_option linter.unusedVariables false
set_option linter.unusedSimpArgs false
namespace Mine
open PySem PySem.Calls PyProof.Rows PySem.SeqAt PySem.Spec

def seedF (N : List Int) (k : Nat) : Int := N.getD 0 0 / 270 + N.getD (1 + k % 4) 0 / 3 + k
def TypedOk : Prop := ∀ (o : List Nat) (seed : Int), Good o → o.length = 4 → 0 ≤ seed → (typedF o seed).length ≤ 1000 ∧ (∀ q ∈ typedF o seed, okSign q = true) ∧ prepF (typedF o seed) = wordS o
def nearF (N : List Int) : Int := N.getD 0 0 % 3
def farF (N : List Int) : Int := N.getD 0 0 / 3 % 3
def leastF (N : List Int) : Int := N.getD 0 0 / 9 % 10
def dressF (N : List Int) : Int := N.getD 0 0 / 90 % 3
def osF (N : List Int) : List (List Nat) := ordersF (drawF (N.drop 1) (nearF N) (farF N))
def strsT (os : List (List Nat)) : T := .list (os.map fun o => .str (wordS o))
def lawRho1 (S N : List Int) : Rho := [("script", .sh (.list (S.map .int))), ("nums", .sh (.list (N.map .int))), ("near", .sh (.int (nearF N))), ("far", .sh (.int (farF N))), ("least", .sh (.int (leastF N))), ("middle", .sh (.int (leastF N + farF N + 1))), ("most", .sh (.int (leastF N + farF N + nearF N + 2))), ("orders", .sh (strsT (osF N))), ("read", .sh (strsT (osF N)))]

section
variable {c : Cx} {n : Nat} {ρ : Rho}
theorem ordersF_len {word : List Nat} (h : word.length ≤ 4) : (ordersF word).length ≤ 81 := by
  have : ∀ (ks : List Nat) (os : List (List Nat)), (ks.foldl (ordStep word) os).length ≤ os.length * 3 ^ ks.length := by
    intro ks
    induction ks with
    | nil => intro os; simp
    | cons k ks ih =>
      intro os
      rw [List.foldl_cons]
      have h1 := ih (ordStep word os k)
      have h2 : (ordStep word os k).length ≤ os.length * 3 := ord_len word os
      have h3 := Nat.mul_le_mul_right (3 ^ ks.length) h2
      rw [List.length_cons, Nat.pow_succ, Nat.mul_comm (3 ^ ks.length) 3, ← Nat.mul_assoc]
      exact Nat.le_trans h1 h3
  have h1 := this word [[]]
  have h2 : 3 ^ word.length ≤ 3 ^ 4 := Nat.pow_le_pow_right (by decide) h
  unfold ordersF
  simp only [List.length_cons, List.length_nil] at h1
  lia

theorem law_1 (hT : Top c) (hTy : TypedOk) {S : List Int} (hS : S.length ≤ 63) {o : Out}
    (h : Ex (funCx c (fnScope PW 28)) (n + 3) (lawRho1 S (numsF S)) ((fnBody PW 28).drop 5) o) : Ex (funCx c (fnScope PW 28)) (n + 3) [("script", .sh (.list (S.map .int)))] (fnBody PW 28) o := by
  have hz : (1000000 : Nat) ≤ sizeLine := by decide
  have hN := nums_len S
  have hge := nums_ge S
  conv in (fnBody PW 28) => whnf
  have hs5 : ∀ {ρ : Rho} {v hi : Expr} {p pos : Pos}, EvB (funCx c (fnScope PW 28)) (n + 3) ρ v (.list (S.map .int)) → Part (funCx c (fnScope PW 28)) (n + 3) ρ (some hi) (some ((5 : Nat) : Int)) → EvN (funCx c (fnScope PW 28)) (n + 3) ρ (.Subscript v (.Slice none (some hi) none p) pos) ((S.take 5).map .int) := by
    intro ρ v hi p pos h1 h2
    have := EvN.slice (p := p) (pos := pos) h1 .no h2 (by rw [List.length_map]; lia)
    rw [cut_take, ← List.map_take] at this
    exact this
  refine Ex.cons (Ex1.assign (t := .list ((numsF S).map .int)) (EvN.castE (EvN.add (a := ((S.take 5).map (· % 1000000)).map .int) (b := (restL.drop (S.take 5).length).map .int) (EvN.comp (l := (S.take 5).map .int) rfl rfl (EvI.list (hs5 (Ev.name rfl rfl).b (.yes Ev.cint)).ev.b) ?_ ?_).ev.b ?_ ?_) ?_) rfl rfl) ?_
  · exact Turns.cast (Turns.map1 T.int (fun x => .int (x % 1000000)) rfl rfl (S.take 5) fun x hx => ⟨_, rfl, Sub.nil, Ev.bin (Ev.name rfl rfl).b Ev.cint.b (BinOk.mod_int (by decide))⟩) rfl (by rw [List.map_map]; rfl)
  · rw [List.length_map, List.length_map, List.length_take]; lia
  · have hln : Mine.bi "len" [.list ((S.take 5).map .int)] = some (.int ((S.take 5).length : Nat)) := by
      rw [bi_lenL (by rw [List.length_map, List.length_take]; lia), List.length_map]
    have e := cut_drop (restL.map T.int) (S.take 5).length
    rw [← List.map_drop] at e
    exact Ev.castB (EvN.slice (l := restL.map .int) (a := some ((S.take 5).length : Int)) (EvN.list (Each.ints (l := restL) rfl) (by show 5 ≤ sizeLine; lia)).ev.b (.yes (Ev.bi hT.sub rfl rfl (EachB.cons rfl (hs5 (Ev.name rfl rfl).b (.yes Ev.cint)).ev.b .nil) (by simp) hln rfl)) .no (by decide)).ev.b (by rw [e])
  · rw [List.length_map, List.length_map, List.length_map, List.length_take, List.length_drop]; show _ + (5 - _) ≤ sizeLine; lia
  · unfold numsF; rw [List.map_append]
  · generalize hNN : numsF S = N at hN hge ⊢
    have hg : ∀ i : Nat, i < 5 → ixT (.list (N.map .int)) (.int (i : Int)) = some (.int (N.getD i 0)) := fun i hi => by
      have := list_at (l := N) (i := (i : Int)) (by lia) (by lia) (by lia)
      rwa [show (i : Int).toNat = i by simp] at this
    have g0 := hg 0 (by decide)
    have hgood := draw_good (ws := N.drop 1) (near := nearF N) (far := farF N) (by rw [List.length_drop, hN])
    have hos := ord_good hgood.2
    have hol : (osF N).length ≤ 81 := ordersF_len (by rw [hgood.2]; lia)
    refine Ex.cons (Ex1.assignT (ts := [.int (nearF N), .int (farF N), .int (leastF N)]) (xs := ["near", "far", "least"]) (Ev.tup (.cons rfl (Ev.bin (Ev.ix (Ev.name rfl rfl).b Ev.cint rfl g0).b Ev.cint.b (BinOk.mod_int (by decide))) (.cons rfl (Ev.bin (Ev.bin (Ev.ix (Ev.name rfl rfl).b Ev.cint rfl g0).b Ev.cint.b (BinOk.div_int (by decide) (by decide))).b Ev.cint.b (BinOk.mod_int (by decide))) (.cons rfl (Ev.bin (Ev.bin (Ev.ix (Ev.name rfl rfl).b Ev.cint rfl g0).b Ev.cint.b (BinOk.div_int (by decide) (by decide))).b Ev.cint.b (BinOk.mod_int (by decide))) .nil))) (by show 3 ≤ sizeLine; lia)) rfl rfl rfl rfl rfl) ?_
    refine Ex.cons (Ex1.assignT (ts := [.int (leastF N + farF N + 1), .int (leastF N + farF N + nearF N + 2)]) (xs := ["middle", "most"]) (Ev.tup (.cons rfl (Ev.bin (Ev.bin (Ev.name rfl rfl).b (Ev.name rfl rfl).b BinOk.add_int).b Ev.cint.b BinOk.add_int) (.cons rfl (Ev.bin (Ev.bin (Ev.bin (Ev.name rfl rfl).b (Ev.name rfl rfl).b BinOk.add_int).b (Ev.name rfl rfl).b BinOk.add_int).b Ev.cint.b BinOk.add_int) .nil)) (by show 2 ≤ sizeLine; lia)) rfl rfl rfl rfl rfl) ?_
    have hd1 := cut_drop (N.map T.int) 1
    rw [← List.map_drop] at hd1
    refine Ex.cons (Ex1.assign (t := strsT (osF N)) (Ev.fn 21 hT.sub rfl rfl (.cons rfl (Ev.fn 20 (ts := [.list ((N.drop 1).map .int), .int (nearF N), .int (farF N)]) hT.sub rfl rfl (.cons rfl (EvN.castE (EvN.slice (l := N.map .int) (a := some ((1 : Nat) : Int)) (Ev.name rfl rfl).b (.yes Ev.cint) .no (by rw [List.length_map]; lia)) hd1) (.cons rfl (Ev.name rfl rfl) (.cons rfl (Ev.name rfl rfl) .nil))) (by simp) (draw_ok hT.sub (by rw [List.length_drop]; lia))) .nil) (by simp) (orders_ok hT.sub hgood.1)) rfl rfl) ?_
    have hlo : Mine.bi "len" [strsT (osF N)] = some (.int ((osF N).length : Nat)) := by
      unfold strsT
      rw [bi_lenL (by rw [List.length_map]; lia), List.length_map]
    refine Ex.cons (ρ' := put "read" (.sh (strsT (osF N))) _) (Ex1.assignComp (l := rangeL 0 1 (osF N).length) (out := (osF N).map fun o => .str (wordS o)) rfl rfl (EvI.range (ts := [.int ((osF N).length : Nat)]) (q := (0, ((osF N).length : Int), 1)) (m := (osF N).length) rfl (hT.sub (sc := fnScope PW 28)).range (EachB.cons rfl (Ev.bi hT.sub rfl rfl (EachB.cons rfl (Ev.name rfl rfl).b .nil) (by simp) hlo rfl).b .nil) (by simp) rfl (by have := rangeN_ok (part := ((osF N).length : Int)) (by lia) (by lia); rwa [show (((osF N).length : Nat) : Int).toNat = (osF N).length by simp] at this)) ?_ (by rw [List.length_map]; lia) rfl) ?_
    · rw [rangeL0]
      refine Turns.cast (Turns.map1 (fun (k : Nat) => T.int k) (fun k => .str (wordS ((osF N).getD k []))) rfl rfl (List.range (osF N).length) fun k hk => ⟨_, rfl, Sub.cons rfl (Sub.one rfl), ?_⟩) rfl (range_map (osF N) fun o => .str (wordS o))
      have hk' : k < (osF N).length := List.mem_range.mp hk
      have hm : (osF N).getD k [] ∈ osF N := by
        rw [List.getD_eq_getElem?_getD, List.getElem?_eq_getElem hk']
        exact List.getElem_mem _
      obtain ⟨ho1, ho2⟩ := hos _ hm
      have hseed : 0 ≤ seedF N k := by
        have e : ∀ i, 0 ≤ N.getD i 0 := fun i => by
          rw [List.getD_eq_getElem?_getD]
          cases hh : N[i]? with
          | none => exact Int.le_refl 0
          | some x => exact hge x (List.mem_of_getElem? hh)
        unfold seedF
        have := Int.ediv_nonneg (e 0) (show (0 : Int) ≤ 270 by decide)
        have := Int.ediv_nonneg (e (1 + k % 4)) (show (0 : Int) ≤ 3 by decide)
        lia
      obtain ⟨t1, t2, t3⟩ := hTy _ _ ho1 ho2 hseed
      rw [← t3]
      have hgk := hg (1 + k % 4) (by lia)
      have ek : ((1 + k % 4 : Nat) : Int) = 1 + (k : Int) % 4 := by push_cast; rfl
      rw [ek] at hgk
      have hok : ixT (strsT (osF N)) (.int k) = some (.str (wordS ((osF N).getD k []))) := by
        unfold strsT
        rw [ixT_list]
        exact nth_nat (getD_map _ _ _ hk') (by rw [List.length_map]; lia)
      refine Ev.fn 23 hT.sub.comp rfl rfl (.cons rfl (Ev.fn 22 (ts := [.str (wordS ((osF N).getD k [])), .int (seedF N k)]) hT.sub.comp rfl rfl (.cons rfl (Ev.ix (Ev.name rfl rfl).b (Ev.name rfl rfl) rfl hok) (.cons rfl ?_ .nil)) (by simp) (typed_ok hT.sub.comp ho1 ho2)) .nil) (by simp) (prep_ok (n := n + 1) hT.sub.comp t1 t2)
      exact Ev.bin (Ev.bin (Ev.bin (Ev.ix (Ev.name rfl rfl).b Ev.cint rfl g0).b Ev.cint.b (BinOk.div_int (by decide) (by decide))).b (Ev.bin (Ev.ix (Ev.name rfl rfl).b (Ev.bin Ev.cint.b (Ev.bin (Ev.name rfl rfl).b Ev.cint.b (BinOk.mod_int (by decide))).b BinOk.add_int) rfl hgk).b Ev.cint.b (BinOk.div_int (by decide) (by decide))).b BinOk.add_int).b (Ev.name rfl rfl).b BinOk.add_int
    · refine Ex.pre (hNN ▸ h) ?_
      exact Sub.cons rfl (Sub.cons rfl (Sub.cons rfl (Sub.cons rfl (Sub.cons rfl (Sub.cons rfl (Sub.cons rfl (Sub.cons rfl (Sub.one rfl))))))))
end
end Mine
end

section
set_option autoImplicit false
set_option linter.unusedVariables false
set_option linter.unusedSimpArgs false
namespace Mine
open PySem PySem.Calls PyProof.Rows PySem.SeqAt PySem.Spec

def dressN (N : List Int) : Nat := (dressF N).toNat
def lineOf (N : List Int) (o : List Nat) : Str := lineF o (nearF N) (farF N) (dressN N)
def linesF (N : List Int) : List Str := (osF N).map (lineOf N)
def l0F (N : List Int) : Str := lineOf N ((osF N).getD 0 [])
def opn : Str := "("
def cls : Str := ")"
def linesX (N : List Int) : List Str := linesF N ++ [opn ++ l0F N, l0F N ++ cls]
def keptF (N : List Int) : List Str := (linesX N).map preOne
def stL (l : List Str) : T := .list (l.map .str)
def lawRho2 (S N : List Int) : Rho := [("script", .sh (.list (S.map .int))), ("nums", .sh (.list (N.map .int))), ("near", .sh (.int (nearF N))), ("far", .sh (.int (farF N))), ("least", .sh (.int (leastF N))), ("middle", .sh (.int (leastF N + farF N + 1))), ("most", .sh (.int (leastF N + farF N + nearF N + 2))), ("orders", .sh (strsT (osF N))), ("read", .sh (strsT (osF N))), ("lines", .sh (stL (linesX N))), ("kept", .sh (stL (keptF N)))]

theorem line_len {o : List Nat} {near far : Int} {dress : Nat} (ho : Good o) (hn : 0 ≤ near ∧ near ≤ 10) (hf : 0 ≤ far ∧ far ≤ 10) : (lineF o near far dress).length ≤ 120 := by
  unfold lineF
  simp only [List.foldl_cons, List.foldl_nil]
  have h1 := part_len o dress "" (0, 1, near) ho.1 hn
  have h2 := part_len o dress (partF o dress "" (0, 1, near)) (1, 2, far) ho.1 hf
  have h0 : ("" : Str).length = 0 := rfl
  lia
theorem cut_one {α : Type} {l : List α} {k : Nat} {x : α} (h : l[k]? = some x) : cut l (some (k : Int)) (some ((k : Int) + 1)) = [x] := by
  have hk := (List.getElem?_eq_some_iff.mp h).1
  unfold cut
  simp only [Option.elim_some]
  have e1 : clipAt l.length (k : Int) = k := by unfold clipAt; split <;> lia
  have e2 : clipAt l.length ((k : Int) + 1) = k + 1 := by unfold clipAt; split <;> lia
  rw [e1, e2, show k + 1 - k = 1 by lia, List.drop_eq_getElem_cons hk]
  simp [(List.getElem?_eq_some_iff.mp h).2]
theorem near_ok (N : List Int) : 0 ≤ nearF N ∧ nearF N ≤ 10 := by unfold nearF; lia
theorem far_ok (N : List Int) : 0 ≤ farF N ∧ farF N ≤ 10 := by unfold farF; lia
theorem dress_ok (N : List Int) : dressN N < 3 ∧ dressF N = dressN N := by unfold dressN dressF; lia
theorem linesX_at {N : List Int} {k : Nat} (hk : k < (osF N).length) : (linesX N)[k]? = some (lineOf N ((osF N).getD k [])) := by
  unfold linesX linesF
  rw [List.getElem?_append_left (by rw [List.length_map]; exact hk), List.getElem?_map, List.getElem?_eq_getElem hk, List.getD_eq_getElem?_getD, List.getElem?_eq_getElem hk]; rfl
theorem keptF_at {N : List Int} {k : Nat} (hk : k < (osF N).length) : (keptF N)[k]? = some (preOne (lineOf N ((osF N).getD k []))) := by
  unfold keptF
  rw [List.getElem?_map, linesX_at hk]; rfl

theorem eqv_one (a b : Str) : eqv 8 (.list [.str a]) (.list [.str b]) = some (a == b) := by
  show (match eqv 7 (.str a) (.str b), (some true : Option Bool) with | some a, some b => some (a && b) | _, _ => none) = some (a == b)
  rw [eqv_str]
  show some (a == b && true) = _
  rw [Bool.and_true]
theorem preOne_ne {v : Str} (h : (preOne v == v) = false) : preOne v = none2 := by
  unfold preOne at h ⊢
  split
  · rename_i hc; rw [if_pos hc] at h; simp at h
  · rfl
theorem range_map' {α : Type} (os : List (List Nat)) (f : List Nat → α) (g : α → T) : (List.range os.length).map (fun k => g (f (os.getD k []))) = (os.map f).map g := by
  rw [List.map_map]; exact range_map os fun o => g (f o)

section
variable {c : Cx} {n : Nat} {ρ : Rho}
theorem law_2 (hT : Top c) {S N : List Int} (hN : N.length = 5) (hne : osF N ≠ []) (hlast : checkF (opn ++ l0F N) = false ∧ checkF (l0F N ++ cls) = false) {o : Out}
    (h : Ex (funCx c (fnScope PW 28)) (n + 5) (lawRho2 S N) ((fnBody PW 28).drop 12) o) : Ex (funCx c (fnScope PW 28)) (n + 5) (lawRho1 S N) ((fnBody PW 28).drop 5) o := by
  have hz : (1000000 : Nat) ≤ sizeLine := by decide
  have hgood := draw_good (ws := N.drop 1) (near := nearF N) (far := farF N) (by rw [List.length_drop, hN])
  have hos := ord_good hgood.2
  have hol : (osF N).length ≤ 81 := ordersF_len (by rw [hgood.2]; lia)
  have hpos : 0 < (osF N).length := List.length_pos_iff.mpr hne
  have hg : ∀ k, k < (osF N).length → Good ((osF N).getD k []) := fun k hk => (hos _ (by rw [List.getD_eq_getElem?_getD, List.getElem?_eq_getElem hk]; exact List.getElem_mem _)).1
  have hll : ∀ k, k < (osF N).length → (lineOf N ((osF N).getD k [])).length ≤ 120 := fun k hk => line_len (hg k hk) (near_ok N) (far_ok N)
  have hl0 : (l0F N).length ≤ 120 := hll 0 hpos
  have hLX : (linesX N).length = (osF N).length + 2 := by unfold linesX linesF; simp
  have hLl : ∀ y ∈ linesX N, y.length ≤ 1000 := fun y hy => by
    rcases List.mem_append.mp hy with q | q
    · obtain ⟨o', ho', rfl⟩ := List.mem_map.mp q
      have := line_len (dress := dressN N) (hos o' ho').1 (near_ok N) (far_ok N)
      unfold lineOf; lia
    · simp only [List.mem_cons, List.not_mem_nil, or_false] at q
      have e1 : opn.length = 1 := rfl
      have e2 : cls.length = 1 := rfl
      rcases q with rfl | rfl <;> rw [app_len] <;> lia
  have g0 : ixT (.list (N.map .int)) (.int 0) = some (.int (N.getD 0 0)) := list_at (l := N) (i := 0) (by decide) (by lia) (by lia)
  conv in (List.drop 5 _) => whnf
  -- read != orders
  refine Ex.cons (Ex1.ite (q := false) (EvT.cmp (a := strsT (osF N)) (b := strsT (osF N)) (Ev.name rfl rfl).b (Ev.name rfl rfl).b ?_ rfl) (fun h => by cases h) (fun _ => Ex.nil)) ?_
  · have := eqv_strs 7 ((osF N).map wordS)
    rw [List.map_map] at this
    show (ceq _ _).map _ = _
    unfold strsT
    rw [ceq_list]
    rw [show (osF N).map (fun o => T.str (wordS o)) = (osF N).map (T.str ∘ wordS) from rfl, this]; rfl
  -- lines
  refine Ex.cons (Ex1.assignComp (l := (osF N).map fun o => .str (wordS o)) (out := (linesF N).map .str) rfl rfl (EvI.list (Ev.name rfl rfl).b) ?_ (by unfold linesF; rw [List.length_map, List.length_map]; lia) rfl) ?_
  · refine Turns.cast (Turns.map1 (fun o => T.str (wordS o)) (fun o => T.str (lineOf N o)) rfl rfl (osF N) fun o' ho' => ⟨_, rfl, Sub.cons rfl (Sub.cons rfl (Sub.one rfl)), ?_⟩) rfl (by unfold linesF; rw [List.map_map]; rfl)
    have hd := dress_ok N
    refine Ev.fn 24 (ts := [.str (wordS o'), .int (nearF N), .int (farF N), .int (dressN N)]) hT.sub.comp rfl rfl (.cons rfl (Ev.name rfl rfl) (.cons rfl (Ev.name rfl rfl) (.cons rfl (Ev.name rfl rfl) (.cons rfl ?_ .nil)))) (by simp) (line_ok (n := n + 4) hT.sub.comp (hos o' ho').1 hd.1 (near_ok N) (far_ok N))
    rw [← hd.2]
    exact Ev.bin (Ev.bin (Ev.ix (Ev.name rfl rfl).b Ev.cint rfl g0).b Ev.cint.b (BinOk.div_int (by decide) (by decide))).b Ev.cint.b (BinOk.mod_int (by decide))
  -- lines + [...]
  have hli : (linesF N)[0]? = some (l0F N) := by
    unfold linesF l0F
    rw [List.getElem?_map, List.getElem?_eq_getElem hpos, List.getD_eq_getElem?_getD, List.getElem?_eq_getElem hpos]; rfl
  have hix0 : ixT (.list ((linesF N).map .str)) (.int 0) = some (.str (l0F N)) := by
    rw [ixT_list]
    exact nth_nat (k := 0) (by rw [List.getElem?_map, hli]; rfl) (by unfold linesF; rw [List.length_map, List.length_map]; lia)
  have e1 : opn.length = 1 := rfl
  have e2 : cls.length = 1 := rfl
  refine Ex.cons (Ex1.assign (t := stL (linesX N)) (EvN.castE (EvN.add (a := (linesF N).map .str) (b := [.str (opn ++ l0F N), .str (l0F N ++ cls)]) (Ev.name rfl rfl).b (EvN.list (.cons rfl (Ev.bin (a := .str opn) (b := .str (l0F N)) Ev.cstr.b (Ev.ix (Ev.name rfl rfl).b Ev.cint rfl hix0).b (BinOk.add_str (by lia))) (.cons rfl (Ev.bin (a := .str (l0F N)) (b := .str cls) (Ev.ix (Ev.name rfl rfl).b Ev.cint rfl hix0).b Ev.cstr.b (BinOk.add_str (by lia))) .nil)) (by show 2 ≤ sizeLine; lia)).ev.b (by unfold linesF; rw [List.length_map, List.length_map]; show _ + 2 ≤ _; lia)) (by unfold linesX; rw [List.map_append]; rfl)) rfl rfl) ?_
  refine Ex.cons (Ex1.assign (t := stL (linesX N)) (EvN.copy (l := (linesX N).map .str) rfl (hT.sub (sc := fnScope PW 28)).list (Ev.name rfl rfl).b rfl (by rw [List.length_map]; lia)).ev rfl rfl) ?_
  refine Ex.cons (Ex1.assign (t := stL (keptF N)) (EvN.fn 4 (ts := [stL (linesX N)]) hT.sub rfl rfl (.cons rfl (Ev.name rfl rfl) .nil) (by simp) (pre_ok (n := n) hT.sub (by lia) hLl)).ev rfl rfl) ?_
  have hKl : (keptF N).length = (osF N).length + 2 := by unfold keptF; rw [List.length_map, hLX]
  have hlo : Mine.bi "len" [strsT (osF N)] = some (.int ((osF N).length : Nat)) := by
    unfold strsT
    rw [bi_lenL (by rw [List.length_map]; lia), List.length_map]
  have hrn : rangeN (0, ((osF N).length : Int), 1) = some (osF N).length := by
    have := rangeN_ok (part := ((osF N).length : Int)) (by lia) (by lia)
    rwa [show (((osF N).length : Nat) : Int).toNat = (osF N).length by simp] at this
  refine Ex.cons (Ex1.assignComp (l := rangeL 0 1 (osF N).length) (out := ((osF N).map fun o => preOne (lineOf N o)).map .str) rfl rfl (EvI.range (ts := [.int ((osF N).length : Nat)]) (q := (0, ((osF N).length : Int), 1)) (m := (osF N).length) rfl (hT.sub (sc := fnScope PW 28)).range (EachB.cons rfl (Ev.bi hT.sub rfl rfl (EachB.cons rfl (Ev.name rfl rfl).b .nil) (by simp) hlo rfl).b .nil) (by simp) rfl hrn) ?_ (by rw [List.length_map, List.length_map]; lia) rfl) ?_
  · rw [rangeL0]
    refine Turns.cast (Turns.map1 (fun (k : Nat) => T.int k) (fun k => .str (preOne (lineOf N ((osF N).getD k [])))) rfl rfl (List.range (osF N).length) fun k hk => ⟨_, rfl, Sub.cons rfl (Sub.one rfl), ?_⟩) rfl (range_map' (osF N) (fun o => preOne (lineOf N o)) .str)
    have hk' : k < (osF N).length := List.mem_range.mp hk
    have hcl : cut ((linesX N).map T.str) (some (k : Int)) (some ((k : Int) + 1)) = [.str (lineOf N ((osF N).getD k []))] := cut_one (by rw [List.getElem?_map, linesX_at hk']; rfl)
    have hck : cut ((keptF N).map T.str) (some (k : Int)) (some ((k : Int) + 1)) = [.str (preOne (lineOf N ((osF N).getD k [])))] := cut_one (by rw [List.getElem?_map, keptF_at hk']; rfl)
    have hlk : ixT (stL (linesX N)) (.int k) = some (.str (lineOf N ((osF N).getD k []))) := by
      unfold stL
      rw [ixT_list]
      exact nth_nat (by rw [List.getElem?_map, linesX_at hk']; rfl) (by rw [List.length_map]; lia)
    generalize lineOf N ((osF N).getD k []) = v at hcl hck hlk
    refine Ev.ifexp (q := preOne v == v) (EvT.cmp (a := .list [.str (preOne v)]) (b := .list [.str v]) (EvN.castE (EvN.slice (l := (keptF N).map .str) (a := some (k : Int)) (b := some ((k : Int) + 1)) (Ev.name rfl rfl).b (.yes (Ev.name rfl rfl)) (.yes (Ev.bin (Ev.name rfl rfl).b Ev.cint.b BinOk.add_int)) (by rw [List.length_map]; lia)) hck).b (EvN.castE (EvN.slice (l := (linesX N).map .str) (a := some (k : Int)) (b := some ((k : Int) + 1)) (Ev.name rfl rfl).b (.yes (Ev.name rfl rfl)) (.yes (Ev.bin (Ev.name rfl rfl).b Ev.cint.b BinOk.add_int)) (by rw [List.length_map]; lia)) hcl).b (eqv_one _ _) rfl) (fun h => ?_) (fun h => ?_)
    · have : preOne v = v := by simpa using h
      rw [this]
      exact Ev.ix (Ev.name rfl rfl).b (Ev.name rfl rfl) rfl hlk
    · rw [preOne_ne h]; exact Ev.cstr
  have hkd : keptF N = ((osF N).map fun o => preOne (lineOf N o)) ++ [none2, none2] := by
    unfold keptF linesX linesF
    rw [List.map_append, List.map_map]
    have p1 : preOne (opn ++ l0F N) = none2 := by unfold preOne; rw [hlast.1]; rfl
    have p2 : preOne (l0F N ++ cls) = none2 := by unfold preOne; rw [hlast.2]; rfl
    simp only [List.map_cons, List.map_nil, p1, p2]
    rfl
  refine Ex.cons (Ex1.ite (q := false || false) (EvT.or2 (EvT.cmp (a := stL (keptF N)) (b := stL (keptF N)) (Ev.name rfl rfl).b (EvN.castE (EvN.add (a := ((osF N).map fun o => preOne (lineOf N o)).map .str) (b := [.str none2, .str none2]) (Ev.name rfl rfl).b (EvN.list (.cons rfl Ev.cstr (.cons rfl Ev.cstr .nil)) (by show 2 ≤ sizeLine; lia)).ev.b (by rw [List.length_map, List.length_map]; show _ + 2 ≤ _; lia)) (by rw [hkd, List.map_append]; rfl)).b (by show (ceq _ _).map _ = _; unfold stL; rw [ceq_list, eqv_strs 7]; rfl) rfl) (EvT.cmp (a := stL (linesX N)) (b := stL (linesX N)) (Ev.name rfl rfl).b (Ev.name rfl rfl).b (by show (ceq _ _).map _ = _; unfold stL; rw [ceq_list, eqv_strs 7]; rfl) rfl)) (fun h => by cases h) (fun _ => Ex.nil)) ?_
  refine Ex.pre h ?_
  exact Sub.cons rfl (Sub.cons rfl (Sub.cons rfl (Sub.cons rfl (Sub.cons rfl (Sub.cons rfl (Sub.cons rfl (Sub.cons rfl (Sub.cons rfl (Sub.cons rfl (Sub.one rfl))))))))))
end
end Mine
end

section
set_option autoImplicit false
set_option linter.unusedVariables false
set_option linter.unusedSimpArgs false
namespace Mine
open PySem PySem.Calls PyProof.Rows PySem.SeqAt PySem.Spec

def heardF (N : List Int) : List (List Nat) := (osF N).filter fun o => preOne (lineOf N o) == lineOf N o
def mF (N : List Int) : Int := leastF N + farF N + nearF N + 2
def dF (N : List Int) : Int := leastF N + farF N + 1
def v0F (N : List Int) : Int × Int × Int := (mF N - 2, dF N - 1, leastF N)
def stayL (N : List Int) : List (List Nat) := (osF N).filter fun o => stayF o (v0F N)
def o0F (N : List Int) : List Nat := (osF N).getD 0 []
def goalF (N : List Int) : Int × Int × Int := (mF N + (o0F N).count 0, dF N + (o0F N).count 1, leastF N + (o0F N).count 2)
def diffF (N : List Int) (p : Nat) : Int × Int × Int := ((goalF N).1 - (rowF (mF N) (dF N) (leastF N) p).1, (goalF N).2.1 - (rowF (mF N) (dF N) (leastF N) p).2.1, (goalF N).2.2 - (rowF (mF N) (dF N) (leastF N) p).2.2)
def wayF (N : List Int) (p : Nat) : Int := waysF (diffF N p).1 (diffF N p).2.1 (diffF N p).2.2
def WayOk (x : Int × Int × Int) : Prop := (-100 ≤ x.1 ∧ x.1 ≤ 100) ∧ (-100 ≤ x.2.1 ∧ x.2.1 ≤ 100) ∧ (-100 ≤ x.2.2 ∧ x.2.2 ≤ 100) ∧ (min3 x.1 x.2.1 x.2.2 < 0 ∨ (0 ≤ x.1 ∧ 0 ≤ x.2.1 ∧ 0 ≤ x.2.2 ∧ x.1 + x.2.1 + x.2.2 ≤ 8))

theorem range_get (os : List (List Nat)) : (List.range os.length).map (fun k => os.getD k []) = os := by
  apply List.ext_getElem?
  intro k
  by_cases hk : k < os.length
  · rw [List.getElem?_map, List.getElem?_range hk, List.getElem?_eq_getElem hk]
    show some (os.getD k []) = _
    rw [List.getD_eq_getElem?_getD, List.getElem?_eq_getElem hk]; rfl
  · rw [List.getElem?_eq_none (by simp; lia), List.getElem?_eq_none (by lia)]
theorem range_filter (os : List (List Nat)) (P : List Nat → Bool) (f : List Nat → T) : ((List.range os.length).filter fun k => P (os.getD k [])).map (fun k => f (os.getD k [])) = (os.filter P).map f := by
  have h : os.filter P = ((List.range os.length).filter fun k => P (os.getD k [])).map fun k => os.getD k [] := by
    conv => lhs; rw [← range_get os]
    rw [List.filter_map]; rfl
  rw [h, List.map_map]; rfl
theorem any_mem {x : Str} : ∀ {l : List Str}, x ∈ l → anyEq (.str x) (l.map .str) = some true := by
  have tot : ∀ l : List Str, ∃ b, anyEq (.str x) (l.map .str) = some b := by
    intro l
    induction l with
    | nil => exact ⟨_, rfl⟩
    | cons y l ih =>
      obtain ⟨b, hb⟩ := ih
      refine ⟨(y == x) || b, ?_⟩
      show (match eqv 8 (.str y) (.str x), anyEq (.str x) (l.map .str) with | some a, some b => some (a || b) | _, _ => none) = _
      rw [hb, eqv_str]
  intro l
  induction l with
  | nil => intro h; cases h
  | cons y l ih =>
    intro h
    obtain ⟨b, hb⟩ := tot l
    show (match eqv 8 (.str y) (.str x), anyEq (.str x) (l.map .str) with | some a, some b => some (a || b) | _, _ => none) = _
    rcases List.mem_cons.mp h with rfl | h
    · rw [hb, eqv_str, beq_self_eq_true]; rfl
    · rw [ih h, eqv_str]; show some (_ || true) = _; rw [Bool.or_true]

section
variable {c : Cx} {n : Nat} {ρ : Rho}
theorem law_3 (hT : Top c) {S N : List Int} (hN : N.length = 5) (hne : osF N ≠ []) (hreach : Reach StayOk 4 (v0F N)) (hI : ∀ p, p < 6 → imgB (mF N) (dF N) (leastF N) p = true) (hsub : ∀ o ∈ heardF N, o ∈ stayL N) (hway : ∀ p, p < 4 → WayOk (diffF N p))
    (hfin : ((heardF N).length : Int) = wayF N 0 - wayF N 1 + wayF N 2 - wayF N 3 ∧ ((stayL N).length : Int) = wayF N 0 - wayF N 1 + wayF N 2 - wayF N 3) :
    Ex (funCx c (fnScope PW 28)) (n + 5) (lawRho2 S N) ((fnBody PW 28).drop 12) (.ret (.bool true) false) := by
  have hz : (1000000 : Nat) ≤ sizeLine := by decide
  have hgood := draw_good (ws := N.drop 1) (near := nearF N) (far := farF N) (by rw [List.length_drop, hN])
  have hos := ord_good hgood.2
  have hol : (osF N).length ≤ 81 := ordersF_len (by rw [hgood.2]; lia)
  have hpos : 0 < (osF N).length := List.length_pos_iff.mpr hne
  have hLX : (linesX N).length = (osF N).length + 2 := by unfold linesX linesF; simp
  have hKl : (keptF N).length = (osF N).length + 2 := by unfold keptF; rw [List.length_map, hLX]
  have hlo : Mine.bi "len" [strsT (osF N)] = some (.int ((osF N).length : Nat)) := by
    unfold strsT
    rw [bi_lenL (by rw [List.length_map]; lia), List.length_map]
  have hrn : rangeN (0, ((osF N).length : Int), 1) = some (osF N).length := by
    have := rangeN_ok (part := ((osF N).length : Int)) (by lia) (by lia)
    rwa [show (((osF N).length : Nat) : Int).toNat = (osF N).length by simp] at this
  have hhl : (heardF N).length ≤ 81 := Nat.le_trans (List.length_filter_le _ _) hol
  have hsl : (stayL N).length ≤ 81 := Nat.le_trans (List.length_filter_le _ _) hol
  conv in (List.drop 12 _) => whnf
  -- heard
  refine Ex.cons (Ex1.assignComp (l := rangeL 0 1 (osF N).length) (out := (heardF N).map fun o => .str (wordS o)) rfl rfl (EvI.range (ts := [.int ((osF N).length : Nat)]) (q := (0, ((osF N).length : Int), 1)) (m := (osF N).length) rfl (hT.sub (sc := fnScope PW 28)).range (EachB.cons rfl (Ev.bi hT.sub rfl rfl (EachB.cons rfl (Ev.name rfl rfl).b .nil) (by simp) hlo rfl).b .nil) (by simp) rfl hrn) ?_ (by rw [List.length_map]; lia) rfl) ?_
  · rw [rangeL0]
    refine Turns.cast (Turns.map2 (fun (k : Nat) => T.int k) (fun k => .str (wordS ((osF N).getD k []))) (fun k => preOne (lineOf N ((osF N).getD k [])) == lineOf N ((osF N).getD k [])) rfl rfl (List.range (osF N).length) fun k hk => ⟨_, rfl, Sub.cons rfl (Sub.cons rfl (Sub.one rfl)), ?_, fun _ => ?_⟩) rfl (range_filter (osF N) (fun o => preOne (lineOf N o) == lineOf N o) fun o => .str (wordS o))
    · have hk' : k < (osF N).length := List.mem_range.mp hk
      have hlk : ixT (stL (linesX N)) (.int k) = some (.str (lineOf N ((osF N).getD k []))) := by
        unfold stL
        rw [ixT_list]
        exact nth_nat (by rw [List.getElem?_map, linesX_at hk']; rfl) (by rw [List.length_map]; lia)
      have hkk : ixT (stL (keptF N)) (.int k) = some (.str (preOne (lineOf N ((osF N).getD k [])))) := by
        unfold stL
        rw [ixT_list]
        exact nth_nat (by rw [List.getElem?_map, keptF_at hk']; rfl) (by rw [List.length_map]; lia)
      exact EvT.cmp (Ev.ix (Ev.name rfl rfl).b (Ev.name rfl rfl) rfl hkk).b (Ev.ix (Ev.name rfl rfl).b (Ev.name rfl rfl) rfl hlk).b rfl rfl
    · have hk' : k < (osF N).length := List.mem_range.mp hk
      have hok : ixT (strsT (osF N)) (.int k) = some (.str (wordS ((osF N).getD k []))) := by
        unfold strsT
        rw [ixT_list]
        exact nth_nat (getD_map _ _ _ hk') (by rw [List.length_map]; lia)
      exact Ev.ix (Ev.name rfl rfl).b (Ev.name rfl rfl) rfl hok
  -- stay
  refine Ex.cons (Ex1.assignComp (l := (osF N).map fun o => .str (wordS o)) (out := (stayL N).map fun o => .str (wordS o)) rfl rfl (EvI.list (Ev.name rfl rfl).b) ?_ (by rw [List.length_map]; lia) rfl) ?_
  · refine Turns.map2 (fun o => .str (wordS o)) (fun o => .str (wordS o)) (fun o => stayF o (v0F N)) rfl rfl (osF N) fun o ho => ⟨_, rfl, Sub.cons rfl (Sub.cons rfl (Sub.one rfl)), ?_, fun _ => Ev.name rfl rfl⟩
    have hr : Reach StayOk o.length (v0F N) := by rw [(hos o ho).2]; exact hreach
    exact EvT.val (Ev.fn 25 (ts := [.str (wordS o), vT (v0F N)]) hT.sub.comp rfl rfl (.cons rfl (Ev.name rfl rfl) (.cons rfl (EvN.list (.cons rfl (Ev.bin (Ev.name rfl rfl).b Ev.cint.b BinOk.sub_int) (.cons rfl (Ev.bin (Ev.name rfl rfl).b Ev.cint.b BinOk.sub_int) (.cons rfl (Ev.name rfl rfl) .nil))) (by show 3 ≤ sizeLine; lia)).ev .nil)) (by simp) (stay_ok (n := n + 3) hT.sub.comp (hos o ho).1.2 hr)) rfl
  -- images
  refine Ex.cons (Ex1.assign (t := .list (imgsT (mF N) (dF N) (leastF N))) (EvN.fn 27 (ts := [.int (mF N), .int (dF N), .int (leastF N)]) hT.sub rfl rfl (.cons rfl (Ev.name rfl rfl) (.cons rfl (Ev.name rfl rfl) (.cons rfl (Ev.name rfl rfl) .nil))) (by simp) (imgs_ok (n := n + 2) hT.sub hI)).ev rfl rfl) ?_
  -- if
  refine Ex.cons (Ex1.ite (q := false || false) (EvT.or2 (EvT.cmp (a := .list (imgsT (mF N) (dF N) (leastF N))) (b := .none) (Ev.name rfl rfl).b Ev.cnone.b rfl rfl) (EvT.cmp (a := .list []) (b := .list []) (EvN.comp (l := (heardF N).map fun o => .str (wordS o)) (out := []) rfl rfl (EvI.list (Ev.name rfl rfl).b) ?_ (by simp)).ev.b (EvN.list .nil (by simp)).ev.b rfl rfl)) (fun h => by cases h) (fun _ => Ex.nil)) ?_
  · refine Turns.cast (Turns.map2 (fun o => .str (wordS o)) (fun o => .str (wordS o)) (fun _ => false) rfl rfl (heardF N) fun o ho => ⟨_, rfl, Sub.one rfl, ?_, fun h => by cases h⟩) rfl (by rw [List.filter_eq_nil_iff.mpr (by simp)]; rfl)
    have hmem : wordS o ∈ (stayL N).map wordS := List.mem_map.mpr ⟨o, hsub o ho, rfl⟩
    have ha := any_mem hmem
    rw [List.map_map] at ha
    exact EvT.cmp (a := .str (wordS o)) (b := .list ((stayL N).map fun o => .str (wordS o))) (Ev.name rfl rfl).b (Ev.name rfl rfl).b (by show (anyEq _ _).map _ = _; rw [show (stayL N).map (fun o => T.str (wordS o)) = (stayL N).map (T.str ∘ wordS) from rfl, ha]; rfl) rfl
  -- goal
  have h0 : ixT (strsT (osF N)) (.int 0) = some (.str (wordS (o0F N))) := by
    unfold strsT
    rw [ixT_list]
    exact nth_nat (k := 0) (getD_map _ _ _ hpos) (by rw [List.length_map]; lia)
  have hg0 : Good (o0F N) := (hos _ (by unfold o0F; rw [List.getD_eq_getElem?_getD, List.getElem?_eq_getElem hpos]; exact List.getElem_mem _)).1
  have hbase : ∀ j : Nat, j < 3 → ixT (.list [.int (mF N), .int (dF N), .int (leastF N)]) (.int (j : Int)) = some (.int (if j = 0 then mF N else if j = 1 then dF N else leastF N)) := by
    exact ix3
  refine Ex.cons (Ex1.assignComp (l := rangeL 0 1 3) (out := [.int (goalF N).1, .int (goalF N).2.1, .int (goalF N).2.2]) rfl rfl (EvI.range (ts := [.int 3]) (q := (0, 3, 1)) (m := 3) rfl (hT.sub (sc := fnScope PW 28)).range (EachB.cons rfl Ev.cint.b .nil) (by simp) rfl rfl) ?_ (by show 3 ≤ sizeLine; lia) rfl) ?_
  · refine Turns.map1 (fun (j : Nat) => T.int j) (fun j => T.int ((if j = 0 then mF N else if j = 1 then dF N else leastF N) + (o0F N).count j)) rfl rfl [0, 1, 2] fun j hj => ⟨_, rfl, Sub.cons rfl (Sub.cons rfl (Sub.cons rfl (Sub.one rfl))), ?_⟩
    have hj3 : j < 3 := by simp at hj; lia
    exact Ev.bin (Ev.ix (EvN.list (.cons rfl (Ev.name rfl rfl) (.cons rfl (Ev.name rfl rfl) (.cons rfl (Ev.name rfl rfl) .nil))) (by show 3 ≤ sizeLine; lia)).ev.b (Ev.name rfl rfl) rfl (hbase j hj3)).b (hg0.count hj3 ▸ Ev.countS (x := wordS (o0F N)) (y := ⟨#[letter j]⟩) (Ev.ix (Ev.name rfl rfl).b Ev.cint rfl h0).b (Ev.ix (o := .str "fil") (k := .int j) Ev.cstr.b (Ev.name rfl rfl) rfl (fil_at hj3)).b rfl rfl rfl).b BinOk.add_int
  -- ways
  have him : cut (imgsT (mF N) (dF N) (leastF N)) none (some ((4 : Nat) : Int)) = [0, 1, 2, 3].map fun p => rowT (rowF (mF N) (dF N) (leastF N) p) := by
    rw [cut_take]; rfl
  have hil : (imgsT (mF N) (dF N) (leastF N)).length = 6 := by unfold imgsT; simp
  refine Ex.cons (Ex1.assignComp (l := [0, 1, 2, 3].map fun p => rowT (rowF (mF N) (dF N) (leastF N) p)) (out := [0, 1, 2, 3].map fun p => .int (wayF N p)) rfl rfl (EvI.list (EvN.castE (EvN.slice (l := imgsT (mF N) (dF N) (leastF N)) (b := some ((4 : Nat) : Int)) (Ev.name rfl rfl).b .no (.yes Ev.cint) (by lia)) him).b) ?_ (by show 4 ≤ sizeLine; lia) rfl) ?_
  · refine Turns.map1 (fun p => rowT (rowF (mF N) (dF N) (leastF N) p)) (fun p => .int (wayF N p)) rfl rfl [0, 1, 2, 3] fun p hp => ⟨_, rfl, Sub.one rfl, ?_⟩
    have hp4 : p < 4 := by simp at hp; lia
    obtain ⟨w1, w2, w3, w4⟩ := hway p hp4
    refine Ev.fn 26 (ts := [.list [.int (diffF N p).1, .int (diffF N p).2.1, .int (diffF N p).2.2]]) hT.sub.comp rfl rfl (.cons rfl (EvN.castE (EvN.comp (l := rangeL 0 1 3) (out := [.int (diffF N p).1, .int (diffF N p).2.1, .int (diffF N p).2.2]) rfl rfl (EvI.range (ts := [.int 3]) (q := (0, 3, 1)) (m := 3) rfl (hT.sub.comp).range (EachB.cons rfl Ev.cint.b .nil) (by simp) rfl rfl) ?_ (by show 3 ≤ sizeLine; lia)) rfl) .nil) (by simp) (ways_ok (n := n + 4) hT.sub.comp w1 w2 w3 w4)
    refine Turns.map1 (fun (j : Nat) => T.int j) (fun j => T.int ((if j = 0 then (goalF N).1 else if j = 1 then (goalF N).2.1 else (goalF N).2.2) - (if j = 0 then (rowF (mF N) (dF N) (leastF N) p).1 else if j = 1 then (rowF (mF N) (dF N) (leastF N) p).2.1 else (rowF (mF N) (dF N) (leastF N) p).2.2))) rfl rfl [0, 1, 2] fun j hj => ⟨_, rfl, Sub.cons rfl (Sub.one rfl), ?_⟩
    have hj3 : j < 3 := by simp at hj; lia
    have i1 : ixT (.list [.int (goalF N).1, .int (goalF N).2.1, .int (goalF N).2.2]) (.int (j : Int)) = some (.int (if j = 0 then (goalF N).1 else if j = 1 then (goalF N).2.1 else (goalF N).2.2)) := by
      exact ix3 j hj3
    have i2 : ixT (rowT (rowF (mF N) (dF N) (leastF N) p)) (.int (j : Int)) = some (.int (if j = 0 then (rowF (mF N) (dF N) (leastF N) p).1 else if j = 1 then (rowF (mF N) (dF N) (leastF N) p).2.1 else (rowF (mF N) (dF N) (leastF N) p).2.2)) := by
      exact ix3 j hj3
    exact Ev.bin (Ev.ix (Ev.name rfl rfl).b (Ev.name rfl rfl) rfl i1).b (Ev.ix (Ev.name rfl rfl).b (Ev.name rfl rfl) rfl i2).b BinOk.sub_int
  -- return
  have hw : ∀ j : Nat, j < 4 → ixT (.list ([0, 1, 2, 3].map fun p => T.int (wayF N p))) (.int (j : Int)) = some (.int (wayF N j)) := by
    intro j hj
    have := n4 j hj
    rcases this with rfl | rfl | rfl | rfl <;> rfl
  obtain ⟨f1, f2⟩ := hfin
  generalize hW : wayF N 0 - wayF N 1 + wayF N 2 - wayF N 3 = W at f1 f2
  have hlh : Mine.bi "len" [.list ((heardF N).map fun o => .str (wordS o))] = some (.int W) := by
    rw [bi_lenL (by rw [List.length_map]; lia), List.length_map, f1]
  have hls : Mine.bi "len" [.list ((stayL N).map fun o => .str (wordS o))] = some (.int W) := by
    rw [bi_lenL (by rw [List.length_map]; lia), List.length_map, f2]
  refine Ex.ret (Ex1.ret ?_)
  refine Ev.cmp (a := .list [.int W, .int W]) (b := .list (List.replicate (2 : Int).toNat (.int W))) (EvN.list (.cons rfl (Ev.bi hT.sub rfl rfl (EachB.cons rfl (Ev.name rfl rfl).b .nil) (by simp) hlh rfl) (.cons rfl (Ev.bi hT.sub rfl rfl (EachB.cons rfl (Ev.name rfl rfl).b .nil) (by simp) hls rfl) .nil)) (by show 2 ≤ sizeLine; lia)).ev.b (EvN.mul1 (a := .int W) (i := 2) (EvN.list (.cons rfl (hW ▸ Ev.bin (Ev.bin (Ev.bin (Ev.ix (Ev.name rfl rfl).b Ev.cint rfl (hw 0 (by decide))).b (Ev.ix (Ev.name rfl rfl).b Ev.cint rfl (hw 1 (by decide))).b BinOk.sub_int).b (Ev.ix (Ev.name rfl rfl).b Ev.cint rfl (hw 2 (by decide))).b BinOk.add_int).b (Ev.ix (Ev.name rfl rfl).b Ev.cint rfl (hw 3 (by decide))).b BinOk.sub_int) .nil) (by show 1 ≤ sizeLine; lia)).ev.b Ev.cint.b (by decide) (by decide)).ev.b ?_ rfl
  show eqv 8 (.list [.int W, .int W]) (.list [.int W, .int W]) = some true
  show (match eqv 7 (.int W) (.int W), (match eqv 7 (.int W) (.int W), (some true : Option Bool) with | some a, some b => some (a && b) | _, _ => none) with | some a, some b => some (a && b) | _, _ => none) = some true
  rw [eqv_int, beq_self_eq_true]; rfl
end
end Mine
end

section
set_option autoImplicit false
set_option linter.unusedVariables false
set_option linter.unusedSimpArgs false
namespace Mine
open PySem PySem.Calls PyProof.Rows PySem.SeqAt PySem.Spec

/-- what the plain law has to show of the five numbers -/
structure PlainN (N : List Int) : Prop where
  ne : osF N ≠ []
  last : checkF (opn ++ l0F N) = false ∧ checkF (l0F N ++ cls) = false
  reach : Reach StayOk 4 (v0F N)
  img : ∀ p, p < 6 → imgB (mF N) (dF N) (leastF N) p = true
  sub : ∀ o ∈ heardF N, o ∈ stayL N
  way : ∀ p, p < 4 → WayOk (diffF N p)
  fin : ((heardF N).length : Int) = wayF N 0 - wayF N 1 + wayF N 2 - wayF N 3 ∧ ((stayL N).length : Int) = wayF N 0 - wayF N 1 + wayF N 2 - wayF N 3

section
variable {c : Cx} {n : Nat} {ρ : Rho}
theorem law_ok (hT : Top c) (hTy : TypedOk) (hP : ∀ N : List Int, N.length = 5 → (∀ x ∈ N, 0 ≤ x) → PlainN N) {S : List Int} (hS : S.length ≤ 63) : FnV c (n + 6) 28 [.list (S.map .int)] (.bool true) := fun a hf => by
  refine FOk.of (n := n + 5) (xs := ["script"]) hf ?_ ?_
  · exact .one fun _ _ _ _ _ _ _ _ _ _ _ _ _ => rfl
  · have P := hP (numsF S) (nums_len S) (nums_ge S)
    exact law_1 (n := n + 2) hT hTy hS (law_2 hT (nums_len S) P.ne P.last (law_3 hT (nums_len S) P.ne P.reach P.img P.sub P.way P.fin))
end
end Mine
end

section
set_option autoImplicit false
set_option linter.unusedVariables false
set_option linter.unusedSimpArgs false
namespace Mine
open PySem PySem.Calls PyProof.Rows PySem.SeqAt PySem.Spec

/-- the sign q is read as the letters r -/
def readsB (q : Nat) (r : List Nat) : Bool := okSign q && (if b1S q then r == [] else b3F q == wordS r)
def oneQ (k : Nat) (st : Int) : Int := if 2 < st then grL.getD (st - 3).toNat 0 + letter k - 97 else styleQ k st
theorem one_reads : ∀ k < 3, ∀ st : Nat, st < 13 → readsB (oneQ k st).toNat [k] = true := by decide +kernel
theorem hid_reads : ∀ r : Nat, r < 27 → readsB (if (r : Int) < 11 then noL.getD r 0 else 65013 + (r : Int)).toNat [] = true := by decide +kernel
theorem join_reads : ∀ w ∈ wordsOf 4, ∀ p : Nat, p < 4 → ∀ z ∈ ([3, 2] : List Int), (match joinL.lookup (sliceW w (p : Int) z) with | some v => readsB v.toNat ((w.drop p).take z.toNat) | none => true) = true := by decide +kernel
end Mine
end

section
set_option autoImplicit false
set_option linter.unusedVariables false
set_option linter.unusedSimpArgs false
namespace Mine
open PySem PySem.Calls PyProof.Rows PySem.SeqAt PySem.Spec

theorem str_nil (x : Str) : x ++ (⟨#[]⟩ : Str) = x := by
  show (⟨x.cps ++ #[]⟩ : Str) = x
  simp
theorem join_cons (x : Str) (l : List Str) : Txt.join "" (x :: l) = x ++ Txt.join "" l := by
  show Builtin.Str.glued "" (x :: l) = x ++ Builtin.Str.glued "" l
  rw [PySem.StrLaws.glued_eq_join, PySem.StrLaws.glued_eq_join]
  cases l with
  | nil => exact (str_nil x).symm
  | cons y l =>
    show x ++ "" ++ Str.join "" (y :: l) = _
    rw [show x ++ ("" : Str) = x from str_nil x]
theorem join_nil : Txt.join "" [] = wordS [] := by decide
theorem word_app (a b : List Nat) : wordS a ++ wordS b = wordS (a ++ b) := by
  show (⟨(a.map letter).toArray ++ (b.map letter).toArray⟩ : Str) = ⟨((a ++ b).map letter).toArray⟩
  simp
theorem reads_ok {q : Nat} {r : List Nat} (h : readsB q r = true) : okSign q = true ∧ ((b1S q = true ∧ r = []) ∨ (b1S q = false ∧ b3F q = wordS r)) := by
  unfold readsB at h
  simp only [Bool.and_eq_true] at h
  refine ⟨h.1, ?_⟩
  cases hb : b1S q with
  | true => left; rw [hb] at h; exact ⟨rfl, by simpa using h.2⟩
  | false => right; rw [hb] at h; exact ⟨rfl, by simpa using h.2⟩
theorem prep_reads : ∀ ps : List (Nat × List Nat), (∀ p ∈ ps, readsB p.1 p.2 = true) → prepF (ps.map (·.1)) = wordS (ps.flatMap (·.2))
  | [], _ => join_nil
  | (q, r) :: ps, h => by
    have ih := prep_reads ps fun p hp => h p (List.mem_cons_of_mem _ hp)
    obtain ⟨_, hr⟩ := reads_ok (h (q, r) List.mem_cons_self)
    rw [List.flatMap_cons, ← word_app, ← ih]
    unfold prepF
    rw [List.map_cons]
    rcases hr with ⟨hb, hr⟩ | ⟨hb, hr⟩
    · dsimp only at hb hr
      subst hr
      rw [List.filter_cons_of_neg (by simp [hb])]
      show _ = (⟨#[] ++ (Txt.join _ _).cps⟩ : Str)
      simp
    · rw [List.filter_cons_of_pos (by simp [hb]), List.map_cons, join_cons]
      dsimp only at hr ⊢
      rw [hr]

def TI (o : List Nat) (p : Nat) (s : List Nat × Int) : Prop := ∃ ps : List (Nat × List Nat), s.1 = ps.map (·.1) ∧ (∀ q ∈ ps, readsB q.1 q.2 = true) ∧ ps.flatMap (·.2) = o.take (max p s.2.toNat) ∧ 0 ≤ s.2 ∧ ps.length ≤ 2 * p

theorem ti_step {o : List Nat} {seed : Int} {p : Nat} {s : List Nat × Int} (ho : Good o) (h4 : o.length = 4) (hp : p < 4) (h : TI o p s) : TI o (p + 1) (typedStep o seed s p) := by
  obtain ⟨ps, e1, e2, e3, e4, e5⟩ := h
  obtain ⟨t, dn⟩ := s
  dsimp only at e1 e3 e4
  have hhid : readsB (hidQ seed).toNat [] = true := by
    have h0 := Int.emod_nonneg seed (b := 27) (by decide)
    have h1 := Int.emod_lt_of_pos seed (b := 27) (by decide)
    have := hid_reads (seed % 27).toNat (toNat_lt (Int.emod_nonneg _ (by decide)) (Int.emod_lt_of_pos _ (by decide)))
    rw [Int.toNat_of_nonneg (Int.emod_nonneg _ (by decide))] at this
    exact this
  obtain ⟨ps1, f1, f2, f3, f4⟩ : ∃ ps1 : List (Nat × List Nat), (if (p : Int) = seed / 2 % 4 then t ++ [(hidQ seed).toNat] else t) = ps1.map (·.1) ∧ (∀ q ∈ ps1, readsB q.1 q.2 = true) ∧ ps1.flatMap (·.2) = o.take (max p dn.toNat) ∧ ps1.length ≤ 2 * p + 1 := by
    split
    · refine ⟨ps ++ [((hidQ seed).toNat, [])], by rw [List.map_append, e1]; rfl, fun q hq => ?_, by rw [List.flatMap_append, e3]; simp, by simp; lia⟩
      rcases List.mem_append.mp hq with h | h
      · exact e2 q h
      · simp at h; subst h; exact hhid
    · exact ⟨ps, e1, e2, e3, by lia⟩
  unfold typedStep
  dsimp only
  generalize (if (p : Int) = seed / 2 % 4 then t ++ [(hidQ seed).toNat] else t) = t1 at f1 ⊢
  by_cases hd : dn ≤ (p : Int)
  · rw [if_pos hd]
    rw [Nat.max_eq_left (Int.toNat_le.mpr hd)] at f3
    cases hzs : sizesF o (seed % 2 == 1) p with
    | cons z zs =>
      dsimp only
      have hmem : z ∈ sizesF o (seed % 2 == 1) p := by rw [hzs]; exact List.mem_cons_self
      obtain ⟨hz1, hz2⟩ := List.mem_filter.mp hmem
      simp only [Bool.and_eq_true] at hz2
      obtain ⟨v, hv⟩ := Option.isSome_iff_exists.mp hz2.2
      have hj := join_reads o (h4 ▸ ho.mem) p hp z hz1
      rw [hv] at hj ⊢
      dsimp only [Option.getD_some] at hj ⊢
      have hz : z = 3 ∨ z = 2 := by simpa using hz1
      refine ⟨ps1 ++ [(v.toNat, (o.drop p).take z.toNat)], by rw [List.map_append, f1]; rfl, fun q hq => ?_, ?_, by show 0 ≤ (p : Int) + z; lia, by simp; lia⟩
      · rcases List.mem_append.mp hq with h | h
        · exact f2 q h
        · simp at h; subst h; exact hj
      · rw [List.flatMap_append, f3]
        show o.take p ++ ((o.drop p).take z.toNat ++ []) = o.take (max (p + 1) ((p : Int) + z).toNat)
        rw [List.append_nil, ← List.take_add, show max (p + 1) ((p : Int) + z).toNat = p + z.toNat by rcases hz with rfl | rfl <;> exact Nat.max_eq_right (Nat.add_le_add_left (by decide) p)]
    | nil =>
      dsimp only
      have hk3 : o.getD p 0 < 3 := by
        rw [List.getD_eq_getElem?_getD, List.getElem?_eq_getElem (by lia)]
        exact ho.2 _ (List.getElem_mem _)
      have h0 := Int.emod_nonneg (seed / 2 + p) (b := 13) (by decide)
      have h1 := Int.emod_lt_of_pos (seed / 2 + p) (b := 13) (by decide)
      have hr := one_reads (o.getD p 0) hk3 ((seed / 2 + p) % 13).toNat (toNat_lt h0 h1)
      rw [Int.toNat_of_nonneg h0] at hr
      refine ⟨ps1 ++ [((typedOne o seed p).toNat, [o.getD p 0])], by rw [List.map_append, f1]; rfl, fun q hq => ?_, ?_, e4, by simp; lia⟩
      · rcases List.mem_append.mp hq with h | h
        · exact f2 q h
        · simp at h; subst h; exact hr
      · rw [List.flatMap_append, f3]
        show o.take p ++ ([o.getD p 0] ++ []) = o.take (max (p + 1) dn.toNat)
        rw [List.append_nil, Nat.max_eq_left (Nat.le_succ_of_le (Int.toNat_le.mpr hd)), List.take_add_one, List.getElem?_eq_getElem (by lia), List.getD_eq_getElem?_getD, List.getElem?_eq_getElem (by lia)]
        rfl
  · rw [if_neg hd]
    have hm : p + 1 ≤ dn.toNat := (Int.le_toNat e4).mpr (Int.not_le.mp hd)
    exact ⟨ps1, f1, f2, by rw [f3]; dsimp only; rw [Nat.max_eq_right hm, Nat.max_eq_right (Nat.le_of_succ_le hm)], e4, Nat.le_succ_of_le f4⟩

theorem typed_plain : TypedOk := fun o seed ho h4 hs => by
  have h : TI o 4 ((List.range 4).foldl (typedStep o seed) ([], 0)) :=
    ti_step ho h4 (by decide) (ti_step ho h4 (by decide) (ti_step ho h4 (by decide) (ti_step ho h4 (by decide) ⟨[], rfl, by simp, by simp, Int.le_refl 0, by simp⟩)))
  obtain ⟨ps, e1, e2, e3, e4, e5⟩ := h
  have hF : typedF o seed = ps.map (·.1) := by unfold typedF; rw [h4]; exact e1
  rw [hF]
  refine ⟨by rw [List.length_map]; lia, fun q hq => ?_, ?_⟩
  · obtain ⟨p, hp, rfl⟩ := List.mem_map.mp hq
    exact (reads_ok (e2 p hp)).1
  · rw [prep_reads ps e2, e3, List.take_of_length_le (by lia)]
end Mine
end

section
set_option autoImplicit false
namespace Mine
open PySem
/-- f's lead over i and i's over l never fall below nought -/
def okPath : Int → Int → List Nat → Bool
  | _, _, [] => true
  | near, far, k :: o => let n := near + lead k; let f := far + lead2 k
    decide (0 ≤ n) && decide (0 ≤ f) && okPath n f o
def sumOk (near far : Int) (o : List Nat) : Bool := decide (0 ≤ near + o.count 0 - o.count 1) && decide (0 ≤ far + o.count 1 - o.count 2)
def lineB (near far : Int) (dress : Nat) (o : List Nat) : Bool :=
  let v := lineF o near far dress
  !(sumOk near far o) || ((v == none2) == false && (checkF v == okPath near far o && checkF (opn ++ v) == false && checkF (v ++ cls) == false))
end Mine
end

section
set_option autoImplicit false
set_option linter.unusedVariables false
set_option linter.unusedSimpArgs false
namespace Mine
open PySem PySem.Calls PyProof.Rows PySem.SeqAt PySem.Spec

theorem stay_path : ∀ (o : List Nat) (v : Int × Int × Int), (∀ k ∈ o, k < 3) → (o.foldlM stayStep v).isSome = okPath (v.1 - v.2.1) (v.2.1 - v.2.2) o
  | [], v, _ => rfl
  | k :: o, v, h => by
    rw [List.foldlM_cons]
    have hk := h k List.mem_cons_self
    have hb : cold (bump v k) = (decide (0 ≤ v.1 - v.2.1 + lead k) && decide (0 ≤ v.2.1 - v.2.2 + lead2 k)) ∧ (bump v k).1 - (bump v k).2.1 = v.1 - v.2.1 + lead k ∧ (bump v k).2.1 - (bump v k).2.2 = v.2.1 - v.2.2 + lead2 k := by
      have := n3 k hk
      rcases this with rfl | rfl | rfl <;> refine ⟨?_, ?_, ?_⟩ <;> simp [bump, cold, lead, lead2] <;> (try lia) <;> (try (congr 1 <;> simp <;> lia))
    unfold okPath
    dsimp only
    unfold stayStep
    cases hc : cold (bump v k) with
    | true =>
      rw [if_pos rfl]
      show (o.foldlM stayStep (bump v k)).isSome = _
      rw [stay_path o (bump v k) fun j hj => h j (List.mem_cons_of_mem _ hj), hb.2.1, hb.2.2, ← hb.1, hc, Bool.true_and]
    | false =>
      rw [if_neg (by simp), ← hb.1, hc, Bool.false_and]
      rfl
end Mine
end

section
set_option autoImplicit false
set_option linter.unusedVariables false
set_option linter.unusedSimpArgs false
namespace Mine
open PySem PySem.Calls PyProof.Rows PySem.SeqAt PySem.Spec

/-! the counts: least struck out -/
def goal0 (near far : Int) (o : List Nat) : Int × Int × Int := (far + near + 2 + o.count 0, far + 1 + o.count 1, 0 + o.count 2)
def diff0 (near far : Int) (o : List Nat) (p : Nat) : Int × Int × Int :=
  let r := rowF (far + near + 2) (far + 1) 0 p
  ((goal0 near far o).1 - r.1, (goal0 near far o).2.1 - r.2.1, (goal0 near far o).2.2 - r.2.2)
def way0 (near far : Int) (o : List Nat) (p : Nat) : Int := waysF (diff0 near far o p).1 (diff0 near far o p).2.1 (diff0 near far o p).2.2
def wayB (x : Int × Int × Int) : Bool := decide (-100 ≤ x.1 ∧ x.1 ≤ 100) && decide (-100 ≤ x.2.1 ∧ x.2.1 ≤ 100) && decide (-100 ≤ x.2.2 ∧ x.2.2 ≤ 100) && (decide (min3 x.1 x.2.1 x.2.2 < 0) || decide (0 ≤ x.1 ∧ 0 ≤ x.2.1 ∧ 0 ≤ x.2.2 ∧ x.1 + x.2.1 + x.2.2 ≤ 8))
def planB (near far : Int) (w : List Nat) : Bool :=
  let os := ordersF w
  let o0 := os.getD 0 []
  !os.isEmpty && os.all (fun o => sumOk near far o) && (List.range 4).all (fun p => wayB (diff0 near far o0 p)) &&
  ((os.filter (okPath near far)).length : Int) == way0 near far o0 0 - way0 near far o0 1 + way0 near far o0 2 - way0 near far o0 3
def planT (n f : Nat) : Bool := (wordsOf 4).all fun w => !(sumOk n f w) || planB n f w
theorem plan00 : planT 0 0 = true := by decide +kernel
theorem plan01 : planT 0 1 = true := by decide +kernel
theorem plan02 : planT 0 2 = true := by decide +kernel
theorem plan10 : planT 1 0 = true := by decide +kernel
theorem plan11 : planT 1 1 = true := by decide +kernel
theorem plan12 : planT 1 2 = true := by decide +kernel
theorem plan20 : planT 2 0 = true := by decide +kernel
theorem plan21 : planT 2 1 = true := by decide +kernel
theorem plan22 : planT 2 2 = true := by decide +kernel
theorem plan_table (n f : Nat) (hn : n < 3) (hf : f < 3) (w : List Nat) (hw : w ∈ wordsOf 4) (hs : sumOk n f w = true) : planB n f w = true := by
  have key : planT n f = true := by
    have h1 := n3 n hn
    have h2 := n3 f hf
    rcases h1 with rfl | rfl | rfl <;> rcases h2 with rfl | rfl | rfl
    · exact plan00
    · exact plan01
    · exact plan02
    · exact plan10
    · exact plan11
    · exact plan12
    · exact plan20
    · exact plan21
    · exact plan22
  have := List.all_eq_true.mp key w hw
  rw [hs] at this
  simpa using this

/-- what is drawn leaves no lead below nought -/
theorem draw_sum (near far : Int) : ∀ (ws : List Int) (s : List Nat × Int × Int), 0 ≤ s.2.1 → 0 ≤ s.2.2 → s.2.1 = near + s.1.count 0 - s.1.count 1 → s.2.2 = far + s.1.count 1 - s.1.count 2 →
    sumOk near far (ws.foldl drawStep s).1 = true
  | [], s, h1, h2, h3, h4 => by
    show sumOk near far s.1 = true
    unfold sumOk
    rw [← h3, ← h4, decide_eq_true h1, decide_eq_true h2]
    rfl
  | x :: ws, s, h1, h2, h3, h4 => by
    rw [List.foldl_cons]
    have hk : (kindOf x s.2.1 s.2.2 = 1 → s.2.1 ≠ 0) ∧ (kindOf x s.2.1 s.2.2 = 2 → s.2.2 ≠ 0) := by
      have hm0 := Int.emod_nonneg x (b := 3) (by decide)
      have hm1 := Int.emod_lt_of_pos x (b := 3) (by decide)
      unfold kindOf
      dsimp only
      generalize x % 3 = m at hm0 hm1 ⊢
      by_cases a : m = 2 ∧ s.2.2 = 0
      · rw [if_pos a]
        by_cases b : s.2.1 = 0
        · rw [if_pos ⟨rfl, b⟩]; simp
        · rw [if_neg (by simp [b])]; simp [b]
      · rw [if_neg a]
        by_cases b : m.toNat = 1 ∧ s.2.1 = 0
        · rw [if_pos b]; simp
        · rw [if_neg b]
          refine ⟨fun e q => b ⟨e, q⟩, fun e q => a ⟨by lia, q⟩⟩
    have hc := kind_lt x s.2.1 s.2.2
    refine draw_sum near far ws (drawStep s x) ?_ ?_ ?_ ?_
    all_goals
      unfold drawStep
      dsimp only
      generalize kindOf x s.2.1 s.2.2 = k at hk hc ⊢
      rcases hc with rfl | rfl | rfl <;> simp [lead, lead2, List.count_append] at hk ⊢ <;> lia
end Mine
end

section
set_option autoImplicit false
namespace Mine
open PySem
theorem belowS {P : Nat → Prop} {n : Nat} (h : ∀ l, l < n → P l) (p : P n) : ∀ l, l < n + 1 → P l := fun l hl => (Nat.lt_succ_iff_lt_or_eq.mp hl).elim (h l) fun e => e ▸ p
def stayAll (l : Nat) : Bool := (List.range 11).all fun e => (List.range 11).all fun f =>
  let v1 : Int := (l : Int) + e - 4
  let v0 : Int := v1 + f - 4
  decide (v1 < 0) || decide (v0 < 0) || stayOne (v0, v1, l)
theorem stayT0 : stayAll 0 = true := by decide +kernel
theorem stayT1 : stayAll 1 = true := by decide +kernel
theorem stayT2 : stayAll 2 = true := by decide +kernel
theorem stayT3 : stayAll 3 = true := by decide +kernel
theorem stayT4 : stayAll 4 = true := by decide +kernel
theorem stayT5 : stayAll 5 = true := by decide +kernel
theorem stayT6 : stayAll 6 = true := by decide +kernel
theorem stayT7 : stayAll 7 = true := by decide +kernel
theorem stayT8 : stayAll 8 = true := by decide +kernel
theorem stayT9 : stayAll 9 = true := by decide +kernel
theorem stayT10 : stayAll 10 = true := by decide +kernel
theorem stayT11 : stayAll 11 = true := by decide +kernel
theorem stayT12 : stayAll 12 = true := by decide +kernel
theorem stayT13 : stayAll 13 = true := by decide +kernel
theorem stay_table : ∀ l : Nat, l < 14 → stayAll l = true := belowS (belowS (belowS (belowS (belowS (belowS (belowS (belowS (belowS (belowS (belowS (belowS (belowS (belowS (fun _ h => absurd h (Nat.not_lt_zero _)) stayT0) stayT1) stayT2) stayT3) stayT4) stayT5) stayT6) stayT7) stayT8) stayT9) stayT10) stayT11) stayT12) stayT13
end Mine
end

section
set_option autoImplicit false
namespace Mine
open PySem
theorem belowI {P : Nat → Prop} {n : Nat} (h : ∀ l, l < n → P l) (p : P n) : ∀ l, l < n + 1 → P l := fun l hl => (Nat.lt_succ_iff_lt_or_eq.mp hl).elim (h l) fun e => e ▸ p
def imgAll (l : Nat) : Bool := (List.range 3).all fun n => (List.range 3).all fun f => (List.range 6).all fun p => imgB ((l : Int) + f + n + 2) ((l : Int) + f + 1) l p
theorem imgT0 : imgAll 0 = true := by decide +kernel
theorem imgT1 : imgAll 1 = true := by decide +kernel
theorem imgT2 : imgAll 2 = true := by decide +kernel
theorem imgT3 : imgAll 3 = true := by decide +kernel
theorem imgT4 : imgAll 4 = true := by decide +kernel
theorem imgT5 : imgAll 5 = true := by decide +kernel
theorem imgT6 : imgAll 6 = true := by decide +kernel
theorem imgT7 : imgAll 7 = true := by decide +kernel
theorem imgT8 : imgAll 8 = true := by decide +kernel
theorem imgT9 : imgAll 9 = true := by decide +kernel
theorem img_table : ∀ l : Nat, l < 10 → imgAll l = true := belowI (belowI (belowI (belowI (belowI (belowI (belowI (belowI (belowI (belowI (fun _ h => absurd h (Nat.not_lt_zero _)) imgT0) imgT1) imgT2) imgT3) imgT4) imgT5) imgT6) imgT7) imgT8) imgT9
end Mine
end

section
set_option autoImplicit false
set_option linter.unusedVariables false
set_option linter.unusedSimpArgs false
namespace Mine
open PySem PySem.Calls PyProof.Rows PySem.SeqAt PySem.Spec

/-! mail's brackets, told by one pass over the signs -/
/-- the units' texts -/
def unitsP : List Nat → Bool → List (List Nat)
  | [], e => if e then [[92]] else []
  | c :: r, true => [92, c] :: unitsP r false
  | c :: r, false => if c = 92 then unitsP r true else [c] :: unitsP r false
/-- what stands outside of marks -/
def keepP : List Nat → Bool → Bool → List Nat
  | [], e, q => if e && !q then [92] else []
  | c :: r, true, q => (if q then [] else [92, c]) ++ keepP r false q
  | c :: r, false, q => if c = 92 then keepP r true q else if c = 34 then keepP r false (!q) else (if q then [] else [c]) ++ keepP r false q
/-- the state behind: a backslash waits, a mark is open -/
def endP : List Nat → Bool → Bool → Bool × Bool
  | [], e, q => (e, q)
  | _ :: r, true, q => endP r false q
  | c :: r, false, q => if c = 92 then endP r true q else if c = 34 then endP r false (!q) else endP r false q
def scanP : List Nat → Bool → Bool → Int → Option Int
  | [], _, _, o => some o
  | _ :: r, true, q, o => scanP r false q o
  | c :: r, false, q, o => if c = 92 then scanP r true q o else if c = 34 then scanP r false (!q) o else if q then scanP r false q o
      else if c = 40 then scanP r false q (o + 1) else if c = 41 then (if o - 1 < 0 then none else scanP r false q (o - 1)) else scanP r false q o
def netP : List Nat → Bool → Bool → Int
  | [], _, _ => 0
  | _ :: r, true, q => netP r false q
  | c :: r, false, q => if c = 92 then netP r true q else if c = 34 then netP r false (!q) else if q then netP r false q
      else if c = 40 then 1 + netP r false q else if c = 41 then netP r false q - 1 else netP r false q
def stepU (o : Int) (u : List Nat) : Option Int := if u = [40] then some (o + 1) else if u = [41] then (if o - 1 < 0 then none else some (o - 1)) else some o

theorem esc_units : ∀ (l : List Nat) (j : Int) (e : Bool) (q : Int), (escP l j e q).map (·.2) = (unitsP l e).map fun u => (⟨u.toArray⟩ : Str)
  | [], j, e, q => by cases e <;> rfl
  | c :: r, j, true, q => by
    rw [escP, unitsP, List.map_cons, List.map_cons, esc_units r]
    rfl
  | c :: r, j, false, q => by
    have hc : ((⟨#[c]⟩ : Str) == bsl) = decide (c = 92) := by
      by_cases h : c = 92
      · subst h; decide
      · rw [decide_eq_false h]
        refine beq_eq_false_iff_ne.mpr fun e => h ?_
        have : (⟨#[c]⟩ : Str) = ⟨#[92]⟩ := e.trans (by decide)
        simpa using this
    rw [escP, unitsP, hc]
    by_cases h : c = 92
    · simp only [h, decide_true, if_true]
      exact esc_units r _ _ _
    · simp only [h, decide_false, Bool.false_eq_true, if_false, List.map_cons, esc_units r]

theorem units_keep : ∀ (l : List Nat) (e q : Bool) (o : Int), (unitsP (keepP l e q) false).foldlM stepU o = scanP l e q o
  | [], e, q, o => by cases e <;> cases q <;> rfl
  | c :: r, true, q, o => by
    rw [keepP, scanP]
    cases q with
    | true => simp only [if_true, List.nil_append]; exact units_keep r false true o
    | false =>
      simp only [Bool.false_eq_true, if_false, List.cons_append, List.nil_append]
      rw [unitsP, if_pos rfl, unitsP, List.foldlM_cons]
      have : stepU o [92, c] = some o := by simp [stepU]
      rw [this]
      exact units_keep r false false o
  | c :: r, false, q, o => by
    rw [keepP, scanP]
    by_cases h : c = 92
    · simp only [h, if_true]; exact units_keep r true q o
    · by_cases h2 : c = 34
      · simp only [h2, if_true]
        rw [if_neg (by decide), if_neg (by decide)]
        exact units_keep r false (!q) o
      · simp only [h, h2, if_false]
        cases q with
        | true => simp only [if_true, List.nil_append]; exact units_keep r false true o
        | false =>
          simp only [Bool.false_eq_true, if_false, List.cons_append, List.nil_append]
          rw [unitsP, if_neg h, List.foldlM_cons]
          by_cases h3 : c = 40
          · subst h3
            simp only [stepU, if_true]
            exact units_keep r false false (o + 1)
          · by_cases h4 : c = 41
            · subst h4
              simp only [stepU]
              rw [if_neg (by decide), if_pos trivial]
              simp only [Nat.reduceEqDiff, if_false]
              by_cases h5 : o - 1 < 0
              · simp only [h5, if_true]; rfl
              · simp only [h5, if_false]
                exact units_keep r false false (o - 1)
            · have : stepU o [c] = some o := by simp [stepU, h3, h4]
              rw [this]
              simp only [h3, h4, if_false]
              exact units_keep r false false o

theorem check_fold (l : List (Int × Str)) (us : List (List Nat)) (h : l.map (·.2) = us.map fun u => (⟨u.toArray⟩ : Str)) (o : Int) : l.foldlM checkStep o = us.foldlM stepU o := by
  induction l generalizing us o with
  | nil =>
    cases us with
    | nil => rfl
    | cons _ _ => cases h
  | cons p l ih =>
    cases us with
    | nil => cases h
    | cons u us =>
      rw [List.map_cons, List.map_cons, List.cons.injEq] at h
      rw [List.foldlM_cons, List.foldlM_cons]
      have e : checkStep o p = stepU o u := by
        unfold checkStep stepU
        rw [h.1]
        have h1 : (((⟨u.toArray⟩ : Str) == "(") = true) ↔ u = [40] := by
          rw [beq_iff_eq]
          constructor
          · intro e
            have : (⟨u.toArray⟩ : Str) = ⟨#[40]⟩ := e.trans (by decide)
            have := congrArg (fun x : Str => x.cps.toList) this
            simpa using this
          · rintro rfl; decide
        have h2 : (((⟨u.toArray⟩ : Str) == ")") = true) ↔ u = [41] := by
          rw [beq_iff_eq]
          constructor
          · intro e
            have : (⟨u.toArray⟩ : Str) = ⟨#[41]⟩ := e.trans (by decide)
            have := congrArg (fun x : Str => x.cps.toList) this
            simpa using this
          · rintro rfl; decide
        simp only [h1, h2]
      rw [e]
      cases stepU o u with
      | none => rfl
      | some o' => exact ih us h.2 o'

theorem checkF_kept {x : Str} {k : List Nat} (h : stripF x = ⟨k.toArray⟩) : checkF x = (match (unitsP k false).foldlM stepU 0 with | some o => o == 0 | none => false) := by
  unfold checkF
  rw [h, check_fold _ (unitsP k false) (by unfold esc; exact esc_units k 0 false 0) 0]
  all_goals (cases (unitsP k false).foldlM stepU 0 <;> rfl)
end Mine
end

section
set_option autoImplicit false
set_option linter.unusedVariables false
set_option linter.unusedSimpArgs false
namespace Mine
open PySem PySem.Calls PyProof.Rows PySem.SeqAt PySem.Spec

theorem str_ext {x y : Str} (h : x.cps.toList = y.cps.toList) : x = y := by
  obtain ⟨a⟩ := x; obtain ⟨b⟩ := y
  congr
  exact Array.toList_inj.mp h
theorem slice_idx {x : Str} {idx : List Nat} {a b : Nat} (h : idx = (List.range (b - a)).map (a + ·)) (hab : a ≤ b) (hb : b ≤ x.length) :
    (if ((1 : Int) == 1 && idx.length == x.length) = true then x else ⟨(idx.filterMap (x.cps[·]?)).toArray⟩ : Str).cps.toList = (x.cps.toList.drop a).take (b - a) := by
  subst h
  have hl : x.cps.toList.length = x.length := by simp [Str.length]
  split
  · rename_i hc
    simp only [beq_self_eq_true, Bool.true_and, beq_iff_eq, List.length_map, List.length_range] at hc
    have ha : a = 0 := by lia
    subst ha
    rw [List.drop_zero, List.take_of_length_le (by lia)]
  · rw [List.toList_toArray]
    exact pick_run x.cps a (b - a)
theorem slice_mid {x : Str} {a b : Nat} (hab : a ≤ b) (hb : b ≤ x.length) : (Txt.slice x (some (a : Int)) (some (b : Int))).cps.toList = (x.cps.toList.drop a).take (b - a) := by
  unfold Txt.slice
  refine slice_idx ?_ hab hb
  unfold Builtin.Str.strSliceIndices
  simp only [show (1 : Int) > 0 by decide, if_true]
  rw [← sliceRange_one]
  congr 1
  · rw [if_neg (by lia)]; lia
  · rw [if_neg (by lia)]; lia
theorem slice_end {x : Str} {a : Nat} (ha : a ≤ x.length) : (Txt.slice x (some (a : Int)) none).cps.toList = x.cps.toList.drop a := by
  have hl : x.cps.toList.length = x.length := by simp [Str.length]
  have : (Txt.slice x (some (a : Int)) none).cps.toList = (x.cps.toList.drop a).take (x.length - a) := by
    unfold Txt.slice
    refine slice_idx ?_ ha (Nat.le_refl _)
    unfold Builtin.Str.strSliceIndices
    simp only [show (1 : Int) > 0 by decide, if_true]
    rw [← sliceRange_one]
    congr 1
    rw [if_neg (by lia)]; lia
  rw [this, List.take_of_length_le (by rw [List.length_drop]; lia)]

def flatS (res : List Str) : List Nat := (res.map fun y => y.cps.toList).flatten
theorem join_flat : ∀ res : List Str, (Txt.join "" res).cps.toList = flatS res := by
  intro res
  have h : Txt.join "" res = Str.join "" res := StrLaws.glued_eq_join "" res
  rw [h]
  induction res with
  | nil => rfl
  | cons y r ih =>
    cases r with
    | nil => simp [Str.join, flatS]
    | cons z r =>
      have h2 := ih (StrLaws.glued_eq_join "" _)
      show (y.cps ++ ("" : Str).cps ++ (Str.join "" (z :: r)).cps).toList = _
      have e0 : ("" : Str).cps.toList = [] := by decide
      rw [Array.toList_append, Array.toList_append, e0, List.append_nil, h2]
      simp [flatS]
theorem flat_app1 (res : List Str) (y : Str) : flatS (res ++ [y]) = flatS res ++ y.cps.toList := by simp [flatS]

theorem isDq (u : List Nat) : ((⟨u.toArray⟩ : Str) == dq) = decide (u = [34]) := by
  by_cases h : u = [34]
  · subst h; decide
  · rw [decide_eq_false h]
    refine beq_eq_false_iff_ne.mpr fun e => h ?_
    have : (⟨u.toArray⟩ : Str) = ⟨#[34]⟩ := e.trans (by decide)
    have := congrArg (fun x : Str => x.cps.toList) this
    simpa using this

/-- where the strip stands: what it has kept is K; b is the bound up to which whole units are read -/
def StripAt (x : Str) (b : Nat) (q : Bool) (K : List Nat) (s : Int × Option Int × List Str) : Prop :=
  ∃ st : Nat, s.1 = (st : Int) ∧ (match q with
    | false => s.2.1 = none ∧ st ≤ b ∧ flatS s.2.2 ++ (x.cps.toList.drop st).take (b - st) = K
    | true => ∃ o : Nat, s.2.1 = some (o : Int) ∧ st ≤ o ∧ o < b ∧ flatS s.2.2 ++ (x.cps.toList.drop st).take (o - st) = K)

theorem strip_more {x : Str} {b c : Nat} {K us : List Nat} {q : Bool} {s : Int × Option Int × List Str} (h : StripAt x b q K s) (hbc : b ≤ c) (hu : (x.cps.toList.drop b).take (c - b) = us) : StripAt x c q (if q then K else K ++ us) s := by
  obtain ⟨st, h1, h2⟩ := h
  refine ⟨st, h1, ?_⟩
  cases q with
  | false =>
    obtain ⟨h2, h3, h4⟩ := h2
    refine ⟨h2, by lia, ?_⟩
    simp only [Bool.false_eq_true, if_false]
    rw [← h4, ← hu, List.append_assoc]
    congr 1
    have e : c - st = (b - st) + (c - b) := by lia
    rw [e, List.take_add, List.drop_drop]
    congr 3
    lia
  | true =>
    obtain ⟨o, h2, h3, h4, h5⟩ := h2
    exact ⟨o, h2, h3, by lia, h5⟩

theorem strip_scan {x : Str} : ∀ (r : List Nat) (j : Nat) (e q : Bool) (b : Nat) (K : List Nat) (s : Int × Option Int × List Str) (qq : Int), x.cps.toList.drop j = r → j ≤ x.length → (if e then b + 1 = j ∧ x.cps.toList[b]? = some 92 else b = j) → StripAt x b q K s → (endP r e q).2 = false →
    StripAt x x.length false (K ++ keepP r e q) ((escP r j e qq).foldl (stripStep x) s)
  | [], j, e, q, b, K, s, qq, hr, hj, hb, hs, hq => by
    have hl : x.cps.toList.length = x.length := by simp [Str.length]
    have hlen : x.length ≤ j := by
      have := congrArg List.length hr
      rw [List.length_drop, hl] at this
      simp at this; lia
    have hjl : j = x.length := by lia
    obtain rfl : q = false := hq
    cases e with
    | false =>
      simp only [Bool.false_eq_true, if_false] at hb
      subst hb
      subst hjl
      simpa [escP, keepP] using hs
    | true =>
      simp only [if_true] at hb
      obtain ⟨hb, hch⟩ := hb
      have hne : (bsl == dq) = false := by decide
      have e1 : (escP [] j true qq).foldl (stripStep x) s = s := by
        simp [escP, stripStep, hne]
      rw [e1]
      have hu : (x.cps.toList.drop b).take (x.length - b) = [92] := by
        have hlt : b < x.cps.toList.length := by lia
        rw [List.drop_eq_getElem_cons hlt, List.getElem?_eq_getElem hlt] at *
        have : x.length - b = 1 := by lia
        rw [this]
        simp at hch ⊢
        exact hch
      exact strip_more hs (by lia) hu
  | c :: r, j, e, q, b, K, s, qq, hr, hj, hb, hs, hq => by
    have hl : x.cps.toList.length = x.length := by simp [Str.length]
    have hjlt : j < x.cps.toList.length := by
      have := congrArg List.length hr
      rw [List.length_drop, List.length_cons] at this
      lia
    have hcj : x.cps.toList[j] = c ∧ x.cps.toList.drop (j + 1) = r := by
      rw [List.drop_eq_getElem_cons hjlt, List.cons.injEq] at hr
      exact hr
    have hu1 : (x.cps.toList.drop j).take (j + 1 - j) = [c] := by
      rw [hr]
      have : j + 1 - j = 1 := by lia
      rw [this]; rfl
    cases e with
    | true =>
      simp only [if_true] at hb
      obtain ⟨hb, hch⟩ := hb
      have hne : (bsl ++ (⟨#[c]⟩ : Str) == dq) = false := by
        have : bsl ++ (⟨#[c]⟩ : Str) = ⟨[92, c].toArray⟩ := by
          apply str_ext
          show (bsl.cps ++ #[c]).toList = _
          rw [Array.toList_append]
          have : bsl.cps.toList = [92] := by decide
          rw [this]; rfl
        rw [this, isDq]
        simp
      rw [escP, List.foldl_cons]
      have e1 : stripStep x s ((j : Int), bsl ++ (⟨#[c]⟩ : Str)) = s := by simp [stripStep, hne]
      rw [e1]
      have hu : (x.cps.toList.drop b).take (j + 1 - b) = [92, c] := by
        have hlt : b < x.cps.toList.length := by lia
        rw [List.drop_eq_getElem_cons hlt]
        rw [List.getElem?_eq_getElem hlt] at hch
        have h2 : j + 1 - b = 2 := by lia
        rw [h2, hb, hr]
        simp at hch ⊢
        exact hch
      have hs' := strip_more hs (by lia : b ≤ j + 1) hu
      have ih := strip_scan r (j + 1) false q (j + 1) _ s (j : Int) hcj.2 (by lia) (by simp) hs' (by simpa [endP] using hq)
      rw [keepP]
      have e2 : ((j + 1 : Nat) : Int) = (j : Int) + 1 := by lia
      rw [e2] at ih
      cases q with
      | true => simpa using ih
      | false => simpa using ih
    | false =>
      simp only [Bool.false_eq_true, if_false] at hb
      subst hb
      have hc : ((⟨#[c]⟩ : Str) == bsl) = decide (c = 92) := by
        by_cases h : c = 92
        · subst h; decide
        · rw [decide_eq_false h]
          refine beq_eq_false_iff_ne.mpr fun e => h ?_
          have : (⟨#[c]⟩ : Str) = ⟨#[92]⟩ := e.trans (by decide)
          simpa using this
      have e2 : ((b + 1 : Nat) : Int) = (b : Int) + 1 := by lia
      rw [escP, hc, keepP]
      rw [endP] at hq
      by_cases h : c = 92
      · simp only [h, decide_true, if_true] at hq ⊢
        have ih := strip_scan r (b + 1) true q b K s (b : Int) hcj.2 (by lia) (by
          simp only [if_true]
          refine ⟨trivial, ?_⟩
          rw [List.getElem?_eq_getElem hjlt, hcj.1, h]) hs hq
        rw [e2] at ih
        exact ih
      · simp only [h, decide_false, Bool.false_eq_true, if_false] at hq ⊢
        rw [List.foldl_cons]
        by_cases h2 : c = 34
        · subst h2
          simp only [if_true] at hq ⊢
          have hd : ((⟨#[34]⟩ : Str) == dq) = true := by decide
          obtain ⟨st, g1, g2⟩ := hs
          cases q with
          | false =>
            obtain ⟨g2, g3, g4⟩ := g2
            have e1 : stripStep x s ((b : Int), (⟨#[34]⟩ : Str)) = (s.1, some (b : Int), s.2.2) := by simp [stripStep, hd, g2]
            rw [e1]
            have ih := strip_scan r (b + 1) false true (b + 1) K (s.1, some (b : Int), s.2.2) (b : Int) hcj.2 (by lia) (by simp) ⟨st, g1, b, rfl, g3, by lia, g4⟩ (by simpa using hq)
            rw [e2] at ih
            simpa using ih
          | true =>
            obtain ⟨o, g2, g3, g4, g5⟩ := g2
            have e1 : stripStep x s ((b : Int), (⟨#[34]⟩ : Str)) = ((b : Int) + 1, none, if s.1 == (o : Int) then s.2.2 else s.2.2 ++ [Txt.slice x (some s.1) (some (o : Int))]) := by simp [stripStep, hd, g2]
            rw [e1]
            have hK : flatS (if s.1 == (o : Int) then s.2.2 else s.2.2 ++ [Txt.slice x (some s.1) (some (o : Int))]) = K := by
              split
              · rename_i hh
                rw [g1, beq_iff_eq] at hh
                have : st = o := by lia
                subst this
                rw [← g5]; simp
              · rw [flat_app1, g1, slice_mid g3 (by lia), g5]
            have ih := strip_scan r (b + 1) false false (b + 1) K ((b : Int) + 1, none, if s.1 == (o : Int) then s.2.2 else s.2.2 ++ [Txt.slice x (some s.1) (some (o : Int))]) (b : Int) hcj.2 (by lia) (by simp) ⟨b + 1, e2.symm, rfl, Nat.le_refl _, by dsimp only; rw [hK]; simp⟩ (by simpa using hq)
            rw [e2] at ih
            simpa using ih
        · simp only [h2, if_false] at hq ⊢
          have hd : ((⟨#[c]⟩ : Str) == dq) = false := by
            have := isDq [c]
            rw [decide_eq_false (by simpa using h2)] at this
            exact this
          have e1 : stripStep x s ((b : Int), (⟨#[c]⟩ : Str)) = s := by simp [stripStep, hd]
          rw [e1]
          have hs' := strip_more hs (by lia : b ≤ b + 1) hu1
          have ih := strip_scan r (b + 1) false q (b + 1) _ s (b : Int) hcj.2 (by lia) (by simp) hs' hq
          rw [e2] at ih
          cases q with
          | true => simpa using ih
          | false => simpa using ih

theorem keep_all : ∀ (l : List Nat) (e : Bool), 34 ∉ l → keepP l e false = (if e then [92] else []) ++ l
  | [], e, _ => by cases e <;> rfl
  | c :: r, true, h => by
    have hr : 34 ∉ r := fun m => h (List.mem_cons_of_mem _ m)
    rw [keepP, keep_all r false hr]; simp
  | c :: r, false, h => by
    have hr : 34 ∉ r := fun m => h (List.mem_cons_of_mem _ m)
    have hc : c ≠ 34 := fun e => h (e ▸ List.mem_cons_self)
    rw [keepP]
    by_cases h9 : c = 92
    · subst h9
      rw [if_pos rfl, keep_all r true hr]; simp
    · rw [if_neg h9, if_neg hc, keep_all r false hr]; simp

theorem stripF_keep {x : Str} (h : (endP x.cps.toList false false).2 = false) : stripF x = ⟨(keepP x.cps.toList false false).toArray⟩ := by
  unfold stripF
  cases hq : strIn x dq with
  | false =>
    rw [if_neg (by simp)]
    have hn : 34 ∉ x.cps.toList := fun m => by
      obtain ⟨i, hi, e⟩ := List.getElem_of_mem m
      have : strIn x dq = true := by
        unfold strIn
        have hd : dq = ⟨#[34]⟩ := by decide
        rw [hd]
        exact (StrLaws.found_iff x ⟨#[34]⟩).mpr ⟨i, (StrLaws.subAt_one x 34 i).mpr (by rw [List.getElem?_eq_getElem hi, e])⟩
      rw [this] at hq; cases hq
    rw [keep_all _ _ hn]
    apply str_ext; simp
  | true =>
    rw [if_pos rfl]
    have hs := strip_scan (x := x) x.cps.toList 0 false false 0 [] (0, none, []) 0 (by simp) (Nat.zero_le _) (by simp) ⟨0, rfl, rfl, Nat.le_refl _, by simp [flatS]⟩ h
    rw [List.nil_append] at hs
    obtain ⟨st, g1, g2, g3, g4⟩ := hs
    have hl : x.cps.toList.length = x.length := by simp [Str.length]
    have g1' : (stripR x).1 = (st : Int) := g1
    have g4' : flatS (stripR x).2.2 ++ (x.cps.toList.drop st).take (x.length - st) = keepP x.cps.toList false false := g4
    rw [List.take_of_length_le (by rw [List.length_drop]; lia)] at g4'
    apply str_ext
    rw [join_flat, List.toList_toArray, ← g4', g1']
    split
    · rw [flat_app1, slice_end g3]
    · rename_i hh
      have : st = x.length := by lia
      rw [this, ← hl]; simp

theorem checkF_scan {x : Str} (h : (endP x.cps.toList false false).2 = false) : checkF x = (match scanP x.cps.toList false false 0 with | some o => o == 0 | none => false) := by
  rw [checkF_kept (stripF_keep h), units_keep]
  all_goals (cases scanP x.cps.toList false false 0 <;> rfl)
end Mine
end

section
set_option autoImplicit false
set_option linter.unusedVariables false
set_option linter.unusedSimpArgs false
namespace Mine
open PySem PySem.Calls PyProof.Rows PySem.SeqAt PySem.Spec

/-! the scan of joined texts -/
theorem end_app : ∀ (a b : List Nat) (e q : Bool), endP (a ++ b) e q = endP b (endP a e q).1 (endP a e q).2
  | [], b, e, q => rfl
  | c :: r, b, true, q => by rw [List.cons_append, endP, endP]; exact end_app r b false q
  | c :: r, b, false, q => by
    rw [List.cons_append, endP, endP]
    by_cases h : c = 92
    · simp only [h, if_true]; exact end_app r b true q
    · by_cases h2 : c = 34
      · simp only [h2, if_true]
        rw [if_neg (by decide), if_neg (by decide)]
        exact end_app r b false (!q)
      · simp only [h, h2, if_false]; exact end_app r b false q
theorem net_app : ∀ (a b : List Nat) (e q : Bool), netP (a ++ b) e q = netP a e q + netP b (endP a e q).1 (endP a e q).2
  | [], b, e, q => by simp [netP, endP]
  | c :: r, b, true, q => by rw [List.cons_append, netP, netP, endP]; exact net_app r b false q
  | c :: r, b, false, q => by
    rw [List.cons_append, netP, netP, endP]
    by_cases h : c = 92
    · simp only [h, if_true]; exact net_app r b true q
    · by_cases h2 : c = 34
      · simp only [h2, if_true]
        rw [if_neg (by decide), if_neg (by decide), if_neg (by decide)]
        exact net_app r b false (!q)
      · simp only [h, h2, if_false]
        have ih := net_app r b false q
        cases q with
        | true => simpa using ih
        | false =>
          simp only [Bool.false_eq_true, if_false]
          rw [ih]
          split
          · lia
          · split
            · lia
            · rfl
theorem scan_app : ∀ (a b : List Nat) (e q : Bool) (o : Int), scanP (a ++ b) e q o = (scanP a e q o).bind fun o' => scanP b (endP a e q).1 (endP a e q).2 o'
  | [], b, e, q, o => rfl
  | c :: r, b, true, q, o => by rw [List.cons_append, scanP, scanP, endP]; exact scan_app r b false q o
  | c :: r, b, false, q, o => by
    rw [List.cons_append, scanP, scanP, endP]
    by_cases h : c = 92
    · simp only [h, if_true]; exact scan_app r b true q o
    · by_cases h2 : c = 34
      · simp only [h2, if_true]
        rw [if_neg (by decide), if_neg (by decide), if_neg (by decide)]
        exact scan_app r b false (!q) o
      · simp only [h, h2, if_false]
        cases q with
        | true => simpa using scan_app r b false true o
        | false =>
          simp only [Bool.false_eq_true, if_false]
          split
          · exact scan_app r b false false (o + 1)
          · split
            · split
              · rfl
              · exact scan_app r b false false (o - 1)
            · exact scan_app r b false false o
theorem scan_net : ∀ (l : List Nat) (e q : Bool) (o o' : Int), scanP l e q o = some o' → o' = o + netP l e q
  | [], e, q, o, o', h => by rw [scanP] at h; cases h; simp [netP]
  | c :: r, true, q, o, o', h => by rw [scanP] at h; rw [netP]; exact scan_net r false q o o' h
  | c :: r, false, q, o, o', h => by
    rw [scanP] at h
    rw [netP]
    by_cases h1 : c = 92
    · simp only [h1, if_true] at h ⊢; exact scan_net r true q o o' h
    · by_cases h2 : c = 34
      · simp only [h2, if_true] at h ⊢
        rw [if_neg (by decide)] at h ⊢
        exact scan_net r false (!q) o o' h
      · simp only [h1, h2, if_false] at h ⊢
        cases q with
        | true => simpa using scan_net r false true o o' (by simpa using h)
        | false =>
          simp only [Bool.false_eq_true, if_false] at h ⊢
          by_cases h3 : c = 40
          · simp only [h3, if_true] at h ⊢
            have := scan_net r false false (o + 1) o' h
            lia
          · simp only [h3, if_false] at h ⊢
            by_cases h4 : c = 41
            · simp only [h4, if_true] at h ⊢
              split at h
              · cases h
              · have := scan_net r false false (o - 1) o' h
                lia
            · simp only [h4, if_false] at h ⊢
              exact scan_net r false false o o' h

/-- a text that ends outside of marks, with no backslash waiting -/
def Shut (l : List Nat) : Prop := endP l false false = (false, false)
theorem Shut.app {a b : List Nat} (ha : Shut a) (hb : Shut b) : Shut (a ++ b) := by unfold Shut at *; rw [end_app, ha]; exact hb
theorem Shut.scan {a b : List Nat} (ha : Shut a) (o : Int) : scanP (a ++ b) false false o = (scanP a false false o).bind (scanP b false false) := by rw [scan_app, ha]
theorem Shut.net {a b : List Nat} (ha : Shut a) : netP (a ++ b) false false = netP a false false + netP b false false := by rw [net_app, ha]

/-! a line's parts -/
def sgnL (dress up down k : Nat) : List Nat := if k = up then [40] else if k = down then [41] else if dress = 0 then [letter k] else if dress = 1 then [92, 41] else [34, 41, 34]
theorem sgn_cps (dress up down k : Nat) : (signOf dress up down k).cps.toList = sgnL dress up down k := by
  unfold signOf sgnL
  split
  · decide
  · split
    · decide
    · split
      · rfl
      · split <;> decide
theorem letter_ne (k : Nat) : letter k = 102 ∨ letter k = 105 ∨ letter k = 108 := by unfold letter; split <;> (try split) <;> simp
def stepK (up down : Nat) (o : Int) (k : Nat) : Option Int := if k = up then some (o + 1) else if k = down then (if o - 1 < 0 then none else some (o - 1)) else some o
theorem sgn_ok (dress up down k : Nat) : Shut (sgnL dress up down k) ∧ (∀ o, scanP (sgnL dress up down k) false false o = stepK up down o k) ∧ netP (sgnL dress up down k) false false = (if k = up then 1 else if k = down then -1 else 0) ∧ 39 ∉ sgnL dress up down k := by
  unfold sgnL stepK
  by_cases h1 : k = up
  · simp only [h1, if_true]
    exact ⟨rfl, fun o => by simp [scanP], by decide, by decide⟩
  · simp only [h1, if_false]
    by_cases h2 : k = down
    · simp only [h2, if_true]
      exact ⟨rfl, fun o => by simp [scanP], by decide, by decide⟩
    · simp only [h2, if_false]
      by_cases h3 : dress = 0
      · simp only [h3, if_true]
        rcases letter_ne k with e | e | e <;> rw [e] <;> exact ⟨rfl, fun o => by simp [scanP], by decide, by decide⟩
      · simp only [h3, if_false]
        by_cases h4 : dress = 1
        · simp only [h4, if_true]
          exact ⟨rfl, fun o => by simp [scanP], by decide, by decide⟩
        · simp only [h4, if_false]
          exact ⟨rfl, fun o => by simp [scanP], by decide, by decide⟩

def lettersL (dress up down : Nat) : List Nat → List Nat
  | [] => []
  | k :: w => sgnL dress up down k ++ lettersL dress up down w
theorem letters_ok (dress up down : Nat) (hud : up ≠ down) : ∀ w : List Nat, Shut (lettersL dress up down w) ∧ (∀ o, scanP (lettersL dress up down w) false false o = w.foldlM (stepK up down) o) ∧ netP (lettersL dress up down w) false false = (w.count up : Int) - w.count down ∧ 39 ∉ lettersL dress up down w
  | [] => ⟨rfl, fun o => rfl, by simp [lettersL, netP], by simp [lettersL]⟩
  | k :: w => by
    obtain ⟨a1, a2, a3, a4⟩ := sgn_ok dress up down k
    obtain ⟨b1, b2, b3, b4⟩ := letters_ok dress up down hud w
    refine ⟨a1.app b1, fun o => ?_, ?_, by simp only [lettersL, List.mem_append, not_or]; exact ⟨a4, b4⟩⟩
    · rw [lettersL, a1.scan, a2, List.foldlM_cons]
      cases stepK up down o k with
      | none => rfl
      | some o' => exact b2 o'
    · rw [lettersL, a1.net, a3, b3, List.count_cons, List.count_cons]
      by_cases h1 : k = up
      · subst h1
        rw [if_pos rfl]
        simp [hud]; lia
      · by_cases h2 : k = down
        · subst h2
          rw [if_neg h1, if_pos rfl]
          simp [h1]; lia
        · simp [h1, h2]
theorem opens_ok : ∀ n : Nat, Shut (List.replicate n 40) ∧ (∀ o : Int, scanP (List.replicate n 40) false false o = some (o + n)) ∧ netP (List.replicate n 40) false false = n
  | 0 => ⟨rfl, fun o => by simp [scanP], rfl⟩
  | n + 1 => by
    obtain ⟨h1, h2, h3⟩ := opens_ok n
    refine ⟨h1, fun o => ?_, ?_⟩
    · rw [List.replicate_succ, scanP]
      simp only [Nat.reduceEqDiff, if_false, if_true, Bool.false_eq_true]
      rw [h2]; congr 1; push_cast; lia
    · rw [List.replicate_succ, netP]
      simp only [Nat.reduceEqDiff, if_false, if_true, Bool.false_eq_true]
      rw [h3]; push_cast; lia
theorem closes_ok : ∀ n : Nat, Shut (List.replicate n 41) ∧ (∀ o : Int, 0 ≤ o → scanP (List.replicate n 41) false false (o + n) = some o) ∧ netP (List.replicate n 41) false false = -(n : Int)
  | 0 => ⟨rfl, fun o _ => by simp [scanP], rfl⟩
  | n + 1 => by
    obtain ⟨h1, h2, h3⟩ := closes_ok n
    refine ⟨h1, fun o ho => ?_, ?_⟩
    · rw [List.replicate_succ, scanP]
      simp only [Nat.reduceEqDiff, if_false, if_true, Bool.false_eq_true]
      rw [if_neg (by push_cast; lia)]
      have e : o + ((n + 1 : Nat) : Int) - 1 = o + n := by push_cast; lia
      rw [e, h2 o ho]
    · rw [List.replicate_succ, netP]
      simp only [Nat.reduceEqDiff, if_false, if_true, Bool.false_eq_true]
      rw [h3]; push_cast; lia

theorem steps_net (up down : Nat) (hud : up ≠ down) (dress : Nat) (w : List Nat) (o o' : Int) (h : w.foldlM (stepK up down) o = some o') : o' = o + w.count up - w.count down := by
  obtain ⟨_, h2, h3, _⟩ := letters_ok dress up down hud w
  have := scan_net _ _ _ _ _ ((h2 o).trans h)
  rw [h3] at this; lia

def partL (dress up down : Nat) (a b : Nat) (w : List Nat) : List Nat := List.replicate a 40 ++ (lettersL dress up down w ++ List.replicate b 41)
theorem part_ok {dress up down a b : Nat} {w : List Nat} (hud : up ≠ down) (hb : (b : Int) = a + w.count up - w.count down) :
    Shut (partL dress up down a b w) ∧ scanP (partL dress up down a b w) false false 0 = (w.foldlM (stepK up down) (a : Int)).map (fun _ => 0) ∧ netP (partL dress up down a b w) false false = 0 ∧ 39 ∉ partL dress up down a b w := by
  obtain ⟨a1, a2, a3⟩ := opens_ok a
  obtain ⟨b1, b2, b3, b4⟩ := letters_ok dress up down hud w
  obtain ⟨c1, c2, c3⟩ := closes_ok b
  unfold partL
  refine ⟨a1.app (b1.app c1), ?_, ?_, ?_⟩
  · rw [a1.scan, a2, Option.bind_some, b1.scan, Int.zero_add, b2]
    cases h : w.foldlM (stepK up down) (a : Int) with
    | none => rfl
    | some o' =>
      rw [Option.bind_some, Option.map_some]
      have := steps_net up down hud dress w _ _ h
      have e : o' = 0 + (b : Int) := by lia
      rw [e]
      exact c2 0 (by lia)
  · rw [a1.net, b1.net, a3, b3, c3]; lia
  · simp only [List.mem_append, not_or]
    refine ⟨fun m => ?_, b4, fun m => ?_⟩
    · have := (List.mem_replicate.mp m).2; lia
    · have := (List.mem_replicate.mp m).2; lia

theorem mul_cps : ∀ n : Nat, n < 10 → (Txt.mul "(" (n : Int)).cps.toList = List.replicate n 40 ∧ (Txt.mul ")" (n : Int)).cps.toList = List.replicate n 41 := by decide +kernel
theorem app_cps (x y : Str) : (x ++ y).cps.toList = x.cps.toList ++ y.cps.toList := by
  show (x.cps ++ y.cps).toList = _
  exact Array.toList_append ..
theorem fold_cps (dress up down : Nat) : ∀ (w : List Nat) (acc : Str), (w.foldl (fun a k => a ++ signOf dress up down k) acc).cps.toList = acc.cps.toList ++ lettersL dress up down w
  | [], acc => by simp [lettersL]
  | k :: w, acc => by
    rw [List.foldl_cons, fold_cps dress up down w, app_cps, sgn_cps, lettersL, List.append_assoc]
theorem part_cps {dress up down a b : Nat} {w : List Nat} {acc : Str} (ha : a < 10) (hb : b < 10) (hab : (b : Int) = a + w.count up - w.count down) :
    (partF w dress acc (up, down, (a : Int))).cps.toList = acc.cps.toList ++ partL dress up down a b w := by
  unfold partF
  dsimp only
  rw [← hab, app_cps, fold_cps, app_cps, (mul_cps a ha).1, (mul_cps b hb).2]
  unfold partL
  simp only [List.append_assoc]

theorem path_ok : ∀ (o : List Nat) (n f : Int), 0 ≤ n → 0 ≤ f → (∀ k ∈ o, k < 3) → okPath n f o = ((o.foldlM (stepK 0 1) n).isSome && (o.foldlM (stepK 1 2) f).isSome)
  | [], n, f, _, _, _ => rfl
  | k :: o, n, f, hn, hf, hk => by
    have hk0 := hk k List.mem_cons_self
    have hr : ∀ j ∈ o, j < 3 := fun j hj => hk j (List.mem_cons_of_mem _ hj)
    rw [List.foldlM_cons, List.foldlM_cons]
    unfold okPath
    dsimp only
    have h3 := n3 k hk0
    rcases h3 with rfl | rfl | rfl
    · have e1 : stepK 0 1 n 0 = some (n + 1) := by simp [stepK]
      have e2 : stepK 1 2 f 0 = some f := by simp [stepK]
      rw [e1, e2]
      have l1 : n + lead 0 = n + 1 := by simp [lead]
      have l2 : f + lead2 0 = f := by simp [lead2]
      rw [l1, l2, decide_eq_true (by lia : 0 ≤ n + 1), decide_eq_true hf]
      exact path_ok o (n + 1) f (by lia) hf hr
    · have e2 : stepK 1 2 f 1 = some (f + 1) := by simp [stepK]
      rw [e2]
      have l1 : n + lead 1 = n - 1 := by simp [lead]; lia
      have l2 : f + lead2 1 = f + 1 := by simp [lead2]
      rw [l1, l2, decide_eq_true (by lia : 0 ≤ f + 1)]
      by_cases h : n - 1 < 0
      · have e1 : stepK 0 1 n 1 = none := by simp [stepK, h]
        rw [e1, decide_eq_false (by lia : ¬ 0 ≤ n - 1)]
        rfl
      · have e1 : stepK 0 1 n 1 = some (n - 1) := by simp [stepK, h]
        rw [e1, decide_eq_true (by lia : 0 ≤ n - 1)]
        exact path_ok o (n - 1) (f + 1) (by lia) (by lia) hr
    · have e1 : stepK 0 1 n 2 = some n := by simp [stepK]
      rw [e1]
      have l1 : n + lead 2 = n := by simp [lead]
      have l2 : f + lead2 2 = f - 1 := by simp [lead2]; lia
      rw [l1, l2, decide_eq_true hn]
      by_cases h : f - 1 < 0
      · have e2 : stepK 1 2 f 2 = none := by simp [stepK, h]
        rw [e2, decide_eq_false (by lia : ¬ 0 ≤ f - 1)]
        simp
      · have e2 : stepK 1 2 f 2 = some (f - 1) := by simp [stepK, h]
        rw [e2, decide_eq_true (by lia : 0 ≤ f - 1)]
        exact path_ok o n (f - 1) hn (by lia) hr

theorem check_net {x : Str} (h : Shut x.cps.toList) (hn : netP x.cps.toList false false ≠ 0) : checkF x = false := by
  rw [checkF_scan (by rw [h])]
  cases hs : scanP x.cps.toList false false 0 with
  | none => rfl
  | some o =>
    have := scan_net _ _ _ _ _ hs
    show (o == 0) = false
    exact beq_eq_false_iff_ne.mpr (by lia)

theorem line_told (n f d : Nat) (hn : n < 3) (hf : f < 3) (o : List Nat) (ho : Good o) (hs : sumOk n f o = true) :
    (lineF o n f d == none2) = false ∧ checkF (lineF o n f d) = okPath n f o ∧ checkF (opn ++ lineF o n f d) = false ∧ checkF (lineF o n f d ++ cls) = false := by
  unfold sumOk at hs
  simp only [Bool.and_eq_true, decide_eq_true_eq] at hs
  obtain ⟨b, hb⟩ : ∃ b : Nat, (b : Int) = n + o.count 0 - o.count 1 := ⟨(n + o.count 0 - o.count 1 : Int).toNat, by lia⟩
  obtain ⟨c, hc⟩ : ∃ c : Nat, (c : Int) = f + o.count 1 - o.count 2 := ⟨(f + o.count 1 - o.count 2 : Int).toNat, by lia⟩
  have l0 : o.count 0 ≤ 4 := Nat.le_trans List.count_le_length ho.1
  have l1 : o.count 1 ≤ 4 := Nat.le_trans List.count_le_length ho.1
  have hl : (lineF o n f d).cps.toList = partL d 0 1 n b o ++ partL d 1 2 f c o := by
    unfold lineF
    rw [List.foldl_cons, List.foldl_cons, List.foldl_nil, part_cps (b := c) (by lia) (by lia) hc, part_cps (b := b) (by lia) (by lia) hb]
    have e0 : ("" : Str).cps.toList = [] := by decide
    rw [e0, List.nil_append]
  obtain ⟨p1, p2, p3, p4⟩ := part_ok (dress := d) (w := o) (by decide : (0 : Nat) ≠ 1) hb
  obtain ⟨q1, q2, q3, q4⟩ := part_ok (dress := d) (w := o) (by decide : (1 : Nat) ≠ 2) hc
  have hsh : Shut (lineF o n f d).cps.toList := by rw [hl]; exact p1.app q1
  have hnet : netP (lineF o n f d).cps.toList false false = 0 := by rw [hl, p1.net, p3, q3]; rfl
  refine ⟨?_, ?_, ?_, ?_⟩
  · refine beq_eq_false_iff_ne.mpr fun e => ?_
    have h39 : 39 ∈ (lineF o n f d).cps.toList := by rw [e]; decide
    rw [hl, List.mem_append] at h39
    rcases h39 with h | h
    · exact p4 h
    · exact q4 h
  · rw [checkF_scan (by rw [hsh]), hl, p1.scan, p2, path_ok o n f (by lia) (by lia) ho.2]
    cases o.foldlM (stepK 0 1) (n : Int) with
    | none => rfl
    | some x =>
      rw [Option.map_some, Option.bind_some, q2]
      cases o.foldlM (stepK 1 2) (f : Int) with
      | none => rfl
      | some y => rfl
  · have e : (opn ++ lineF o n f d).cps.toList = [40] ++ (lineF o n f d).cps.toList := by rw [app_cps]; rfl
    have h40 : Shut [40] := rfl
    refine check_net (by rw [e]; exact h40.app hsh) ?_
    rw [e, h40.net, hnet]; decide
  · have e : (lineF o n f d ++ cls).cps.toList = (lineF o n f d).cps.toList ++ [41] := by rw [app_cps]; rfl
    have h41 : Shut [41] := rfl
    refine check_net (by rw [e]; exact hsh.app h41) ?_
    rw [e, hsh.net, hnet]; decide
end Mine
end

section
set_option autoImplicit false
set_option linter.unusedVariables false
set_option linter.unusedSimpArgs false
namespace Mine
open PySem PySem.Calls PyProof.Rows PySem.SeqAt PySem.Spec

theorem pre_iff {v : Str} (h : (v == none2) = false) : (preOne v == v) = checkF v := by
  unfold preOne
  cases hc : checkF v with
  | true => simp
  | false =>
    rw [if_neg (by simp)]
    have hv : v ≠ none2 := by intro e; rw [e] at h; simp at h
    have hv2 : none2 ≠ v := fun e => hv e.symm
    simpa using hv2

def Q (r : Nat) (v : Int × Int × Int) : Prop := (-4 + r ≤ v.1 - v.2.1 ∧ v.1 - v.2.1 ≤ 6 - r) ∧ (-4 + r ≤ v.2.1 - v.2.2 ∧ v.2.1 - v.2.2 ≤ 6 - r) ∧ (0 ≤ v.2.2 ∧ v.2.2 ≤ 13 - r) ∧ 0 ≤ v.2.1 ∧ 0 ≤ v.1
theorem q_ok {r : Nat} {v : Int × Int × Int} (h : Q r v) : StayOk v := by
  obtain ⟨v0, v1, v2⟩ := v
  obtain ⟨⟨a1, a2⟩, ⟨b1, b2⟩, ⟨c1, c2⟩, d, e⟩ := h
  dsimp only at a1 a2 b1 b2 c1 c2 d e
  refine ⟨⟨e, by dsimp only; lia⟩, ⟨d, by dsimp only; lia⟩, ⟨c1, by dsimp only; lia⟩, ?_⟩
  have ht := stay_table v2.toNat (toNat_lt c1 (by lia))
  unfold stayAll at ht
  have h1 := List.all_eq_true.mp (List.all_eq_true.mp ht (v1 - v2 + 4).toNat (List.mem_range.mpr (by lia))) (v0 - v1 + 4).toNat (List.mem_range.mpr (by lia))
  dsimp only at h1
  have e2 : ((v2.toNat : Nat) : Int) = v2 := Int.toNat_of_nonneg c1
  have e1 : ((v2.toNat : Nat) : Int) + (((v1 - v2 + 4).toNat : Nat) : Int) - 4 = v1 := by rw [e2, Int.toNat_of_nonneg (by lia)]; lia
  have e0 : v1 + (((v0 - v1 + 4).toNat : Nat) : Int) - 4 = v0 := by rw [Int.toNat_of_nonneg (by lia)]; lia
  rw [e1, e0, e2] at h1
  have n1 : decide (v1 < 0) = false := by simp; lia
  have n0 : decide (v0 < 0) = false := by simp; lia
  rw [n1, n0] at h1
  simpa using h1
theorem q_reach : ∀ (r : Nat) (v : Int × Int × Int), Q r v → Reach StayOk r v
  | 0, v, _ => trivial
  | r + 1, v, h => fun k hk => by
    have hb : Q r (bump v k) := by
      obtain ⟨v0, v1, v2⟩ := v
      obtain ⟨⟨a1, a2⟩, ⟨b1, b2⟩, ⟨c1, c2⟩, d, e⟩ := h
      dsimp only at a1 a2 b1 b2 c1 c2 d e
      push_cast at a1 a2 b1 b2 c2
      have := n3 k hk
      rcases this with rfl | rfl | rfl <;> (unfold bump Q; simp; lia)
    exact ⟨q_ok hb, q_reach r _ hb⟩

theorem row_shift (a b c l : Int) (p : Nat) : rowF (a + l) (b + l) (c + l) p = ((rowF a b c p).1 + l, (rowF a b c p).2.1 + l, (rowF a b c p).2.2 + l) := by
  unfold rowF
  repeat' split
  all_goals rfl
theorem sub_shift (x y l k : Int) : x + l + k - (y + l) = x + k - y := by lia
theorem diff_eq (N : List Int) (p : Nat) : diffF N p = diff0 (nearF N) (farF N) (o0F N) p := by
  have em : mF N = farF N + nearF N + 2 + leastF N := by unfold mF; lia
  have ed : dF N = farF N + 1 + leastF N := by unfold dF; lia
  have el : leastF N = 0 + leastF N := (Int.zero_add _).symm
  have er : rowF (mF N) (dF N) (leastF N) p = rowF (farF N + nearF N + 2 + leastF N) (farF N + 1 + leastF N) (0 + leastF N) p := by rw [← em, ← ed, ← el]
  unfold diffF diff0 goalF goal0
  dsimp only
  rw [er, row_shift, em, ed]
  dsimp only
  rw [sub_shift, sub_shift]
  refine Prod.ext rfl (Prod.ext rfl ?_)
  show leastF N + (List.count 2 (o0F N) : Int) - (_ + leastF N) = 0 + (List.count 2 (o0F N) : Int) - _
  lia

theorem plain (N : List Int) (hN : N.length = 5) (hge : ∀ x ∈ N, 0 ≤ x) : PlainN N := by
  have hgood := draw_good (ws := N.drop 1) (near := nearF N) (far := farF N) (by rw [List.length_drop, hN])
  have hos := ord_good hgood.2
  have h0 : 0 ≤ N.getD 0 0 := by
    rw [List.getD_eq_getElem?_getD]
    cases hh : N[0]? with
    | none => exact Int.le_refl 0
    | some x => exact hge x (List.mem_of_getElem? hh)
  obtain ⟨n, hn, en⟩ : ∃ n : Nat, n < 3 ∧ nearF N = n := ⟨(nearF N).toNat, by unfold nearF; lia, by unfold nearF; lia⟩
  obtain ⟨f, hf, ef⟩ : ∃ f : Nat, f < 3 ∧ farF N = f := ⟨(farF N).toNat, by unfold farF; lia, by unfold farF; lia⟩
  obtain ⟨l, hl, el⟩ : ∃ l : Nat, l < 10 ∧ leastF N = l := ⟨(leastF N).toNat, by unfold leastF; lia, by unfold leastF; lia⟩
  have hd := (dress_ok N).1
  have hsum : sumOk n f (drawF (N.drop 1) (nearF N) (farF N)) = true := by
    unfold drawF
    rw [← en, ← ef]
    exact draw_sum _ _ _ ([], nearF N, farF N) (by dsimp only; lia) (by dsimp only; lia) (by simp) (by simp)
  have hplan := plan_table n f hn hf _ (hgood.2 ▸ hgood.1.mem) hsum
  unfold planB at hplan
  simp only [Bool.and_eq_true, List.all_eq_true, beq_iff_eq, Bool.not_eq_true'] at hplan
  obtain ⟨⟨⟨p1, p2⟩, p3⟩, p4⟩ := hplan
  have hosF : ordersF (drawF (N.drop 1) (nearF N) (farF N)) = osF N := rfl
  rw [hosF] at p1 p2 p3 p4
  have hne : osF N ≠ [] := by intro e; rw [e] at p1; simp at p1
  have ho0 : (osF N).getD 0 [] = o0F N := rfl
  rw [ho0, ← en, ← ef] at p3 p4
  have hl1 : ∀ o ∈ osF N, (lineOf N o == none2) = false ∧ checkF (lineOf N o) = okPath n f o ∧ checkF (opn ++ lineOf N o) = false ∧ checkF (lineOf N o ++ cls) = false := fun o ho => by
    have := line_told n f (dressN N) hn hf o (hos o ho).1 (p2 o ho)
    rw [← en, ← ef] at this ⊢
    exact this
  have hheard : heardF N = (osF N).filter (okPath n f) := by
    unfold heardF
    refine List.filter_congr fun o ho => ?_
    obtain ⟨q1, q2, _⟩ := hl1 o ho
    rw [pre_iff q1, q2]
  have hv1 : (v0F N).1 - (v0F N).2.1 = n := by unfold v0F mF dF; dsimp only; lia
  have hv2 : (v0F N).2.1 - (v0F N).2.2 = f := by unfold v0F mF dF; dsimp only; lia
  have hstay : stayL N = (osF N).filter (okPath n f) := by
    unfold stayL
    refine List.filter_congr fun o ho => ?_
    unfold stayF
    rw [stay_path o (v0F N) (hos o ho).1.2, hv1, hv2]
  have hm0 : (osF N).getD 0 [] ∈ osF N := by
    have hpos : 0 < (osF N).length := List.length_pos_iff.mpr hne
    rw [List.getD_eq_getElem?_getD, List.getElem?_eq_getElem hpos]
    exact List.getElem_mem _
  have hw : ∀ p, wayF N p = way0 (nearF N) (farF N) (o0F N) p := fun p => by unfold wayF way0; rw [diff_eq]
  refine ⟨hne, ⟨(hl1 _ hm0).2.2.1, (hl1 _ hm0).2.2.2⟩, q_reach 4 _ ?_, fun p hp => ?_, fun o ho => ?_, fun p hp => ?_, ?_⟩
  · unfold Q
    rw [hv1, hv2]
    refine ⟨⟨by push_cast; lia, by push_cast; lia⟩, ⟨by push_cast; lia, by push_cast; lia⟩, ?_⟩
    unfold v0F mF dF
    dsimp only
    push_cast
    lia
  · have := img_table l hl
    unfold imgAll at this
    have h1 := List.all_eq_true.mp (List.all_eq_true.mp (List.all_eq_true.mp this n (List.mem_range.mpr hn)) f (List.mem_range.mpr hf)) p (List.mem_range.mpr hp)
    unfold mF dF
    rw [en, ef, el]
    exact h1
  · rw [hstay]; rw [hheard] at ho; exact ho
  · rw [diff_eq]
    have := p3 p (List.mem_range.mpr hp)
    unfold wayB at this
    simp only [Bool.and_eq_true, Bool.or_eq_true, decide_eq_true_eq] at this
    exact ⟨this.1.1.1, this.1.1.2, this.1.2, this.2⟩
  · rw [hheard, hstay, hw, hw, hw, hw]
    rw [← en, ← ef]
    exact ⟨p4, p4⟩
end Mine
end

section
set_option autoImplicit false
namespace Mine
open PySem PySem.W
set_option maxRecDepth 100000
theorem opening_eq : opening PW = plainProg PW.main.scope.names := by rfl
theorem fence_eq : ∀ s, fenceModules? PW s = some s := fun s => by rfl
theorem boot_isNs (P : Params) : (boot_heap P).isNs mainGlobals = true := by kernel_rfl
theorem boot_isNsB (P : Params) : (boot_heap P).isNs builtinsNs = true := by kernel_rfl
theorem boot_isNsC (P : Params) : (boot_heap P).isNs cStatics = true := by kernel_rfl
theorem boot_isNsM (P : Params) : (boot_heap P).isNs sysModules = true := by kernel_rfl
theorem boot_blt (P : Params) : (boot_heap P).bltView = bltViewBooted := by kernel_rfl
theorem boot_keysM (P : Params) : (boot_heap P).nsKeys mainGlobals = ([("__name__" : Str), ("__doc__" : Str), ("__package__" : Str), ("__loader__" : Str), ("__spec__" : Str), ("__annotations__" : Str), ("__builtins__" : Str), ("__file__" : Str), ("__cached__" : Str)] : List Str) := by kernel_rfl
theorem boot_keysC (P : Params) : (boot_heap P).nsKeys cStatics = [] := by kernel_rfl
theorem boot_blts (P : Params) : (boot_heap P).nsMap mainGlobals "__builtins__" = some (.ref 4) := by kernel_rfl
theorem boot_bmod (P : Params) : ∃ o, (boot_heap P).get? 4 = some o ∧ o.cls = .type "module" ∧ o.dict = some builtinsNs ∧ o.data = .plain := ⟨_, rfl, rfl, rfl, rfl⟩
end Mine
end

section
set_option autoImplicit false
set_option linter.unusedVariables false
namespace Mine
open PySem PySem.Calls PyProof.Rows

abbrev HP := Heap → Value → Prop
def Stable (N : Addr) (P : HP) : Prop := ∀ (h h' : Heap) (v : Value), (∀ b o, N ≤ b → h.get? b = some o → h'.get? b = some o) → P h v → P h' v

/-- the top under way: what its names hold so far -/
structure TopI (h₀ : Heap) (mg₀ : Str → Option Value) (cd Pl : Addr) (h : Heap) (mg : Str → Option Value) (ps : Array Value) (poss : List (Nat × Nat)) (facts : List (Str × HP)) (names : List Str) : Prop where
  main : h.Main mg cd Pl ps
  keep : ∀ b o, b ≠ Pl → b ≠ mainGlobals → h₀.get? b = some o → h.get? b = some o
  got : ∀ p ∈ facts, ∃ v, mg p.1 = some v ∧ p.2 h v
  stab : ∀ p ∈ facts, Stable h₀.objs.size p.2
  others : ∀ x, x ∉ names → mg x = mg₀ x
  pos : ∀ q : Pos, (q.line, q.col) ∉ poss → codeAmong q ps.toList = none
  size : h₀.objs.size ≤ h.objs.size
  lowP : Pl < h₀.objs.size
  lowG : mainGlobals < h₀.objs.size

theorem codeAmong_other {pos q : Pos} {c : Value} (l : List Value) (h : TriplesOk l) (hq : (q.line, q.col) ≠ (pos.line, pos.col)) (hn : codeAmong q l = none) : codeAmong q (l ++ [rawInt pos.line, rawInt pos.col, c]) = none := by
  fun_induction TriplesOk l with
  | case1 =>
    simp only [List.nil_append, codeAmong, rawInt]
    rw [if_neg]
    intro h
    simp only [Bool.and_eq_true, beq_iff_eq] at h
    apply hq
    obtain ⟨h1, h2⟩ := h
    rw [Prod.mk.injEq]
    lia
  | case2 a t b u x rest ih =>
    simp only [List.cons_append, codeAmong] at hn ⊢
    split at hn
    · cases hn
    · rename_i hc; rw [if_neg hc]; exact ih h hn
  | case3 l h1 h2 => exact h.elim

section
variable {M : Model} {A : Around} {E : Value → Shared → Prop} {s : Shared} {prog : Program} {cd Pl F : Addr} {h₀ : Heap} {mg₀ mg : Str → Option Value} {ps : Array Value}
  {poss : List (Nat × Nat)} {facts : List (Str × HP)} {names : List Str} {Q : Flow → Shared → Prop}

theorem TopI.start {h : Heap} (m : h.Main mg cd Pl #[]) : TopI h mg cd Pl h mg #[] [] [] [] :=
  ⟨m, fun _ _ _ _ e => e, (fun _ hp => nomatch hp), (fun _ hp => nomatch hp), fun _ _ => rfl, fun _ _ => rfl, Nat.le_refl _, m.code.lt.2, m.g.lt⟩

theorem TopI.bind {h h' : Heap} {ps' : Array Value} {poss' : List (Nat × Nat)} {x : Str} {v : Value} {P : HP} (X : TopI h₀ mg₀ cd Pl h mg ps poss facts names) (hx : ∀ p ∈ facts, p.1 ≠ x)
    (hm : h'.Main (fun y => if y = x then some v else mg y) cd Pl ps') (keep : ∀ b o, b ≠ Pl → b ≠ mainGlobals → h.get? b = some o → h'.get? b = some o) (hsz : h₀.objs.size ≤ h'.objs.size)
    (hpos : ∀ q : Pos, (q.line, q.col) ∉ poss' → codeAmong q ps'.toList = none) (hP : P h' v) (st : Stable h₀.objs.size P) :
    TopI h₀ mg₀ cd Pl h' (fun y => if y = x then some v else mg y) ps' poss' ((x, P) :: facts) (x :: names) := by
  have ab : ∀ b o, h₀.objs.size ≤ b → h.get? b = some o → h'.get? b = some o := fun b o hb => keep b o (Nat.ne_of_gt (Nat.lt_of_lt_of_le X.lowP hb)) (Nat.ne_of_gt (Nat.lt_of_lt_of_le X.lowG hb))
  refine ⟨hm, fun b o hP hG e => keep b o hP hG (X.keep b o hP hG e), ?_, ?_, ?_, hpos, hsz, X.lowP, X.lowG⟩
  · intro p hp
    rcases List.mem_cons.mp hp with rfl | hp
    · exact ⟨v, if_pos rfl, hP⟩
    · obtain ⟨w, hw, hq⟩ := X.got p hp
      exact ⟨w, (if_neg (hx p hp)).trans hw, X.stab p hp _ _ _ ab hq⟩
  · intro p hp
    rcases List.mem_cons.mp hp with rfl | hp
    · exact st
    · exact X.stab p hp
  · intro y hy
    rw [List.mem_cons, not_or] at hy
    exact (if_neg hy.1).trans (X.others y hy.2)

theorem TopI.grown {h h₁ : Heap} (X : TopI h₀ mg₀ cd Pl h mg ps poss facts names) (hk : ∀ b o, h.get? b = some o → h₁.get? b = some o) (hsz : h.objs.size ≤ h₁.objs.size) :
    TopI h₀ mg₀ cd Pl h₁ mg ps poss facts names := by
  obtain ⟨bm, o, hbm, hne0, hneG, hneP, hbo, hrest⟩ := X.main.bmod
  exact ⟨⟨X.main.g.keeps hk, X.main.code.keeps hk, X.main.low, ⟨bm, o, hbm, hne0, hneG, hneP, hk _ _ hbo, hrest⟩⟩, fun b o hP hG e => hk b o (X.keep b o hP hG e),
    fun p hp => let ⟨v, a, b⟩ := X.got p hp; ⟨v, a, X.stab p hp _ _ _ (fun b o _ => hk b o) b⟩, X.stab, X.others, X.pos, Nat.le_trans X.size hsz, X.lowP, X.lowG⟩

theorem storedMain {h h' : Heap} {x : Str} {v : Value} (hm : h.Main mg cd Pl ps) (hnb : x ≠ "__builtins__") (hg' : h'.Ns mainGlobals (fun y => if y = x then some v else mg y)) (hs' : Heap.SameBut mainGlobals h h') :
    h'.Main (fun y => if y = x then some v else mg y) cd Pl ps :=
  let ⟨bm, o, hbm, hne0, hneG, hneP, hbo, hrest⟩ := hm.bmod
  ⟨hg', hm.code.sameBut hs' (Nat.ne_of_gt hm.low.1) (Nat.ne_of_gt hm.low.2), hm.low,
    ⟨bm, o, (if_neg (Ne.symm hnb)).trans hbm, hne0, hneG, hneP, (hs'.2 _ hneG).trans hbo, hrest⟩⟩

theorem TopI.store {x : Str} {pos' pos : Pos} {value : Expr} {P : HP} (X : TopI h₀ mg₀ cd Pl s.heap mg ps poss facts names)
    (hloc : prog.main.scope.names.lookup x = some .local) (hx : ∀ p ∈ facts, p.1 ≠ x)
    (hval : ∀ Q' : Value → Shared → Prop, (∀ v h₁ tk, (∀ b o, s.heap.get? b = some o → h₁.get? b = some o) → s.heap.objs.size ≤ h₁.objs.size → P h₁ v → Q' v { s with heap := h₁, toks := tk }) → wpAny M A (eval value (mainEnv prog cd F)) Q' E s)
    (st : Stable h₀.objs.size P)
    (k : ∀ h' mg' tk, TopI h₀ mg₀ cd Pl h' mg' ps poss ((x, P) :: facts) (x :: names) → 0 < tk → Q .next { s with heap := h', toks := tk })
    (hnb : x ≠ "__builtins__") (hmod : prog.main.scope.kind = .module)
    (hs : swapsWith value (some (.Name x pos')) pos.line (mainEnv prog cd F) = pure false) :
    wpAny M A (exec (.Assign [.Name x pos'] value pos) (mainEnv prog cd F)) Q E s := by
  refine wpAny_Assign_Name (hval _ fun v h₁ tk hk hsz hP => ?_) hs
  have X₁ := X.grown hk hsz
  refine wpAny_storeName_local (env := mainEnv prog cd F) hloc X₁.main.g (fun h' hg' hs' => ?_)
    (by show (prog.main.scope.kind == .class || (prog.main.scope.kind == .module && mainGlobals != mainGlobals)) = false; rw [hmod]; rfl)
  have kp : ∀ b o, b ≠ mainGlobals → h₁.get? b = some o → h'.get? b = some o := fun b o hb e => (hs'.2 b hb).trans e
  exact k h' _ (tk + 1) (X₁.bind hx (storedMain X₁.main hnb hg' hs') (fun b o _ hG => kp b o hG) (Nat.le_trans X₁.size (Nat.le_of_eq hs'.1.symm)) X₁.pos (st _ _ _ (fun b o hb => kp b o (Nat.ne_of_gt (Nat.lt_of_lt_of_le X.lowG hb))) hP) st) (Nat.succ_pos _)

def FunP (N : Addr) (name : Str) (params : Arguments) (body : List Stmt) (scope : Scope) : HP := fun h v =>
  ∃ a c' pm, v = .ref a ∧ N ≤ a ∧ N ≤ c' ∧ h.get? a = some { cls := .type "function", data := .func (plainDef name params body scope pm (.ref c')) } ∧ h.CodeRec (.ref c') name
theorem FunP.stable {N : Addr} {name : Str} {params : Arguments} {body : List Stmt} {scope : Scope} : Stable N (FunP N name params body scope) := fun h h' v hk hx => by
  obtain ⟨a, c', pm, e, h1, h2, h3, h4⟩ := hx
  exact ⟨a, c', pm, e, h1, h2, hk _ _ h1 h3, h4.at fun o => hk _ o h2⟩

theorem TopI.defn {name : Str} {params : Arguments} {body : List Stmt} {scope : Scope} {pos : Pos} (X : TopI h₀ mg₀ cd Pl s.heap mg ps poss facts names)
    (hexec : PlainDefTree name params body scope pos) (hfree : ∀ x ∈ scope.names, x.2 ≠ .free) (hdoc : docOf body = none)
    (hloc : prog.main.scope.names.lookup name = some .local)
    (hq : qualnameIn { scope := prog.main.scope, locals := mainGlobals, globals := mainGlobals, cells := [] } name name = name)
    (hx : ∀ p ∈ facts, p.1 ≠ name) (hp : (pos.line, pos.col) ∉ poss)
    (k : ∀ h' mg' ps' tk, TopI h₀ mg₀ cd Pl h' mg' ps' ((pos.line, pos.col) :: poss) ((name, FunP h₀.objs.size name params body scope) :: facts) (name :: names) → 0 < tk → Q .next { s with heap := h', toks := tk })
    (hnb : name ≠ "__builtins__") (hmod : prog.main.scope.kind = .module) :
    wpAny M A (exec (.FunctionDef name params body [] none [] scope none name pos) (mainEnv prog cd F)) Q E s := by
  have hq' : qualnameIn (mainEnv prog cd F) name name = name := hq
  rw [hexec, hq']
  refine wpAny_bind (wpAny_standAt (wpAny_bind (wpAny_holding (wpAny_makeFunction_plainN (c := cd) (Pl := Pl) hfree hdoc X.main.g rfl X.main.code (X.pos _ hp) (Nat.ne_of_lt X.main.low.2) X.main.bmod ?_))))
  intro c' h₁ tk ext above below code rec _
  have hG : ∀ b o, b ≠ Pl → s.heap.get? b = some o → (h₁.push { cls := .type "function", data := .func (plainDef name params body scope ((mg "__name__").getD .none) (.ref c')) }).get? b = some o := fun b o hb e => Heap.get?_push_of_some _ (ext b o hb e)
  have up : s.heap.objs.size ≤ h₁.objs.size := Nat.le_trans above (Nat.le_of_lt below)
  have X₁ : TopI h₀ mg₀ cd Pl (h₁.push { cls := .type "function", data := .func (plainDef name params body scope ((mg "__name__").getD .none) (.ref c')) }) mg (ps ++ #[rawInt pos.line, rawInt pos.col, .ref c']) ((pos.line, pos.col) :: poss) facts names := by
    obtain ⟨bm, o, hbm, hne0, hneG, hneP, hbo, hrest⟩ := X.main.bmod
    refine ⟨⟨(X.main.g.extBut ext (Nat.ne_of_lt X.main.low.2)).push _, code.push _, X.main.low, ⟨bm, o, hbm, hne0, hneG, hneP, hG _ _ hneP hbo, hrest⟩⟩, fun b o hP hg e => hG b o hP (X.keep b o hP hg e),
      fun p hp => ?_, X.stab, X.others, fun q hq => ?_, by rw [Heap.size_push]; exact Nat.le_trans X.size (Nat.le_succ_of_le up), X.lowP, X.lowG⟩
    · obtain ⟨v, a, b⟩ := X.got p hp
      exact ⟨v, a, X.stab p hp _ _ _ (fun b o hb => hG b o (Nat.ne_of_gt (Nat.lt_of_lt_of_le X.lowP hb))) b⟩
    · rw [List.mem_cons, not_or] at hq
      obtain ⟨_, _, _, _, _, _, _, _, _, _, _, _, _, _, _, _, _, _, _, tr, _⟩ := X.main.code
      have e : (ps ++ #[rawInt pos.line, rawInt pos.col, .ref c']).toList = ps.toList ++ [rawInt pos.line, rawInt pos.col, .ref c'] := by simp
      rw [e]
      exact codeAmong_other _ tr hq.1 (X.pos q hq.2)
  refine wpAny_bind (wpAny_standAt (wpAny_bind (wpAny_bindName (wpAny_storeName_local (env := mainEnv prog cd F) hloc X₁.main.g (fun h' hg' hs' => wpAny_pure ?_)
    (by show (prog.main.scope.kind == .class || (prog.main.scope.kind == .module && mainGlobals != mainGlobals)) = false; rw [hmod]; rfl)))))
  have kp : ∀ b o, b ≠ mainGlobals → _ → h'.get? b = some o := fun b o hb e => (hs'.2 b hb).trans e
  have lo : ∀ {b : Addr}, h₀.objs.size ≤ b → b ≠ mainGlobals := fun hb => Nat.ne_of_gt (Nat.lt_of_lt_of_le X.lowG hb)
  refine k h' _ _ (tk + 1) (X₁.bind hx (storedMain X₁.main hnb hg' hs') (fun b o _ hG => kp b o hG) (Nat.le_trans X₁.size (Nat.le_of_eq hs'.1.symm)) X₁.pos ?_ FunP.stable) (Nat.succ_pos _)
  have ha : h₀.objs.size ≤ h₁.objs.size := Nat.le_trans X.size up
  have hc : h₀.objs.size ≤ c' := Nat.le_trans X.size above
  exact ⟨_, c', _, rfl, ha, hc, kp _ _ (lo ha) (Heap.get?_push_size _ rfl), rec.at fun o e => kp _ o (lo hc) (Heap.get?_push_of_some _ e)⟩
end
end Mine
end

section
set_option autoImplicit false
set_option linter.unusedVariables false
namespace Mine
open PySem PySem.Calls PyProof.Rows

section
variable {prog : Program} {w : World} {A : Around} {E : Value → Shared → Prop} {s : Shared}

/-- an entry of its own is put behind the others -/
theorem wp_dictPut_new {d : Addr} {kvs : List (Int × Value)} {k : Int} {key v : Value} {Q : Unit → Shared → Prop} (hkey : (intKind prog w).is k key = true) (hm : s.heap.DictOf (intKind prog w) d kvs) (hnew : k ∉ kvs.map (·.1)) (hsz : kvs.length ≤ sizeLine)
    (hQ : ∀ h', h'.DictOf (intKind prog w) d (kvs ++ [(k, v)]) → Heap.SameBut d s.heap h' → Q () { s with heap := h' }) :
    wpAny (model prog w) A (dictPut d ((intKind prog w).hash k) key v) Q E s := by
  obtain ⟨o, es, ep, ho, hc, hd, hk, hp, hn⟩ := hm
  have hz : es.size ≤ sizeLine := by
    have := hp.length
    rw [Array.length_toList] at this
    lia
  unfold dictPut
  refine wpAny_bind (wpAny_dictFind_of hkey ho hd hk ?_)
  have hidx : (es.findIdx? fun e => (intKind prog w).is k e.key) = none := by
    have e1 : (es.toList.findIdx? fun e => (intKind prog w).is k e.key) = none := by
      rw [hp.findIdx k, List.findIdx?_eq_none_iff]
      intro x hx
      exact decide_eq_false fun e => hnew (List.mem_map.mpr ⟨x, hx, e⟩)
    rw [← e1]
    obtain ⟨l⟩ := es
    simp
  rw [hidx]
  refine wpAny_updateDictKeys (hz := hz) ho hd (hQ _ ⟨_, _, ep + 1, Heap.get?_update_self _ ho (Obj.isFreed_of_dict (Obj.data_mapDictKeys hd _)), hc.mapDictKeys _, Obj.data_mapDictKeys hd _, hk.push hkey _, ?_, ?_⟩ (Heap.SameBut.update ..))
  · have := hp.append hkey ((intKind prog w).hash k) v
    rw [Array.toList_push]
    exact this
  · rw [List.map_append, List.nodup_append]
    refine ⟨hn, by simp, fun a ha b hb e => ?_⟩
    simp only [List.map_cons, List.map_nil, List.mem_singleton] at hb
    subst hb
    subst e
    exact hnew ha

theorem wp_merge {d o : Addr} {kvs more : List (Int × Value)} {Q : Unit → Shared → Prop} (hdo : d ≠ o) (hoS : (o == sysModules) = false)
    (hd : s.heap.DictOf (intKind prog w) d kvs) (ho : s.heap.DictOf (intKind prog w) o more) (hne : kvs ≠ []) (hnd : ((kvs ++ more).map (·.1)).Nodup) (hsz : kvs.length + more.length ≤ sizeLine)
    (hQ : ∀ h', h'.DictOf (intKind prog w) d (kvs ++ more) → Heap.SameBut d s.heap h' → Q () { s with heap := h' }) :
    wpAny (model prog w) A (mergeMapping d (.ref o) false) Q E s := by
  obtain ⟨od, esd, epd, hod, hcd, hdd, hkd, hpd, hnd'⟩ := id hd
  obtain ⟨oo, eso, epo, hoo, hco, hdo', hko, hpo, hno⟩ := id ho
  have hlen : more.length = eso.size := by rw [← hpo.length]; simp
  have hnemp : esd.isEmpty = false := by
    cases he : esd.isEmpty with
    | false => rfl
    | true =>
      have h0 : esd = #[] := Array.isEmpty_iff.mp he
      have h1 := hpd.length
      rw [h0] at h1
      exact absurd (List.length_eq_zero_iff.mp (by simpa using h1.symm)) hne
  unfold mergeMapping
  dsimp only
  refine wpAny_bind (wpAny_isInstance ho.typeIs isSubtype_dict_dict ?_)
  simp only [if_true]
  refine wpAny_bind (wpAny_specialOf ho.typeIs F.slot_dict_iter.lookup ?_)
  simp only [beq_self_eq_true]
  refine wpAny_bind (wpAny_pure ?_)
  dsimp only
  rw [hoS]
  simp only [Bool.false_eq_true, if_false]
  refine wpAny_bind (wpAny_dictEntries hod hdd ?_)
  rw [hnemp]
  simp only [Bool.false_eq_true, if_false]
  refine wpAny_bind (wpAny_dictEntries hoo hdo' ?_)
  refine wpAny_bind (wpAny_dictEpoch hoo hdo' ?_)
  refine wpAny_bind ?_
  refine wpAny_forIn_list _ (fun rest _ s' => ∃ h' i, s' = { s with heap := h' } ∧ rest = List.range' i (eso.size - i) ∧ i ≤ eso.size ∧ h'.DictOf (intKind prog w) d (kvs ++ more.take i) ∧ h'.get? o = some oo ∧ Heap.SameBut d s.heap h') _ ?_ ?_ _ _ ⟨s.heap, 0, rfl, by simp [List.range_eq_range'], Nat.zero_le _, by simpa using hd, hoo, Heap.SameBut.refl _ _⟩
  · rintro x rest b s' ⟨h', i, rfl, hr, hi, hd', hoo', hs'⟩
    have hlt : i < eso.size := by
      rcases Nat.lt_or_ge i eso.size with h | h
      · exact h
      · rw [Nat.sub_eq_zero_of_le h] at hr; simp at hr
    obtain ⟨rfl, hrest⟩ : x = i ∧ rest = List.range' (i + 1) (eso.size - (i + 1)) := by
      have e : eso.size - i = (eso.size - (i + 1)) + 1 := by lia
      rw [e, List.range'_succ] at hr
      injection hr with h1 h2
      exact ⟨h1, h2⟩
    refine wpAny_bind (wpAny_dictEntries hoo' hdo' ?_)
    rw [Array.getElem?_eq_getElem hlt]
    have hlt' : x < more.length := by rw [hlen]; exact hlt
    have hkv : more[x]? = some more[x] := List.getElem?_eq_getElem hlt'
    obtain ⟨hkey, hval⟩ := hpo.get? (e := eso[x]) (k := more[x].1) (v := more[x].2) (by simp [hlt]) hkv
    obtain ⟨k', hkey', hhash⟩ := hko eso[x] (Array.getElem_mem hlt)
    obtain rfl : k' = more[x].1 := (intKind prog w).inj _ _ _ hkey' hkey
    have htk : more.take (x + 1) = more.take x ++ [more[x]] := by rw [List.take_add_one, hkv]; rfl
    have hfresh : more[x].1 ∉ (kvs ++ more.take x).map (·.1) := by
      intro hm
      have e : (kvs ++ more).map (·.1) = (kvs ++ more.take x).map (·.1) ++ (more.drop x).map (·.1) := by
        rw [← List.map_append, List.append_assoc, List.take_append_drop]
      rw [e, List.nodup_append] at hnd
      exact hnd.2.2 _ hm _ (List.mem_map.mpr ⟨more[x], by rw [List.drop_eq_getElem_cons hlt']; exact List.mem_cons_self, rfl⟩) rfl
    have hz : (kvs ++ more.take x).length ≤ sizeLine := by
      rw [List.length_append, List.length_take]; lia
    dsimp only
    refine wpAny_bind (wpAny_holding ?_)
    rw [hhash, hval]
    refine ((wp_dictPut_new hkey hd' hfresh hz fun h'' hd'' hs'' => ?_))
    have hoo'' : h''.get? o = some oo := (hs''.2 o (Ne.symm hdo)).trans hoo'
    refine wpAny_bind (wpAny_dictEpoch hoo'' hdo' ?_)
    rw [if_neg (by simp)]
    refine wpAny_pure ⟨h'', x + 1, rfl, hrest, hlt, ?_, hoo'', hs'.trans hs''⟩
    rw [htk, ← List.append_assoc]
    exact hd''
  · rintro b s' ⟨h', i, rfl, hr, hi, hd', hoo', hs'⟩
    have hin : i = eso.size := by
      rcases Nat.lt_or_ge i eso.size with h | h
      · have e : eso.size - i = (eso.size - (i + 1)) + 1 := by lia
        rw [e, List.range'_succ] at hr; exact nomatch hr
      · exact Nat.le_antisymm hi h
    refine wpAny_pure (hQ h' ?_ hs')
    rw [hin, ← hlen, List.take_length] at hd'; exact hd'
end
end Mine
end

section
set_option autoImplicit false
set_option linter.unusedVariables false
namespace Mine
open PySem PySem.Calls PyProof.Rows PySem.Spec PyProof.V

section
variable {prog : Program} {w : World} {A : Around} {E : Value → Shared → Prop} {s : Shared}

/-- pairs of trees that are literals, int keys -/
def Lits (prog : Program) (w : World) (A : Around) (E : Value → Shared → Prop) : List (Sem Value × Sem Value) → List (PyData × PyData) → Prop
  | [], D => D = []
  | p :: ps, D => ∃ (i : Int) (dv : PyData) (D' : List (PyData × PyData)), D = (.int i, dv) :: D' ∧ (∀ (s : Shared) (Q : Value → Shared → Prop), (∀ t tk, Q (.int i t) { s with toks := tk }) → wpAny (model prog w) A p.1 Q E s) ∧
      (∀ (s : Shared) (Q : Value → Shared → Prop), (∀ x tk, Flat x dv → Q x { s with toks := tk }) → wpAny (model prog w) A p.2 Q E s) ∧ Lits prog w A E ps D'

theorem Lits.app {ps qs : List (Sem Value × Sem Value)} {C D : List (PyData × PyData)} (h : Lits prog w A E ps C) (h' : Lits prog w A E qs D) : Lits prog w A E (ps ++ qs) (C ++ D) := by
  induction ps generalizing C with
  | nil => cases h; exact h'
  | cons p ps ih =>
    obtain ⟨i, dv, D', rfl, h1, h2, h3⟩ := h
    exact ⟨i, dv, D' ++ D, rfl, h1, h2, ih h3⟩
theorem Lits.length {ps : List (Sem Value × Sem Value)} {D : List (PyData × PyData)} (h : Lits prog w A E ps D) : D.length = ps.length := by
  induction ps generalizing D with
  | nil => cases h; rfl
  | cons p ps ih => obtain ⟨i, dv, D', rfl, h1, h2, h3⟩ := h; simp [ih h3]
theorem Lits.keyed {ps : List (Sem Value × Sem Value)} {D : List (PyData × PyData)} (h : Lits prog w A E ps D) : intKeyed D = true := by
  induction ps generalizing D with
  | nil => cases h; rfl
  | cons p ps ih => obtain ⟨i, dv, D', rfl, h1, h2, h3⟩ := h; show intKeyed D' = true; exact ih h3

theorem keys_app {C D : List (PyData × PyData)} (h : intKeyed C = true) : intKeysOf (C ++ D) = intKeysOf C ++ intKeysOf D := by
  induction C with
  | nil => rfl
  | cons p C ih =>
    obtain ⟨k, v⟩ := p
    cases k <;> simp [intKeyed] at h
    simp [intKeysOf, ih h]
theorem flat_keys {kvs : List (Int × Value)} {D : List (PyData × PyData)} (h : FlatPairs PyData.int kvs D) : kvs.map (·.1) = intKeysOf D ∧ intKeyed D = true ∧ D.length = kvs.length := by
  induction h with
  | nil => exact ⟨rfl, rfl, rfl⟩
  | cons _ _ ih => exact ⟨by simp [intKeysOf, ih.1], ih.2.1, by simp [ih.2.2]⟩
theorem flat_app {kvs more : List (Int × Value)} {C D : List (PyData × PyData)} (h : FlatPairs PyData.int kvs C) (h' : FlatPairs PyData.int more D) : FlatPairs PyData.int (kvs ++ more) (C ++ D) := by
  induction h with
  | nil => exact h'
  | cons f _ ih => exact .cons f ih

theorem wp_pairs : ∀ (ps : List (Sem Value × Sem Value)) (D : List (PyData × PyData)) (s : Shared) (Q : List (Value × Value) → Shared → Prop), Lits prog w A E ps D → (∀ vs tk, ReadAs vs D → Q vs { s with toks := tk }) → wpAny (model prog w) A (evalPairs ps) Q E s
  | [], _, s, Q, rfl, k => evalPairs_nil (k [] s.toks .nil)
  | (a, b) :: ps, _, s, Q, ⟨i, dv, D', rfl, h1, h2, h3⟩, k => evalPairs_cons (h1 _ _ fun t tk => h2 _ _ fun x tk' f => wp_pairs ps D' _ _ h3 fun vs tk'' r => k _ tk'' (.cons (Flat.int i t) f r))

theorem stored_new {kvs : List (Int × Value)} {k : Int} {v : Value} (h : k ∉ kvs.map (·.1)) : stored kvs k v = kvs ++ [(k, v)] := by
  unfold stored
  rw [if_neg]
  intro e
  obtain ⟨x, hx, e⟩ := List.any_eq_true.mp e
  exact h (List.mem_map.mpr ⟨x, hx, of_decide_eq_true e⟩)

theorem wp_stores {d : Addr} {f : Sem Value × Sem Value → PUnit → Sem (ForInStep PUnit)} (hf : ∀ k v u, f (k, v) u = (do
        let kv ← k
        let vv ← holding [kv] v
        holding [kv, vv] (dictSet d kv vv)
        pure (.yield PUnit.unit))) : ∀ (ps : List (Sem Value × Sem Value)) (D : List (PyData × PyData)) (s : Shared) (kvs : List (Int × Value)) (C : List (PyData × PyData)) (Q : PUnit → Shared → Prop), Lits prog w A E ps D → s.heap.DictOf (intKind prog w) d kvs → FlatPairs PyData.int kvs C →
      (intKeysOf (C ++ D)).Nodup → kvs.length + ps.length ≤ sizeLine → (∀ h' tk kvs', h'.DictOf (intKind prog w) d kvs' → FlatPairs PyData.int kvs' (C ++ D) → Heap.SameBut d s.heap h' → Q PUnit.unit { s with heap := h', toks := tk }) →
      wpAny (model prog w) A (forIn ps PUnit.unit f) Q E s
  | [], _, s, kvs, C, Q, rfl, hd, fl, hn, hz, k => by
    rw [List.forIn_nil]
    exact wpAny_pure (k s.heap s.toks kvs hd (by simpa using fl) (Heap.SameBut.refl _ _))
  | (a, b) :: ps, _, s, kvs, C, Q, ⟨i, dv, D', rfl, h1, h2, h3⟩, hd, fl, hn, hz, k => by
    rw [List.forIn_cons, hf]
    rw [List.length_cons] at hz
    have hkeys := flat_keys fl
    have hnew : i ∉ kvs.map (·.1) := by
      rw [hkeys.1]
      rw [keys_app hkeys.2.1, List.nodup_append] at hn
      exact fun m => hn.2.2 i m i List.mem_cons_self rfl
    refine wpAny_bind (wpAny_bind (h1 _ _ fun t tk => ?_))
    refine wpAny_bind (wpAny_holding (h2 _ _ fun x tk' fx => ?_))
    refine wpAny_bind (wpAny_holding (wpAny_dictSet_pairs (knd := intKind prog w) (k := i) (hsz := by lia) (intKind_is _ _ _ _) hd fun h₁ hd₁ hs₁ => wpAny_pure ?_))
    rw [stored_new hnew] at hd₁
    have e : C ++ (PyData.int i, dv) :: D' = (C ++ [(.int i, dv)]) ++ D' := by simp
    refine wp_stores hf ps D' _ _ (C ++ [(.int i, dv)]) Q h3 hd₁ (flat_app fl (.cons fx .nil)) (e ▸ hn) (by rw [List.length_append]; simp; lia) fun h' tk'' kvs' hd' fl' hs' => ?_
    rw [e] at k
    exact k h' tk'' kvs' hd' fl' (hs₁.trans hs')

theorem wp_sub {ps : List (Sem Value × Sem Value)} {D : List (PyData × PyData)} {Q : Addr → Shared → Prop} (h : Lits prog w A E ps D) (hn : (intKeysOf D).Nodup) (hz : ps.length ≤ 17)
    (k : ∀ h' tk kvs, h'.DictOf (intKind prog w) s.heap.objs.size kvs → FlatPairs PyData.int kvs D → (∀ b o, s.heap.get? b = some o → h'.get? b = some o) → s.heap.objs.size < h'.objs.size → Q s.heap.objs.size { s with heap := h', toks := tk }) :
    wpAny (model prog w) A (subDict ps) Q E s := by
  have fin : ∀ h' : Heap, Heap.SameBut s.heap.objs.size (s.heap.push { cls := .type "dict", data := .dict #[] }) h' → (∀ b o, s.heap.get? b = some o → h'.get? b = some o) ∧ s.heap.objs.size < h'.objs.size := fun h' hs =>
    ⟨fun b o e => (hs.2 b (Nat.ne_of_lt (Heap.lt_size e))).trans (Heap.get?_push_of_some _ e), by rw [hs.1, Heap.size_push]; exact Nat.lt_succ_self _⟩
  by_cases hl : ps.length ≤ 15
  · refine wpAny_subDict (knd := intKind prog w) hl (wp_pairs ps D _ _ h fun vs tk r => ?_)
    obtain ⟨h1, h2, h3⟩ := r.int h.keyed
    exact display_done_int h1 (h2 ▸ hn) (Heap.DictOf.new _) fun h' hm hsb => k h' _ _ hm h3 (fin h' hsb).1 (fin h' hsb).2
  · unfold subDict
    refine wpAny_bind (wpAny_alloc (wpAny_bind (wpAny_holding ?_)))
    rw [if_neg hl]
    refine wpAny_bind (wpAny_rule ?_)
    refine wpAny_bind (wp_stores (d := s.heap.objs.size) (fun _ _ _ => rfl) ps D _ [] [] _ h (Heap.DictOf.new _) .nil (by simpa using hn) (by rw [sizeLine_eq]; simp; lia) fun h' tk kvs hd fl hs => ?_)
    exact wpAny_pure (wpAny_pure (k h' tk kvs hd (by simpa using fl) (fin h' hs).1 (fin h' hs).2))

/-- what the display has made so far -/
def Made (prog : Program) (w : World) (s : Shared) (main : Option Addr) (C : List (PyData × PyData)) (s' : Shared) : Prop :=
  ∃ h' tk, s' = { s with heap := h', toks := tk } ∧ (∀ b o, s.heap.get? b = some o → h'.get? b = some o) ∧ s.heap.objs.size ≤ h'.objs.size ∧
    match main with
    | none => C = []
    | some d => s.heap.objs.size ≤ d ∧ C ≠ [] ∧ ∃ kvs, h'.DictOf (intKind prog w) d kvs ∧ FlatPairs PyData.int kvs C

theorem wp_first {s' : Shared} {ps : List (Sem Value × Sem Value)} {D : List (PyData × PyData)} {Q : Option Addr → Shared → Prop} (m : Made prog w s none [] s') (h : Lits prog w A E ps D) (hn : (intKeysOf D).Nodup) (hz : ps.length ≤ 17) (h0 : ps ≠ [])
    (k : ∀ a s'', Made prog w s (some a) D s'' → Q (some a) s'') : wpAny (model prog w) A (do let d ← subDict ps; pure (some d)) Q E s' := by
  obtain ⟨h', tk, rfl, kp, sz, _⟩ := m
  refine wpAny_bind (wp_sub h hn hz fun h₁ tk₁ kvs hd fl kp₁ sz₁ => wpAny_pure (k _ _ ⟨h₁, tk₁, rfl, fun b o e => kp₁ b o (kp b o e), by dsimp only at sz₁; lia, sz, fun e => ?_, kvs, hd, fl⟩))
  have := h.length
  rw [e] at this
  exact h0 (List.length_eq_zero_iff.mp this.symm)

theorem wp_next {s' : Shared} {a : Addr} {ps : List (Sem Value × Sem Value)} {C D : List (PyData × PyData)} {Q : Option Addr → Shared → Prop} {K : Addr → Value → Sem Unit} (low : sysModules < s.heap.objs.size) (m : Made prog w s (some a) C s') (h : Lits prog w A E ps D) (hn : (intKeysOf (C ++ D)).Nodup) (hz : ps.length ≤ 17) (hC : C.length ≤ 100000)
    (k : ∀ s'', Made prog w s (some a) (C ++ D) s'' → Q (some a) s'') :
    wpAny (model prog w) A (do let sub ← holding [.ref a] (subDict ps); (holding [.ref a, .ref sub] (mergeMapping a (.ref sub) false)).onRaise (K sub); pure (some a)) Q E s' := by
  obtain ⟨h', tk, rfl, kp, sz, la, hne, kvs, hd, fl⟩ := m
  have hk := flat_keys fl
  have hD : (intKeysOf D).Nodup := by
    rw [keys_app hk.2.1, List.nodup_append] at hn; exact hn.2.1
  refine wpAny_bind (wpAny_holding (wp_sub h hD hz fun h₁ tk₁ more hd₁ fl₁ kp₁ sz₁ => ?_))
  have hlt : a < h'.objs.size := by obtain ⟨o, _, _, ho, _⟩ := hd; exact Heap.lt_size ho
  have hk₁ := flat_keys fl₁
  have hd' : h₁.DictOf (intKind prog w) a kvs := hd.keep kp₁
  refine wpAny_bind (wpAny_onRaise (wpAny_holding (wp_merge (Nat.ne_of_lt hlt) (beq_eq_false_iff_ne.mpr (Nat.ne_of_gt (Nat.lt_of_lt_of_le low sz))) hd' hd₁ ?_ ?_ ?_ fun h₂ hd₂ hs₂ => wpAny_pure ?_)))
  · intro e; subst e; exact hne (by simpa using hk.2.2)
  · rw [List.map_append, hk.1, hk₁.1, ← keys_app hk.2.1]; exact hn
  · rw [sizeLine_eq]
    have h1 := hk.2.2
    have h2 := hk₁.2.2
    have h3 := h.length
    lia
  · refine k _ ⟨h₂, tk₁, rfl, fun b o e => ?_, Nat.le_trans sz (by rw [hs₂.1]; exact Nat.le_of_lt sz₁), la, by simp [hne], _, hd₂, flat_app fl fl₁⟩
    have hb : b ≠ a := Nat.ne_of_lt (Nat.lt_of_lt_of_le (Heap.lt_size e) la)
    exact (hs₂.2 b hb).trans (kp₁ b o (kp b o e))

theorem nodup_part {C D X : List (PyData × PyData)} (hC : intKeyed C = true) (hD : intKeyed D = true) (h : (intKeysOf (C ++ D ++ X)).Nodup) : (intKeysOf (C ++ D)).Nodup ∧ (intKeysOf D).Nodup := by
  have hCD : intKeyed (C ++ D) = true := by
    clear h
    induction C with
    | nil => exact hD
    | cons p C ih => obtain ⟨k, v⟩ := p; cases k <;> simp [intKeyed] at hC; exact ih hC
  rw [keys_app hCD, List.nodup_append] at h
  refine ⟨h.1, ?_⟩
  have := h.1
  rw [keys_app hC, List.nodup_append] at this
  exact this.2.1

theorem Made.keyed {s s' : Shared} {main : Option Addr} {C : List (PyData × PyData)} (m : Made prog w s main C s') : intKeyed C = true := by
  obtain ⟨h', tk, rfl, kp, sz, m⟩ := m
  cases main with
  | none => rw [m]; rfl
  | some a => obtain ⟨_, _, kvs, _, fl⟩ := m; exact (flat_keys fl).2.1

theorem wp_gather (f : (Option (Sem Value) × Sem Value) → (Option Addr × List (Sem Value × Sem Value)) → Sem (ForInStep (Option Addr × List (Sem Value × Sem Value))))
    (D : List (PyData × PyData)) (hn : (intKeysOf D).Nodup)
    (short : ∀ (p : Sem Value × Sem Value) (st : Option Addr × List (Sem Value × Sem Value)), st.2.length + 1 < 17 → f (some p.1, p.2) st = pure (.yield (st.1, st.2 ++ [p])))
    (long : ∀ (p : Sem Value × Sem Value) (st : Option Addr × List (Sem Value × Sem Value)) (C Dr X : List (PyData × PyData)) (s' : Shared) (Q : ForInStep (Option Addr × List (Sem Value × Sem Value)) → Shared → Prop), st.2.length + 1 = 17 → D = C ++ Dr ++ X → Made prog w s st.1 C s' → Lits prog w A E (st.2 ++ [p]) Dr →
      (∀ a s'', Made prog w s (some a) (C ++ Dr) s'' → Q (.yield (some a, [])) s'') → wpAny (model prog w) A (f (some p.1, p.2) st) Q E s') :
    ∀ (ps : List (Sem Value × Sem Value)) (st : Option Addr × List (Sem Value × Sem Value)) (C Dr X : List (PyData × PyData)) (s' : Shared) (Q : Option Addr × List (Sem Value × Sem Value) → Shared → Prop), D = C ++ Dr ++ X → st.2.length < 17 → Made prog w s st.1 C s' → Lits prog w A E st.2 Dr → Lits prog w A E ps X →
      (∀ st' C' Dr' s'', D = C' ++ Dr' → st'.2.length < 17 → Made prog w s st'.1 C' s'' → Lits prog w A E st'.2 Dr' → Q st' s'') → wpAny (model prog w) A (forIn (ps.map fun p => (some p.1, p.2)) st f) Q E s'
  | [], st, C, Dr, X, s', Q, hD, hl, m, lr, lx, k => by
    obtain rfl : X = [] := lx
    exact wpAny_pure (k st C Dr s' (by simpa using hD) hl m lr)
  | p :: ps, st, C, Dr, X, s', Q, hD, hl, m, lr, ⟨i, dv, X', e, h1, h2, h3⟩, k => by
    subst e
    have lp : Lits prog w A E (st.2 ++ [p]) (Dr ++ [(.int i, dv)]) := lr.app ⟨i, dv, [], rfl, h1, h2, rfl⟩
    have hD' : D = C ++ (Dr ++ [(.int i, dv)]) ++ X' := by rw [hD]; simp
    rw [List.map_cons, List.forIn_cons]
    by_cases hs : st.2.length + 1 < 17
    · rw [short p st hs]
      exact wpAny_bind (wpAny_pure (wp_gather f D hn short long ps (st.1, st.2 ++ [p]) C _ X' s' Q hD' (by simpa using hs) m lp h3 k))
    · refine wpAny_bind (long p st C _ X' s' _ (by lia) hD' m lp fun a s'' m' => ?_)
      exact wp_gather f D hn short long ps (some a, []) _ [] X' s'' Q (by simpa using hD') (by simp) m' rfl h3 k

theorem wp_display {ps : List (Sem Value × Sem Value)} {D : List (PyData × PyData)} {Q : Value → Shared → Prop} (h : Lits prog w A E ps D) (hn : (intKeysOf D).Nodup) (h0 : ps ≠ []) (hz : ps.length ≤ 100000) (low : sysModules < s.heap.objs.size)
    (k : ∀ a h' tk kvs, s.heap.objs.size ≤ a → s.heap.objs.size ≤ h'.objs.size → h'.DictOf (intKind prog w) a kvs → FlatPairs PyData.int kvs D → (∀ b o, s.heap.get? b = some o → h'.get? b = some o) → Q (.ref a) { s with heap := h', toks := tk }) :
    wpAny (model prog w) A (dictDisplay (ps.map fun p => (some p.1, p.2))) Q E s := by
  have hne : D ≠ [] := fun e => h0 (List.length_eq_zero_iff.mp (by rw [← h.length, e]; rfl))
  have hlD : D.length ≤ 100000 := by rw [h.length]; exact hz
  have last : ∀ a s'', Made prog w s (some a) D s'' → wpAny (model prog w) A (pure (Value.ref a)) Q E s'' := by
    rintro a s'' ⟨h', tk, rfl, kp, sz, la, _, kvs, hd, fl⟩
    exact wpAny_pure (k a h' tk kvs la sz hd fl kp)
  unfold dictDisplay
  dsimp only
  refine wpAny_bind (wp_gather (s := s) _ D hn ?_ ?_ ps (none, []) [] [] D s _ (by simp) (by simp) ⟨s.heap, s.toks, rfl, fun _ _ e => e, Nat.le_refl _, rfl⟩ rfl h ?_)
  · intro p st hs
    have hne : ((st.2 ++ [(p.1, p.2)]).length == 17) = false := by simp; lia
    simp only [hne, Bool.false_eq_true, if_false]
  · intro p st C Dr X s' Q hl hD m lp k
    have hne : ((st.2 ++ [(p.1, p.2)]).length == 17) = true := by simp; lia
    have hz' : (st.2 ++ [p]).length ≤ 17 := by simp; lia
    have hnd := nodup_part m.keyed lp.keyed (hD ▸ hn)
    have hem : (st.2 ++ [(p.1, p.2)]).isEmpty = false := by simp
    simp only [hne, if_true]
    obtain ⟨main, run⟩ := st
    dsimp only at hem m lp hz' ⊢
    rw [hem]
    simp only [Bool.false_eq_true, if_false]
    cases main with
    | none =>
      obtain rfl : C = [] := by obtain ⟨_, _, _, _, _, e⟩ := m; exact e
      exact wpAny_bind (wp_first m lp hnd.2 hz' (by simp) fun a s'' m' => wpAny_pure (k a s'' (by simpa using m')))
    | some a => exact wpAny_bind (wp_next low m lp hnd.1 hz' (by rw [hD] at hlD; simp at hlD; lia) fun s'' m' => wpAny_pure (k a s'' m'))
  · intro st C Dr s' hD hl m lr
    obtain ⟨main, run⟩ := st
    dsimp only at m lr hl ⊢
    cases hr : run with
    | nil =>
      subst hr
      obtain rfl : Dr = [] := lr
      rw [List.append_nil] at hD
      subst hD
      simp only [List.isEmpty_nil, if_true]
      cases main with
      | none => exact absurd (by obtain ⟨_, _, _, _, _, e⟩ := m; exact e) hne
      | some a => exact wpAny_bind (wpAny_pure (last a s' m))
    | cons p r =>
      rw [← hr]
      have hem : run.isEmpty = false := by rw [hr]; rfl
      rw [hem]
      simp only [Bool.false_eq_true, if_false]
      have hnd := nodup_part (X := []) m.keyed lr.keyed (by rw [List.append_nil, ← hD]; exact hn)
      cases main with
      | none =>
        obtain rfl : C = [] := by obtain ⟨_, _, _, _, _, e⟩ := m; exact e
        rw [List.nil_append] at hD
        subst hD
        exact wpAny_bind (wp_first m lr hnd.2 (Nat.le_of_lt hl) (by rw [hr]; simp) fun a s'' m' => last a s'' m')
      | some a => exact wpAny_bind (wp_next low m lr hnd.1 (Nat.le_of_lt hl) (by rw [hD] at hlD; simp at hlD; lia) fun s'' m' => last a s'' (hD ▸ m'))
end
end Mine
end

section
set_option autoImplicit false
set_option linter.unusedVariables false
set_option linter.unusedSimpArgs false
namespace Mine
open PySem PySem.Calls PyProof.Rows PySem.Spec PyProof.V

section
variable {prog : Program} {w : World} {A : Around} {E : Value → Shared → Prop} {s : Shared} {env : Env} {cd F : Addr}

theorem spliced_ints : ∀ (es : List Expr) (ns : List Int) (pos : Pos) (s : Shared) (Q : List Value → Shared → Prop), litInts es = some ns → (∀ vs tk, IntsAre vs ns → Q vs { s with toks := tk }) → wpAny (model prog w) A (spliced (backTo pos (starEach es env))) Q E s
  | [], ns, pos, s, Q, h, k => by
    cases h
    exact wpAny_pure (k [] s.toks .nil)
  | e :: r, ns, pos, s, Q, h, k => by
    obtain ⟨i, p, q, ms, rfl, hr, rfl⟩ := litInts_cons h
    exact wpAny_items_cons (wpAny_Constant_int (spliced_ints r ms pos _ _ hr fun vs tk x => k _ tk (.cons i _ x)))

/-- a type of the built-ins is called at the top -/
theorem wp_topType {x : Str} {T : String} {p pos : Pos} {e : Expr} {rest : List Expr} {mg mb : Str → Option Value} {Q : Value → Shared → Prop} (hmod : prog.main.scope.kind = .module) (hg : s.heap.Ns mainGlobals mg) (hm : mg x = none) (hb : s.heap.Ns builtinsNs mb) (hv : mb x = some (.type T))
    (h : wpAny (model prog w) A (spliced (backTo pos (starEach (e :: rest) (mainEnv prog cd F)))) (fun vs s₁ => wpAny (model prog w) A (call (.type T) vs) Q E s₁) E s)
    (he : starEach (e :: rest) (mainEnv prog cd F) = (false, eval e (mainEnv prog cd F)) :: starEach rest (mainEnv prog cd F))
    (hplain : (backTo pos (starEach rest (mainEnv prog cd F))).any (·.1) = false) (hd : (x == ("__debug__" : Str)) = false) :
    wpAny (model prog w) A (eval (.Call (.Name x p) (e :: rest) [] pos) (mainEnv prog cd F)) Q E s :=
  wpAny_Call_NameR (Name_module hmod rfl (loadGlobal_builtin (env := mainEnv prog cd F) hg hm hb hv (Pv.callWith_type1 h he hplain)) hd)

theorem ints_of_items {a : Int} {n : Nat} {acc : Array Value} (h : ItemsOf (fun i v => ∃ t, v = .int (a + i * 1) t) acc n) : IntsAre acc.toList ((List.range n).map fun (i : Nat) => a + (i : Int)) := by
  obtain ⟨hs, h⟩ := h
  have key : ∀ (l : List Value) (k : Nat), (∀ (j : Nat) (v : Value), l[j]? = some v → ∃ t : Tok, v = Value.int (a + ((k + j : Nat) : Int) * 1) t) → IntsAre l ((List.range' k l.length).map fun (i : Nat) => a + (i : Int)) := by
    intro l
    induction l with
    | nil => exact fun k _ => .nil
    | cons v l ih =>
      intro k hk
      obtain ⟨t, rfl⟩ := hk 0 v rfl
      rw [List.length_cons, List.range'_succ, List.map_cons, Int.mul_one]
      exact .cons _ t (ih (k + 1) fun j v hj => by
        obtain ⟨t, e⟩ := hk (j + 1) v (by simpa using hj)
        exact ⟨t, by rw [e]; congr 4; lia⟩)
  have := key acc.toList 0 fun j v hj => by
    obtain ⟨t, e⟩ := h j v (by simpa using hj)
    exact ⟨t, by rw [e, Nat.zero_add]⟩
  rw [List.range_eq_range', ← hs]
  simpa using this

theorem eval_set {p1 p2 p3 p4 p5 p6 p7 p8 p9 p10 : Pos} {k5 k6 : Nat} {es : List Expr} {ns : List Int} {a b : Int} {n : Nat} {mg mb : Str → Option Value} {Q : Value → Shared → Prop}
    (hmod : prog.main.scope.kind = .module) (hh : A.handled = none) (hg : s.heap.Ns mainGlobals mg) (hb : s.heap.Ns builtinsNs mb)
    (g1 : mg "set" = none) (g2 : mg "list" = none) (g3 : mg "range" = none) (b1 : mb "set" = some (.type "set")) (b2 : mb "list" = some (.type "list")) (b3 : mb "range" = some (.type "range"))
    (hes : litInts es = some ns) (hsm : Builtin.Range.small a b 1 = true) (hn : Builtin.Range.rangeSize a b 1 = (n : Int)) (hz : n ≤ 1000) (hz' : ns.length ≤ 1000)
    (k : ∀ (h' : Heap) (tk : Tok) (x : Addr) (m : Nat), s.heap.objs.size ≤ x → h'.SetOf (intKind prog w) x (fun i => (ns ++ (List.range n).map fun (j : Nat) => a + (j : Int)).any (· == i)) m → (∀ b o, s.heap.get? b = some o → h'.get? b = some o) → s.heap.objs.size ≤ h'.objs.size → Q (.ref x) { s with heap := h', toks := tk }) :
    wpAny (model prog w) A (eval (.Call (.Name "set" p1) [.BinOp (.List es p2) .Add (.Call (.Name "list" p3) [.Call (.Name "range" p4) [.Constant (.int a) k5 p5, .Constant (.int b) k6 p6] [] p7] [] p8) p9] [] p10) (mainEnv prog cd F)) Q E s := by
  refine wp_topType hmod hg g1 hb b1 ?_ rfl rfl (by decide)
  refine wpAny_items_cons ?_
  refine wpAny_BinOp (wpAny_List (spliced_ints es ns p2 _ _ hes fun vs tk hvs => ?_))
  have hvl : vs.length = ns.length := hvs.length
  refine ⟨by rw [hvl, sizeLine_eq]; lia, ?_⟩
  dsimp only
  refine wp_topType hmod (hg.push _) g2 (hb.push _) b2 ?_ rfl rfl (by decide)
  refine wpAny_items_cons ?_
  refine wp_topType hmod (hg.push _) g3 (hb.push _) b3 ?_ rfl rfl (by decide)
  refine wpAny_items_cons (wpAny_Constant_int (wpAny_items_cons (wpAny_Constant_int (wpAny_pure ?_))))
  refine call_range_2 ?_
  dsimp only
  refine wpAny_pure ?_
  refine call_list_range hh (IsRange.new ..) hsm hn (by lia) fun h₁ tk₁ acc cc hk₁ hl₁ hit => ?_
  have hints := ints_of_items hit
  have hal : acc.size = n := hit.1
  refine P.add_list (hl := hk₁ _ _ (Heap.get?_push_of_some _ (Heap.get?_push_size _ rfl))) (hb := hl₁) ?_ (by rw [sizeLine_eq, List.size_toArray, hvl, hal]; lia)
  refine wpAny_pure ?_
  have hi : IntsAre (vs.toArray ++ acc).toList (ns ++ (List.range n).map fun (j : Nat) => a + (j : Int)) := by
    rw [Array.toList_append]; exact hvs.append hints
  have hsz : (vs.toArray ++ acc).size = (ns ++ (List.range n).map fun (j : Nat) => a + (j : Int)).length := by
    rw [← hi.length, Array.length_toList]
  refine call_set_list (items := vs.toArray ++ acc) hh ⟨_, Heap.get?_push_size _ rfl, rfl, 0, rfl⟩ hi ?_ fun h₂ tk₂ hset hk₂ => ?_
  · have : (vs.toArray ++ acc).size ≤ 2000 := by rw [Array.size_append, List.size_toArray, hvl, hal]; lia
    unfold scanBound; lia
  have hup : s.heap.objs.size ≤ h₁.objs.size := by
    have := Heap.lt_size hl₁
    simp only [Heap.size_push] at this
    exact Nat.le_trans (Nat.le_add_right _ 2) (Nat.le_of_lt this)
  obtain ⟨o, es', ep, tt, ho, rest⟩ := id hset
  have hlt := Heap.lt_size ho
  simp only [Heap.size_push] at hlt hk₂
  have hlt' : (h₁.objs.size + 1 : Nat) ≤ h₂.objs.size := Nat.le_of_lt (Nat.lt_of_le_of_lt (Nat.le_refl _) hlt)
  refine k h₂ tk₂ _ _ ?_ (SetOf_congr hset (fun i => ?_) rfl) (fun b o e => ?_) ?_
  · simp only [Heap.size_push]; lia
  · rw [firstMet_any, hsz]
    congr 1
    generalize (ns ++ (List.range n).map fun (j : Nat) => a + (j : Int)) = L
    apply List.ext_getElem
    · simp
    · intro j h1 h2
      simp at h1
      simp [List.getD_eq_getElem?_getD, List.getElem?_eq_getElem h1]
  · have e2 := hk₁ b o (Heap.get?_push_of_some _ (Heap.get?_push_of_some _ e))
    exact hk₂ b o (Nat.lt_of_lt_of_le (Heap.lt_size e) (Nat.le_succ_of_le hup)) (Heap.get?_push_of_some _ e2)
  · lia
end
end Mine
end

section
set_option autoImplicit false
set_option linter.unusedVariables false
set_option linter.unusedSimpArgs false
namespace Mine
open PySem PySem.Calls PyProof.Rows PySem.Spec PyProof.V

def stName (i : Nat) : Str := match PW.main.body[i]? with
  | some (.FunctionDef x _ _ _ _ _ _ _ _ _) => x
  | some (.Assign [.Name x _] _ _) => x
  | _ => ""
def stPos (i : Nat) : Pos := match PW.main.body[i]? with
  | some (.FunctionDef _ _ _ _ _ _ _ _ _ p) => p
  | some (.Assign _ _ p) => p
  | _ => default
def stPos' (i : Nat) : Pos := match PW.main.body[i]? with
  | some (.Assign [.Name _ p] _ _) => p
  | _ => default
def stVal (i : Nat) : Expr := match PW.main.body[i]? with
  | some (.Assign _ v _) => v
  | _ => default
def isDef (i : Nat) : Bool := match PW.main.body[i]? with
  | some (.FunctionDef _ _ _ _ _ _ _ _ _ _) => true
  | _ => false

def FloatP (f : UInt64) : HP := fun _ v => ∃ u : Tok, u ≠ 0 ∧ v = .float f u
def SetP (w : World) (N : Addr) : HP := fun h v => ∃ a m, v = .ref a ∧ N ≤ a ∧ h.SetOf (intKind PW w) a b1S m
def DictP (w : World) (N : Addr) : HP := fun h v => ∃ a kvs, v = .ref a ∧ N ≤ a ∧ h.DictOf (intKind PW w) a kvs ∧ FlatPairs PyData.int kvs b3D
theorem FloatP.stable {N : Addr} {f : UInt64} : Stable N (FloatP f) := fun _ _ _ _ h => h
theorem SetP.stable {N : Addr} {w : World} : Stable N (SetP w N) := fun h h' v hk hx => by
  obtain ⟨a, m, e, hN, o, es, ep, t, ho, r⟩ := hx
  exact ⟨a, m, e, hN, o, es, ep, t, hk _ _ hN ho, r⟩
theorem DictP.stable {N : Addr} {w : World} : Stable N (DictP w N) := fun h h' v hk hx => by
  obtain ⟨a, kvs, e, hN, ⟨o, es, ep, ho, r⟩, fl⟩ := hx
  exact ⟨a, kvs, e, hN, ⟨o, es, ep, hk _ _ hN ho, r⟩, fl⟩

/-- what the i-th statement binds -/
def factOf (w : World) (N : Addr) (i : Nat) : Option (Str × HP) :=
  if isDef i then some (stName i, FunP N (stName i) (fnArgs PW i) (fnBody PW i) (fnScope PW i))
  else if i = 6 then some ("ONE_THIRD", FloatP f13) else if i = 7 then some ("ONE_SIXTH", FloatP f16) else if i = 8 then some ("TWO_THIRD", FloatP f23)
  else if i = 15 then some ("b1_set", SetP w N) else if i = 17 then some ("b3_exceptions", DictP w N) else none
def factL (w : World) (N : Addr) : Nat → List (Str × HP)
  | 0 => []
  | i + 1 => (factOf w N i).toList ++ factL w N i
def namesL : Nat → List Str
  | 0 => []
  | i + 1 => stName i :: namesL i
def possL : Nat → List (Nat × Nat)
  | 0 => []
  | i + 1 => (if isDef i then [((stPos i).line, (stPos i).col)] else []) ++ possL i
def nmS : Str := "__name__"
def fnamesL (i : Nat) : List Str := (namesL i).filter fun x => x != nmS

theorem factL_names {w : World} {N : Addr} {x : Str} : ∀ i, i ≤ 29 → ((List.range i).all fun j => (factOf w N j).all fun p => p.1 == stName j && p.1 != nmS) = true → ∀ p ∈ factL w N i, p.1 ∈ fnamesL i
  | 0, _, _, p, hp => nomatch hp
  | i + 1, hi, ha, p, hp => by
    rw [List.range_succ, List.all_append, Bool.and_eq_true] at ha
    unfold factL at hp
    rcases List.mem_append.mp hp with h | h
    · have h2 := ha.2
      simp only [List.all_cons, List.all_nil, Bool.and_true] at h2
      rw [Option.mem_toList] at h
      rw [h] at h2
      simp only [Option.all_some, Bool.and_eq_true, beq_iff_eq] at h2
      refine List.mem_filter.mpr ⟨?_, h2.2⟩
      rw [h2.1]
      exact List.mem_cons_self
    · have := factL_names (x := x) i (by lia) ha.1 p h
      unfold fnamesL at this ⊢
      rw [List.mem_filter] at this ⊢
      exact ⟨List.mem_cons_of_mem _ this.1, this.2⟩
theorem facts_all (w : World) (N : Addr) : ((List.range 29).all fun j => (factOf w N j).all fun p => p.1 == stName j && p.1 != nmS) = true := by kernel_rfl

section
variable {w : World} {A : Around} {E : Value → Shared → Prop} {s : Shared} {cd Pl F : Addr} {h₀ : Heap} {mg₀ mg mb : Str → Option Value} {ps : Array Value} {Q : Flow → Shared → Prop}

abbrev At (w : World) (h₀ : Heap) (mg₀ : Str → Option Value) (cd Pl : Addr) (i : Nat) (h : Heap) (mg : Str → Option Value) (ps : Array Value) : Prop := TopI h₀ mg₀ cd Pl h mg ps (possL i) (factL w h₀.objs.size i) (namesL i)

theorem fresh_of {N : Addr} {i : Nat} {x : Str} (hi : i ≤ 29) (h : (fnamesL i).contains x = false) : ∀ p ∈ factL w N i, p.1 ≠ x := fun p hp e => by
  have ha := facts_all w N
  have : ((List.range i).all fun j => (factOf w N j).all fun p => p.1 == stName j && p.1 != nmS) = true := by
    rw [List.all_eq_true] at ha ⊢
    intro j hj
    exact ha j (List.mem_range.mpr (Nat.lt_of_lt_of_le (List.mem_range.mp hj) hi))
  have := factL_names (x := x) i hi this p hp
  rw [e] at this
  rw [List.contains_iff_mem.mpr this] at h
  cases h

theorem hmodPW : PW.main.scope.kind = .module := by rfl

theorem step_def (i : Nat) (X : At w h₀ mg₀ cd Pl i s.heap mg ps)
    (hst : PW.main.body.drop i = .FunctionDef (stName i) (fnArgs PW i) (fnBody PW i) [] none [] (fnScope PW i) none (stName i) (stPos i) :: PW.main.body.drop (i + 1))
    (hexec : PlainDefTree (stName i) (fnArgs PW i) (fnBody PW i) (fnScope PW i) (stPos i)) (hfree : ((fnScope PW i).names.all fun x => x.2 != .free) = true) (hdoc : docOf (fnBody PW i) = none)
    (hloc : PW.main.scope.names.lookup (stName i) = some .local)
    (hq : qualnameIn { scope := PW.main.scope, locals := mainGlobals, globals := mainGlobals, cells := [] } (stName i) (stName i) = stName i)
    (hi : i ≤ 29) (hd : isDef i = true) (hx : (fnamesL i).contains (stName i) = false) (hp : (possL i).contains ((stPos i).line, (stPos i).col) = false) (hnb : stName i ≠ "__builtins__")
    (k : ∀ h' mg' ps' tk, At w h₀ mg₀ cd Pl (i + 1) h' mg' ps' → 0 < tk → wpAny (model PW w) A (execs (PW.main.body.drop (i + 1)) (mainEnv PW cd F)) Q E { s with heap := h', toks := tk }) :
    wpAny (model PW w) A (execs (PW.main.body.drop i) (mainEnv PW cd F)) Q E s := by
  rw [hst]
  refine wpAny_execs_cons (TopI.defn X hexec (fun x hx e => ?_) hdoc hloc hq (fresh_of hi hx) (fun m => ?_) (fun h' mg' ps' tk X' h0 => ?_) hnb hmodPW)
  · have := List.all_eq_true.mp hfree x hx
    rw [e] at this
    cases this
  · rw [List.contains_iff_mem.mpr m] at hp; cases hp
  · refine k h' mg' ps' tk ?_ h0
    have e1 : factL w h₀.objs.size (i + 1) = (stName i, FunP h₀.objs.size (stName i) (fnArgs PW i) (fnBody PW i) (fnScope PW i)) :: factL w h₀.objs.size i := by
      rw [factL]; unfold factOf; rw [hd]; rfl
    have e2 : possL (i + 1) = ((stPos i).line, (stPos i).col) :: possL i := by rw [possL, hd]; rfl
    unfold At
    rw [e1, e2]
    exact X'

theorem TopI.less {facts facts' : List (Str × HP)} {names : List Str} {poss : List (Nat × Nat)} {h : Heap} (X : TopI h₀ mg₀ cd Pl h mg ps poss facts names) (hs : ∀ p ∈ facts', p ∈ facts) : TopI h₀ mg₀ cd Pl h mg ps poss facts' names :=
  ⟨X.main, X.keep, fun p hp => X.got p (hs p hp), fun p hp => X.stab p (hs p hp), X.others, X.pos, X.size, X.lowP, X.lowG⟩

theorem step_val (i : Nat) (P : HP) (X : At w h₀ mg₀ cd Pl i s.heap mg ps)
    (hst : PW.main.body.drop i = .Assign [.Name (stName i) (stPos' i)] (stVal i) (stPos i) :: PW.main.body.drop (i + 1))
    (hloc : PW.main.scope.names.lookup (stName i) = some .local) (hi : i ≤ 29) (hd : isDef i = false) (hx : (fnamesL i).contains (stName i) = false)
    (hf : ∀ p, factOf w h₀.objs.size i = some p → p = (stName i, P))
    (hval : ∀ Q' : Value → Shared → Prop, (∀ v h₁ tk, (∀ b o, s.heap.get? b = some o → h₁.get? b = some o) → s.heap.objs.size ≤ h₁.objs.size → P h₁ v → Q' v { s with heap := h₁, toks := tk }) → wpAny (model PW w) A (eval (stVal i) (mainEnv PW cd F)) Q' E s)
    (st : Stable h₀.objs.size P) (hnb : stName i ≠ "__builtins__") (hs : swapsWith (stVal i) (some (.Name (stName i) (stPos' i))) (stPos i).line (mainEnv PW cd F) = pure false)
    (k : ∀ h' mg' tk, At w h₀ mg₀ cd Pl (i + 1) h' mg' ps → 0 < tk → wpAny (model PW w) A (execs (PW.main.body.drop (i + 1)) (mainEnv PW cd F)) Q E { s with heap := h', toks := tk }) :
    wpAny (model PW w) A (execs (PW.main.body.drop i) (mainEnv PW cd F)) Q E s := by
  rw [hst]
  refine wpAny_execs_cons (TopI.store X hloc (fresh_of hi hx) hval st (fun h' mg' tk X' h0 => ?_) hnb hmodPW hs)
  refine k h' mg' tk ?_ h0
  have e2 : possL (i + 1) = possL i := by rw [possL, hd]; rfl
  unfold At
  rw [e2, factL]
  refine X'.less fun p hp => ?_
  rcases List.mem_append.mp hp with h | h
  · rw [Option.mem_toList] at h
    rw [hf p h]
    exact List.mem_cons_self
  · exact List.mem_cons_of_mem _ h

theorem wp_fdiv {p1 p2 p3 : Pos} {k1 k2 : Nat} {x y : UInt64} {env : Env} (hy : Float64.isZero y = false) (Q' : Value → Shared → Prop)
    (k : ∀ v h₁ tk, (∀ b o, s.heap.get? b = some o → h₁.get? b = some o) → s.heap.objs.size ≤ h₁.objs.size → FloatP (Float64.div x y) h₁ v → Q' v { s with heap := h₁, toks := tk }) :
    wpAny (model PW w) A (eval (.BinOp (.Constant (.float x) k1 p1) .Div (.Constant (.float y) k2 p2) p3) env) Q' E s :=
  wpAny_BinOp (wpAny_Constant_float (wpAny_Constant_float (AutoFloatOps.truediv_1 (by rw [hy]; simp) (k _ _ _ (fun _ _ e => e) (Nat.le_refl _) ⟨_, Nat.succ_ne_zero _, rfl⟩))))

theorem wp_cstr {p : Pos} {k : Nat} {x : Str} {env : Env} (Q' : Value → Shared → Prop)
    (h : ∀ v h₁ tk, (∀ b o, s.heap.get? b = some o → h₁.get? b = some o) → s.heap.objs.size ≤ h₁.objs.size → True → Q' v { s with heap := h₁, toks := tk }) :
    wpAny (model PW w) A (eval (.Constant (.str x) k p) env) Q' E s :=
  wpAny_Constant_str (h _ _ _ (fun _ _ e => e) (Nat.le_refl _) trivial)

theorem lits_of {env : Env} {pos : Pos} : ∀ (keys : List (Option Expr)) (values : List Expr) (D : List (PyData × PyData)), litPairs keys values = some D → intKeyed D = true → Lits PW w A E (pairTrees keys values env pos) D
  | [], [], D, hD, _ => by cases hD; rfl
  | some k :: ks, v :: vs, D, hD, hi => by
    simp only [litPairs, Option.bind_eq_bind, Option.pure_def] at hD
    cases hk : tabLit k with
    | none => simp [hk] at hD
    | some dk =>
      cases hv : tabLit v with
      | none => simp [hk, hv] at hD
      | some dv =>
        cases hr : litPairs ks vs with
        | none => simp [hk, hv, hr] at hD
        | some r =>
          simp only [hk, hv, hr, Option.bind_some, Option.some.injEq] at hD
          subst hD
          cases dk with
          | int i =>
            refine ⟨i, dv, r, rfl, fun s Q h => eval_lit hk fun x tk fx => ?_, fun s Q h => wpAny_bind (eval_lit hv fun x tk fx => wpAny_bind (wpAny_standAt (wpAny_pure (h x tk fx)))), lits_of ks vs r hr hi⟩
            obtain ⟨t, rfl⟩ := fx.int_inv
            exact h t tk
          | _ => simp [intKeyed] at hi
  | [], _ :: _, _, hD, _ => by simp [litPairs] at hD
  | none :: _, _, _, hD, _ => by simp [litPairs] at hD
  | some _ :: _, [], _, hD, _ => by simp [litPairs] at hD

theorem wp_dict {keys : List (Option Expr)} {values : List Expr} {pos : Pos} {N : Addr} (hN : N ≤ s.heap.objs.size) (hD : litPairs keys values = some b3D) (hi : intKeyed b3D = true) (hn : (intKeysOf b3D).Nodup)
    (hall : keys.all (·.isSome) = true) (hl : keys.length = values.length) (h0 : keys ≠ []) (hz : keys.length ≤ 100000) (low : sysModules < s.heap.objs.size) {env : Env} (Q' : Value → Shared → Prop)
    (k : ∀ v h₁ tk, (∀ b o, s.heap.get? b = some o → h₁.get? b = some o) → s.heap.objs.size ≤ h₁.objs.size → DictP w N h₁ v → Q' v { s with heap := h₁, toks := tk }) :
    wpAny (model PW w) A (eval (.Dict keys values pos) env) Q' E s := by
  have hlen := pairTrees_length keys values env pos hall hl
  rw [arm_eval_Dict, zip_pairTrees keys values env pos hall hl]
  refine wpAny_bind (wpAny_standAt (wp_display (lits_of keys values _ hD hi) hn ?_ (by rw [hlen]; exact hz) low fun a h' tk kvs la sz hd fl kp => ?_))
  · intro e
    rw [e] at hlen
    exact h0 (List.length_eq_zero_iff.mp hlen.symm)
  · exact k _ h' tk kp sz ⟨a, kvs, rfl, Nat.le_trans hN la, hd, fl⟩

theorem wp_b1set {N : Addr} {p1 p2 p3 p4 p5 p6 p7 p8 p9 p10 : Pos} {k5 k6 : Nat} {es : List Expr} {ns : List Int} {a b : Int} {n : Nat} {mg mb : Str → Option Value} (hN : N ≤ s.heap.objs.size)
    (hh : A.handled = none) (hg : s.heap.Ns mainGlobals mg) (hb : s.heap.Ns builtinsNs mb)
    (g1 : mg "set" = none) (g2 : mg "list" = none) (g3 : mg "range" = none) (b1 : mb "set" = some (.type "set")) (b2 : mb "list" = some (.type "list")) (b3 : mb "range" = some (.type "range"))
    (hes : litInts es = some ns) (hsm : Builtin.Range.small a b 1 = true) (hn : Builtin.Range.rangeSize a b 1 = (n : Int)) (hz : n ≤ 1000) (hz' : ns.length ≤ 1000) (hb1 : (ns ++ (List.range n).map fun (j : Nat) => a + (j : Int)) = b1L) (Q' : Value → Shared → Prop)
    (k : ∀ v h₁ tk, (∀ b o, s.heap.get? b = some o → h₁.get? b = some o) → s.heap.objs.size ≤ h₁.objs.size → SetP w N h₁ v → Q' v { s with heap := h₁, toks := tk }) :
    wpAny (model PW w) A (eval (.Call (.Name "set" p1) [.BinOp (.List es p2) .Add (.Call (.Name "list" p3) [.Call (.Name "range" p4) [.Constant (.int a) k5 p5, .Constant (.int b) k6 p6] [] p7] [] p8) p9] [] p10) (mainEnv PW cd F)) Q' E s :=
  eval_set hmodPW hh hg hb g1 g2 g3 b1 b2 b3 hes hsm hn hz hz' fun h' tk x m hx hs kp sz => k _ h' tk kp sz ⟨x, m, rfl, Nat.le_trans hN hx, SetOf_congr hs (fun i => by
    rw [hb1]
    unfold b1S
    rw [List.contains_eq_any_beq]
    congr 1
    funext y
    rw [Bool.beq_comm]) rfl⟩
end
end Mine
end

section
set_option autoImplicit false
set_option linter.unusedVariables false
set_option maxRecDepth 100000
namespace Mine
open PySem PySem.Calls PyProof.Rows PySem.Spec PyProof.V

def dKeys : Expr → List (Option Expr)
  | .Dict k _ _ => k
  | _ => []
def dVals : Expr → List Expr
  | .Dict _ v _ => v
  | _ => []
def dPos : Expr → Pos
  | .Dict _ _ p => p
  | _ => default
theorem b3_keyed : intKeyed b3D = true := by kernel_rfl
def upB : List Int → Bool
  | a :: b :: r => decide (a < b) && upB (b :: r)
  | _ => true
theorem upB_lt : ∀ (l : List Int) (a : Int), upB (a :: l) = true → ∀ x ∈ l, a < x
  | [], _, _, x, hx => nomatch hx
  | b :: r, a, h, x, hx => by
    simp only [upB, Bool.and_eq_true, decide_eq_true_eq] at h
    rcases List.mem_cons.mp hx with rfl | hx
    · exact h.1
    · exact Int.lt_trans h.1 (upB_lt r b h.2 x hx)
theorem upB_nodup : ∀ l : List Int, upB l = true → l.Nodup
  | [], _ => List.nodup_nil
  | a :: l, h => by
    refine List.nodup_cons.mpr ⟨fun m => absurd (upB_lt l a h a m) (Int.lt_irrefl a), upB_nodup l ?_⟩
    cases l with
    | nil => rfl
    | cons b r => simp only [upB, Bool.and_eq_true] at h; exact h.2
theorem b3_nodup : (intKeysOf b3D).Nodup := upB_nodup _ (by kernel_rfl)
def dictOk (e : Expr) (D : List (PyData × PyData)) : Bool := match e with
  | .Dict keys values _ => (keys.all (·.isSome)) && keys.length == values.length && !keys.isEmpty && keys.length.ble 100000
  | _ => false
theorem b3_lits : litPairs (dKeys (stVal 17)) (dVals (stVal 17)) = some b3D := by kernel_rfl
theorem b3_dok : dictOk (stVal 17) b3D = true := by kernel_rfl
theorem dict_shape (e : Expr) (D : List (PyData × PyData)) (h : dictOk e D = true) (hl : litPairs (dKeys e) (dVals e) = some D) :
    ∃ keys values pos, e = .Dict keys values pos ∧ litPairs keys values = some D ∧ keys.all (·.isSome) = true ∧ keys.length = values.length ∧ keys ≠ [] ∧ keys.length ≤ 100000 := by
  cases e <;> simp only [dictOk, Bool.false_eq_true] at h
  rename_i keys values pos
  simp only [Bool.and_eq_true, beq_iff_eq, Bool.not_eq_true', Nat.ble_eq] at h
  exact ⟨keys, values, pos, rfl, hl, h.1.1.1, h.1.1.2, fun e => by rw [e] at h; exact absurd h.1.2 (by simp), h.2⟩
theorem b3_shape : ∃ keys values pos, stVal 17 = .Dict keys values pos ∧ litPairs keys values = some b3D ∧ keys.all (·.isSome) = true ∧ keys.length = values.length ∧ keys ≠ [] ∧ keys.length ≤ 100000 := dict_shape (stVal 17) b3D b3_dok b3_lits
theorem b1_shape : ∃ (p1 p2 p3 p4 p5 p6 p7 p8 p9 p10 : Pos) (k5 k6 : Nat) (es : List Expr), stVal 15 = .Call (.Name "set" p1) [.BinOp (.List es p2) .Add (.Call (.Name "list" p3) [.Call (.Name "range" p4) [.Constant (.int 65024) k5 p5, .Constant (.int 65040) k6 p6] [] p7] [] p8) p9] [] p10 ∧ litInts es = some [173, 847, 6150, 6155, 6156, 6157, 8203, 8204, 8205, 8288, 65279] :=
  ⟨_, _, _, _, _, _, _, _, _, _, _, _, _, rfl, by kernel_rfl⟩
theorem b1_is : ([173, 847, 6150, 6155, 6156, 6157, 8203, 8204, 8205, 8288, 65279] : List Int) ++ (List.range 16).map (fun (j : Nat) => (65024 : Int) + (j : Int)) = b1L := by decide +kernel
theorem b1_small : Builtin.Range.small 65024 65040 1 = true := by decide +kernel
theorem b1_n : Builtin.Range.rangeSize 65024 65040 1 = ((16 : Nat) : Int) := by decide +kernel
theorem b1_ns : ([173, 847, 6150, 6155, 6156, 6157, 8203, 8204, 8205, 8288, 65279] : List Int).length ≤ 1000 := by decide

theorem top_w0 (cd F : Addr) : swapsWith (stVal 0) (some (.Name (stName 0) (stPos' 0))) (stPos 0).line (mainEnv PW cd F) = pure false := by kernel_rfl
theorem top_f0 (w : World) (N : Addr) : factOf w N 0 = none := by kernel_rfl
theorem top_s0 : PW.main.body.drop 0 = .Assign [.Name (stName 0) (stPos' 0)] (stVal 0) (stPos 0) :: PW.main.body.drop (0 + 1) := by kernel_rfl
theorem top_s1 : PW.main.body.drop 1 = .FunctionDef (stName 1) (fnArgs PW 1) (fnBody PW 1) [] none [] (fnScope PW 1) none (stName 1) (stPos 1) :: PW.main.body.drop (1 + 1) := by kernel_rfl
theorem top_t1 : PlainDefTree (stName 1) (fnArgs PW 1) (fnBody PW 1) (fnScope PW 1) (stPos 1) := fun _ => rfl
theorem top_s2 : PW.main.body.drop 2 = .FunctionDef (stName 2) (fnArgs PW 2) (fnBody PW 2) [] none [] (fnScope PW 2) none (stName 2) (stPos 2) :: PW.main.body.drop (2 + 1) := by kernel_rfl
theorem top_t2 : PlainDefTree (stName 2) (fnArgs PW 2) (fnBody PW 2) (fnScope PW 2) (stPos 2) := fun _ => rfl
theorem top_s3 : PW.main.body.drop 3 = .FunctionDef (stName 3) (fnArgs PW 3) (fnBody PW 3) [] none [] (fnScope PW 3) none (stName 3) (stPos 3) :: PW.main.body.drop (3 + 1) := by kernel_rfl
theorem top_t3 : PlainDefTree (stName 3) (fnArgs PW 3) (fnBody PW 3) (fnScope PW 3) (stPos 3) := fun _ => rfl
theorem top_s4 : PW.main.body.drop 4 = .FunctionDef (stName 4) (fnArgs PW 4) (fnBody PW 4) [] none [] (fnScope PW 4) none (stName 4) (stPos 4) :: PW.main.body.drop (4 + 1) := by kernel_rfl
theorem top_t4 : PlainDefTree (stName 4) (fnArgs PW 4) (fnBody PW 4) (fnScope PW 4) (stPos 4) := fun _ => rfl
theorem top_w5 (cd F : Addr) : swapsWith (stVal 5) (some (.Name (stName 5) (stPos' 5))) (stPos 5).line (mainEnv PW cd F) = pure false := by kernel_rfl
theorem top_f5 (w : World) (N : Addr) : factOf w N 5 = none := by kernel_rfl
theorem top_s5 : PW.main.body.drop 5 = .Assign [.Name (stName 5) (stPos' 5)] (stVal 5) (stPos 5) :: PW.main.body.drop (5 + 1) := by kernel_rfl
theorem top_w6 (cd F : Addr) : swapsWith (stVal 6) (some (.Name (stName 6) (stPos' 6))) (stPos 6).line (mainEnv PW cd F) = pure false := by kernel_rfl
theorem top_f6 (w : World) (N : Addr) : factOf w N 6 = some (stName 6, FloatP f13) := by kernel_rfl
theorem top_s6 : PW.main.body.drop 6 = .Assign [.Name (stName 6) (stPos' 6)] (stVal 6) (stPos 6) :: PW.main.body.drop (6 + 1) := by kernel_rfl
theorem top_w7 (cd F : Addr) : swapsWith (stVal 7) (some (.Name (stName 7) (stPos' 7))) (stPos 7).line (mainEnv PW cd F) = pure false := by kernel_rfl
theorem top_f7 (w : World) (N : Addr) : factOf w N 7 = some (stName 7, FloatP f16) := by kernel_rfl
theorem top_s7 : PW.main.body.drop 7 = .Assign [.Name (stName 7) (stPos' 7)] (stVal 7) (stPos 7) :: PW.main.body.drop (7 + 1) := by kernel_rfl
theorem top_w8 (cd F : Addr) : swapsWith (stVal 8) (some (.Name (stName 8) (stPos' 8))) (stPos 8).line (mainEnv PW cd F) = pure false := by kernel_rfl
theorem top_f8 (w : World) (N : Addr) : factOf w N 8 = some (stName 8, FloatP f23) := by kernel_rfl
theorem top_s8 : PW.main.body.drop 8 = .Assign [.Name (stName 8) (stPos' 8)] (stVal 8) (stPos 8) :: PW.main.body.drop (8 + 1) := by kernel_rfl
theorem top_s9 : PW.main.body.drop 9 = .FunctionDef (stName 9) (fnArgs PW 9) (fnBody PW 9) [] none [] (fnScope PW 9) none (stName 9) (stPos 9) :: PW.main.body.drop (9 + 1) := by kernel_rfl
theorem top_t9 : PlainDefTree (stName 9) (fnArgs PW 9) (fnBody PW 9) (fnScope PW 9) (stPos 9) := fun _ => rfl
theorem top_s10 : PW.main.body.drop 10 = .FunctionDef (stName 10) (fnArgs PW 10) (fnBody PW 10) [] none [] (fnScope PW 10) none (stName 10) (stPos 10) :: PW.main.body.drop (10 + 1) := by kernel_rfl
theorem top_t10 : PlainDefTree (stName 10) (fnArgs PW 10) (fnBody PW 10) (fnScope PW 10) (stPos 10) := fun _ => rfl
theorem top_s11 : PW.main.body.drop 11 = .FunctionDef (stName 11) (fnArgs PW 11) (fnBody PW 11) [] none [] (fnScope PW 11) none (stName 11) (stPos 11) :: PW.main.body.drop (11 + 1) := by kernel_rfl
theorem top_t11 : PlainDefTree (stName 11) (fnArgs PW 11) (fnBody PW 11) (fnScope PW 11) (stPos 11) := fun _ => rfl
theorem top_s12 : PW.main.body.drop 12 = .FunctionDef (stName 12) (fnArgs PW 12) (fnBody PW 12) [] none [] (fnScope PW 12) none (stName 12) (stPos 12) :: PW.main.body.drop (12 + 1) := by kernel_rfl
theorem top_t12 : PlainDefTree (stName 12) (fnArgs PW 12) (fnBody PW 12) (fnScope PW 12) (stPos 12) := fun _ => rfl
theorem top_s13 : PW.main.body.drop 13 = .FunctionDef (stName 13) (fnArgs PW 13) (fnBody PW 13) [] none [] (fnScope PW 13) none (stName 13) (stPos 13) :: PW.main.body.drop (13 + 1) := by kernel_rfl
theorem top_t13 : PlainDefTree (stName 13) (fnArgs PW 13) (fnBody PW 13) (fnScope PW 13) (stPos 13) := fun _ => rfl
theorem top_w14 (cd F : Addr) : swapsWith (stVal 14) (some (.Name (stName 14) (stPos' 14))) (stPos 14).line (mainEnv PW cd F) = pure false := by kernel_rfl
theorem top_f14 (w : World) (N : Addr) : factOf w N 14 = none := by kernel_rfl
theorem top_s14 : PW.main.body.drop 14 = .Assign [.Name (stName 14) (stPos' 14)] (stVal 14) (stPos 14) :: PW.main.body.drop (14 + 1) := by kernel_rfl
theorem top_w15 (cd F : Addr) : swapsWith (stVal 15) (some (.Name (stName 15) (stPos' 15))) (stPos 15).line (mainEnv PW cd F) = pure false := by kernel_rfl
theorem top_f15 (w : World) (N : Addr) : factOf w N 15 = some (stName 15, SetP w N) := by kernel_rfl
theorem top_s15 : PW.main.body.drop 15 = .Assign [.Name (stName 15) (stPos' 15)] (stVal 15) (stPos 15) :: PW.main.body.drop (15 + 1) := by kernel_rfl
theorem top_s16 : PW.main.body.drop 16 = .FunctionDef (stName 16) (fnArgs PW 16) (fnBody PW 16) [] none [] (fnScope PW 16) none (stName 16) (stPos 16) :: PW.main.body.drop (16 + 1) := by kernel_rfl
theorem top_t16 : PlainDefTree (stName 16) (fnArgs PW 16) (fnBody PW 16) (fnScope PW 16) (stPos 16) := fun _ => rfl
theorem top_w17 (cd F : Addr) : swapsWith (stVal 17) (some (.Name (stName 17) (stPos' 17))) (stPos 17).line (mainEnv PW cd F) = pure false := by kernel_rfl
theorem top_f17 (w : World) (N : Addr) : factOf w N 17 = some (stName 17, DictP w N) := by kernel_rfl
theorem top_s17 : PW.main.body.drop 17 = .Assign [.Name (stName 17) (stPos' 17)] (stVal 17) (stPos 17) :: PW.main.body.drop (17 + 1) := by kernel_rfl
theorem top_s18 : PW.main.body.drop 18 = .FunctionDef (stName 18) (fnArgs PW 18) (fnBody PW 18) [] none [] (fnScope PW 18) none (stName 18) (stPos 18) :: PW.main.body.drop (18 + 1) := by kernel_rfl
theorem top_t18 : PlainDefTree (stName 18) (fnArgs PW 18) (fnBody PW 18) (fnScope PW 18) (stPos 18) := fun _ => rfl
theorem top_w19 (cd F : Addr) : swapsWith (stVal 19) (some (.Name (stName 19) (stPos' 19))) (stPos 19).line (mainEnv PW cd F) = pure false := by kernel_rfl
theorem top_f19 (w : World) (N : Addr) : factOf w N 19 = none := by kernel_rfl
theorem top_s19 : PW.main.body.drop 19 = .Assign [.Name (stName 19) (stPos' 19)] (stVal 19) (stPos 19) :: PW.main.body.drop (19 + 1) := by kernel_rfl
theorem top_s20 : PW.main.body.drop 20 = .FunctionDef (stName 20) (fnArgs PW 20) (fnBody PW 20) [] none [] (fnScope PW 20) none (stName 20) (stPos 20) :: PW.main.body.drop (20 + 1) := by kernel_rfl
theorem top_t20 : PlainDefTree (stName 20) (fnArgs PW 20) (fnBody PW 20) (fnScope PW 20) (stPos 20) := fun _ => rfl
theorem top_s21 : PW.main.body.drop 21 = .FunctionDef (stName 21) (fnArgs PW 21) (fnBody PW 21) [] none [] (fnScope PW 21) none (stName 21) (stPos 21) :: PW.main.body.drop (21 + 1) := by kernel_rfl
theorem top_t21 : PlainDefTree (stName 21) (fnArgs PW 21) (fnBody PW 21) (fnScope PW 21) (stPos 21) := fun _ => rfl
theorem top_s22 : PW.main.body.drop 22 = .FunctionDef (stName 22) (fnArgs PW 22) (fnBody PW 22) [] none [] (fnScope PW 22) none (stName 22) (stPos 22) :: PW.main.body.drop (22 + 1) := by kernel_rfl
theorem top_t22 : PlainDefTree (stName 22) (fnArgs PW 22) (fnBody PW 22) (fnScope PW 22) (stPos 22) := fun _ => rfl
theorem top_s23 : PW.main.body.drop 23 = .FunctionDef (stName 23) (fnArgs PW 23) (fnBody PW 23) [] none [] (fnScope PW 23) none (stName 23) (stPos 23) :: PW.main.body.drop (23 + 1) := by kernel_rfl
theorem top_t23 : PlainDefTree (stName 23) (fnArgs PW 23) (fnBody PW 23) (fnScope PW 23) (stPos 23) := fun _ => rfl
theorem top_s24 : PW.main.body.drop 24 = .FunctionDef (stName 24) (fnArgs PW 24) (fnBody PW 24) [] none [] (fnScope PW 24) none (stName 24) (stPos 24) :: PW.main.body.drop (24 + 1) := by kernel_rfl
theorem top_t24 : PlainDefTree (stName 24) (fnArgs PW 24) (fnBody PW 24) (fnScope PW 24) (stPos 24) := fun _ => rfl
theorem top_s25 : PW.main.body.drop 25 = .FunctionDef (stName 25) (fnArgs PW 25) (fnBody PW 25) [] none [] (fnScope PW 25) none (stName 25) (stPos 25) :: PW.main.body.drop (25 + 1) := by kernel_rfl
theorem top_t25 : PlainDefTree (stName 25) (fnArgs PW 25) (fnBody PW 25) (fnScope PW 25) (stPos 25) := fun _ => rfl
theorem top_s26 : PW.main.body.drop 26 = .FunctionDef (stName 26) (fnArgs PW 26) (fnBody PW 26) [] none [] (fnScope PW 26) none (stName 26) (stPos 26) :: PW.main.body.drop (26 + 1) := by kernel_rfl
theorem top_t26 : PlainDefTree (stName 26) (fnArgs PW 26) (fnBody PW 26) (fnScope PW 26) (stPos 26) := fun _ => rfl
theorem top_s27 : PW.main.body.drop 27 = .FunctionDef (stName 27) (fnArgs PW 27) (fnBody PW 27) [] none [] (fnScope PW 27) none (stName 27) (stPos 27) :: PW.main.body.drop (27 + 1) := by kernel_rfl
theorem top_t27 : PlainDefTree (stName 27) (fnArgs PW 27) (fnBody PW 27) (fnScope PW 27) (stPos 27) := fun _ => rfl
theorem top_s28 : PW.main.body.drop 28 = .FunctionDef (stName 28) (fnArgs PW 28) (fnBody PW 28) [] none [] (fnScope PW 28) none (stName 28) (stPos 28) :: PW.main.body.drop (28 + 1) := by kernel_rfl
theorem top_t28 : PlainDefTree (stName 28) (fnArgs PW 28) (fnBody PW 28) (fnScope PW 28) (stPos 28) := fun _ => rfl

section
variable {w : World} {A : Around} {E : Value → Shared → Prop} {s : Shared} {cd Pl F : Addr} {h₀ : Heap} {mg₀ mg mb : Str → Option Value} {Q : Flow → Shared → Prop}
theorem wp_b3 {N : Addr} (hN : N ≤ s.heap.objs.size) (low : sysModules < s.heap.objs.size) {env : Env} (Q' : Value → Shared → Prop)
    (k : ∀ v h₁ tk, (∀ b o, s.heap.get? b = some o → h₁.get? b = some o) → s.heap.objs.size ≤ h₁.objs.size → DictP w N h₁ v → Q' v { s with heap := h₁, toks := tk }) :
    wpAny (model PW w) A (eval (stVal 17) env) Q' E s := by
  obtain ⟨keys, values, pos, e, hl, ha, hlen, h0, hz⟩ := b3_shape
  rw [e]
  exact wp_dict hN hl b3_keyed b3_nodup ha hlen h0 hz low Q' k
theorem wp_b1 {N : Addr} (hN : N ≤ s.heap.objs.size) (hh : A.handled = none) (hg : s.heap.Ns mainGlobals mg) (hb : s.heap.Ns builtinsNs mb)
    (g1 : mg "set" = none) (g2 : mg "list" = none) (g3 : mg "range" = none) (b1 : mb "set" = some (.type "set")) (b2 : mb "list" = some (.type "list")) (b3 : mb "range" = some (.type "range")) (Q' : Value → Shared → Prop)
    (k : ∀ v h₁ tk, (∀ b o, s.heap.get? b = some o → h₁.get? b = some o) → s.heap.objs.size ≤ h₁.objs.size → SetP w N h₁ v → Q' v { s with heap := h₁, toks := tk }) :
    wpAny (model PW w) A (eval (stVal 15) (mainEnv PW cd F)) Q' E s := by
  obtain ⟨p1, p2, p3, p4, p5, p6, p7, p8, p9, p10, k5, k6, es, e, hes⟩ := b1_shape
  rw [e]
  exact wp_b1set hN hh hg hb g1 g2 g3 b1 b2 b3 hes b1_small b1_n (by lia) b1_ns b1_is Q' k
theorem go_def (i : Nat) {h : Heap} {tk : Tok} {mg : Str → Option Value} {ps : Array Value} (X : At w h₀ mg₀ cd Pl i h mg ps)
    (hst : PW.main.body.drop i = .FunctionDef (stName i) (fnArgs PW i) (fnBody PW i) [] none [] (fnScope PW i) none (stName i) (stPos i) :: PW.main.body.drop (i + 1))
    (hexec : PlainDefTree (stName i) (fnArgs PW i) (fnBody PW i) (fnScope PW i) (stPos i)) (hfree : ((fnScope PW i).names.all fun x => x.2 != .free) = true) (hdoc : docOf (fnBody PW i) = none)
    (hloc : PW.main.scope.names.lookup (stName i) = some .local)
    (hq : qualnameIn { scope := PW.main.scope, locals := mainGlobals, globals := mainGlobals, cells := [] } (stName i) (stName i) = stName i)
    (hi : i ≤ 29) (hd : isDef i = true) (hx : (fnamesL i).contains (stName i) = false) (hp : (possL i).contains ((stPos i).line, (stPos i).col) = false) (hnb : stName i ≠ "__builtins__")
    (k : ∀ h' mg' ps' tk, At w h₀ mg₀ cd Pl (i + 1) h' mg' ps' → 0 < tk → wpAny (model PW w) A (execs (PW.main.body.drop (i + 1)) (mainEnv PW cd F)) Q E { s with heap := h', toks := tk }) :
    wpAny (model PW w) A (execs (PW.main.body.drop i) (mainEnv PW cd F)) Q E { s with heap := h, toks := tk } :=
  step_def (s := { s with heap := h, toks := tk }) i X hst hexec hfree hdoc hloc hq hi hd hx hp hnb k
theorem go_val (i : Nat) (P : HP) {h : Heap} {tk : Tok} {mg : Str → Option Value} {ps : Array Value} (X : At w h₀ mg₀ cd Pl i h mg ps)
    (hst : PW.main.body.drop i = .Assign [.Name (stName i) (stPos' i)] (stVal i) (stPos i) :: PW.main.body.drop (i + 1))
    (hloc : PW.main.scope.names.lookup (stName i) = some .local) (hi : i ≤ 29) (hd : isDef i = false) (hx : (fnamesL i).contains (stName i) = false)
    (hf : ∀ p, factOf w h₀.objs.size i = some p → p = (stName i, P))
    (hval : ∀ Q' : Value → Shared → Prop, (∀ v h₁ tk₁, (∀ b o, h.get? b = some o → h₁.get? b = some o) → h.objs.size ≤ h₁.objs.size → P h₁ v → Q' v { s with heap := h₁, toks := tk₁ }) → wpAny (model PW w) A (eval (stVal i) (mainEnv PW cd F)) Q' E { s with heap := h, toks := tk })
    (st : Stable h₀.objs.size P) (hnb : stName i ≠ "__builtins__") (hs : swapsWith (stVal i) (some (.Name (stName i) (stPos' i))) (stPos i).line (mainEnv PW cd F) = pure false)
    (k : ∀ h' mg' tk, At w h₀ mg₀ cd Pl (i + 1) h' mg' ps → 0 < tk → wpAny (model PW w) A (execs (PW.main.body.drop (i + 1)) (mainEnv PW cd F)) Q E { s with heap := h', toks := tk }) :
    wpAny (model PW w) A (execs (PW.main.body.drop i) (mainEnv PW cd F)) Q E { s with heap := h, toks := tk } :=
  step_val (s := { s with heap := h, toks := tk }) i P X hst hloc hi hd hx hf hval st hnb hs k
set_option maxHeartbeats 4000000 in
theorem top_walk' {h : Heap} {tk : Tok} (X : At w h₀ mg₀ cd Pl 0 h mg #[]) (hh : A.handled = none) (hb : h₀.Ns builtinsNs mb) (g1 : mg₀ "set" = none) (g2 : mg₀ "list" = none) (g3 : mg₀ "range" = none)
    (b1 : mb "set" = some (.type "set")) (b2 : mb "list" = some (.type "list")) (b3 : mb "range" = some (.type "range")) (lowP : builtinsNs ≠ Pl) (lowS : sysModules < h₀.objs.size)
    (fin : ∀ h' mg' ps' tk, At w h₀ mg₀ cd Pl 29 h' mg' ps' → 0 < tk → Q .next { s with heap := h', toks := tk }) :
    wpAny (model PW w) A (execs (PW.main.body.drop 0) (mainEnv PW cd F)) Q E { s with heap := h, toks := tk } := by
  refine @go_val w A E s cd Pl F h₀ mg₀ Q 0 (fun _ _ => True) _ _ _ _ X top_s0 (by kernel_rfl) (by lia) (by kernel_rfl) (by kernel_rfl) (fun p h => nomatch (top_f0 w h₀.objs.size).symm.trans h) (fun Q' h => wp_cstr Q' h) (fun _ _ _ _ h => h) (by decide +kernel) (top_w0 _ _) fun h' mg' tk X _ => ?_
  refine @go_def w A E s cd Pl F h₀ mg₀ Q 1 _ _ _ _ X top_s1 top_t1 (by kernel_rfl) (by kernel_rfl) (by kernel_rfl) (by kernel_rfl) (by lia) (by kernel_rfl) (by kernel_rfl) (by kernel_rfl) (by decide +kernel) fun h' mg' ps' tk X _ => ?_
  refine @go_def w A E s cd Pl F h₀ mg₀ Q 2 _ _ _ _ X top_s2 top_t2 (by kernel_rfl) (by kernel_rfl) (by kernel_rfl) (by kernel_rfl) (by lia) (by kernel_rfl) (by kernel_rfl) (by kernel_rfl) (by decide +kernel) fun h' mg' ps' tk X _ => ?_
  refine @go_def w A E s cd Pl F h₀ mg₀ Q 3 _ _ _ _ X top_s3 top_t3 (by kernel_rfl) (by kernel_rfl) (by kernel_rfl) (by kernel_rfl) (by lia) (by kernel_rfl) (by kernel_rfl) (by kernel_rfl) (by decide +kernel) fun h' mg' ps' tk X _ => ?_
  refine @go_def w A E s cd Pl F h₀ mg₀ Q 4 _ _ _ _ X top_s4 top_t4 (by kernel_rfl) (by kernel_rfl) (by kernel_rfl) (by kernel_rfl) (by lia) (by kernel_rfl) (by kernel_rfl) (by kernel_rfl) (by decide +kernel) fun h' mg' ps' tk X _ => ?_
  refine @go_val w A E s cd Pl F h₀ mg₀ Q 5 (fun _ _ => True) _ _ _ _ X top_s5 (by kernel_rfl) (by lia) (by kernel_rfl) (by kernel_rfl) (fun p h => nomatch (top_f5 w h₀.objs.size).symm.trans h) (fun Q' h => wp_cstr Q' h) (fun _ _ _ _ h => h) (by decide +kernel) (top_w5 _ _) fun h' mg' tk X _ => ?_
  refine @go_val w A E s cd Pl F h₀ mg₀ Q 6 (FloatP f13) _ _ _ _ X top_s6 (by kernel_rfl) (by lia) (by kernel_rfl) (by kernel_rfl) (fun p h => Option.some.inj (h.symm.trans (top_f6 w h₀.objs.size))) (fun Q' h => wp_fdiv (by kernel_rfl) Q' h) FloatP.stable (by decide +kernel) (top_w6 _ _) fun h' mg' tk X _ => ?_
  refine @go_val w A E s cd Pl F h₀ mg₀ Q 7 (FloatP f16) _ _ _ _ X top_s7 (by kernel_rfl) (by lia) (by kernel_rfl) (by kernel_rfl) (fun p h => Option.some.inj (h.symm.trans (top_f7 w h₀.objs.size))) (fun Q' h => wp_fdiv (by kernel_rfl) Q' h) FloatP.stable (by decide +kernel) (top_w7 _ _) fun h' mg' tk X _ => ?_
  refine @go_val w A E s cd Pl F h₀ mg₀ Q 8 (FloatP f23) _ _ _ _ X top_s8 (by kernel_rfl) (by lia) (by kernel_rfl) (by kernel_rfl) (fun p h => Option.some.inj (h.symm.trans (top_f8 w h₀.objs.size))) (fun Q' h => wp_fdiv (by kernel_rfl) Q' h) FloatP.stable (by decide +kernel) (top_w8 _ _) fun h' mg' tk X _ => ?_
  refine @go_def w A E s cd Pl F h₀ mg₀ Q 9 _ _ _ _ X top_s9 top_t9 (by kernel_rfl) (by kernel_rfl) (by kernel_rfl) (by kernel_rfl) (by lia) (by kernel_rfl) (by kernel_rfl) (by kernel_rfl) (by decide +kernel) fun h' mg' ps' tk X _ => ?_
  refine @go_def w A E s cd Pl F h₀ mg₀ Q 10 _ _ _ _ X top_s10 top_t10 (by kernel_rfl) (by kernel_rfl) (by kernel_rfl) (by kernel_rfl) (by lia) (by kernel_rfl) (by kernel_rfl) (by kernel_rfl) (by decide +kernel) fun h' mg' ps' tk X _ => ?_
  refine @go_def w A E s cd Pl F h₀ mg₀ Q 11 _ _ _ _ X top_s11 top_t11 (by kernel_rfl) (by kernel_rfl) (by kernel_rfl) (by kernel_rfl) (by lia) (by kernel_rfl) (by kernel_rfl) (by kernel_rfl) (by decide +kernel) fun h' mg' ps' tk X _ => ?_
  refine @go_def w A E s cd Pl F h₀ mg₀ Q 12 _ _ _ _ X top_s12 top_t12 (by kernel_rfl) (by kernel_rfl) (by kernel_rfl) (by kernel_rfl) (by lia) (by kernel_rfl) (by kernel_rfl) (by kernel_rfl) (by decide +kernel) fun h' mg' ps' tk X _ => ?_
  refine @go_def w A E s cd Pl F h₀ mg₀ Q 13 _ _ _ _ X top_s13 top_t13 (by kernel_rfl) (by kernel_rfl) (by kernel_rfl) (by kernel_rfl) (by lia) (by kernel_rfl) (by kernel_rfl) (by kernel_rfl) (by decide +kernel) fun h' mg' ps' tk X _ => ?_
  refine @go_val w A E s cd Pl F h₀ mg₀ Q 14 (fun _ _ => True) _ _ _ _ X top_s14 (by kernel_rfl) (by lia) (by kernel_rfl) (by kernel_rfl) (fun p h => nomatch (top_f14 w h₀.objs.size).symm.trans h) (fun Q' h => wp_cstr Q' h) (fun _ _ _ _ h => h) (by decide +kernel) (top_w14 _ _) fun h' mg' tk X _ => ?_
  refine @go_val w A E s cd Pl F h₀ mg₀ Q 15 (SetP w h₀.objs.size) _ _ _ _ X top_s15 (by kernel_rfl) (by lia) (by kernel_rfl) (by kernel_rfl) (fun p h => Option.some.inj (h.symm.trans (top_f15 w h₀.objs.size)))
    (fun Q' h => wp_b1 X.size hh X.main.g (hb.at fun o e => X.keep _ o lowP (by decide) e) ((X.others "set" (by decide +kernel)).trans g1) ((X.others "list" (by decide +kernel)).trans g2) ((X.others "range" (by decide +kernel)).trans g3) b1 b2 b3 Q' h) SetP.stable (by decide +kernel) (top_w15 _ _) fun h' mg' tk X _ => ?_
  refine @go_def w A E s cd Pl F h₀ mg₀ Q 16 _ _ _ _ X top_s16 top_t16 (by kernel_rfl) (by kernel_rfl) (by kernel_rfl) (by kernel_rfl) (by lia) (by kernel_rfl) (by kernel_rfl) (by kernel_rfl) (by decide +kernel) fun h' mg' ps' tk X _ => ?_
  refine @go_val w A E s cd Pl F h₀ mg₀ Q 17 (DictP w h₀.objs.size) _ _ _ _ X top_s17 (by kernel_rfl) (by lia) (by kernel_rfl) (by kernel_rfl) (fun p h => Option.some.inj (h.symm.trans (top_f17 w h₀.objs.size)))
    (fun Q' h => @wp_b3 w A E _ _ X.size (Nat.lt_of_lt_of_le lowS X.size) _ Q' h) DictP.stable (by decide +kernel) (top_w17 _ _) fun h' mg' tk X _ => ?_
  refine @go_def w A E s cd Pl F h₀ mg₀ Q 18 _ _ _ _ X top_s18 top_t18 (by kernel_rfl) (by kernel_rfl) (by kernel_rfl) (by kernel_rfl) (by lia) (by kernel_rfl) (by kernel_rfl) (by kernel_rfl) (by decide +kernel) fun h' mg' ps' tk X _ => ?_
  refine @go_val w A E s cd Pl F h₀ mg₀ Q 19 (fun _ _ => True) _ _ _ _ X top_s19 (by kernel_rfl) (by lia) (by kernel_rfl) (by kernel_rfl) (fun p h => nomatch (top_f19 w h₀.objs.size).symm.trans h) (fun Q' h => wp_cstr Q' h) (fun _ _ _ _ h => h) (by decide +kernel) (top_w19 _ _) fun h' mg' tk X _ => ?_
  refine @go_def w A E s cd Pl F h₀ mg₀ Q 20 _ _ _ _ X top_s20 top_t20 (by kernel_rfl) (by kernel_rfl) (by kernel_rfl) (by kernel_rfl) (by lia) (by kernel_rfl) (by kernel_rfl) (by kernel_rfl) (by decide +kernel) fun h' mg' ps' tk X _ => ?_
  refine @go_def w A E s cd Pl F h₀ mg₀ Q 21 _ _ _ _ X top_s21 top_t21 (by kernel_rfl) (by kernel_rfl) (by kernel_rfl) (by kernel_rfl) (by lia) (by kernel_rfl) (by kernel_rfl) (by kernel_rfl) (by decide +kernel) fun h' mg' ps' tk X _ => ?_
  refine @go_def w A E s cd Pl F h₀ mg₀ Q 22 _ _ _ _ X top_s22 top_t22 (by kernel_rfl) (by kernel_rfl) (by kernel_rfl) (by kernel_rfl) (by lia) (by kernel_rfl) (by kernel_rfl) (by kernel_rfl) (by decide +kernel) fun h' mg' ps' tk X _ => ?_
  refine @go_def w A E s cd Pl F h₀ mg₀ Q 23 _ _ _ _ X top_s23 top_t23 (by kernel_rfl) (by kernel_rfl) (by kernel_rfl) (by kernel_rfl) (by lia) (by kernel_rfl) (by kernel_rfl) (by kernel_rfl) (by decide +kernel) fun h' mg' ps' tk X _ => ?_
  refine @go_def w A E s cd Pl F h₀ mg₀ Q 24 _ _ _ _ X top_s24 top_t24 (by kernel_rfl) (by kernel_rfl) (by kernel_rfl) (by kernel_rfl) (by lia) (by kernel_rfl) (by kernel_rfl) (by kernel_rfl) (by decide +kernel) fun h' mg' ps' tk X _ => ?_
  refine @go_def w A E s cd Pl F h₀ mg₀ Q 25 _ _ _ _ X top_s25 top_t25 (by kernel_rfl) (by kernel_rfl) (by kernel_rfl) (by kernel_rfl) (by lia) (by kernel_rfl) (by kernel_rfl) (by kernel_rfl) (by decide +kernel) fun h' mg' ps' tk X _ => ?_
  refine @go_def w A E s cd Pl F h₀ mg₀ Q 26 _ _ _ _ X top_s26 top_t26 (by kernel_rfl) (by kernel_rfl) (by kernel_rfl) (by kernel_rfl) (by lia) (by kernel_rfl) (by kernel_rfl) (by kernel_rfl) (by decide +kernel) fun h' mg' ps' tk X _ => ?_
  refine @go_def w A E s cd Pl F h₀ mg₀ Q 27 _ _ _ _ X top_s27 top_t27 (by kernel_rfl) (by kernel_rfl) (by kernel_rfl) (by kernel_rfl) (by lia) (by kernel_rfl) (by kernel_rfl) (by kernel_rfl) (by decide +kernel) fun h' mg' ps' tk X _ => ?_
  refine @go_def w A E s cd Pl F h₀ mg₀ Q 28 _ _ _ _ X top_s28 top_t28 (by kernel_rfl) (by kernel_rfl) (by kernel_rfl) (by kernel_rfl) (by lia) (by kernel_rfl) (by kernel_rfl) (by kernel_rfl) (by decide +kernel) fun h' mg' ps' tk X h0 => ?_
  have e : PW.main.body.drop (28 + 1) = [] := by kernel_rfl
  rw [e]
  exact wpAny_execs_nil (fin _ _ _ _ X h0)
theorem top_walk (X : At w h₀ mg₀ cd Pl 0 s.heap mg #[]) (hh : A.handled = none) (hb : h₀.Ns builtinsNs mb) (g1 : mg₀ "set" = none) (g2 : mg₀ "list" = none) (g3 : mg₀ "range" = none)
    (b1 : mb "set" = some (.type "set")) (b2 : mb "list" = some (.type "list")) (b3 : mb "range" = some (.type "range")) (lowP : builtinsNs ≠ Pl) (lowS : sysModules < h₀.objs.size)
    (fin : ∀ h' mg' ps' tk, At w h₀ mg₀ cd Pl 29 h' mg' ps' → 0 < tk → Q .next { s with heap := h', toks := tk }) :
    wpAny (model PW w) A (execs PW.main.body (mainEnv PW cd F)) Q E s := top_walk' (s := s) (h := s.heap) (tk := s.toks) X hh hb g1 g2 g3 b1 b2 b3 lowP lowS fin
end
end Mine
end

section
set_option autoImplicit false
set_option linter.unusedVariables false
set_option maxRecDepth 100000
namespace Mine
open PySem PySem.Calls PyProof.Rows PySem.W

theorem before_ret {M : Model} {r : Result} : ∀ (n : Nat) (s : Shared) (t : Sem PySem.Fin) (c : Code) (p : Pos) (st : List Frame) (s' : Shared), M.runN n s ⟨t, c, p, st⟩ = .halted (outcomeOf r) s' → ∃ m c' p', M.runN m s ⟨t, c, p, st⟩ = .running s' ⟨leafOf r, c', p', []⟩
  | 0, _, _, _, _, _, _, h => by cases h
  | n + 1, s, t, c, p, st, s', h => by
    rw [runN_succ] at h
    cases hs : M.step s ⟨t, c, p, st⟩ with
    | go s₁ th =>
      rw [hs] at h
      obtain ⟨t₁, c₁, p₁, st₁⟩ := th
      obtain ⟨m, c', p', hm⟩ := before_ret n s₁ t₁ c₁ p₁ st₁ s' h
      exact ⟨m + 1, c', p', by rw [runN_succ, hs]; exact hm⟩
    | halt o s₁ =>
      rw [hs] at h
      injection h with h1 h2
      subst h1 h2
      obtain ⟨rfl, rfl, rfl, _⟩ := step_halt_result hs
      exact ⟨0, c, p, rfl⟩
section
variable {den : Code → Sem PySem.Fin} {prog : Program} {w : World}
theorem calm_running : ∀ (n : Nat) (s : Shared) (t : Thread) (s' : Shared) (t' : Thread), runNI den prog w n s t = .running s' t' → runNK den prog w n s t = .running s' t'
  | 0, _, _, _, _, h => by injection h with h1 h2; subst h1 h2; rfl
  | n + 1, s, t, s', t', h => by
    rw [runNI] at h
    rw [runNK]
    cases hl : t.loud with
    | true => rw [stepI_loud den prog w hl] at h; cases h
    | false =>
      rw [stepI_quiet den prog w hl] at h
      cases hs : PySem.stepK den prog w s t with
      | go s₁ t₁ => rw [hs] at h; exact calm_running n s₁ t₁ s' t' h
      | halt o s₁ => rw [hs] at h; cases h
theorem real_running {n : Nat} {s s' : Shared} {t : Thread} {f : Flow} {c : Code} {p : Pos} (h : runNI den prog w n s t = .running s' ⟨.pure (.done f), c, p, []⟩) (hg : s'.gens = #[]) :
    ∃ t₁, runN den prog w n s t = .running s' t₁ ∧ through t₁ = true := by
  have hk := calm_running n s t s' _ h
  have e := runNK_same den prog w n (s₁ := s) (s₂ := s) (t₁ := t) (t₂ := t) rfl rfl
  rw [hk] at e
  cases hr : runN den prog w n s t with
  | halted o s₁ => rw [hr] at e; cases e
  | running s₁ t₁ =>
    rw [hr] at e
    injection e with e1 e2
    obtain rfl : s₁ = s' := Shared.eq_of_forget_eq (by first | exact e1 | exact e1.symm) hg
    refine ⟨t₁, rfl, ?_⟩
    obtain ⟨cu, co, po, st⟩ := t₁
    have h1 : cu = .pure (.done f) := by first | exact congrArg Thread.cur e2 | exact (congrArg Thread.cur e2).symm
    have h2 : forgetAll st = [] := by first | exact congrArg Thread.stack e2 | exact (congrArg Thread.stack e2).symm
    subst h1
    cases st with
    | nil => rfl
    | cons a r => cases h2
end

theorem run_through {prog : Program} {w : World} {t : Sem Fin} {s : Shared} {P : Shared → Prop} (hz : s.asleep)
    (h : wpAny (model prog w) callerA t (fun fin s' => ∃ f, fin = .done f ∧ (P s' ∧ s'.gens = #[])) (fun _ _ => False) s) :
    ∃ s₁, (∃ n t₁, schedN (denote table) prog w n (.single s ⟨t, .builtin "claim.caller" {}, default, []⟩) = .running (.single s₁ t₁) ∧ through t₁ = true) ∧ P s₁ ∧ s₁.gens = #[] ∧ s₁.heap.life = s.heap.life := by
  have h2 := wp_of_wpAny_done (R := fun r s' => ((∃ f, r = .ok f) ∧ P s' ∧ s'.gens = #[]) ∧ leftWithCleanup s'.gens = false) caller_in
    (wpAny_mono h (fun fin s' ⟨f, e, x⟩ => ⟨f, e, ⟨⟨f, rfl⟩, x⟩, by rw [x.2]; simp [leftWithCleanup]⟩) fun _ _ x => x.elim) default
  obtain ⟨n, r, s', hn, ⟨f, rfl⟩, hP, hg⟩ := (wp_iff_halts (M := model prog w) t (fun r s' => (∃ f, r = .ok f) ∧ P s' ∧ s'.gens = #[]) default s).mp h2
  obtain ⟨s'', hr, hf, hc⟩ := runNI_real _ _ _ hn (outcomeOf_ends _)
  obtain rfl : s'' = s' := Shared.eq_of_forget_eq hf hg
  have hne : ∀ k s₂, runN (denote table) prog w k s ⟨t, .builtin "claim.caller" {}, default, []⟩ ≠ .halted (.unsupported "lifetime:generator-with-cleanup-left-suspended") s₂ := by
    intro k s₂ hk
    have a := runN_mono (denote table) prog w n k s _ _ s'' hr
    have b := runN_mono (denote table) prog w k n s _ _ s₂ hk
    rw [Nat.add_comm, b] at a
    injection a with a1 _
    cases a1
  obtain ⟨m, c', p', hm0⟩ := before_ret n s _ _ _ _ s'' hn
  obtain ⟨t₁, hm, ht⟩ := real_running hm0 hg
  refine ⟨s'', ⟨m, t₁, ?_, ht⟩, hP, hg, runN_life _ _ _ hr⟩
  have hm' : runN (denote table) prog w m s ⟨t, .builtin "claim.caller" {}, default, []⟩ = .running s'' t₁ := hm
  rw [schedN_eq_runN (denote table) prog w s _ hz ⟨hc, hne⟩ m, hm']
  rfl

/-- what stands behind the top -/
structure Behind2 (w : World) (s₀ s₁ : Shared) : Prop where
  made : ∃ h₀ cd Pl mg ps, At w h₀ (s₀.heap.nsMap mainGlobals) cd Pl 29 s₁.heap mg ps ∧ s₀.heap.objs.size ≤ h₀.objs.size
  keep : ∀ b o, s₀.heap.get? b = some o → b ≠ mainGlobals → s₁.heap.get? b = some o
  toks : 0 < s₁.toks
  os : s₁.os = s₀.os

theorem top_wp {w : World} {s : Shared} {bm : Addr} {o : Obj} (hg : s.heap.isNs mainGlobals = true) (hb : s.heap.isNs builtinsNs = true)
    (g1 : s.heap.nsMap mainGlobals "set" = none) (g2 : s.heap.nsMap mainGlobals "list" = none) (g3 : s.heap.nsMap mainGlobals "range" = none)
    (b1 : s.heap.nsMap builtinsNs "set" = some (.type "set")) (b2 : s.heap.nsMap builtinsNs "list" = some (.type "list")) (b3 : s.heap.nsMap builtinsNs "range" = some (.type "range"))
    (hs : sysModules < s.heap.objs.size) (m1 : s.heap.nsMap mainGlobals "__builtins__" = some (.ref bm)) (m2 : bm ≠ builtinsNs) (m3 : bm ≠ mainGlobals) (m4 : s.heap.get? bm = some o) (m5 : o.cls = .type "module" ∧ o.dict = some builtinsNs ∧ o.data = .plain) (hgen : s.gens = #[]) :
    wpAny (model PW w) callerA (topStub PW).cur (fun fin s' => ∃ f, fin = .done f ∧ (Behind2 w s s' ∧ s'.gens = #[])) (fun _ _ => False) s := by
  have hlo := (Heap.Ns.of_isNs hg).lt
  have hlb := (Heap.Ns.of_isNs hb).lt
  unfold topStub
  refine wpAny_bind (wpAny_moduleCode fun cd Pl h₁ tk₁ hk₁ hc hP hcode => ?_)
  unfold newBodyFrame
  refine wpAny_bind (wpAny_bind (wpAny_nsGet ((Heap.Ns.of_isNs hg).keeps hk₁) (wpAny_alloc ?_)))
  generalize hH : (({ s with heap := h₁, toks := tk₁ } : Shared).heap.push _) = H
  have hkH : ∀ b o, s.heap.get? b = some o → H.get? b = some o := fun b o e => by rw [← hH]; exact Heap.get?_push_of_some _ (hk₁ b o e)
  have hlt := Heap.lt_size (hk₁ _ _ m4)
  have hsz : s.heap.objs.size ≤ H.objs.size := by
    rw [← hH, Heap.size_push]
    exact Nat.le_succ_of_le (Nat.le_trans hP (Nat.le_of_lt hcode.lt.2))
  have hM : H.Main (s.heap.nsMap mainGlobals) cd Pl #[] := ⟨(Heap.Ns.of_isNs hg).keeps hkH, by rw [← hH]; exact hcode.push _, ⟨Nat.lt_of_lt_of_le hlo hc, Nat.lt_of_lt_of_le hlo hP⟩,
    bm, o, m1, m2, m3, Nat.ne_of_lt (Nat.lt_of_lt_of_le (Heap.lt_size m4) hP), hkH _ _ m4, m5⟩
  refine wpAny_bind (wpAny_run (codeAny_body (by kernel_rfl) (by kernel_rfl) ?_))
  have eb : behindTheImports PW = PW.main.body := by kernel_rfl
  rw [eb]
  refine wpAny_mono (E := fun _ _ => False) (top_walk (w := w) (h₀ := H) (cd := cd) (Pl := Pl) (F := h₁.objs.size) (mb := s.heap.nsMap builtinsNs) (TopI.start hM) rfl ((Heap.Ns.of_isNs hb).keeps hkH) g1 g2 g3 b1 b2 b3
    (Nat.ne_of_lt (Nat.lt_of_lt_of_le hlb hP)) (Nat.lt_of_lt_of_le hs hsz) fun h' mg' ps' tk X h0 => ?_) (fun _ _ x => x) fun _ _ x => x.elim
  refine wpAny_pure ⟨_, rfl, ⟨⟨H, cd, Pl, mg', ps', X, hsz⟩, fun b o e hb => X.keep b o (Nat.ne_of_lt (Nat.lt_of_lt_of_le (Heap.lt_size e) hP)) hb (hkH b o e), h0, rfl⟩, hgen⟩
end Mine
end

section
set_option autoImplicit false
set_option linter.unusedVariables false
set_option maxRecDepth 100000
namespace Mine
open PySem PySem.Calls PyProof.Rows PySem.W

theorem mem_factL {w : World} {N : Addr} {p : Str × HP} : ∀ (k i : Nat), i < k → factOf w N i = some p → p ∈ factL w N k
  | 0, i, h, _ => absurd h (Nat.not_lt_zero i)
  | k + 1, i, h, e => by
    unfold factL
    rcases Nat.lt_succ_iff_lt_or_eq.mp h with h | rfl
    · exact List.mem_append_right _ (mem_factL k i h e)
    · exact List.mem_append_left _ (by rw [Option.mem_toList]; exact e)

theorem fn_def (i : Nat) (h : fnName PW i ≠ "") : isDef i = true ∧ stName i = fnName PW i := by
  unfold fnName at h
  unfold isDef stName fnName
  split at h
  · rename_i e; simp only [e]; exact ⟨trivial, trivial⟩
  · exact absurd rfl h

def biAll : List Str := ["len", "abs", "ord", "chr", "int", "sum", "max", "min", "enumerate", "range", "list"]
theorem bi_fresh : (biAll.all fun x => !(namesL 29).contains x) = true := by decide +kernel
theorem bi_boot : (biNames.all fun x => bootBuiltins x == some (biV x) && x != nmS) = true := by decide +kernel
theorem bi_sub : (biNames.all fun x => biAll.contains x) = true := by decide +kernel
theorem boot_enum : bootBuiltins "enumerate" = some (.type "enumerate") := by decide +kernel
theorem boot_rng : bootBuiltins "range" = some (.type "range") := by decide +kernel
theorem nm_e : ("enumerate" : Str) ≠ "__name__" ∧ ("range" : Str) ≠ "__name__" ∧ ("list" : Str) ≠ "__name__" ∧ ("set" : Str) ≠ "__name__" := by decide +kernel

theorem top_of {w : World} {h₀ h : Heap} {mg₀ mg mb : Str → Option Value} {cd Pl : Addr} {ps : Array Value} {ns : List (Str × NameKind)} {cel : List Str} (X : At w h₀ mg₀ cd Pl 29 h mg ps)
    (hb : h.Ns builtinsNs mb) (hbi : ∀ x : Str, x ≠ "__name__" → mb x = bootBuiltins x) (lowS : sysModules < h₀.objs.size) (g : ∀ x ∈ biAll, mg₀ x = none) : Top ⟨PW, w, h, ns, cel⟩ := by
  have gl : ∀ {x : Str} {P : HP} (i : Nat), i < 29 → factOf w h₀.objs.size i = some (x, P) → ∃ v, GV ⟨PW, w, h, ns, cel⟩ x v ∧ P h v := fun {x P} i hi e => by
    obtain ⟨v, e1, e2⟩ := X.got _ (mem_factL 29 i hi e)
    exact ⟨v, .inl ⟨mg, X.main.g, e1⟩, e2⟩
  have bl : ∀ {x : Str} {v : Value}, x ∈ biAll → x ≠ "__name__" → bootBuiltins x = some v → GV ⟨PW, w, h, ns, cel⟩ x v := fun {x v} hx hn e =>
    .inr ⟨⟨mg, X.main.g, (X.others x (fun m => by
      have := List.all_eq_true.mp bi_fresh x hx
      rw [List.contains_iff_mem.mpr m] at this
      cases this)).trans (g x hx)⟩, mb, hb, (hbi x hn).trans e⟩
  refine ⟨fun i hi hn => ?_, fun f hf => ?_, bl (by decide +kernel) nm_e.1 boot_enum, bl (by decide +kernel) nm_e.2.1 boot_rng, bl (by decide +kernel) nm_e.2.2.1 Pv.boot_list, ?_, ?_, ?_, ?_, ?_⟩
  · obtain ⟨d1, d2⟩ := fn_def i hn
    have hi' : i < 29 := hi
    obtain ⟨v, hv, a, c', pm, rfl, ha, hc, hget, hrec⟩ := gl (x := stName i) (P := FunP h₀.objs.size (stName i) (fnArgs PW i) (fnBody PW i) (fnScope PW i)) i hi' (by unfold factOf; rw [d1]; rfl)
    rw [d2] at hv
    exact ⟨a, hv, _, _, hget, rfl, rfl, rfl, rfl, rfl, rfl, rfl, rfl, rfl, hrec⟩
  · have h1 := List.all_eq_true.mp bi_boot f hf
    have h2 := List.all_eq_true.mp bi_sub f hf
    simp only [Bool.and_eq_true, beq_iff_eq, bne_iff_ne] at h1
    exact bl (List.contains_iff_mem.mp h2) h1.2 h1.1
  · obtain ⟨v, hv, a, m, rfl, ha, hs⟩ := gl 15 (by lia) (top_f15 w h₀.objs.size)
    exact ⟨a, m, hv, hs⟩
  · obtain ⟨v, hv, a, kvs, rfl, ha, hd, fl⟩ := gl 17 (by lia) (top_f17 w h₀.objs.size)
    refine ⟨a, hv, beq_eq_false_iff_ne.mpr (Nat.ne_of_gt (Nat.lt_of_lt_of_le lowS ha)), kvs, hd, fl⟩
  · obtain ⟨v, hv, u, hu, rfl⟩ := gl 6 (by lia) (top_f6 w h₀.objs.size)
    exact ⟨u, hu, hv⟩
  · obtain ⟨v, hv, u, hu, rfl⟩ := gl 7 (by lia) (top_f7 w h₀.objs.size)
    exact ⟨u, hu, hv⟩
  · obtain ⟨v, hv, u, hu, rfl⟩ := gl 8 (by lia) (top_f8 w h₀.objs.size)
    exact ⟨u, hu, hv⟩
end Mine
end

section
set_option autoImplicit false
set_option linter.unusedVariables false
set_option maxRecDepth 100000
namespace Mine
open PySem PySem.Calls PyProof.Rows PySem.W

/-! the arguments -/
theorem has_int {d : WData} (h : WShape.has [] d .int = true) : ∃ i, d = .int i := by
  cases d with
  | int i => exact ⟨i, rfl⟩
  | _ => exact absurd (show false = true from h) (by decide)
theorem has_ints : ∀ (xs : List WData), WShape.hasItems [] xs .int = true → ∃ is : List Int, xs = is.map .int
  | [], _ => ⟨[], rfl⟩
  | x :: xs, h => by
    obtain ⟨h1, h2⟩ := Bool.and_eq_true_iff.mp (show (WShape.has [] x .int && WShape.hasItems [] xs .int) = true from h)
    obtain ⟨i, rfl⟩ := has_int h1
    obtain ⟨is, rfl⟩ := has_ints xs h2
    exact ⟨i :: is, rfl⟩
theorem has_list {d : WData} (h : WShape.has [] d (.list .int) = true) : ∃ is : List Int, d = .list (is.map .int) := by
  cases d with
  | list xs =>
    have h : (WShape.hasItems [] xs .int || false) = true := h
    rw [Bool.or_false] at h
    obtain ⟨is, rfl⟩ := has_ints xs h
    exact ⟨is, rfl⟩
  | _ => exact absurd (show false = true from h) (by decide)

abbrev LR : OpenLaw := PySem.Challenge.rw_rw0119_02
theorem pre_args {args : List WData} (h : LR.row.claim.pre args = true) : ∃ is : List Int, args = [.list (is.map .int)] ∧ is.length ≤ 63 := by
  obtain ⟨h1, h2⟩ := Bool.and_eq_true_iff.mp h
  have h1 : WShape.hasAll [] args [.list .int] = true := h1
  cases args with
  | nil => cases h1
  | cons d r =>
    have h1 := Bool.and_eq_true_iff.mp (show (WShape.has [] d (.list .int) && WShape.hasAll [] r []) = true from h1)
    cases r with
    | cons _ _ => exact absurd (show false = true from h1.2) (by decide)
    | nil =>
      obtain ⟨is, rfl⟩ := has_list h1.1
      refine ⟨is, rfl, ?_⟩
      have h2 : WTm.holds [] (.and (.not (.lt (.lit (.int ((63 : Nat) : Int))) (.len (.arg 0)))) (.lit (.bool true))) { args := [.list (is.map .int)] } = true := h2
      have e : WTm.holds [] (.and (.not (.lt (.lit (.int ((63 : Nat) : Int))) (.len (.arg 0)))) (.lit (.bool true))) { args := [.list (is.map .int)] } = !decide (((63 : Nat) : Int) < (((is.map WData.int).length : Nat) : Int)) := by
        have e1 : WTm.value [] (.lt (.lit (.int ((63 : Nat) : Int))) (.len (.arg 0))) { args := [.list (is.map .int)] } = some (.bool (decide (((63 : Nat) : Int) < (((is.map WData.int).length : Nat) : Int)))) := rfl
        generalize decide (((63 : Nat) : Int) < (((is.map WData.int).length : Nat) : Int)) = b at e1
        have e2 : ∀ (t : WTm) (c : WCtx), WTm.value [] t c = some (.bool b) → WTm.holds [] (.and (.not t) (.lit (.bool true))) c = !b := by
          intro t c h
          have e3 : WTm.value [] (.not t) c = some (.bool (!b)) := by
            show (match WTm.value [] t c with | some (.bool b) => some (WData.bool (!b)) | _ => none) = _
            rw [h]
          have e4 : WTm.value [] (.and (.not t) (.lit (.bool true))) c = some (.bool (!b)) := by
            show (match WTm.value [] (.not t) c with
              | some (.bool false) => some (WData.bool false)
              | some (.bool true) => (match WTm.value [] (.lit (.bool true)) c with
                | some (.bool x) => some (WData.bool x)
                | _ => none)
              | _ => none) = _
            rw [e3]
            cases b <;> rfl
          show (match WTm.value [] (.and (.not t) (.lit (.bool true))) c with | some (.bool true) => true | _ => false) = _
          rw [e4]
          cases b <;> rfl
        exact e2 _ _ e1
      rw [e] at h2
      simp at h2
      lia

theorem lay_ints {cl : Str → Option Addr} {P : Params} {ord : List DictEntry → List DictEntry} : ∀ (is : List Int) (s : Shared), ∃ vs, layAllW [] cl P ord (is.map .int) s = some (vs, { s with toks := s.toks + is.length }) ∧ vs.length = is.length ∧ ∀ (M : List Addr) (h : Heap) (w : World), DenL w M h (is.map .int) vs
  | [], s => ⟨[], rfl, rfl, fun _ _ _ => rfl⟩
  | i :: is, s => by
    obtain ⟨vs, h1, h2, h3⟩ := lay_ints is { s with toks := s.toks + 1 }
    refine ⟨.int i s.toks :: vs, ?_, by simp [h2], fun M h w => ⟨_, _, rfl, ⟨_, rfl⟩, h3 M h w⟩⟩
    rw [List.map_cons, layAllW, layW]
    dsimp only
    rw [h1]
    simp only [List.length_cons, Nat.add_assoc, Nat.add_comm 1]

theorem lay_list {cl : Str → Option Addr} {P : Params} {ord : List DictEntry → List DictEntry} (is : List Int) (s : Shared) : ∃ vs, layAllW [] cl P ord [.list (is.map .int)] s = some ([.ref s.heap.objs.size], { s with heap := s.heap.push { cls := .type "list", data := .seq vs.toArray }, toks := s.toks + is.length }) ∧
    ∀ (M : List Addr) (h : Heap) (w : World), DenL w M h (is.map .int) vs := by
  obtain ⟨vs, h1, _, h3⟩ := lay_ints (cl := cl) (P := P) (ord := ord) is s
  refine ⟨vs, ?_, h3⟩
  rw [layAllW, layW, h1]
  rfl
end Mine
end

section
set_option autoImplicit false
set_option linter.unusedVariables false
set_option maxRecDepth 100000
namespace Mine
open PySem PySem.Calls PyProof.Rows PySem.W

theorem boots (w : World) : ∃ s s₀, AfterRun (opening PW) w s ∧ fenceModules? PW s = some s₀ ∧ s₀.heap = boot_heap w.params ∧ s₀.gens = #[] ∧ s₀.asleep := by
  have h := boot_open (p := PW) (N := 600) opening_eq (by decide) fence_eq w
  rw [← table_eq_tree] at h
  obtain ⟨s₀, h1, e⟩ := Option.map_eq_some_iff.mp h
  unfold fencedOpening at h1
  obtain ⟨s, h4, h5⟩ := Option.bind_eq_some_iff.mp h1
  have A := AfterImport.of_importEnds h4
  exact ⟨s, s₀, A, h5, congrArg Prod.fst e, congrArg (fun x => x.2.1) e, Shared.asleep_of_life (fence_lifeW h5) A.life⟩

theorem boot_no (P : Params) {x : Str} (h : ([("__name__" : Str), ("__doc__" : Str), ("__package__" : Str), ("__loader__" : Str), ("__spec__" : Str), ("__annotations__" : Str), ("__builtins__" : Str), ("__file__" : Str), ("__cached__" : Str)] : List Str).contains x = false) : (boot_heap P).nsMap mainGlobals x = none := by
  refine Heap.nsMap_none fun m => ?_
  rw [boot_keysM] at m
  rw [List.contains_iff_mem.mpr m] at h
  cases h
theorem boot_bi (P : Params) {x : Str} (hx : x ≠ "__name__") : (boot_heap P).nsMap builtinsNs x = bootBuiltins x := Heap.of_bltView (boot_isNsB P) (boot_blt P) x hx
theorem boot_low (P : Params) : sysModules < (boot_heap P).objs.size := (Heap.Ns.of_isNs (boot_isNsM P)).lt
theorem boot_st (P : Params) (x : Str) : (boot_heap P).nsMap cStatics x = none := Heap.nsMap_none (by rw [boot_keysC]; exact fun h => nomatch h)

theorem bound_all : ((namesL 29).all fun x => PW.boundNames.contains x) = true := by decide +kernel
theorem laid_none : (laidNames.all fun x => !(namesL 29).contains x) = true := by decide +kernel
theorem top_ran {w : World} {s₀ s₁ : Shared} (he : s₀.heap = boot_heap w.params) (hrun : ∃ n t, schedN (denote table) PW w n (.single s₀ (topStub PW)) = .running (.single s₁ t) ∧ through t = true)
    (B : Behind2 w s₀ s₁) (hg : s₁.gens = #[]) (hl : s₁.heap.life = s₀.heap.life) : TopRan PW w s₀ s₁ := by
  obtain ⟨h₀, cd, Pl, mg, ps, X, hsz⟩ := B.made
  have n1 : s₀.heap.isNs mainGlobals = true := he ▸ boot_isNs _
  have n2 : s₀.heap.isNs builtinsNs = true := he ▸ boot_isNsB _
  have n3 : s₀.heap.isNs cStatics = true := he ▸ boot_isNsC _
  have st : ∀ key, staticOf s₁.heap key = staticOf s₀.heap key := fun key => by
    obtain ⟨o, _, _, ho, _⟩ := Heap.Ns.of_isNs n3
    unfold staticOf
    rw [ho, B.keep _ _ ho (by decide)]
  have st0 : ∀ key, staticOf s₀.heap key = none := fun key => by rw [Pin.staticOf_eq n3, he]; exact boot_st _ _
  have gl : ∀ x, globalOf s₁.heap x = mg x := fun x => Claim2Try.globalOf_of_ns X.main.g x
  have gl0 : ∀ x, globalOf s₀.heap x = s₀.heap.nsMap mainGlobals x := fun x => Pin.globalOf_eq n1 x
  refine ⟨hrun, hl, Shared.rest_eq B.os, fun b o e hn => B.keep b o e fun q => hn (.inl q), fun key v hk => ?_, fun key => .inl (st key), Pin.keysAreStrs_of_ns X.main.g, fun x hx => ?_, ?_, fun g hm => ?_, fun x v hx => ?_, fun x hx => ?_⟩
  · rw [st, st0] at hk; cases hk
  · have : builtinOf s₁.heap x = builtinOf s₀.heap x := by
      obtain ⟨o, _, _, ho, _⟩ := Heap.Ns.of_isNs n2
      unfold builtinOf
      rw [ho, B.keep _ _ ho (by decide)]
    rw [this]
    exact (Pin.builtinOf_eq n2 x).trans (by rw [he]; exact boot_bi _ hx)
  · obtain ⟨bm, o, h1, h2, h3, h4, h5, h6, h7, h8⟩ := X.main.bmod
    exact ⟨bm, o, (gl _).trans h1, h5, h6, h7⟩
  · rw [hg] at hm; simp at hm
  · by_cases hm : x ∈ namesL 29
    · exact .inr (List.contains_iff_mem.mp (List.all_eq_true.mp bound_all x hm))
    · rw [gl, X.others x hm] at hx
      refine .inl ?_
      cases hc : startupNames.contains x with
      | true => exact List.contains_iff_mem.mp hc
      | false => rw [he, boot_no _ hc] at hx; cases hx
  · rw [gl, gl0]
    refine X.others x fun m => ?_
    have := List.all_eq_true.mp laid_none x hx
    rw [List.contains_iff_mem.mpr m] at this
    cases this
end Mine
end

section
set_option autoImplicit false
set_option linter.unusedVariables false
set_option maxRecDepth 100000
namespace Mine
open PySem PySem.Calls PyProof.Rows PySem.W

theorem law_nm : stName 28 = ("law" : Str) := by kernel_rfl
theorem law_d : isDef 28 = true := by kernel_rfl
theorem law_the : PW.theDef "law" = some (fnArgs PW 28, fnBody PW 28, fnScope PW 28) := by kernel_rfl
theorem law_df : (fnArgs PW 28).defaults = [] := by kernel_rfl
theorem law_kw : kwWritten? (fnArgs PW 28).kwonlyargs (fnArgs PW 28).kw_defaults = some [] := by kernel_rfl

theorem law_at {w : World} {h₀ h : Heap} {mg₀ mg : Str → Option Value} {cd Pl : Addr} {ps : Array Value} (X : At w h₀ mg₀ cd Pl 29 h mg ps) :
    ∃ a c' pm, mg "law" = some (.ref a) ∧ h.get? a = some { cls := .type "function", data := .func (plainDef "law" (fnArgs PW 28) (fnBody PW 28) (fnScope PW 28) pm (.ref c')) } ∧ h.CodeRec (.ref c') "law" := by
  obtain ⟨v, e1, a, c', pm, e, _, _, h1, h2⟩ := X.got _ (mem_factL (w := w) (N := h₀.objs.size) (p := (stName 28, FunP h₀.objs.size (stName 28) (fnArgs PW 28) (fnBody PW 28) (fnScope PW 28))) 29 28 (by lia) (by unfold factOf; rw [law_d]; rfl))
  subst e
  rw [law_nm] at h1 h2
  exact ⟨a, c', pm, (congrArg mg law_nm).symm.trans e1, h1, h2⟩

theorem law_open : opensWell PW = true := by kernel_rfl
theorem law_bare : PW.bare := ⟨rfl, rfl, rfl, rfl, rfl, by kernel_rfl⟩
theorem law_frees : (frees LR.row.toRowW && LR.row.toRowW.within.isEmpty) = true := by kernel_rfl
theorem law_promised : LR.row.toRowW.promised := ⟨[.list []], by kernel_rfl, by kernel_rfl⟩

theorem law_call (hTy : TypedOk) (hP : ∀ N : List Int, N.length = 5 → (∀ x ∈ N, 0 ≤ x) → PlainN N) {w : World} {s₀ s₁ : Shared} (he : s₀.heap = boot_heap w.params) (B : Behind2 w s₀ s₁) (hg : s₁.gens = #[]) (hz : s₁.asleep) {gens : Prop} {kept : Heap → Prop} {free : Addr → Prop} (hk : ∀ h', kept h') :
    LR.row.toRowW.claim.CallFrom (callStub LR.row.name) w free gens kept s₁ := by
  obtain ⟨h₀, cd, Pl, mg, ps, X, hsz⟩ := B.made
  have n2 : s₀.heap.isNs builtinsNs = true := he ▸ boot_isNsB _
  have n3 : s₀.heap.isNs cStatics = true := he ▸ boot_isNsC _
  obtain ⟨hfr, hwi⟩ := Bool.and_eq_true_iff.mp law_frees
  obtain ⟨hsame, hu, ha, hap, hm⟩ := frees_parts hfr
  have hi := ident_freeW hu ha hap
  have hwi : LR.row.toRowW.claim.within = [] := List.isEmpty_iff.mp hwi
  refine ClaimW.callFrom_of_specG (c := LR.row.toRowW.claim) (tree := fun vs => (callStub LR.row.name vs).cur) hz hg fun args hpre hlay ord hord => ?_
  obtain ⟨is, rfl, hlen⟩ := pre_args hpre
  obtain ⟨vs, hlaid, hden⟩ := lay_list (cl := classAt s₁.heap) (P := w.params) (ord := ord) is s₁
  refine ⟨_, _, hlaid, ?_⟩
  obtain ⟨as, hrd, hin, hold⟩ := reads_layAllW hord _ _ _ hlaid hlay _ (fun _ _ e => e)
  have keeps : ∀ b o, s₁.heap.get? b = some o → (s₁.heap.push { cls := .type "list", data := .seq vs.toArray }).get? b = some o := fun b o e => Heap.get?_push_of_some _ e
  have L : Laid [] w s₁ { s₁ with heap := s₁.heap.push { cls := .type "list", data := .seq vs.toArray }, toks := s₁.toks + is.length } [.list (is.map .int)] [.ref s₁.heap.objs.size] as := ⟨⟨ord, hord, hlaid⟩, hrd, hin, hold, keeps, hg, rfl⟩
  have X₂ : At w h₀ (s₀.heap.nsMap mainGlobals) cd Pl 29 (s₁.heap.push { cls := .type "list", data := .seq vs.toArray }) mg ps := X.grown keeps (by rw [Heap.size_push]; exact Nat.le_succ _)
  obtain ⟨a, c', pm, e1, e2, e3⟩ := law_at X₂
  have lowS : sysModules < h₀.objs.size := Nat.lt_of_lt_of_le (by rw [he]; exact boot_low _) hsz
  have hbn := ((Heap.Ns.of_isNs n2).at fun o e => B.keep _ o e (by decide)).keeps keeps
  have hT : Top ⟨PW, w, s₁.heap.push { cls := .type "list", data := .seq vs.toArray }, [], []⟩ := top_of X₂ hbn (fun x hx => by rw [he]; exact boot_bi _ hx) lowS fun x hx => by
    rw [he]
    refine boot_no _ ?_
    have : (biAll.all fun x => !([("__name__" : Str), ("__doc__" : Str), ("__package__" : Str), ("__loader__" : Str), ("__spec__" : Str), ("__annotations__" : Str), ("__builtins__" : Str), ("__file__" : Str), ("__cached__" : Str)] : List Str).contains x) = true := by decide +kernel
    simpa using List.all_eq_true.mp this x hx
  have hf : FOk ⟨PW, w, s₁.heap.push { cls := .type "list", data := .seq vs.toArray }, [], []⟩ (0 + 6) (.ref a) [.list (is.map .int)] (.bool true) := law_ok hT hTy hP hlen a ⟨_, _, e2, rfl, rfl, rfl, rfl, rfl, rfl, rfl, rfl, rfl, e3⟩
  have hB : Bas ⟨PW, w, s₁.heap.push { cls := .type "list", data := .seq vs.toArray }, [], []⟩ { s₁ with heap := s₁.heap.push { cls := .type "list", data := .seq vs.toArray }, toks := s₁.toks + is.length } :=
    ⟨fun _ _ e => e, Nat.le_refl _, Nat.lt_of_lt_of_le B.toks (Nat.le_add_right _ _), _, ((Heap.Ns.of_isNs n3).at fun o e => B.keep _ o e (by decide)).keeps keeps, by rw [he]; exact boot_st _ _, by rw [he]; exact boot_st _ _⟩
  have hcall := hf.run callerA _ [] [.ref s₁.heap.objs.size] ⟨rfl, by decide, by decide⟩ hB (fun x hx => nomatch hx) ⟨_, _, rfl, ⟨s₁.heap.objs.size, vs.toArray, rfl, by simp, ⟨0, Heap.get?_push_size _ rfl⟩, by simpa using hden _ _ _⟩, rfl⟩
  refine wpAny_bind (wpAny_nsGet X₂.main.g ?_)
  have e1' : mg LR.row.name = some (.ref a) := e1
  rw [e1']
  refine wpAny_bind (wpAny_mono hcall (fun v s' ⟨x, d⟩ => wpAny_pure ⟨_, rfl, ?_⟩) fun _ _ x => x.elim)
  have hv : v = .bool true := d
  subst hv
  have g : GoodWG LR.row.toRowW.claim (classAt s₁.heap) (ExcName.means s₁.heap) [.list (is.map .int)] { s₁ with heap := s₁.heap.push { cls := .type "list", data := .seq vs.toArray }, toks := s₁.toks + is.length } (.ok (.ret (.bool true))) s' :=
    ⟨.inl ⟨_, .bool true, [], rfl, fun _ => rfl, .bool true, (by kernel_rfl), fun _ => ⟨List.nodup_nil, fun _ h => nomatch h⟩⟩, .of_keep x.all, x.os, x.bare (by rw [hg]; exact .empty)⟩
  have z := g.laid (c := LR.row.toRowW.claim) hsame hwi hi L
  exact ⟨z.1, z.2.1, z.2.2, hk _⟩
end Mine
namespace Mine
open PySem PySem.Calls PyProof.Rows PySem.W
theorem law_row (hTy : TypedOk) (hP : ∀ N : List Int, N.length = 5 → (∀ x ∈ N, 0 ≤ x) → PlainN N) (said : LR.row.wellSaid = true) : LR.row.Holds := by
  refine ⟨said, law_promised, ⟨law_bare, law_open, rfl⟩, law_promised.witness, fun w => ?_⟩
  obtain ⟨s', s₀, A, hf, he, hg0, hz0⟩ := boots w
  refine ⟨⟨s', A⟩, fun s hs => ?_⟩
  obtain rfl : s = s' := AfterImport.unique hs A
  have m := boot_bmod w.params
  obtain ⟨o, m4, m5, m6, m7⟩ := m
  have low := boot_low w.params
  have n1 : s₀.heap.isNs mainGlobals = true := he ▸ boot_isNs _
  have n2 : s₀.heap.isNs builtinsNs = true := he ▸ boot_isNsB _
  obtain ⟨s₁, hrun, B, hg, hl⟩ := run_through hz0 (top_wp (w := w) (s := s₀) (bm := 4) (o := o) n1 n2 (by rw [he]; exact boot_no _ (by decide +kernel)) (by rw [he]; exact boot_no _ (by decide +kernel)) (by rw [he]; exact boot_no _ (by decide +kernel))
    (by rw [he]; exact (boot_bi _ nm_e.2.2.2).trans Pv.boot_set) (by rw [he]; exact (boot_bi _ nm_e.2.2.1).trans Pv.boot_list) (by rw [he]; exact (boot_bi _ nm_e.2.1).trans boot_rng)
    (by rw [he]; exact low) (by rw [he]; exact boot_blts _) (by decide) (by decide) (by rw [he]; exact m4) ⟨m5, m6, m7⟩ hg0)
  have T : TopRan PW w s₀ s₁ := top_ran he hrun B hg hl
  refine ⟨s₀, hf, hg0, s₁, T, fun n hn => ?_, fun x hx => absurd (show x ∈ ([] : List (Str × List (Str × WShape))) from hx) (by simp), fun x hx => absurd (show x ∈ ([] : List (Str × List (Str × WShape))) from hx) (by simp), law_call hTy hP he B hg (Shared.asleep_of_life hl hz0) fun h' (q : false = true) => absurd q (by decide)⟩
  obtain rfl : n = "law" := by
    have hn : n ∈ (["law"] : List Str) := hn
    simpa using hn
  obtain ⟨h₀, cd, Pl, mg, ps, X, _⟩ := B.made
  obtain ⟨a, c', pm, e1, e2, e3⟩ := law_at X
  exact ⟨a, _, _, _, _, _, (Claim2Try.globalOf_of_ns X.main.g _).trans e1, e2, rfl, law_the, rfl, rfl, rfl, rfl, rfl, rfl, rfl, rfl, .inl ⟨law_df, rfl⟩, [], law_kw, .inl ⟨rfl, rfl⟩⟩
theorem law_said : PySem.Challenge.rw_rw0119_02.wellSaid = true := by kernel_rfl
theorem law_holds (hTy : TypedOk) (hP : ∀ N : List Int, N.length = 5 → (∀ x ∈ N, 0 ≤ x) → PlainN N) : PySem.Challenge.rw_rw0119_02.Holds := ⟨law_said, law_row hTy hP (row_said law_said)⟩
end Mine
end

section
set_option maxRecDepth 100000
set_option maxHeartbeats 4000000 in
theorem PySem.Challenge.cw_rw0119_02_holds : PySem.Challenge.rw_rw0119_02.Holds :=
  Mine.law_holds Mine.typed_plain Mine.plain
end
