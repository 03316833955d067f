import PyProof.Rows.All
import Wide.All
import OpenK.AllK
import Wide.FinOn
import PySem.Challenge.RW_jz0001_01
set_option Elab.async false
set_option maxRecDepth 100000
set_option linter.unusedVariables false
set_option maxHeartbeats 8000000
set_option compiler.extract_closed false
namespace Mine
open PySem PySem.W PyProof.Rows PySem.Calls
section
open PySem PySem.W PyProof.Rows PySem.Calls

/-- what is known of some objects that never change again -/
noncomputable abbrev View := Addr → Option Obj
/-- the class of the players -/
noncomputable abbrev cP : Addr := 184
noncomputable abbrev NoE : Value → Shared → Prop := fun _ _ => False
noncomputable def lim : Nat := 4096

/-- abstract data -/
inductive D where
  | val (v : Value)
  | int (i : Int)
  | str (x : Str)
  | obj (x dx : Addr)
  | list (ds : List D)
  | tup (ds : List D)
  | rng (n : Int)

noncomputable def VLe (V V' : View) : Prop := ∀ b o, V b = some o → V' b = some o

mutual
inductive Den (V : View) : Value → D → Prop
  | val (v) : Den V v (.val v)
  | int (i t) : Den V (.int i t) (.int i)
  | str (x t) : Den V (.str x t) (.str x)
  | obj {x dx} : V x = some (instObj cP dx) → Den V (.ref x) (.obj x dx)
  | list {a vs n ds} : V a = some { cls := .type "list", data := .seq vs n } → DenL V vs.toList ds → ds.length ≤ lim → Den V (.ref a) (.list ds)
  | tup {a vs n ds} : V a = some { cls := .type "tuple", data := .seq vs n } → DenL V vs.toList ds → ds.length ≤ lim → Den V (.ref a) (.tup ds)
  | rng {a n t u k} : V a = some { cls := .type "range", dict := none, data := .fields #[.int 0 t, .int n u, .int 1 k], slots := #[] } → Den V (.ref a) (.rng n)
inductive DenL (V : View) : List Value → List D → Prop
  | nil : DenL V [] []
  | cons {v d vs ds} : Den V v d → DenL V vs ds → DenL V (v :: vs) (d :: ds)
end

mutual
theorem Den.mono {V V' : View} (k : VLe V V') : ∀ {v d}, Den V v d → Den V' v d
  | _, _, .val v => .val v
  | _, _, .int i t => .int i t
  | _, _, .str x t => .str x t
  | _, _, .obj h => .obj (k _ _ h)
  | _, _, .list h1 h4 h5 => .list (k _ _ h1) (DenL.mono k h4) h5
  | _, _, .tup h1 h4 h5 => .tup (k _ _ h1) (DenL.mono k h4) h5
  | _, _, .rng h => .rng (k _ _ h)
theorem DenL.mono {V V' : View} (k : VLe V V') : ∀ {vs ds}, DenL V vs ds → DenL V' vs ds
  | _, _, .nil => .nil
  | _, _, .cons h r => .cons (Den.mono k h) (DenL.mono k r)
end

theorem DenL.length {V : View} : ∀ {vs ds}, DenL V vs ds → vs.length = ds.length
  | _, _, .nil => rfl
  | _, _, .cons _ r => by simp [r.length]
theorem DenL.get {V : View} : ∀ {vs ds}, DenL V vs ds → ∀ {i : Nat} {d : D}, ds[i]? = some d → ∃ v, vs[i]? = some v ∧ Den V v d
  | _, _, .nil, i, d, e => by simp at e
  | _, _, .cons (v := v) h r, 0, d, e => by cases e; exact ⟨v, rfl, h⟩
  | _, _, .cons h r, i + 1, d, e => by simpa using r.get (i := i) (by simpa using e)
theorem DenL.getV {V : View} : ∀ {vs ds}, DenL V vs ds → ∀ {i : Nat} {v : Value}, vs[i]? = some v → ∃ d, ds[i]? = some d ∧ Den V v d
  | _, _, .nil, i, d, e => by simp at e
  | _, _, .cons (d := d) h r, 0, v, e => by cases e; exact ⟨d, rfl, h⟩
  | _, _, .cons h r, i + 1, v, e => by simpa using r.getV (i := i) (by simpa using e)
theorem DenL.append {V : View} : ∀ {vs ds vs' ds'}, DenL V vs ds → DenL V vs' ds' → DenL V (vs ++ vs') (ds ++ ds')
  | _, _, _, _, .nil, h => h
  | _, _, _, _, .cons h r, h' => .cons h (r.append h')
theorem DenL.drop {V : View} : ∀ {vs ds}, DenL V vs ds → ∀ i, DenL V (vs.drop i) (ds.drop i)
  | _, _, h, 0 => h
  | _, _, .nil, i + 1 => .nil
  | _, _, .cons h r, i + 1 => r.drop i
theorem DenL.take {V : View} : ∀ {vs ds}, DenL V vs ds → ∀ i, DenL V (vs.take i) (ds.take i)
  | _, _, h, 0 => .nil
  | _, _, .nil, i + 1 => .nil
  | _, _, .cons h r, i + 1 => .cons h (r.take i)
theorem DenL.set {V : View} {v d} (hv : Den V v d) : ∀ {vs ds}, DenL V vs ds → ∀ i, DenL V (vs.set i v) (ds.set i d)
  | _, _, .nil, i => .nil
  | _, _, .cons h r, 0 => .cons hv r
  | _, _, .cons h r, i + 1 => .cons h (r.set hv i)

/-- what an owned object holds -/
inductive OD where
  | names (ls : List (Str × D))
  | cell (d : Option D)
  | list (ds : List D)
  | attrs (k : Nat) (f : Str → Option D)
  | raw (o : Obj)
  | iter (l : Addr) (i : Nat)

noncomputable def Own (V : View) (h : Heap) (a : Addr) : OD → Prop
  | .names ls => ∃ m, h.Ns a m ∧ ∀ p ∈ ls, ∃ v, m p.1 = some v ∧ Den V v p.2
  | .cell none => ∃ v, h.IsCell a v
  | .cell (some d) => ∃ v, h.IsCell a (some v) ∧ Den V v d
  | .list ds => ∃ vs, h.PlainList a vs ∧ DenL V vs.toList ds ∧ ds.length ≤ lim
  | .attrs k f => ∃ o es ep, h.get? a = some o ∧ o.data = .dict es ep ∧ StrKeys es ∧ es.size ≤ k ∧ ∀ x, match f x with | none => nsFind es x = none | some d => ∃ v, nsFind es x = some v ∧ Den V v d
  | .raw o => h.get? a = some o
  | .iter l i => h.IsListIter a l i

theorem Own.mono {V V' : View} (k : VLe V V') {h : Heap} {a : Addr} : ∀ {od}, Own V h a od → Own V' h a od
  | .names ls, ⟨m, n, e⟩ => ⟨m, n, fun p hp => let ⟨v, a, b⟩ := e p hp; ⟨v, a, b.mono k⟩⟩
  | .cell none, h => h
  | .cell (some d), ⟨v, a, b⟩ => ⟨v, a, b.mono k⟩
  | .list ds, ⟨vs, a, b, c⟩ => ⟨vs, a, b.mono k, c⟩
  | .attrs k' f, ⟨o, es, ep, n1, n2, n3, n4, e⟩ => ⟨o, es, ep, n1, n2, n3, n4, fun x => by
      have := e x
      cases q : f x with
      | none => rw [q] at this; exact this
      | some d => rw [q] at this; obtain ⟨v, a, b⟩ := this; exact ⟨v, a, b.mono k⟩⟩
  | .raw o, h => h
  | .iter l i, h => h
theorem Own.at {V : View} {h h' : Heap} {a : Addr} (k : ∀ o, h.get? a = some o → h'.get? a = some o) : ∀ {od}, Own V h a od → Own V h' a od
  | .names ls, ⟨m, ⟨o, es, ep, ho, r⟩, e⟩ => ⟨m, ⟨o, es, ep, k _ ho, r⟩, e⟩
  | .cell none, ⟨v, o, ho, r⟩ => ⟨v, o, k _ ho, r⟩
  | .cell (some d), ⟨v, ⟨o, ho, r⟩, b⟩ => ⟨v, ⟨o, k _ ho, r⟩, b⟩
  | .list ds, ⟨vs, a, b⟩ => ⟨vs, a.at k, b⟩
  | .attrs k' f, ⟨o, es, ep, ho, r⟩ => ⟨o, es, ep, k _ ho, r⟩
  | .raw o, h => k _ h
  | .iter l i, ⟨o, h, r⟩ => ⟨o, k _ h, r⟩
theorem Own.ex {V : View} {h : Heap} {a : Addr} : ∀ {od}, Own V h a od → ∃ o, h.get? a = some o
  | .names ls, ⟨m, ⟨o, es, ep, ho, r⟩, e⟩ => ⟨o, ho⟩
  | .cell none, ⟨v, o, ho, r⟩ => ⟨o, ho⟩
  | .cell (some d), ⟨v, ⟨o, ho, r⟩, b⟩ => ⟨o, ho⟩
  | .list ds, ⟨vs, ⟨n, ho⟩, b⟩ => ⟨_, ho⟩
  | .attrs k f, ⟨o, es, ep, ho, r⟩ => ⟨o, ho⟩
  | .raw o, h => ⟨o, h⟩
  | .iter l i, ⟨o, h, r⟩ => ⟨o, h⟩

/-- the state, as far as it is known: owned objects cs, values at hand ts -/
noncomputable def St (g : Heap) (s₀ : Shared) (cs : List (Addr × OD)) (ts : List (Value × D)) (s : Shared) : Prop :=
  ∃ V : View, VLe g.get? V ∧ VLe V s.heap.get? ∧ (∀ p ∈ cs, V p.1 = none ∧ g.objs.size ≤ p.1 ∧ Own V s.heap p.1 p.2) ∧ (cs.map (·.1)).Nodup ∧ (∀ p ∈ ts, Den V p.1 p.2) ∧
    s = { s₀ with heap := s.heap, toks := s.toks }

noncomputable def Upd (a : Addr) (o o' : OD) (cs cs' : List (Addr × OD)) : Prop := ∃ l r, cs = l ++ (a, o) :: r ∧ cs' = l ++ (a, o') :: r
theorem Upd.head {a o o' r} : Upd a o o' ((a, o) :: r) ((a, o') :: r) := ⟨[], r, rfl, rfl⟩
theorem Upd.tail {a o o' p r r'} (h : Upd a o o' r r') : Upd a o o' (p :: r) (p :: r') := by
  obtain ⟨l, q, rfl, rfl⟩ := h; exact ⟨p :: l, q, rfl, rfl⟩
theorem Upd.mem {a o o' cs cs'} (h : Upd a o o' cs cs') : (a, o) ∈ cs := by obtain ⟨l, r, rfl, rfl⟩ := h; simp
theorem Upd.keys {a o o' cs cs'} (h : Upd a o o' cs cs') : cs'.map (·.1) = cs.map (·.1) := by obtain ⟨l, r, rfl, rfl⟩ := h; simp

section
variable {g : Heap} {s₀ s : Shared} {cs cs' : List (Addr × OD)} {ts ts' : List (Value × D)} {h' : Heap} {t : Nat}

theorem St.keep (S : St g s₀ cs ts s) (hk : VLe s.heap.get? h'.get?) : St g s₀ cs ts { s with heap := h', toks := t } := by
  obtain ⟨V, a, b, c, d, e, f⟩ := S
  refine ⟨V, a, fun x o q => hk _ _ (b _ _ q), fun p hp => ⟨(c p hp).1, (c p hp).2.1, (c p hp).2.2.at fun o q => hk _ _ q⟩, d, e, ?_⟩
  rw [f]
theorem St.toks (S : St g s₀ cs ts s) : St g s₀ cs ts { s with toks := t } := S.keep fun _ _ q => q
theorem St.tsub (S : St g s₀ cs ts s) (h : ∀ p ∈ ts', p ∈ ts) : St g s₀ cs ts' s := by
  obtain ⟨V, a, b, c, d, e, f⟩ := S
  exact ⟨V, a, b, c, d, fun p hp => e p (h p hp), f⟩
theorem St.csub (S : St g s₀ cs ts s) (h : cs'.Sublist cs) : St g s₀ cs' ts s := by
  obtain ⟨V, a, b, c, d, e, f⟩ := S
  exact ⟨V, a, b, fun p hp => c p (h.subset hp), (h.map _).nodup d, e, f⟩
theorem St.perm (S : St g s₀ cs ts s) (h : cs'.Perm cs) : St g s₀ cs' ts s := by
  obtain ⟨V, a, b, c, d, e, f⟩ := S
  exact ⟨V, a, b, fun p hp => c p (h.subset hp), ((h.map _).nodup_iff).mpr d, e, f⟩
theorem St.tval (S : St g s₀ cs ts s) (v : Value) : St g s₀ cs ((v, .val v) :: ts) s := by
  obtain ⟨V, a, b, c, d, e, f⟩ := S
  refine ⟨V, a, b, c, d, fun p hp => ?_, f⟩
  rcases List.mem_cons.mp hp with rfl | hp
  · exact .val _
  · exact e p hp
theorem St.tint (S : St g s₀ cs ts s) (i : Int) (k : Tok) : St g s₀ cs ((.int i k, .int i) :: ts) s := by
  obtain ⟨V, a, b, c, d, e, f⟩ := S
  refine ⟨V, a, b, c, d, fun p hp => ?_, f⟩
  rcases List.mem_cons.mp hp with rfl | hp
  · exact .int _ _
  · exact e p hp
theorem St.tstr (S : St g s₀ cs ts s) (i : Str) (k : Tok) : St g s₀ cs ((.str i k, .str i) :: ts) s := by
  obtain ⟨V, a, b, c, d, e, f⟩ := S
  refine ⟨V, a, b, c, d, fun p hp => ?_, f⟩
  rcases List.mem_cons.mp hp with rfl | hp
  · exact .str _ _
  · exact e p hp
theorem St.upd {a : Addr} {o o' : OD} (S : St g s₀ cs ts s) (U : Upd a o o' cs cs') (hs : Heap.SameBut a s.heap h') (ho : ∀ V, VLe V s.heap.get? → (∀ p ∈ ts, Den V p.1 p.2) → Own V s.heap a o → Own V h' a o') :
    St g s₀ cs' ts { s with heap := h', toks := t } := by
  obtain ⟨V, x, b, c, d, e, f⟩ := S
  have hm := c _ U.mem
  refine ⟨V, x, fun y oy q => ?_, ?_, by rw [U.keys]; exact d, e, ?_⟩
  · have : y ≠ a := by rintro rfl; rw [hm.1] at q; cases q
    exact (hs.2 y this).trans (b _ _ q)
  · obtain ⟨l, r, rfl, rfl⟩ := U
    have nd : a ∉ l.map (·.1) ∧ a ∉ r.map (·.1) := by
      simp only [List.map_append, List.map_cons, List.nodup_append, List.nodup_cons] at d
      refine ⟨fun q => ?_, d.2.1.1⟩
      exact d.2.2 a q a (by simp) rfl
    intro p hp
    rcases List.mem_append.mp hp with hp | hp
    · have h1 := c p (List.mem_append_left _ hp)
      have : p.1 ≠ a := fun q => nd.1 (q ▸ List.mem_map_of_mem hp)
      exact ⟨h1.1, h1.2.1, h1.2.2.at fun o q => (hs.2 _ this).trans q⟩
    · rcases List.mem_cons.mp hp with rfl | hp
      · exact ⟨hm.1, hm.2.1, ho V b e hm.2.2⟩
      · have h1 := c p (List.mem_append_right _ (.tail _ hp))
        have : p.1 ≠ a := fun q => nd.2 (q ▸ List.mem_map_of_mem hp)
        exact ⟨h1.1, h1.2.1, h1.2.2.at fun o q => (hs.2 _ this).trans q⟩
  · rw [f]
/-- an owned thing changed and more was made -/
theorem St.updX {a : Addr} {o o' : OD} (S : St g s₀ cs ts s) (U : Upd a o o' cs cs') (hs : Heap.ExtBut a s.heap h') (ho : ∀ V, VLe V s.heap.get? → (∀ p ∈ ts, Den V p.1 p.2) → Own V s.heap a o → Own V h' a o') :
    St g s₀ cs' ts { s with heap := h', toks := t } := by
  obtain ⟨V, x, b, c, d, e, f⟩ := S
  have hm := c _ U.mem
  refine ⟨V, x, fun y oy q => ?_, ?_, by rw [U.keys]; exact d, e, ?_⟩
  · have : y ≠ a := by rintro rfl; rw [hm.1] at q; cases q
    exact hs y _ this (b _ _ q)
  · obtain ⟨l, r, rfl, rfl⟩ := U
    have nd : a ∉ l.map (·.1) ∧ a ∉ r.map (·.1) := by
      simp only [List.map_append, List.map_cons, List.nodup_append, List.nodup_cons] at d
      refine ⟨fun q => ?_, d.2.1.1⟩
      exact d.2.2 a q a (by simp) rfl
    intro p hp
    rcases List.mem_append.mp hp with hp | hp
    · have h1 := c p (List.mem_append_left _ hp)
      have : p.1 ≠ a := fun q => nd.1 (q ▸ List.mem_map_of_mem hp)
      exact ⟨h1.1, h1.2.1, h1.2.2.at fun o q => hs _ _ this q⟩
    · rcases List.mem_cons.mp hp with rfl | hp
      · exact ⟨hm.1, hm.2.1, ho V b e hm.2.2⟩
      · have h1 := c p (List.mem_append_right _ (.tail _ hp))
        have : p.1 ≠ a := fun q => nd.2 (q ▸ List.mem_map_of_mem hp)
        exact ⟨h1.1, h1.2.1, h1.2.2.at fun o q => hs _ _ this q⟩
  · rw [f]
theorem St.own {a : Addr} {o : OD} (S : St g s₀ cs ts s) (h : (a, o) ∈ cs) : ∃ V, VLe V s.heap.get? ∧ Own V s.heap a o := by
  obtain ⟨V, x, b, c, d, e, f⟩ := S
  exact ⟨V, b, (c _ h).2.2⟩
theorem St.den {v : Value} {d : D} (S : St g s₀ cs ts s) (h : (v, d) ∈ ts) : Den s.heap.get? v d := by
  obtain ⟨V, x, b, c, _, e, f⟩ := S
  exact (e _ h).mono b
theorem St.ground (S : St g s₀ cs ts s) : VLe g.get? s.heap.get? := by
  obtain ⟨V, x, b, c, _, e, f⟩ := S
  exact fun _ _ q => b _ _ (x _ _ q)
theorem St.rest (S : St g s₀ cs ts s) : s = { s₀ with heap := s.heap, toks := s.toks } := S.choose_spec.2.2.2.2.2

/-- a new object, owned -/
theorem St.alloc {o : Obj} {od : OD} (S : St g s₀ cs ts s) (hf : o.isFreed = false) (ho : ∀ V, VLe V s.heap.get? → (∀ p ∈ ts, Den V p.1 p.2) → ∀ h a, h.get? a = some o → Own V h a od) (hg : g.objs.size ≤ s.heap.objs.size) :
    St g s₀ ((s.heap.objs.size, od) :: cs) ts { s with heap := s.heap.push o, toks := t } := by
  obtain ⟨V, x, b, c, d, e, f⟩ := S
  have hk : VLe s.heap.get? (s.heap.push o).get? := fun _ _ q => Heap.get?_push_of_some _ q
  refine ⟨V, x, fun y oy q => hk _ _ (b _ _ q), fun p hp => ?_, ?_, e, by rw [f]⟩
  · rcases List.mem_cons.mp hp with rfl | hp
    · refine ⟨?_, hg, ho V b e _ _ (Heap.get?_push_size _ hf)⟩
      cases q : V s.heap.objs.size with
      | none => rfl
      | some oy => exact absurd (Heap.lt_size (b _ _ q)) (Nat.lt_irrefl _)
    · exact ⟨(c p hp).1, (c p hp).2.1, (c p hp).2.2.at fun o q => hk _ _ q⟩
  · refine List.nodup_cons.mpr ⟨fun q => ?_, d⟩
    obtain ⟨p, hp, q⟩ := List.mem_map.mp q
    obtain ⟨o', ho'⟩ := (c p hp).2.2.ex
    have := Heap.lt_size ho'
    dsimp only at q
    exact Nat.lt_irrefl _ (q ▸ this)

/-- an owned thing is never changed again -/
theorem St.freeze {a : Addr} {od : OD} {d : D} (S : St g s₀ ((a, od) :: cs) ts s) (h : ∀ V o, s.heap.get? a = some o → V a = some o → (∀ V', VLe V' V → (∀ p ∈ ts, Den V' p.1 p.2) → Own V' s.heap a od → Den V (.ref a) d)) : St g s₀ cs ((.ref a, d) :: ts) s := by
  obtain ⟨V, x, b, c, n, e, f⟩ := S
  have hm := c _ (.head _)
  obtain ⟨o, ho⟩ := hm.2.2.ex
  let V' : View := fun y => if y = a then some o else V y
  have hV : VLe V V' := fun y oy q => by
    show (if y = a then some o else V y) = some oy
    rw [if_neg]; exact q
    rintro rfl; rw [hm.1] at q; cases q
  refine ⟨V', fun y oy q => hV _ _ (x _ _ q), fun y oy q => ?_, fun p hp => ?_, (List.nodup_cons.mp n).2, fun p hp => ?_, f⟩
  · by_cases hy : y = a
    · subst hy; rw [show V' y = some o from if_pos rfl] at q; cases q; exact ho
    · rw [show V' y = V y from if_neg hy] at q; exact b _ _ q
  · have hp' := c p (.tail _ hp)
    refine ⟨?_, hp'.2.1, hp'.2.2.mono hV⟩
    show (if p.1 = a then some o else V p.1) = none
    rw [if_neg]; exact hp'.1
    intro q
    have z : p.1 ∈ cs.map (·.1) := List.mem_map_of_mem hp
    rw [q] at z
    exact (List.nodup_cons.mp n).1 z
  · rcases List.mem_cons.mp hp with rfl | hp
    · exact h V' o ho (if_pos rfl) V hV e hm.2.2
    · exact (e p hp).mono hV
theorem St.freezeList {a : Addr} {ds : List D} (S : St g s₀ ((a, .list ds) :: cs) ts s) : St g s₀ cs ((.ref a, .list ds) :: ts) s :=
  S.freeze fun V o ho hv V' k _ ⟨vs, ⟨n, ho'⟩, dl, hl⟩ => by
    rw [ho] at ho'; cases ho'
    exact .list hv (dl.mono k) hl
theorem St.gsize (S : St g s₀ cs ts s) {a : Addr} {o : OD} (h : (a, o) ∈ cs) : g.objs.size ≤ s.heap.objs.size := by
  obtain ⟨V, x, b, c, n, e, f⟩ := S
  have hm := c _ h
  obtain ⟨o, ho⟩ := hm.2.2.ex
  exact Nat.le_of_lt (Nat.lt_of_le_of_lt hm.2.1 (Heap.lt_size ho))
end
end
section
open PySem PySem.W PyProof.Rows PySem.Calls

structure Gd (K : Frag) (g : Heap) (mg mb : Str → Option Value) : Prop where
  kin : K.In g
  gns : g.Ns mainGlobals mg
  bns : g.Ns builtinsNs mb
  bts : ∀ x : Str, x ≠ "__name__" → mb x = bootBuiltins x
  nolim : g.NoLimit

structure Ok (n : Nat) (A : Around) : Prop where
  hd : A.handled = none
  dp : A.depth + n < recursionLimit
  un : A.units + 8 * n + 80 < cLine
theorem Ok.deeper {n : Nat} {A : Around} (h : Ok (n + 1) A) (env : Env) : Ok n (A.deeper env) :=
  ⟨h.hd, by have := h.dp; show A.depth + 1 + n < _; omega, by have := h.un; show A.units + 3 + 8 * n + 80 < _; omega⟩
theorem Ok.in1 {n : Nat} {A : Around} (h : Ok (n + 1) A) : Ok n A.in1 :=
  ⟨h.hd, by have := h.dp; show A.depth + n < _; omega, by have := h.un; show A.units + 1 + 8 * n + 80 < _; omega⟩
theorem Ok.le {n m : Nat} {A : Around} (h : Ok n A) (k : m ≤ n) : Ok m A :=
  ⟨h.hd, by have := h.dp; omega, by have := h.un; omega⟩
theorem Ok.units {n : Nat} {A : Around} (h : Ok n A) : A.units < cLine := by have := h.un; omega
theorem Ok.units64 {n : Nat} {A : Around} (h : Ok n A) : A.units + 64 < cLine := by have := h.un; omega
theorem Ok.room {n : Nat} {A : Around} (h : Ok n A) : A.depth < recursionLimit := by have := h.dp; omega

section
variable {K : Frag} {g : Heap} {mg mb : Str → Option Value} {s₀ s : Shared} {cs cs' : List (Addr × OD)} {ts ts' : List (Value × D)}
variable {prog : Program} {w : World} {A : Around} {E : Value → Shared → Prop} {env : Env}

theorem St.kin (S : St g s₀ cs ts s) (G : Gd K g mg mb) : K.In s.heap := G.kin.keeps S.ground
theorem St.gns (S : St g s₀ cs ts s) (G : Gd K g mg mb) : s.heap.Ns mainGlobals mg := G.gns.keeps S.ground
theorem St.bns (S : St g s₀ cs ts s) (G : Gd K g mg mb) : s.heap.Ns builtinsNs mb := G.bns.keeps S.ground
theorem St.nolim (S : St g s₀ cs ts s) (G : Gd K g mg mb) : s.heap.NoLimit := G.nolim.keeps S.ground

/-! names -/
theorem nm_local {x : Str} {pos : Pos} {ls : List (Str × D)} {d : D} {Q : Value → Shared → Prop} (S : St g s₀ cs ts s) (hL : (env.locals, .names ls) ∈ cs) (hx : (x, d) ∈ ls)
    (h : ∀ v, St g s₀ cs ((v, d) :: ts) s → Q v s)
    (hk : env.scope.kind = .function := by rfl) (hl : env.kindOf x = some .local := by rfl) (hd : (x == ("__debug__" : Str)) = false := by decide) :
    wpAny (model prog w) A (eval (.Name x pos) env) Q E s := by
  obtain ⟨V, a, b, c, n, e, f⟩ := S
  obtain ⟨m, hm, hls⟩ := (c _ hL).2.2
  obtain ⟨v, hv, hD⟩ := hls _ hx
  refine wpAny_Name (wpAny_loadName_local hk hl hm hv (h v ⟨V, a, b, c, n, fun p hp => ?_, f⟩)) hd
  rcases List.mem_cons.mp hp with rfl | hp
  · exact hD
  · exact e p hp
theorem cell_get {x : Str} {c : Addr} {d : D} (S : St g s₀ cs ts s) (hm : (c, .cell (some d)) ∈ cs) : ∃ v, s.heap.IsCell c (some v) ∧ St g s₀ cs ((v, d) :: ts) s := by
  obtain ⟨V, a, b, c', n, e, f⟩ := S
  obtain ⟨v, hc, hD⟩ := (c' _ hm).2.2
  refine ⟨v, hc, V, a, b, c', n, fun p hp => ?_, f⟩
  rcases List.mem_cons.mp hp with rfl | hp
  · exact hD
  · exact e p hp
theorem nm_cell {x : Str} {pos : Pos} {c : Addr} {d : D} {Q : Value → Shared → Prop} (S : St g s₀ cs ts s) (hc : env.cells.lookup x = some c) (hm : (c, .cell (some d)) ∈ cs)
    (h : ∀ v, St g s₀ cs ((v, d) :: ts) s → Q v s)
    (hk : env.scope.kind = .function := by rfl) (hl : env.kindOf x = some .cell := by rfl) (hd : (x == ("__debug__" : Str)) = false := by decide) :
    wpAny (model prog w) A (eval (.Name x pos) env) Q E s := by
  obtain ⟨v, hv, S'⟩ := cell_get (x := x) S hm
  exact wpAny_Name (wpAny_loadName_cell hk hl hc hv (h v S')) hd
theorem nm_free {x : Str} {pos : Pos} {c : Addr} {d : D} {Q : Value → Shared → Prop} (S : St g s₀ cs ts s) (hc : env.cells.lookup x = some c) (hm : (c, .cell (some d)) ∈ cs)
    (h : ∀ v, St g s₀ cs ((v, d) :: ts) s → Q v s)
    (hk : env.scope.kind = .function := by rfl) (hl : env.kindOf x = some .free := by rfl) (hd : (x == ("__debug__" : Str)) = false := by decide)
    (hn : (x == ("__classdict__" : Str)) = false := by decide) :
    wpAny (model prog w) A (eval (.Name x pos) env) Q E s := by
  obtain ⟨v, hv, S'⟩ := cell_get (x := x) S hm
  exact wpAny_Name (wpAny_loadName_free hk hl hc hv (h v S') hn) hd
theorem nm_global {x : Str} {pos : Pos} {v : Value} {Q : Value → Shared → Prop} (S : St g s₀ cs ts s) (G : Gd K g mg mb) (e : nsIn K mainGlobals x = some (some v)) (h : Q v s)
    (hk : env.scope.kind = .function := by rfl) (hx : env.kindOf x = some .globalImplicit := by rfl) (hg : env.globals = mainGlobals := by rfl) (hd : (x == ("__debug__" : Str)) = false := by decide) :
    wpAny (model prog w) A (eval (.Name x pos) env) Q E s :=
  Name_function_global hk hx (loadGlobal_global (hg ▸ S.gns G) (mg_of G.kin G.gns e) h) hd
theorem nm_builtin {x : Str} {pos : Pos} {v : Value} {Q : Value → Shared → Prop} (S : St g s₀ cs ts s) (G : Gd K g mg mb) (e : nsIn K mainGlobals x = some none) (hv : bootBuiltins x = some v) (h : Q v s)
    (hn : x ≠ "__name__" := by decide) (hk : env.scope.kind = .function := by rfl) (hx : env.kindOf x = some .globalImplicit := by rfl) (hg : env.globals = mainGlobals := by rfl) (hb : env.builtins = builtinsNs := by rfl)
    (hd : (x == ("__debug__" : Str)) = false := by decide) :
    wpAny (model prog w) A (eval (.Name x pos) env) Q E s :=
  Name_function_global hk hx (loadGlobal_builtin (hg ▸ S.gns G) (mg_none_of G.kin G.gns e) (hb ▸ S.bns G) ((G.bts x hn).trans hv) h) hd

/-- names, one of them bound anew -/
inductive SetN (x : Str) (d : D) : List (Str × D) → List (Str × D) → Prop
  | nil : SetN x d [] [(x, d)]
  | drop {d' r r'} : SetN x d r r' → SetN x d ((x, d') :: r) r'
  | keep {y d' r r'} : y ≠ x → SetN x d r r' → SetN x d ((y, d') :: r) ((y, d') :: r')
theorem SetN.mem {x : Str} {d : D} : ∀ {ls ls'}, SetN x d ls ls' → ∀ p ∈ ls', p = (x, d) ∨ (p ∈ ls ∧ p.1 ≠ x)
  | _, _, .nil, p, hp => .inl (List.mem_singleton.mp hp)
  | _, _, .drop h, p, hp => (h.mem p hp).imp id fun q => ⟨.tail _ q.1, q.2⟩
  | _, _, .keep hy h, p, hp => by
    rcases List.mem_cons.mp hp with rfl | hp
    · exact .inr ⟨.head _, hy⟩
    · exact (h.mem p hp).imp id fun q => ⟨.tail _ q.1, q.2⟩

theorem st_local {x : Str} {v : Value} {d : D} {ls ls' : List (Str × D)} {Q : Unit → Shared → Prop} (S : St g s₀ cs ts s) (hv : (v, d) ∈ ts) (U : Upd env.locals (.names ls) (.names ls') cs cs') (hn : SetN x d ls ls')
    (h : ∀ s', St g s₀ cs' ts s' → Q () s')
    (hk : env.scope.kind = .function := by rfl) (hl : env.kindOf x = some .local := by rfl) : wpAny (model prog w) A (storeName env x v) Q E s := by
  obtain ⟨V, hV, m, hm, hls⟩ := S.own U.mem
  refine wpAny_storeName_local hl hm (fun h' hn' hs => h _ (S.upd U hs fun V hV hts ⟨m₁, hm₁, hls₁⟩ => ?_)) (by rw [hk]; rfl)
  refine ⟨_, hn', fun p hp => ?_⟩
  rcases hn.mem p hp with rfl | ⟨hp, hne⟩
  · exact ⟨v, if_pos rfl, hts _ hv⟩
  · obtain ⟨v', e1, e2⟩ := hls₁ p hp
    have : m = m₁ := by
      obtain ⟨o, es, ep, q1, q2, q3, q4⟩ := hm
      obtain ⟨o', es', ep', r1, r2, r3, r4⟩ := hm₁
      rw [q1] at r1; cases r1; rw [q2] at r2; cases r2
      exact funext fun y => (q4 y).symm.trans (r4 y)
    exact ⟨v', by rw [if_neg hne, this]; exact e1, e2⟩
theorem st_cell {x : Str} {v : Value} {d : D} {d₀ : Option D} {c : Addr} {Q : Unit → Shared → Prop} (S : St g s₀ cs ts s) (hv : (v, d) ∈ ts) (hc : env.cells.lookup x = some c) (U : Upd c (.cell d₀) (.cell (some d)) cs cs')
    (h : ∀ s', St g s₀ cs' ts s' → Q () s')
    (hk : env.scope.kind = .function := by rfl) (hl : env.kindOf x = some .cell := by rfl) : wpAny (model prog w) A (storeName env x v) Q E s := by
  obtain ⟨V, hV, ho⟩ := S.own U.mem
  have hq : ∃ v₀, s.heap.IsCell c v₀ := by
    cases d₀ with
    | none => exact ho
    | some d₀ => exact ⟨_, ho.choose_spec.1⟩
  obtain ⟨v₀, hq⟩ := hq
  exact wpAny_storeName_cell hk hl hc hq fun h' hv' hs => by
    have := S.upd (t := s.toks) U hs fun V hV hts _ => ⟨v, hv', hts _ hv⟩
    exact h _ this

/-! statements -/
theorem ex_nil {Q : Flow → Shared → Prop} (h : Q .next s) : wpAny (model prog w) A (execs [] env) Q E s := wpAny_execs_nil h
theorem ex_assign {x : Str} {pos' pos : Pos} {value : Expr} {Q : Flow → Shared → Prop}
    (h : wpAny (model prog w) A (eval value env) (fun v s₁ => wpAny (model prog w) A (storeName env x v) (fun _ s' => Q .next s') E s₁) E s) (hs : swapsWith value (some (.Name x pos')) pos.line env = pure false := by rfl) :
    wpAny (model prog w) A (exec (.Assign [.Name x pos'] value pos) env) Q E s := wpAny_Assign_Name h hs

/-! constants and arithmetic -/
theorem c_int {i : Int} {k : Nat} {pos : Pos} {Q : Value → Shared → Prop} (S : St g s₀ cs ts s) (h : ∀ v s', St g s₀ cs ((v, .int i) :: ts) s' → Q v s') : wpAny (model prog w) A (eval (.Constant (.int i) k pos) env) Q E s :=
  wpAny_Constant_int (h _ _ ((S.toks).tint i _))
theorem c_str {x : Str} {k : Nat} {pos : Pos} {Q : Value → Shared → Prop} (S : St g s₀ cs ts s) (h : ∀ v s', St g s₀ cs ((v, .str x) :: ts) s' → Q v s') : wpAny (model prog w) A (eval (.Constant (.str x) k pos) env) Q E s :=
  Constant_str (h _ _ ((S.toks).tstr x _))
theorem c_none {k : Nat} {pos : Pos} {Q : Value → Shared → Prop} (S : St g s₀ cs ts s) (h : St g s₀ cs ((.none, .val .none) :: ts) s → Q .none s) : wpAny (model prog w) A (eval (.Constant .none k pos) env) Q E s :=
  wpAny_Constant_none (h (S.tval _))
theorem c_bool {b : Bool} {k : Nat} {pos : Pos} {Q : Value → Shared → Prop} (S : St g s₀ cs ts s) (h : St g s₀ cs ((.bool b, .val (.bool b)) :: ts) s → Q (.bool b) s) : wpAny (model prog w) A (eval (.Constant (.bool b) k pos) env) Q E s :=
  wpAny_Constant_bool (h (S.tval _))

theorem den_int {V : View} {v : Value} {i : Int} (h : Den V v (.int i)) : ∃ t, v = .int i t := by cases h with | int i t => exact ⟨t, rfl⟩
theorem den_str {V : View} {v : Value} {x : Str} (h : Den V v (.str x)) : ∃ t, v = .str x t := by cases h with | str x t => exact ⟨t, rfl⟩
theorem den_val {V : View} {v u : Value} (h : Den V v (.val u)) : v = u := by cases h with | val v => rfl
theorem den_obj {V : View} {v : Value} {x dx : Addr} (h : Den V v (.obj x dx)) : v = .ref x ∧ V x = some (instObj cP dx) := by cases h with | obj h => exact ⟨rfl, h⟩
theorem den_list {h : Heap} {v : Value} {ds : List D} (x : Den h.get? v (.list ds)) : ∃ a vs, v = .ref a ∧ h.PlainList a vs ∧ DenL h.get? vs.toList ds ∧ ds.length ≤ lim := by
  cases x with | list h1 h4 h5 => exact ⟨_, _, rfl, ⟨_, h1⟩, h4, h5⟩
theorem den_tup {h : Heap} {v : Value} {ds : List D} (x : Den h.get? v (.tup ds)) : ∃ a vs, v = .ref a ∧ h.IsTuple a vs ∧ DenL h.get? vs.toList ds ∧ ds.length ≤ lim := by
  cases x with | tup h1 h4 h5 => exact ⟨_, _, rfl, ⟨_, h1, rfl, _, rfl⟩, h4, h5⟩

theorem b_add {a b : Value} {i j : Int} {Q : Value → Shared → Prop} (S : St g s₀ cs ts s) (ha : (a, .int i) ∈ ts) (hb : (b, .int j) ∈ ts) (h : ∀ v s', St g s₀ cs ((v, .int (i + j)) :: ts) s' → Q v s') :
    wpAny (model prog w) A (binaryOp .Add a b) Q E s := by
  obtain ⟨t, rfl⟩ := den_int (S.den ha); obtain ⟨u, rfl⟩ := den_int (S.den hb)
  exact PyProof.Rows.add_int (h _ _ (S.toks.tint _ _))
theorem b_sub {a b : Value} {i j : Int} {Q : Value → Shared → Prop} (S : St g s₀ cs ts s) (ha : (a, .int i) ∈ ts) (hb : (b, .int j) ∈ ts) (h : ∀ v s', St g s₀ cs ((v, .int (i - j)) :: ts) s' → Q v s') :
    wpAny (model prog w) A (binaryOp .Sub a b) Q E s := by
  obtain ⟨t, rfl⟩ := den_int (S.den ha); obtain ⟨u, rfl⟩ := den_int (S.den hb)
  exact PyProof.Rows.sub_int (h _ _ (S.toks.tint _ _))
theorem b_mul {a b : Value} {i j : Int} {Q : Value → Shared → Prop} (S : St g s₀ cs ts s) (ha : (a, .int i) ∈ ts) (hb : (b, .int j) ∈ ts) (hm : IntMulOk i j) (h : ∀ v s', St g s₀ cs ((v, .int (i * j)) :: ts) s' → Q v s') :
    wpAny (model prog w) A (binaryOp .Mult a b) Q E s := by
  obtain ⟨t, rfl⟩ := den_int (S.den ha); obtain ⟨u, rfl⟩ := den_int (S.den hb)
  exact PyProof.Rows.mul_int (h _ _ (S.toks.tint _ _)) hm
theorem b_mod {a b : Value} {i j : Int} {Q : Value → Shared → Prop} (S : St g s₀ cs ts s) (ha : (a, .int i) ∈ ts) (hb : (b, .int j) ∈ ts) (hj : j ≠ 0) (h : ∀ v s', St g s₀ cs ((v, .int (i.fmod j)) :: ts) s' → Q v s') :
    wpAny (model prog w) A (binaryOp .Mod a b) Q E s := by
  obtain ⟨t, rfl⟩ := den_int (S.den ha); obtain ⟨u, rfl⟩ := den_int (S.den hb)
  exact PyProof.Rows.mod_int' hj (h _ _ (S.toks.tint _ _))

/-! comparisons of ints; is None -/
theorem k_eq {a b : Value} {i j : Int} {Q : Value → Shared → Prop} (S : St g s₀ cs ts s) (ha : (a, .int i) ∈ ts) (hb : (b, .int j) ∈ ts) (h : Q (.bool (i == j)) s) : wpAny (model prog w) A (compareOp .Eq a b) Q E s := by
  obtain ⟨t, rfl⟩ := den_int (S.den ha); obtain ⟨u, rfl⟩ := den_int (S.den hb)
  exact PyProof.Rows.eq_int h
theorem k_ne {a b : Value} {i j : Int} {Q : Value → Shared → Prop} (S : St g s₀ cs ts s) (ha : (a, .int i) ∈ ts) (hb : (b, .int j) ∈ ts) (h : Q (.bool (i != j)) s) : wpAny (model prog w) A (compareOp .NotEq a b) Q E s := by
  obtain ⟨t, rfl⟩ := den_int (S.den ha); obtain ⟨u, rfl⟩ := den_int (S.den hb)
  exact PyProof.Rows.ne_int h
theorem k_lt {a b : Value} {i j : Int} {Q : Value → Shared → Prop} (S : St g s₀ cs ts s) (ha : (a, .int i) ∈ ts) (hb : (b, .int j) ∈ ts) (h : Q (.bool (decide (i < j))) s) : wpAny (model prog w) A (compareOp .Lt a b) Q E s := by
  obtain ⟨t, rfl⟩ := den_int (S.den ha); obtain ⟨u, rfl⟩ := den_int (S.den hb)
  exact PyProof.Rows.lt_int h
end
end
section
open PySem PySem.W PyProof.Rows PySem.Calls

section
variable {K : Frag} {g : Heap} {mg mb : Str → Option Value} {s₀ s : Shared} {cs cs' : List (Addr × OD)} {ts ts' : List (Value × D)}
variable {prog : Program} {w : World} {A : Around} {E : Value → Shared → Prop} {env : Env}

theorem lim_line : lim ≤ sizeLine := by rw [sizeLine_eq]; unfold lim; omega

theorem seqIndex_in {k : Int} {n : Nat} (h0 : 0 ≤ k) (hb : k.toNat < n) : seqIndex? k n = some k.toNat := by
  unfold seqIndex?
  have h1 : ¬ k < 0 := by omega
  have h2 : k < (n : Int) := by omega
  simp [h1, h0, h2]
/-- a value's item -/
theorem St.item {o v : Value} {ds : List D} {d : D} {i : Nat} (S : St g s₀ cs ts s) (ho : (o, .list ds) ∈ ts) (hx : ds[i]? = some d) :
    ∃ l vs, o = .ref l ∧ s.heap.PlainList l vs ∧ vs.size = ds.length ∧ ds.length ≤ lim ∧ ∃ v, vs[i]? = some v ∧ St g s₀ cs ((v, d) :: ts) s := by
  obtain ⟨V, a, b, c, n, e, f⟩ := S
  cases e _ ho with
  | list h1 h2 h3 =>
    rename_i l vs k
    obtain ⟨v, hv, hD⟩ := h2.get hx
    refine ⟨l, vs, rfl, ⟨_, b _ _ h1⟩, by simpa using h2.length, h3, v, by simpa using hv, V, a, b, c, n, fun p hp => ?_, f⟩
    rcases List.mem_cons.mp hp with rfl | hp
    · exact hD
    · exact e p hp
theorem St.itemT {o v : Value} {ds : List D} {d : D} {i : Nat} (S : St g s₀ cs ts s) (ho : (o, .tup ds) ∈ ts) (hx : ds[i]? = some d) :
    ∃ l vs, o = .ref l ∧ s.heap.IsTuple l vs ∧ vs.size = ds.length ∧ ds.length ≤ lim ∧ ∃ v, vs[i]? = some v ∧ St g s₀ cs ((v, d) :: ts) s := by
  obtain ⟨V, a, b, c, n, e, f⟩ := S
  cases e _ ho with
  | tup h1 h2 h3 =>
    rename_i l vs k
    obtain ⟨v, hv, hD⟩ := h2.get hx
    refine ⟨l, vs, rfl, ⟨_, b _ _ h1, rfl, _, rfl⟩, by simpa using h2.length, h3, v, by simpa using hv, V, a, b, c, n, fun p hp => ?_, f⟩
    rcases List.mem_cons.mp hp with rfl | hp
    · exact hD
    · exact e p hp
theorem St.itemO {l : Addr} {ds : List D} {d : D} {i : Nat} (S : St g s₀ cs ts s) (ho : (l, .list ds) ∈ cs) (hx : ds[i]? = some d) :
    ∃ vs, s.heap.PlainList l vs ∧ vs.size = ds.length ∧ ds.length ≤ lim ∧ ∃ v, vs[i]? = some v ∧ St g s₀ cs ((v, d) :: ts) s := by
  obtain ⟨V, a, b, c, n, e, f⟩ := S
  obtain ⟨vs, h1, h2, h3⟩ := (c _ ho).2.2
  obtain ⟨v, hv, hD⟩ := h2.get hx
  refine ⟨vs, h1, by simpa using h2.length, h3, v, by simpa using hv, V, a, b, c, n, fun p hp => ?_, f⟩
  rcases List.mem_cons.mp hp with rfl | hp
  · exact hD
  · exact e p hp

theorem t_item {value slice : Expr} {o i : Value} {ds : List D} {d : D} {k : Int} {Q : Value → Shared → Prop} (S : St g s₀ cs ts s) (ho : (o, .list ds) ∈ ts) (hi : (i, .int k) ∈ ts) (h0 : 0 ≤ k) (hx : ds[k.toNat]? = some d)
    (h : ∀ v, St g s₀ cs ((v, d) :: ts) s → Q v s)
    (hs : ∀ a u, subscripted slice false (.ref a) (.int k u) = operate [.ref a, .int k u] (getItem (.ref a) (.int k u)) := by with_unfolding_all exact fun _ _ => rfl) :
    wpAny (model prog w) A (subscriptTail value slice o i) Q E s := by
  obtain ⟨u, rfl⟩ := den_int (S.den hi)
  obtain ⟨l, vs, rfl, hl, hz, hlim, v, hv, S'⟩ := S.item (v := .none) ho hx
  have hb : k.toNat < ds.length := (List.getElem?_eq_some_iff.mp hx).1
  exact tail_any hl.isList.typeIs slot_list_getitem.lookup (wpAny_getItem_list hl.isList h0 (by unfold lim at hlim; omega) hv (h v S')) (hs _ _)
theorem t_itemO {value slice : Expr} {l : Addr} {i : Value} {ds : List D} {d : D} {k : Int} {Q : Value → Shared → Prop} (S : St g s₀ cs ts s) (ho : (l, .list ds) ∈ cs) (hi : (i, .int k) ∈ ts) (h0 : 0 ≤ k) (hx : ds[k.toNat]? = some d)
    (h : ∀ v, St g s₀ cs ((v, d) :: ts) s → Q v s)
    (hs : ∀ a u, subscripted slice false (.ref a) (.int k u) = operate [.ref a, .int k u] (getItem (.ref a) (.int k u)) := by with_unfolding_all exact fun _ _ => rfl) :
    wpAny (model prog w) A (subscriptTail value slice (.ref l) i) Q E s := by
  obtain ⟨u, rfl⟩ := den_int (S.den hi)
  obtain ⟨vs, hl, hz, hlim, v, hv, S'⟩ := S.itemO ho hx
  have hb : k.toNat < ds.length := (List.getElem?_eq_some_iff.mp hx).1
  exact tail_any hl.isList.typeIs slot_list_getitem.lookup (wpAny_getItem_list hl.isList h0 (by unfold lim at hlim; omega) hv (h v S')) (hs _ _)
/-- the last item: xs[-1] -/
theorem t_last {value slice : Expr} {o i : Value} {ds : List D} {d : D} {Q : Value → Shared → Prop} (S : St g s₀ cs ts s) (ho : (o, .list ds) ∈ ts) (hi : (i, .int (-1)) ∈ ts) (hx : ds[ds.length - 1]? = some d)
    (h : ∀ v, St g s₀ cs ((v, d) :: ts) s → Q v s)
    (hs : ∀ a u, subscripted slice false (.ref a) (.int (-1) u) = operate [.ref a, .int (-1) u] (getItem (.ref a) (.int (-1) u)) := by with_unfolding_all exact fun _ _ => rfl) :
    wpAny (model prog w) A (subscriptTail value slice o i) Q E s := by
  obtain ⟨u, rfl⟩ := den_int (S.den hi)
  obtain ⟨l, vs, rfl, hl, hz, hlim, v, hv, S'⟩ := S.item (v := .none) ho hx
  have hb : ds.length - 1 < ds.length := (List.getElem?_eq_some_iff.mp hx).1
  refine tail_any hl.isList.typeIs slot_list_getitem.lookup (wpAny_getItem_list_neg hl.isList (by decide) (by omega) (by decide) ?_ (h v S')) (hs _ _)
  have : ((-1 : Int) + (vs.size : Nat)).toNat = ds.length - 1 := by omega
  rw [this]; exact hv
theorem t_tup {value slice : Expr} {o i : Value} {ds : List D} {d : D} {k : Int} {Q : Value → Shared → Prop} (S : St g s₀ cs ts s) (ho : (o, .tup ds) ∈ ts) (hi : (i, .int k) ∈ ts) (h0 : 0 ≤ k) (hx : ds[k.toNat]? = some d)
    (h : ∀ v, St g s₀ cs ((v, d) :: ts) s → Q v s)
    (hs : ∀ a u, subscripted slice false (.ref a) (.int k u) = operate [.ref a, .int k u] (getItem (.ref a) (.int k u)) := by with_unfolding_all exact fun _ _ => rfl) :
    wpAny (model prog w) A (subscriptTail value slice o i) Q E s := by
  obtain ⟨u, rfl⟩ := den_int (S.den hi)
  obtain ⟨l, vs, rfl, hl, hz, hlim, v, hv, S'⟩ := S.itemT (v := .none) ho hx
  have hb : k.toNat < ds.length := (List.getElem?_eq_some_iff.mp hx).1
  refine item_tupleT (l := vs.toList) (j := k.toNat) hl (by omega) (by unfold lim at hlim; omega) ?_ (by simpa using hv) (h v S') (hs _ _)
  have e1 : vs.toList.length = ds.length := by simpa using hz
  rw [e1]
  exact seqIndex_in h0 hb

/-! new lists -/
inductive Zip (ts : List (Value × D)) : List Value → List D → Prop
  | nil : Zip ts [] []
  | cons {v d vs ds} : (v, d) ∈ ts → Zip ts vs ds → Zip ts (v :: vs) (d :: ds)
theorem Zip.den {V : View} (h : ∀ p ∈ ts, Den V p.1 p.2) : ∀ {vs ds}, Zip ts vs ds → DenL V vs ds
  | _, _, .nil => .nil
  | _, _, .cons m r => .cons (h _ m) (r.den h)

theorem St.newL {vs : List Value} {ds : List D} {n : Nat} {t : Nat} (S : St g s₀ cs ts s) (hc : cs ≠ []) (hz : ∀ V, VLe V s.heap.get? → (∀ p ∈ ts, Den V p.1 p.2) → DenL V vs ds) (hl : ds.length ≤ lim) :
    St g s₀ ((s.heap.objs.size, .list ds) :: cs) ts { s with heap := s.heap.push { cls := .type "list", data := .seq vs.toArray n }, toks := t } := by
  obtain ⟨⟨a, o⟩, r, rfl⟩ : ∃ p r, cs = p :: r := by cases cs with | nil => exact absurd rfl hc | cons p r => exact ⟨p, r, rfl⟩
  exact S.alloc rfl (fun V hV hts h a ha => ⟨vs.toArray, ⟨n, ha⟩, by simpa using hz V hV hts, hl⟩) (S.gsize (.head _))
theorem St.newT {vs : List Value} {ds : List D} {t : Nat} (S : St g s₀ cs ts s) (hc : cs ≠ []) (hz : Zip ts vs ds) (hl : ds.length ≤ lim) :
    St g s₀ cs ((.ref s.heap.objs.size, .tup ds) :: ts) { s with heap := s.heap.push { cls := .type "tuple", data := .seq vs.toArray }, toks := t } := by
  obtain ⟨⟨a, o⟩, r, rfl⟩ : ∃ p r, cs = p :: r := by cases cs with | nil => exact absurd rfl hc | cons p r => exact ⟨p, r, rfl⟩
  have := S.alloc (t := t) (o := { cls := .type "tuple", data := .seq vs.toArray }) (od := .raw { cls := .type "tuple", data := .seq vs.toArray }) rfl (fun V hV hts h a ha => ha) (S.gsize (.head _))
  exact this.freeze fun V o ho hv V' k hts hr => by
    have hr' := hr
    unfold Own at hr'
    rw [ho] at hr'; cases hr'
    exact .tup hv ((by simpa using hz.den hts : DenL V' vs.toArray.toList ds).mono k) hl

/-! displays -/
theorem e_list {elts : List Expr} {pos : Pos} {Q : Value → Shared → Prop}
    (h : wpAny (model prog w) A (spliced (backTo pos (starEach elts env))) (fun vs s₁ => ∃ cs ts ds, St g s₀ cs ts s₁ ∧ cs ≠ [] ∧ Zip ts vs ds ∧ ds.length ≤ lim ∧ ∀ a s', St g s₀ ((a, .list ds) :: cs) ts s' → Q (.ref a) s') E s) :
    wpAny (model prog w) A (eval (.List elts pos) env) Q E s := by
  refine wpAny_List_spliced (wpAny_mono h (fun vs s₁ hh => ?_) fun _ _ e => e)
  obtain ⟨cs, ts, ds, S, hc, hz, hl, q⟩ := hh
  refine ⟨?_, q _ _ (S.newL (n := 0) hc (fun V _ hts => hz.den hts) hl)⟩
  obtain ⟨V, hV, hts⟩ : ∃ V, VLe V s₁.heap.get? ∧ ∀ p ∈ ts, Den V p.1 p.2 := by obtain ⟨V, a, b, c, n, e, f⟩ := S; exact ⟨V, b, e⟩
  have := (hz.den hts).length
  exact Nat.le_trans (Nat.le_of_eq this) (Nat.le_trans hl lim_line)
theorem e_tup {elts : List Expr} {k : Nat} {pos : Pos} {Q : Value → Shared → Prop}
    (h : wpAny (model prog w) A (spliced (backTo pos (starEach elts env))) (fun vs s₁ => ∃ cs ts ds, St g s₀ cs ts s₁ ∧ cs ≠ [] ∧ Zip ts vs ds ∧ ds.length ≤ lim ∧ ∀ v s', St g s₀ cs ((v, .tup ds) :: ts) s' → Q v s') E s) :
    wpAny (model prog w) A (eval (.Tuple elts k pos) env) Q E s := by
  refine wpAny_Tuple_spliced (wpAny_mono h (fun vs s₁ hh => ?_) fun _ _ e => e)
  obtain ⟨cs, ts, ds, S, hc, hz, hl, q⟩ := hh
  refine ⟨?_, q _ _ (S.newT hc hz hl)⟩
  obtain ⟨V, hV, hts⟩ : ∃ V, VLe V s₁.heap.get? ∧ ∀ p ∈ ts, Den V p.1 p.2 := by obtain ⟨V, a, b, c, n, e, f⟩ := S; exact ⟨V, b, e⟩
  have := (hz.den hts).length
  exact Nat.le_trans (Nat.le_of_eq this) (Nat.le_trans hl lim_line)

/-! slices -/
theorem St.listOf {o : Value} {ds : List D} (S : St g s₀ cs ts s) (ho : (o, .list ds) ∈ ts) : ∃ l vs, o = .ref l ∧ s.heap.PlainList l vs ∧ vs.size = ds.length ∧ ds.length ≤ lim := by
  obtain ⟨a, vs, e, h1, h2, h3⟩ := den_list (S.den ho)
  exact ⟨a, vs, e, h1, by simpa using h2.length, h3⟩
theorem pair_push {h : Heap} {o1 o2 : Obj} : VLe h.get? ((h.push o1).push o2).get? := fun _ _ q => Heap.get?_push_of_some _ (Heap.get?_push_of_some _ q)

theorem St.slice {o : Value} {ds es : List D} {vl vu : Value} {lo hi : Option Int} {t : Nat} (S : St g s₀ cs ts s) (hc : cs ≠ []) (ho : (o, .list ds) ∈ ts)
    (hp : ∀ V vs, DenL V vs.toList ds → DenL V (slicePick vs lo hi none).toList es) :
    ∃ l vs, o = .ref l ∧ s.heap.IsList l vs ∧ vs.size ≤ sizeLine ∧
      St g s₀ ((s.heap.objs.size + 1, .list es) :: cs) ts { s with heap := (s.heap.push { cls := .type "slice", data := .fields #[vl, vu, .none] }).push { cls := .type "list", data := .seq (slicePick vs lo hi none) }, toks := t } := by
  obtain ⟨l, vs, rfl, hl, hz, hlim⟩ := S.listOf ho
  refine ⟨l, vs, rfl, hl.isList, Nat.le_trans (by omega) lim_line, ?_⟩
  have S1 := S.keep (h' := s.heap.push { cls := .type "slice", data := .fields #[vl, vu, .none] }) (t := s.toks) fun _ _ q => Heap.get?_push_of_some _ q
  have e1 : (s.heap.push { cls := .type "slice", data := .fields #[vl, vu, .none] }).objs.size = s.heap.objs.size + 1 := by simp
  have hes : es.length ≤ lim := by
    have := slicePick_size_le vs lo hi none
    obtain ⟨V, a, b, c, n, e, f⟩ := S
    cases e _ ho with
    | list h1 h2 h3 =>
      rename_i vs' k
      have h4 := (hp V _ h2).length
      obtain ⟨n', hn'⟩ := hl
      have := b _ _ h1
      rw [hn'] at this; cases this
      simp at h4; omega
  have := S1.newL (n := 0) (t := t) (vs := (slicePick vs lo hi none).toList) (ds := es) hc (fun V hV hts => ?_) hes
  · rw [e1] at this
    simpa using this
  · cases hts _ ho with
    | list h1 h2 h3 =>
      rename_i vs' k
      have := hV _ _ h1
      have h0 := hl
      obtain ⟨n', hn'⟩ := hl
      rw [show (s.heap.push _).get? l = _ from Heap.get?_push_of_some _ hn'] at this
      cases this
      exact hp V vs h2
end
end
section
open PySem PySem.W PyProof.Rows PySem.Calls PySem.MeetsSeq PySem.AutoListH

section
variable {K : Frag} {g : Heap} {mg mb : Str → Option Value} {s₀ s : Shared} {cs cs' : List (Addr × OD)} {ts ts' : List (Value × D)}
variable {prog : Program} {w : World} {A : Around} {E : Value → Shared → Prop} {env : Env}

theorem St.ne_nil (S : St g s₀ cs ts s) {a : Addr} {o : OD} (h : (a, o) ∈ cs) : cs ≠ [] := fun q => by rw [q] at h; cases h

theorem t_slice {value slice : Expr} {o vl vu : Value} {ds es : List D} {lo hi : Option Int} {Q : Value → Shared → Prop} (S : St g s₀ cs ts s) (hc : cs ≠ []) (ho : (o, .list ds) ∈ ts)
    (pl : IsPart vl lo) (pu : IsPart vu hi) (hp : ∀ V vs, DenL V vs.toList ds → DenL V (slicePick vs lo hi none).toList es)
    (h : ∀ a s', St g s₀ ((a, .list es) :: cs) ts s' → Q (.ref a) s')
    (hs : ∀ a b, subscripted slice false (.ref a) (.ref b) = operate [.ref b, .ref a] (getItem (.ref a) (.ref b)) := by with_unfolding_all exact fun _ _ => rfl) :
    wpAny (model prog w) A (subscriptTail value slice o (.ref s.heap.objs.size)) Q E { s with heap := s.heap.push { cls := .type "slice", data := .fields #[vl, vu, .none] } } := by
  obtain ⟨l, vs, rfl, hl, hz, S'⟩ := S.slice (vl := vl) (vu := vu) (t := s.toks) hc ho hp
  refine tail_any (Heap.IsList.typeIs (s := { s with heap := s.heap.push { cls := .type "slice", data := .fields #[vl, vu, .none] } }) (hl.push _)) slot_list_getitem.lookup
    (wpAny_getItem_list_slice (hl.push _) (Heap.IsSliceOf.new ..) pl pu .none (by simp) ?_ hz) (hs _ _)
  show Q (.ref (s.heap.push _).objs.size) _
  rw [Heap.size_push]
  exact h _ _ S'
theorem e_slice {value : Expr} {lower upper : Option Expr} {p pos : Pos} {Q : Value → Shared → Prop}
    (h : wpAny (model prog w) A (eval value env) (fun o s₁ => wpAny (model prog w) A (evalPart lower env) (fun vl s₂ => wpAny (model prog w) A (evalPart upper env) (fun vu s₃ =>
      ∃ cs ts ds es lo hi, St g s₀ cs ts s₃ ∧ cs ≠ [] ∧ (o, .list ds) ∈ ts ∧ IsPart vl lo ∧ IsPart vu hi ∧ (∀ V vs, DenL V vs.toList ds → DenL V (slicePick vs lo hi none).toList es) ∧ ∀ a s', St g s₀ ((a, .list es) :: cs) ts s' → Q (.ref a) s') E s₂) E s₁) E s) :
    wpAny (model prog w) A (eval (.Subscript value (.Slice lower upper none p) pos) env) Q E s := by
  refine Subscript_ (wpAny_mono h (fun o s₁ h1 => wpAny_Slice ?_) fun _ _ e => e)
  refine wpAny_mono h1 (fun vl s₂ h2 => wpAny_mono h2 (fun vu s₃ h3 => wpAny_evalPart_none ?_) fun _ _ e => e) fun _ _ e => e
  obtain ⟨cs, ts, ds, es, lo, hi, S, hc, ho, pl, pu, hp, q⟩ := h3
  exact t_slice S hc ho pl pu hp q
theorem pick_from {i : Int} {V : View} {ds : List D} (h0 : 0 ≤ i) (vs : Array Value) (h : DenL V vs.toList ds) : DenL V (slicePick vs (some i) none none).toList (ds.drop i.toNat) := by
  have := slicePick_from' vs i.toNat
  rw [Int.toNat_of_nonneg h0] at this
  rw [this]; exact h.drop _
theorem pick_to {i : Int} {V : View} {ds : List D} (h0 : 0 ≤ i) (vs : Array Value) (h : DenL V vs.toList ds) : DenL V (slicePick vs none (some i) none).toList (ds.take i.toNat) := by
  have := slicePick_upto' vs i.toNat
  rw [Int.toNat_of_nonneg h0] at this
  rw [this]; exact h.take _
theorem pick_all {V : View} {ds : List D} (vs : Array Value) (h : DenL V vs.toList ds) : DenL V (slicePick vs none none none).toList ds := by
  rw [slicePick_all]; exact h
theorem part_int {i : Value} {k : Int} (S : St g s₀ cs ts s) (hi : (i, .int k) ∈ ts) : IsPart i (some k) := by
  obtain ⟨t, rfl⟩ := den_int (S.den hi); exact .int _ _

/-! len, truth, + -/
theorem c_len {o : Value} {ds : List D} {Q : Value → Shared → Prop} (S : St g s₀ cs ts s) (ho : (o, .list ds) ∈ ts) (h : ∀ v s', St g s₀ cs ((v, .int ds.length) :: ts) s' → Q v s') : wpAny (model prog w) A (call (.builtin "len") [o]) Q E s := by
  obtain ⟨l, vs, rfl, hl, hz, hlim⟩ := S.listOf ho
  refine Calls.call_len_list hl.isList (by unfold lim at hlim; omega) ?_
  rw [hz]; exact h _ _ (S.toks.tint _ _)
theorem St.ownedList {l : Addr} {ds : List D} (S : St g s₀ cs ts s) (ho : (l, .list ds) ∈ cs) : ∃ vs, s.heap.PlainList l vs ∧ vs.size = ds.length ∧ ds.length ≤ lim := by
  obtain ⟨V, _, vs, h1, h2, h3⟩ := S.own ho
  exact ⟨vs, h1, by simpa using h2.length, h3⟩
theorem c_lenO {l : Addr} {ds : List D} {Q : Value → Shared → Prop} (S : St g s₀ cs ts s) (ho : (l, .list ds) ∈ cs) (h : ∀ v s', St g s₀ cs ((v, .int ds.length) :: ts) s' → Q v s') : wpAny (model prog w) A (call (.builtin "len") [.ref l]) Q E s := by
  obtain ⟨vs, hl, hz, hlim⟩ := S.ownedList ho
  refine Calls.call_len_list hl.isList (by unfold lim at hlim; omega) ?_
  rw [hz]; exact h _ _ (S.toks.tint _ _)
theorem isEmpty_of {vs : Array Value} {ds : List D} (h : vs.size = ds.length) : vs.isEmpty = ds.isEmpty := by
  cases ds with
  | nil => simpa [Array.isEmpty] using h
  | cons d r =>
    rw [List.length_cons] at h
    simp only [Array.isEmpty, List.isEmpty_cons, decide_eq_false_iff_not]
    omega
theorem tr_list {o : Value} {ds : List D} {Q : Bool → Shared → Prop} (S : St g s₀ cs ts s) (ho : (o, .list ds) ∈ ts) (h : ∀ s', St g s₀ cs ts s' → Q (!ds.isEmpty) s') : wpAny (model prog w) A (truthy o) Q E s := by
  obtain ⟨l, vs, rfl, hl, hz, hlim⟩ := S.listOf ho
  refine wpAny_truthy_list hl.isList (by unfold lim at hlim; omega) ?_
  rw [isEmpty_of hz]; exact h _ S.toks
theorem tr_listO {l : Addr} {ds : List D} {Q : Bool → Shared → Prop} (S : St g s₀ cs ts s) (ho : (l, .list ds) ∈ cs) (h : ∀ s', St g s₀ cs ts s' → Q (!ds.isEmpty) s') : wpAny (model prog w) A (truthy (.ref l)) Q E s := by
  obtain ⟨vs, hl, hz, hlim⟩ := S.ownedList ho
  refine wpAny_truthy_list hl.isList (by unfold lim at hlim; omega) ?_
  rw [isEmpty_of hz]; exact h _ S.toks
theorem b_cat {a b : Value} {ds es : List D} {Q : Value → Shared → Prop} (S : St g s₀ cs ts s) (hc : cs ≠ []) (ha : (a, .list ds) ∈ ts) (hb : (b, .list es) ∈ ts) (hl : ds.length + es.length ≤ lim)
    (h : ∀ l s', St g s₀ ((l, .list (ds ++ es)) :: cs) ts s' → Q (.ref l) s') : wpAny (model prog w) A (binaryOp .Add a b) Q E s := by
  obtain ⟨l, vs, rfl, ⟨n, hl1⟩, hz, hlim⟩ := S.listOf ha
  obtain ⟨l2, us, rfl, ⟨n2, hl2⟩, hz2, hlim2⟩ := S.listOf hb
  refine P.add_list hl1 hl2 ?_ (by have := lim_line; omega)
  have := S.newL (n := 0) (t := s.toks) (vs := vs.toList ++ us.toList) (ds := ds ++ es) hc (fun V hV hts => ?_) (by simpa using hl)
  · rw [show (vs.toList ++ us.toList).toArray = vs ++ us from Array.ext' (by simp)] at this
    exact h _ _ this
  · have k1 := hts _ ha
    have k2 := hts _ hb
    cases k1 with
    | list q1 q2 q3 =>
      cases k2 with
      | list r1 r2 r3 =>
        have := hV _ _ q1; rw [hl1] at this; cases this
        have := hV _ _ r1; rw [hl2] at this; cases this
        exact q2.append r2
/-- xs * n -/
theorem rep_fold (vs : Array Value) : ∀ (n : Nat) (acc : Array Value), List.foldl (fun x1 x2 => x1 ++ x2) acc (List.replicate n vs) = acc ++ (List.replicate n vs.toList).flatten.toArray
  | 0, acc => by simp
  | n + 1, acc => by
    rw [List.replicate_succ, List.foldl_cons, rep_fold vs n]
    apply Array.ext'
    simp [List.replicate_succ]
theorem b_rep {a b : Value} {d : D} {n : Int} {Q : Value → Shared → Prop} (S : St g s₀ cs ts s) (hc : cs ≠ []) (ha : (a, .list [d]) ∈ ts) (hb : (b, .int n) ∈ ts) (h0 : 0 ≤ n) (hn : n ≤ lim)
    (h : ∀ l s', St g s₀ ((l, .list (List.replicate n.toNat d)) :: cs) ts s' → Q (.ref l) s') : wpAny (model prog w) A (binaryOp .Mult a b) Q E s := by
  obtain ⟨l, vs, rfl, ⟨k, hl⟩, hz, hlim⟩ := S.listOf ha
  obtain ⟨u, rfl⟩ := den_int (S.den hb)
  rw [List.length_singleton] at hz
  have hb' := lim_line
  rw [sizeLine_eq] at hb'
  refine wpAny_binaryOp_repeat_ref (T := "list") (U := "int") (by decide) ⟨_, hl, rfl⟩ (fun s' => typeIs_int s' n u) noFill_list_mul F.fills_int_mul F.slot_int_rmul repeat_list F.slot_int_index.lookup
    (call_meets F.slot_int_rmul (typeIs_int s n u) F.entry_int_rmul (F.args_int_rmul_2 _ _) (int___rmul___int_list n u l vs k)
      ⟨hl, rfl, ⟨_, hl, rfl⟩, call_meets F.slot_list_mul ⟨_, hl, rfl⟩ F.entry_list_mul (F.args_list_mul_2 _ _)
        (AutoListH.list___mul___list_int_3 l vs k n u (by simp [Builtin.List.listFitsIndex]; omega) (by rw [hz]; omega) (by rw [hz]; simp [Builtin.List.listTooLong, sizeLine]; omega))
        ⟨hl, ?_⟩⟩)
  have e0 : vs.isEmpty = false := by simp [Array.isEmpty, hz]
  rw [e0, rep_fold]
  have e2 : (#[] : Array Value) ++ (List.replicate (if (false : Bool) = true then 0 else n.toNat) vs.toList).flatten.toArray = (List.replicate n.toNat vs.toList).flatten.toArray := by simp
  rw [e2]
  refine h _ _ (S.newL (n := 0) (t := s.toks) (vs := (List.replicate n.toNat vs.toList).flatten) hc (fun V hV hts => ?_) (by simp; omega))
  have q := hts _ ha
  cases q with
  | list q1 q2 q3 =>
    rename_i vs' k'
    have := hV _ _ q1; rw [hl] at this; cases this
    generalize n.toNat = m
    induction m with
    | zero => exact .nil
    | succ m ih =>
      rw [List.replicate_succ, List.replicate_succ, List.flatten_cons]
      have := q2.append ih
      simpa using this
end
end
section
open PySem PySem.W PyProof.Rows PySem.Calls PySem.MeetsSeq PySem.AutoListH PySem.SeqAt

/-! deep equality of plain data -/
mutual
noncomputable def py : D → PyData
  | .int i => .int i
  | .list ds => .list (pyA ds)
  | .tup ds => .tuple (pyA ds)
  | .val _ | .str _ | .obj .. | .rng _ => .none
noncomputable def pyA : List D → List PyData
  | [] => []
  | d :: r => py d :: pyA r
end
mutual
inductive Pl : Nat → D → Prop
  | int {n} (i) : Pl n (.int i)
  | list {n ds} : PlA n ds → Pl (n + 1) (.list ds)
  | tup {n ds} : PlA n ds → Pl (n + 1) (.tup ds)
inductive PlA : Nat → List D → Prop
  | nil {n} : PlA n []
  | cons {n d r} : Pl n d → PlA n r → PlA n (d :: r)
end
mutual
theorem Pl.reads {h : Heap} : ∀ {n v d}, Pl n d → Den h.get? v d → ∃ as, Reads h v (py d) as
  | _, _, _, .int i, .int _ t => ⟨_, by unfold py; exact .int i t⟩
  | _, _, _, .list hp, .list h1 h2 h3 => let ⟨as, q⟩ := PlA.reads hp h2; ⟨_, by unfold py; exact .list h1 rfl rfl q⟩
  | _, _, _, .tup hp, .tup h1 h2 h3 => let ⟨as, q⟩ := PlA.reads hp h2; ⟨_, by unfold py; exact .tuple h1 rfl rfl q⟩
theorem PlA.reads {h : Heap} : ∀ {n vs ds}, PlA n ds → DenL h.get? vs ds → ∃ as, ReadsAll h vs (pyA ds) as
  | _, _, _, .nil, .nil => ⟨_, by unfold pyA; exact .nil⟩
  | _, _, _, .cons p r, .cons q t => let ⟨_, a⟩ := Pl.reads p q; let ⟨_, b⟩ := PlA.reads r t; ⟨_, by unfold pyA; exact .cons a b⟩
end
mutual
theorem Pl.lay : ∀ {n d}, Pl n d → (py d).canLay0 = true ∧ (py d).depth ≤ n + 1
  | _, _, .int i => by simp [py, PyData.canLay0, PyData.depth]
  | _, _, .list hp => by have := PlA.lay hp; simp only [py, PyData.canLay0, PyData.depth]; exact ⟨this.1, by omega⟩
  | _, _, .tup hp => by have := PlA.lay hp; simp only [py, PyData.canLay0, PyData.depth]; exact ⟨this.1, by omega⟩
theorem PlA.lay : ∀ {n ds}, PlA n ds → PyData.canLayAll0 (pyA ds) = true ∧ PyData.depthAll (pyA ds) ≤ n + 1
  | _, _, .nil => by simp [pyA, PyData.canLayAll0, PyData.depthAll]
  | _, _, .cons p r => by
    have h1 := Pl.lay p
    have h2 := PlA.lay r
    simp only [pyA, PyData.canLayAll0, PyData.depthAll, Bool.and_eq_true]
    exact ⟨⟨h1.1, h2.1⟩, by omega⟩
end
mutual
theorem Pl.mix : ∀ {n m d e}, Pl n d → Pl m e → noMix (py d) (py e) = true
  | _, _, _, _, .int i, .int j => by simp [py, noMix]
  | _, _, _, _, .int i, .list _ => by simp [py, noMix]
  | _, _, _, _, .int i, .tup _ => by simp [py, noMix]
  | _, _, _, _, .list _, .int j => by simp [py, noMix]
  | _, _, _, _, .list h, .list k => by simp only [py, noMix]; exact PlA.mix h k
  | _, _, _, _, .list _, .tup _ => by simp [py, noMix]
  | _, _, _, _, .tup _, .int j => by simp [py, noMix]
  | _, _, _, _, .tup _, .list _ => by simp [py, noMix]
  | _, _, _, _, .tup h, .tup k => by simp only [py, noMix]; exact PlA.mix h k
theorem PlA.mix : ∀ {n m ds es}, PlA n ds → PlA m es → noMixAll (pyA ds) (pyA es) = true
  | _, _, _, _, .nil, .nil => by simp [pyA, noMixAll]
  | _, _, _, _, .nil, .cons _ _ => by simp [pyA, noMixAll]
  | _, _, _, _, .cons _ _, .nil => by simp [pyA, noMixAll]
  | _, _, _, _, .cons p r, .cons q t => by simp only [pyA, noMixAll, Bool.and_eq_true]; exact ⟨Pl.mix p q, PlA.mix r t⟩
end
mutual
theorem Pl.same : ∀ {n m d e}, Pl n d → Pl m e → (PySem.Spec.same (py d) (py e) = true ↔ d = e)
  | _, _, _, _, .int i, .int j => by simp [py, PySem.Spec.same]
  | _, _, _, _, .int i, .list _ => by simp [py, PySem.Spec.same]
  | _, _, _, _, .int i, .tup _ => by simp [py, PySem.Spec.same]
  | _, _, _, _, .list _, .int j => by simp [py, PySem.Spec.same]
  | _, _, _, _, .list h, .list k => by simp only [py, PySem.Spec.same, D.list.injEq]; exact PlA.same h k
  | _, _, _, _, .list _, .tup _ => by simp [py, PySem.Spec.same]
  | _, _, _, _, .tup _, .int j => by simp [py, PySem.Spec.same]
  | _, _, _, _, .tup _, .list _ => by simp [py, PySem.Spec.same]
  | _, _, _, _, .tup h, .tup k => by simp only [py, PySem.Spec.same, D.tup.injEq]; exact PlA.same h k
theorem PlA.same : ∀ {n m ds es}, PlA n ds → PlA m es → (PySem.Spec.sameAll (pyA ds) (pyA es) = true ↔ ds = es)
  | _, _, _, _, .nil, .nil => by simp [pyA, PySem.Spec.sameAll]
  | _, _, _, _, .nil, .cons _ _ => by simp [pyA, PySem.Spec.sameAll]
  | _, _, _, _, .cons _ _, .nil => by simp [pyA, PySem.Spec.sameAll]
  | _, _, _, _, .cons p r, .cons q t => by
    simp only [pyA, PySem.Spec.sameAll, Bool.and_eq_true, List.cons.injEq]
    rw [Pl.same p q, PlA.same r t]
end
theorem Pl.shaped {n : Nat} {d : D} (h : Pl n d) (hn : n < 60) : shaped (py d) = true := by
  have := h.lay
  show (_ && _) = true
  rw [Bool.and_eq_true, decide_eq_true_eq]
  exact ⟨this.1, by omega⟩

section
variable {K : Frag} {g : Heap} {mg mb : Str → Option Value} {s₀ s : Shared} {cs cs' : List (Addr × OD)} {ts ts' : List (Value × D)}
variable {prog : Program} {w : World} {A : Around} {E : Value → Shared → Prop} {env : Env}

theorem eq_den {a b : Value} {d e : D} {n m : Nat} {Q : Value → Shared → Prop} (ha : Den s.heap.get? a d) (hb : Den s.heap.get? b e) (pd : Pl n d) (pe : Pl m e) (hn : n < 60) (hm : m < 60) (hu : A.units + 64 < cLine)
    (h : ∀ r : Bool, (r = true ↔ d = e) → Q (.bool r) s) : wpAny (model prog w) A (compareOp .Eq a b) Q E s :=
  let ⟨_, ra⟩ := pd.reads ha
  let ⟨_, rb⟩ := pe.reads hb
  eq_dataH_same ra rb (pd.shaped hn) (pe.shaped hm) hu (pd.mix pe) (h _ (pd.same pe))
theorem ne_den {a b : Value} {d e : D} {n m : Nat} {Q : Value → Shared → Prop} (ha : Den s.heap.get? a d) (hb : Den s.heap.get? b e) (pd : Pl n d) (pe : Pl m e) (hn : n < 60) (hm : m < 60) (hu : A.units + 64 < cLine)
    (h : ∀ r : Bool, (r = true ↔ d = e) → Q (.bool (!r)) s) : wpAny (model prog w) A (compareOp .NotEq a b) Q E s :=
  let ⟨_, ra⟩ := pd.reads ha
  let ⟨_, rb⟩ := pe.reads hb
  ne_dataH_same ra rb (pd.shaped hn) (pe.shaped hm) hu (pd.mix pe) (h _ (pd.same pe))
theorem k_eqD {a b : Value} {d e : D} {n m : Nat} {Q : Value → Shared → Prop} (S : St g s₀ cs ts s) (ha : (a, d) ∈ ts) (hb : (b, e) ∈ ts) (pd : Pl n d) (pe : Pl m e) (hu : A.units + 64 < cLine)
    (h : ∀ r : Bool, (r = true ↔ d = e) → Q (.bool r) s) (hn : n < 60 := by decide) (hm : m < 60 := by decide) : wpAny (model prog w) A (compareOp .Eq a b) Q E s := eq_den (S.den ha) (S.den hb) pd pe hn hm hu h
theorem k_neD {a b : Value} {d e : D} {n m : Nat} {Q : Value → Shared → Prop} (S : St g s₀ cs ts s) (ha : (a, d) ∈ ts) (hb : (b, e) ∈ ts) (pd : Pl n d) (pe : Pl m e) (hu : A.units + 64 < cLine)
    (h : ∀ r : Bool, (r = true ↔ d = e) → Q (.bool (!r)) s) (hn : n < 60 := by decide) (hm : m < 60 := by decide) : wpAny (model prog w) A (compareOp .NotEq a b) Q E s := ne_den (S.den ha) (S.den hb) pd pe hn hm hu h
/-- an owned list, for a moment -/
theorem St.denO {l : Addr} {ds : List D} (S : St g s₀ cs ts s) (ho : (l, .list ds) ∈ cs) : Den s.heap.get? (.ref l) (.list ds) := by
  obtain ⟨V, hV, vs, ⟨n, h1⟩, h2, h3⟩ := S.own ho
  exact .list h1 (h2.mono hV) h3

/-! ranges -/
theorem St.newRng {n : Int} {t u k : Tok} {tk : Nat} (S : St g s₀ cs ts s) (hc : cs ≠ []) :
    St g s₀ cs ((.ref s.heap.objs.size, .rng n) :: ts) { s with heap := s.heap.push { cls := .type "range", data := .fields #[.int 0 t, .int n u, .int 1 k] }, toks := tk } := by
  obtain ⟨⟨a, o⟩, r, rfl⟩ : ∃ p r, cs = p :: r := by cases cs with | nil => exact absurd rfl hc | cons p r => exact ⟨p, r, rfl⟩
  have := S.alloc (t := tk) (o := { cls := .type "range", data := .fields #[.int 0 t, .int n u, .int 1 k] }) (od := .raw { cls := .type "range", data := .fields #[.int 0 t, .int n u, .int 1 k] }) rfl (fun V hV hts h a ha => ha) (S.gsize (.head _))
  exact this.freeze fun V o ho hv V' k hts hr => by
    have hr' := hr
    unfold Own at hr'
    rw [ho] at hr'; cases hr'
    exact .rng hv
theorem c_range {i : Value} {n : Int} {Q : Value → Shared → Prop} (S : St g s₀ cs ts s) (hc : cs ≠ []) (hi : (i, .int n) ∈ ts) (h : ∀ v s', St g s₀ cs ((v, .rng n) :: ts) s' → Q v s') : wpAny (model prog w) A (call (.type "range") [i]) Q E s := by
  obtain ⟨t, rfl⟩ := den_int (S.den hi)
  exact call_range_1 (h _ _ (S.newRng hc))
theorem den_rng {h : Heap} {v : Value} {n : Int} (x : Den h.get? v (.rng n)) : ∃ r t u k, v = .ref r ∧ IsRange h r 0 n 1 t u k := by
  cases x with | rng h1 => exact ⟨_, _, _, _, rfl, h1⟩
theorem rangeSize_nat (n : Nat) : Builtin.Range.rangeSize 0 (n : Int) 1 = (n : Int) := by
  unfold Builtin.Range.rangeSize
  have : ¬ (1 : Int) < 0 := by decide
  by_cases h : n = 0
  · subst h; rfl
  · have h1 : (0 : Int) < n := by omega
    rw [if_pos (by decide), if_pos h1]; omega
theorem small_nat {n : Nat} (h : n ≤ lim) : Builtin.Range.small 0 (n : Int) 1 = true := small_one (by decide) (by decide) (by omega) (by unfold lim at h; omega)
end
end
section
open PySem PySem.W PyProof.Rows PySem.Calls PySem.MeetsSeq PySem.AutoListH PySem.SeqAt

section
variable {K : Frag} {g : Heap} {mg mb : Str → Option Value} {s₀ s : Shared} {cs cs' : List (Addr × OD)} {ts ts' : List (Value × D)}
variable {prog : Program} {w : World} {A : Around} {E : Value → Shared → Prop} {env : Env}

theorem key_ne {a : Addr} {o : OD} {p : Addr × OD} (e : (((a, o) :: cs).map (·.1)).Nodup) (hp : p ∈ cs) : p.1 ≠ a := fun z => by
  have q : p.1 ∈ cs.map (·.1) := List.mem_map_of_mem hp
  rw [z] at q
  exact (List.nodup_cons.mp e).1 q
theorem noE {α : Type} {t : Sem α} {Q : α → Shared → Prop} (h : wpAny (model prog w) A t Q NoE s) : wpAny (model prog w) A t Q E s := wpAny_mono h (fun _ _ q => q) (fun _ _ q => q.elim)

/-- the end of a turn -/
noncomputable def TurnTo (g : Heap) (s₀ : Shared) (P : List (Addr × OD) → Prop) (it : Addr) (od : OD) (base : List (Value × D)) (fl : Flow) (s' : Shared) : Prop :=
  (fl = .next ∨ fl = .cont) ∧ ∃ cs ts, St g s₀ ((it, od) :: cs) ts s' ∧ (∀ p ∈ base, p ∈ ts) ∧ P cs
theorem TurnTo.next {P : List (Addr × OD) → Prop} {it : Addr} {od : OD} {base : List (Value × D)} (S : St g s₀ ((it, od) :: cs) ts s) (h : ∀ p ∈ base, p ∈ ts) (p : P cs) : TurnTo g s₀ P it od base .next s := ⟨.inl rfl, cs, ts, S, h, p⟩

/-- a turn of a loop over a list -/
noncomputable def LTurn (prog : Program) (w : World) (A : Around) (g : Heap) (s₀ : Shared) (env : Env) (target : Expr) (body : List Stmt) (ds : List D) (base : List (Value × D)) (P : Nat → List (Addr × OD) → Prop) : Prop :=
  ∀ i d v it od cs s, ds[i]? = some d → P i cs → St g s₀ ((it, od) :: cs) ((v, d) :: base) s →
    wpAny (model prog w) A (assign target env v) (fun _ s₂ => wpAny (model prog w) A (execs body env) (TurnTo g s₀ (P (i + 1)) it od base) NoE s₂) NoE s

theorem for_list_code {target : Expr} {body : List Stmt} {v : Value} {ds : List D} {base : List (Value × D)} {P : Nat → List (Addr × OD) → Prop} {Q : Flow → Shared → Prop} (hh : A.handled = none)
    (S : St g s₀ cs base s) (hc : cs ≠ []) (hv : (v, .list ds) ∈ base) (p0 : P 0 cs) (turn : LTurn prog w A g s₀ env target body ds base P)
    (hlet : ∀ {I l : Addr} {i : Nat} {s : Shared} {v : Value} {d : D} {Q : Unit → Shared → Prop}, d ∈ ds → Den s.heap.get? v d → s.heap.IsListIter I l i → Q () s → wpAny (model prog w) A (letOwnedTupleGo target (.ref I) v) Q NoE s)
    (done : ∀ cs s, P ds.length cs → St g s₀ cs base s → Q .next s) :
    wpAny (model prog w) A (pyIter v) (fun it s₂ => codeAny (model prog w) A (.forLoop target it body [] env) (fun r s' => match r with
      | .ok f => Q f s'
      | .error e => cameBackBy (model prog w) A env NoE e s') s₂) NoE s := by
  obtain ⟨l, vs, rfl, hl, hz, hlim⟩ := S.listOf hv
  refine wpAny_pyIter_list hl.isList ?_
  obtain ⟨⟨a₀, o₀⟩, r₀, rfl⟩ : ∃ p r, cs = p :: r := by cases cs with | nil => exact absurd rfl hc | cons p r => exact ⟨p, r, rfl⟩
  have S1 := S.alloc (t := s.toks) (o := { cls := .type "list_iterator", data := .fields #[.ref l, .int 0 0] }) (od := .iter l 0) rfl (fun V hV hts h a ha => ⟨_, ha, rfl, rfl⟩) (S.gsize (.head _))
  let it := s.heap.objs.size
  let I : Nat → Shared → Prop := fun n s => ∃ i cs, n + i = ds.length ∧ i ≤ ds.length ∧ P i cs ∧ St g s₀ ((it, .iter l i) :: cs) base s
  refine codeAny_forLoop_any I ?_ ds.length ⟨0, _, by omega, by omega, p0, S1⟩
  rintro n s' ⟨i, cs', hn, hi, hp, S'⟩
  obtain ⟨V, hV, hit⟩ := S'.own (.head _)
  obtain ⟨l2, vs', hl2, hl', hz', _⟩ := S'.listOf hv
  cases hl2
  by_cases hlt : i < ds.length
  · obtain ⟨d, hd⟩ : ∃ d, ds[i]? = some d := ⟨ds[i], by simp [hlt]⟩
    obtain ⟨l3, vs3, hl3, hpl, hz3, _, x, hx, S2⟩ := S'.item (v := .none) hv hd
    cases hl3
    refine wpAny_pyNext_list_item hit hpl.isList hx fun h' hit' hs => ?_
    have S3 : St g s₀ ((it, .iter l (i + 1)) :: cs') ((x, d) :: base) { s' with heap := h' } := S2.upd (t := s'.toks) (.head) hs fun V hV hts _ => hit'
    refine noE (wpAny_mono (hlet (List.mem_of_getElem? hd) (S3.den (.head _)) hit' ?_) (fun _ _ q => q) fun _ _ q => q.elim)
    refine noE (wpAny_mono (turn i d x it _ cs' _ hd hp S3) (fun _ s₂ h₂ => noE (wpAny_mono h₂ (fun f s₃ h₃ => ?_) fun _ _ q => q.elim)) fun _ _ q => q.elim)
    obtain ⟨hf, cs3, ts3, S4, hb, hp'⟩ := h₃
    have : ∃ m, m < n ∧ I m s₃ := ⟨n - 1, by omega, i + 1, cs3, by omega, by omega, hp', S4.tsub hb⟩
    rcases hf with rfl | rfl <;> exact this
  · have he : i = ds.length := by omega
    subst he
    refine wpAny_pyNext_list_end hh hit hl'.isList (by rw [Array.getElem?_eq_none_iff]; omega) fun h' hx => ?_
    refine wpAny_execs_nil ?_
    have S3 : St g s₀ ((it, .raw default) :: cs') base { s' with heap := h' } → True := fun _ => trivial
    obtain ⟨V, a, b, c, e, f, q⟩ := S'
    have hV0 : V it = none := (c _ (.head _)).1
    refine done cs' _ hp ⟨V, a, fun y oy z => hx y _ (by rintro rfl; rw [hV0] at z; cases z) (b _ _ z), fun p hp => ?_, (List.nodup_cons.mp e).2, f, by rw [q]⟩
    have hne : p.1 ≠ it := key_ne e hp
    exact ⟨(c p (.tail _ hp)).1, (c p (.tail _ hp)).2.1, (c p (.tail _ hp)).2.2.at fun o z => hx _ _ hne z⟩

theorem ex_for {target iter : Expr} {body : List Stmt} {pos : Pos} {Q : Flow → Shared → Prop}
    (h : wpAny (model prog w) A (eval iter env) (fun x s₁ => wpAny (model prog w) A (pyIter x) (fun it s₂ => codeAny (model prog w) A (.forLoop target it body [] env) (fun r s' => match r with
      | .ok f => Q f s'
      | .error e => cameBackBy (model prog w) A env NoE e s') s₂) NoE s₁) NoE s) (hs : ∀ x, foldedSetIterable iter env x = pure x := by intro _; rfl) :
    wpAny (model prog w) A (exec (.For target iter body [] pos) env) Q NoE s := wpAny_For h hs

/-- a turn of a loop over range(n) -/
noncomputable def RTurn (prog : Program) (w : World) (A : Around) (g : Heap) (s₀ : Shared) (env : Env) (target : Expr) (body : List Stmt) (n : Nat) (base : List (Value × D)) (P : Nat → List (Addr × OD) → Prop) : Prop :=
  ∀ (i : Nat) v it od cs s, i < n → P i cs → St g s₀ ((it, od) :: cs) ((v, .int i) :: base) s →
    wpAny (model prog w) A (assign target env v) (fun _ s₂ => wpAny (model prog w) A (execs body env) (TurnTo g s₀ (P (i + 1)) it od base) NoE s₂) NoE s

theorem for_range_code {target : Expr} {body : List Stmt} {v : Value} {n : Nat} {base : List (Value × D)} {P : Nat → List (Addr × OD) → Prop} {Q : Flow → Shared → Prop} (hh : A.handled = none)
    (S : St g s₀ cs ts s) (hc : cs ≠ []) (hv : (v, .rng n) ∈ ts) (hb : ∀ p ∈ base, p ∈ ts) (hn : n ≤ lim) (p0 : P 0 cs) (turn : RTurn prog w A g s₀ env target body n base P)
    (done : ∀ cs s, P n cs → St g s₀ cs base s → Q .next s) (hlet : ∀ it v, letOwnedTupleGo target it v = pure () := by intro _ _; rfl) :
    wpAny (model prog w) A (pyIter v) (fun it s₂ => codeAny (model prog w) A (.forLoop target it body [] env) (fun r s' => match r with
      | .ok f => Q f s'
      | .error e => cameBackBy (model prog w) A env NoE e s') s₂) NoE s := by
  obtain ⟨r, t, u, k, rfl, hr⟩ := den_rng (S.den hv)
  refine wpAny_pyIter_range hr (small_nat hn) ?_
  obtain ⟨⟨a₀, o₀⟩, r₀, rfl⟩ : ∃ p r, cs = p :: r := by cases cs with | nil => exact absurd rfl hc | cons p r => exact ⟨p, r, rfl⟩
  rw [rangeSize_nat]
  have S1 := (S.alloc (t := s.toks) (o := { cls := .type "range_iterator", data := .fields #[rawInt 0, rawInt n, rawInt 1] }) (od := .raw { cls := .type "range_iterator", data := .fields #[rawInt 0, rawInt n, rawInt 1] }) rfl (fun V hV hts h a ha => ha) (S.gsize (.head _))).tsub hb
  let it := s.heap.objs.size
  let ro : Nat → OD := fun i => .raw { cls := .type "range_iterator", data := .fields #[rawInt i, rawInt ((n : Int) - i), rawInt 1] }
  let I : Nat → Shared → Prop := fun m s => ∃ i cs, m + i = n ∧ i ≤ n ∧ P i cs ∧ St g s₀ ((it, ro i) :: cs) base s
  refine codeAny_forLoop_any I ?_ n ⟨0, _, by omega, by omega, p0, by simpa [ro] using S1⟩
  rintro m s' ⟨i, cs', hm, hi, hp, S'⟩
  obtain ⟨V, hV, hit⟩ := S'.own (.head _)
  have hit : IsRangeIter s'.heap it i ((n : Int) - i) 1 := hit
  by_cases hlt : i < n
  · refine wpAny_pyNext_range_item hit (by omega) fun h' hit' hs => ?_
    have e1 : (i : Int) + 1 = ((i + 1 : Nat) : Int) := by omega
    have e2 : (n : Int) - i - 1 = (n : Int) - ((i + 1 : Nat) : Int) := by omega
    rw [e1, e2] at hit'
    have S3 : St g s₀ ((it, ro (i + 1)) :: cs') ((.int i s'.toks, .int i) :: base) { s' with heap := h', toks := s'.toks + 1 } := (S'.upd (t := s'.toks + 1) (o' := ro (i + 1)) (.head) hs fun V hV hts _ => hit').tint _ _
    dsimp only
    rw [hlet]
    refine wpAny_pure ?_
    refine noE (wpAny_mono (turn i _ it _ cs' _ hlt hp S3) (fun _ s₂ h₂ => noE (wpAny_mono h₂ (fun f s₃ h₃ => ?_) fun _ _ q => q.elim)) fun _ _ q => q.elim)
    obtain ⟨hf, cs3, ts3, S4, hb, hp'⟩ := h₃
    have : ∃ k, k < m ∧ I k s₃ := ⟨m - 1, by omega, i + 1, cs3, by omega, by omega, hp', S4.tsub hb⟩
    rcases hf with rfl | rfl <;> exact this
  · have he : i = n := by omega
    subst he
    refine wpAny_pyNext_range_end hh hit (by omega) fun h' hx => ?_
    refine wpAny_execs_nil ?_
    obtain ⟨V, a, b, c, e, f, q⟩ := S'
    have hV0 : V it = none := (c _ (.head _)).1
    refine done cs' _ hp ⟨V, a, fun y oy z => hx y _ (by rintro rfl; rw [hV0] at z; cases z) (b _ _ z), fun p hp => ?_, (List.nodup_cons.mp e).2, f, by rw [q]⟩
    have hne : p.1 ≠ it := key_ne e hp
    exact ⟨(c p (.tail _ hp)).1, (c p (.tail _ hp)).2.1, (c p (.tail _ hp)).2.2.at fun o z => hx _ _ hne z⟩
end
end
section
open PySem PySem.W PyProof.Rows PySem.Calls PySem.MeetsSeq PySem.AutoListH PySem.SeqAt

section
variable {K : Frag} {g : Heap} {mg mb : Str → Option Value} {s₀ s : Shared} {cs cs' : List (Addr × OD)} {ts ts' : List (Value × D)}
variable {prog : Program} {w : World} {A : Around} {E : Value → Shared → Prop} {env : Env}

theorem St.dropX {l r : List (Addr × OD)} {a : Addr} {o : OD} {h' : Heap} {t : Nat} (S : St g s₀ (l ++ (a, o) :: r) ts s) (hx : Heap.ExtBut a s.heap h') : St g s₀ (l ++ r) ts { s with heap := h', toks := t } := by
  have S := S.perm (cs' := (a, o) :: (l ++ r)) List.perm_middle.symm
  obtain ⟨V, x, b, c, e, f, q⟩ := S
  have hV0 : V a = none := (c _ (.head _)).1
  refine ⟨V, x, fun y oy z => hx y _ (by rintro rfl; rw [hV0] at z; cases z) (b _ _ z), fun p hp => ?_, (List.nodup_cons.mp e).2, f, by rw [q]⟩
  have hne : p.1 ≠ a := key_ne e hp
  exact ⟨(c p (.tail _ hp)).1, (c p (.tail _ hp)).2.1, (c p (.tail _ hp)).2.2.at fun o z => hx _ _ hne z⟩

/-- what is known may be forgotten -/
theorem St.weak {a : Addr} {o o' : OD} (S : St g s₀ cs ts s) (U : Upd a o o' cs cs') (h : ∀ V h, Own V h a o → Own V h a o') : St g s₀ cs' ts s := by
  have := S.upd (h' := s.heap) (t := s.toks) U (Heap.SameBut.refl _ _) fun V _ _ q => h V _ q
  exact this
theorem St.names {a : Addr} {ls ls' : List (Str × D)} (S : St g s₀ cs ts s) (U : Upd a (.names ls) (.names ls') cs cs') (h : ∀ p ∈ ls', p ∈ ls) : St g s₀ cs' ts s :=
  S.weak U fun V hp ⟨m, hm, q⟩ => ⟨m, hm, fun p hp => q p (h p hp)⟩

structure Walker (prog : Program) (w : World) (A : Around) (g : Heap) (s₀ : Shared) (it : Addr) (n : Nat) (val : Nat → D) (od : Nat → OD) (base : List (Value × D)) : Prop where
  next : ∀ i cs cs' s (Q : Option Value → Shared → Prop), i < n → Upd it (od i) (od (i + 1)) cs cs' → St g s₀ cs base s → (∀ v s', St g s₀ cs' ((v, val i) :: base) s' → Q (some v) s') → wpAny (model prog w) A (pyNext (.ref it)) Q NoE s
  last : ∀ l r s (Q : Option Value → Shared → Prop), St g s₀ (l ++ (it, od n) :: r) base s → (∀ s', St g s₀ (l ++ r) base s' → Q none s') → wpAny (model prog w) A (pyNext (.ref it)) Q NoE s
  self : ∀ i cs s (Q : Value → Shared → Prop), (it, od i) ∈ cs → St g s₀ cs base s → (∀ s', St g s₀ cs base s' → Q (.ref it) s') → wpAny (model prog w) A (pyIter (.ref it)) Q NoE s

theorem iter_list {v : Value} {ds : List D} {base : List (Value × D)} {Q : Value → Shared → Prop} (hh : A.handled = none) (S : St g s₀ cs ts s) (hc : cs ≠ []) (hv : (v, .list ds) ∈ base) (hb : ∀ p ∈ base, p ∈ ts)
    (h : ∀ it od s', St g s₀ ((it, od 0) :: cs) base s' → Walker prog w A g s₀ it ds.length (fun i => ds.getD i (.val .none)) od base → Q (.ref it) s') : wpAny (model prog w) A (pyIter v) Q NoE s := by
  have S := S.tsub hb
  obtain ⟨l, vs, rfl, hl, hz, hlim⟩ := S.listOf hv
  refine wpAny_pyIter_list hl.isList ?_
  obtain ⟨⟨a₀, o₀⟩, r₀, rfl⟩ : ∃ p r, cs = p :: r := by cases cs with | nil => exact absurd rfl hc | cons p r => exact ⟨p, r, rfl⟩
  have S1 := S.alloc (t := s.toks) (o := { cls := .type "list_iterator", data := .fields #[.ref l, .int 0 0] }) (od := .iter l 0) rfl (fun V hV hts h a ha => ⟨_, ha, rfl, rfl⟩) (S.gsize (.head _))
  refine h _ (fun i => .iter l i) _ S1 ⟨fun i cs cs' s Q hi U S' q => ?_, fun l1 r1 s Q S' q => ?_, fun i cs s Q hm S' q => ?_⟩
  · obtain ⟨V, hV, hit⟩ := S'.own U.mem
    have hd : ds[i]? = some (ds.getD i (.val .none)) := by simp [List.getD, hi]
    obtain ⟨l3, vs3, hl3, hpl, hz3, _, x, hx, S2⟩ := S'.item (v := .none) hv hd
    cases hl3
    exact wpAny_pyNext_list_item hit hpl.isList hx fun h' hit' hs => q _ _ (S2.upd (t := s.toks) U hs fun V hV hts _ => hit')
  · obtain ⟨V, hV, hit⟩ := S'.own (List.mem_append_right _ (.head _))
    obtain ⟨l2, vs', hl2, hl', hz', _⟩ := S'.listOf hv
    cases hl2
    exact wpAny_pyNext_list_end hh hit hl'.isList (by rw [Array.getElem?_eq_none_iff]; omega) fun h' hx => q _ (S'.dropX (t := s.toks) hx)
  · obtain ⟨V, hV, hit⟩ := S'.own hm
    exact wpAny_pyIter_listiter hit (q _ S')
theorem iter_range {v : Value} {n : Nat} {base : List (Value × D)} {Q : Value → Shared → Prop} (hh : A.handled = none) (S : St g s₀ cs ts s) (hc : cs ≠ []) (hv : (v, .rng n) ∈ ts) (hb : ∀ p ∈ base, p ∈ ts) (hn : n ≤ lim)
    (h : ∀ it od s', St g s₀ ((it, od 0) :: cs) base s' → Walker prog w A g s₀ it n (fun i => .int i) od base → Q (.ref it) s') : wpAny (model prog w) A (pyIter v) Q NoE s := by
  obtain ⟨r, t, u, k, rfl, hr⟩ := den_rng (S.den hv)
  refine wpAny_pyIter_range hr (small_nat hn) ?_
  obtain ⟨⟨a₀, o₀⟩, r₀, rfl⟩ : ∃ p r, cs = p :: r := by cases cs with | nil => exact absurd rfl hc | cons p r => exact ⟨p, r, rfl⟩
  rw [rangeSize_nat]
  have S1 := (S.alloc (t := s.toks) (o := { cls := .type "range_iterator", data := .fields #[rawInt 0, rawInt n, rawInt 1] }) (od := .raw { cls := .type "range_iterator", data := .fields #[rawInt 0, rawInt n, rawInt 1] }) rfl (fun V hV hts h a ha => ha) (S.gsize (.head _))).tsub hb
  let ro : Nat → OD := fun i => .raw { cls := .type "range_iterator", data := .fields #[rawInt i, rawInt ((n : Int) - i), rawInt 1] }
  refine h _ ro _ (by simpa [ro] using S1) ⟨fun i cs cs' s Q hi U S' q => ?_, fun l1 r1 s Q S' q => ?_, fun i cs s Q hm S' q => ?_⟩
  · obtain ⟨V, hV, hit⟩ := S'.own U.mem
    have hit : IsRangeIter s.heap _ i ((n : Int) - i) 1 := hit
    refine wpAny_pyNext_range_item hit (by omega) fun h' hit' hs => ?_
    have e1 : (i : Int) + 1 = ((i + 1 : Nat) : Int) := by omega
    have e2 : (n : Int) - i - 1 = (n : Int) - ((i + 1 : Nat) : Int) := by omega
    rw [e1, e2] at hit'
    exact q _ _ ((S'.upd (t := s.toks + 1) (o' := ro (i + 1)) U hs fun V hV hts _ => hit').tint _ _)
  · obtain ⟨V, hV, hit⟩ := S'.own (List.mem_append_right _ (.head _))
    have hit : IsRangeIter s.heap _ n ((n : Int) - n) 1 := hit
    exact wpAny_pyNext_range_end hh hit (by omega) fun h' hx => q _ (S'.dropX (t := s.toks) hx)
  · obtain ⟨V, hV, hit⟩ := S'.own hm
    have hit : IsRangeIter s.heap _ i ((n : Int) - i) 1 := hit
    exact wpAny_pyIter_rangeiter hit (q _ S')

noncomputable def cEnv (scope : Scope) (env : Env) (cl : List (Str × Addr)) (Lc : Addr) : Env := { newEnv scope Lc env.globals cl env.qual none .none (some env) builtinsNs with scope := relabel scope env }

/-- one element of a comprehension -/
noncomputable def CTurn (prog : Program) (w : World) (A : Around) (g : Heap) (s₀ : Shared) (cenv : Addr → Env) (x : Str) (ifs : List Expr) (elt : Expr) (n : Nat) (val : Nat → D) (base : List (Value × D)) (P : Nat → List D → List (Addr × OD) → Prop) : Prop :=
  ∀ i v Lc it od acc oda cs rs s, i < n → P i rs cs → St g s₀ ((Lc, .names [(x, val i)]) :: (acc, oda) :: (it, od) :: cs) ((v, val i) :: base) s →
    wpAny (model prog w) A (forIn ifs true fun c r => if r = true then do let ok ← isTrue c (cenv Lc) (eval c (cenv Lc)); pure (ForInStep.yield ok) else pure (ForInStep.yield r)) (fun ok s₁ =>
      if ok = true then wpAny (model prog w) A (eval elt (cenv Lc)) (fun y s₂ => ∃ cs' ts' ls' d, St g s₀ ((Lc, .names ls') :: (acc, oda) :: (it, od) :: cs') ts' s₂ ∧ (∀ p ∈ base, p ∈ ts') ∧ (y, d) ∈ ts' ∧ P (i + 1) (rs ++ [d]) cs') NoE s₁
      else ∃ cs' ts' ls', St g s₀ ((Lc, .names ls') :: (acc, oda) :: (it, od) :: cs') ts' s₁ ∧ (∀ p ∈ base, p ∈ ts') ∧ P (i + 1) rs cs') NoE s

theorem comp_gen {elt iter : Expr} {x : Str} {px : Pos} {ifs : List Expr} {scope : Scope} {pos pos' : Pos} {cl : List (Str × Addr)} {use : Option (Value → Sem Unit)} {Q : Value → Shared → Prop}
    (hclos : closureFor scope env = pure cl) (hcell : ∀ y ∈ scope.names, y.2 ≠ .cell) (hkind : scope.kind = .function) (hnames : ∀ y ∈ scope.names, y.2 = .local → scope.names.lookup y.1 = some .local)
    (hx : ∀ Lc, (cEnv scope env cl Lc).kindOf x = some .local)
    (h : wpAny (model prog w) A (eval iter env) (fun xv s₁ => wpAny (model prog w) A (pyIter xv) (fun itv s₂ => ∃ (it : Addr) (n : Nat) (val : Nat → D) (od : Nat → OD) (base : List (Value × D)) (cs : List (Addr × OD)) (P : Nat → List D → List (Addr × OD) → Prop),
      itv = .ref it ∧ Walker prog w A g s₀ it n val od base ∧ n ≤ lim ∧ St g s₀ ((it, od 0) :: cs) base s₂ ∧ P 0 [] cs ∧ CTurn prog w A g s₀ (cEnv scope env cl) x ifs elt n val base P ∧
      ∀ acc Lc cs rs s, P n rs cs → St g s₀ ((Lc, .names []) :: (acc, .list rs) :: cs) base s → compPost (model prog w) A NoE use Q (.ref acc) Lc (.ok .next) s) NoE s₁) NoE s)
    (hs : ∀ x, foldedSetIterable iter env x = pure x := by intro _; rfl) :
    wpAny (model prog w) A (comprehension (.ListComp elt [⟨.Name x px, iter, ifs, 0⟩] scope pos) scope env pos' (newList []) false (eval iter env) use) Q NoE s := by
  refine wpAny_comprehension_free (g := ⟨.Name x px, iter, ifs, 0⟩) (gs := []) rfl hs hclos hkind hnames ?_
  refine wpAny_mono h (fun xv s₁ h1 => wpAny_mono h1 (fun itv s₂ h2 => ?_) fun _ _ q => q) fun _ _ q => q
  obtain ⟨it, n, val, od, base, cs, P, rfl, W, hn, S, p0, turn, done⟩ := h2
  refine wpAny_newList ?_ (by simp)
  have S1 := S.newL (n := 0) (t := s₂.toks) (vs := []) (ds := []) (by simp) (fun V _ _ => .nil) (by simp)
  generalize hacc : s₂.heap.objs.size = acc at S1
  refine wpAny_newFunctionEnv hcell (by simp) (fun h' hns hsb => ?_) hkind
  have S2 : ∃ Lc, Lc = (s₂.heap.push { cls := .type "list", data := .seq [].toArray }).objs.size ∧ St g s₀ ((Lc, .names []) :: (acc, .list []) :: (it, od 0) :: cs) base { s₂ with heap := h', toks := s₂.toks + ([] : List (Str × Value)).length } := by
    refine ⟨_, rfl, ?_⟩
    have q := S1.alloc (t := s₂.toks) (o := { cls := .type "dict", data := .dict #[] }) (od := .raw { cls := .type "dict", data := .dict #[] }) rfl (fun V hV hts h a ha => ha) (S1.gsize (.head _))
    have r := q.upd (t := s₂.toks) (o' := .names []) .head hsb fun V hV hts _ => ⟨_, hns, fun p hp => by cases hp⟩
    exact r
  obtain ⟨Lc, hLc, S2⟩ := S2
  rw [← hLc]
  have hloc : (cEnv scope env cl Lc).locals = Lc := rfl
  have hsk : (cEnv scope env cl Lc).scope.kind = .function := hkind
  have loop : ∀ s, St g s₀ ((Lc, .names []) :: (acc, .list []) :: (it, od 0) :: cs) base s →
      codeAny (model prog w) A (.compLoop (.ListComp elt [⟨.Name x px, iter, ifs, 0⟩] scope pos) 0 (.ref it) (.ref acc) (cEnv scope env cl Lc)) (compPost (model prog w) A NoE use Q (.ref acc) Lc) s := by
    intro s S3
    let I : Nat → Shared → Prop := fun m s => ∃ i cs rs, m + i = n ∧ i ≤ n ∧ rs.length ≤ i ∧ P i rs cs ∧ St g s₀ ((Lc, .names []) :: (acc, .list rs) :: (it, od i) :: cs) base s
    refine codeAny_compLoop_tests I ?_ n ⟨0, cs, [], by omega, by omega, by simp, p0, S3⟩
    rintro m s' ⟨i, cs', rs, hm, hi, hr, hp, S'⟩
    by_cases hlt : i < n
    · refine noE (W.next i _ _ s' _ hlt (.tail (.tail .head)) S' fun v s5 S5 => ?_)
      dsimp only
      refine wpAny_assign_Name ?_
      refine st_local S5 (.head _) .head .nil (fun s6 S6 => ?_) hsk (hx Lc)
      refine noE (wpAny_mono (turn i v Lc it _ acc _ cs' rs s6 hlt hp S6) (fun ok s7 h7 => ?_) fun _ _ q => q)
      cases ok with
      | false =>
        obtain ⟨cs7, ts7, ls7, S7, hb, hp7⟩ := h7
        exact ⟨m - 1, by omega, i + 1, cs7, rs, by omega, by omega, by omega, hp7, (S7.tsub hb).names .head (fun p hp => by cases hp)⟩
      | true =>
        refine noE (wpAny_mono h7 (fun y s8 h8 => ?_) fun _ _ q => q)
        obtain ⟨cs8, ts8, ls8, d, S8, hb, hy, hp8⟩ := h8
        obtain ⟨V, hV, vs, ⟨k, ha⟩, hd, hl⟩ := S8.own (.tail _ (.head _))
        refine wpAny_list_append_plain ⟨k, ha⟩ (fun h' ha' hs => ?_) (by have h1 := hd.length; have h2 := lim_line; simp at h1; omega)
        have S9 := S8.upd (t := s8.toks) (o' := .list (rs ++ [d])) (.tail .head) hs fun V hV hts ⟨vs', ⟨k', ha2⟩, hd2, hl2⟩ => by
          rw [ha] at ha2; cases ha2
          exact ⟨_, ha', by simpa using hd2.append (.cons (hts _ hy) .nil), by simp; omega⟩
        exact ⟨m - 1, by omega, i + 1, cs8, rs ++ [d], by omega, by omega, by simp; omega, hp8, (S9.tsub hb).names .head (fun p hp => by cases hp)⟩
    · have he : i = n := by omega
      subst he
      exact noE (W.last [(Lc, .names []), (acc, .list rs)] cs' s' _ S' fun s5 S5 => done acc Lc cs' rs _ hp S5)
  refine codeAny_compStart_list (loop _ S2) (noE ?_)
  exact W.self 0 _ _ _ (.tail _ (.tail _ (.head _))) S2 fun s' S' => loop s' S'

theorem comp_core {elt iter : Expr} {x : Str} {px : Pos} {ifs : List Expr} {scope : Scope} {pos : Pos} {cl : List (Str × Addr)} {Q : Value → Shared → Prop}
    (hclos : closureFor scope env = pure cl) (hcell : ∀ y ∈ scope.names, y.2 ≠ .cell) (hkind : scope.kind = .function) (hnames : ∀ y ∈ scope.names, y.2 = .local → scope.names.lookup y.1 = some .local)
    (hx : ∀ Lc, (cEnv scope env cl Lc).kindOf x = some .local)
    (h : wpAny (model prog w) A (eval iter env) (fun xv s₁ => wpAny (model prog w) A (pyIter xv) (fun itv s₂ => ∃ (it : Addr) (n : Nat) (val : Nat → D) (od : Nat → OD) (base : List (Value × D)) (cs : List (Addr × OD)) (P : Nat → List D → List (Addr × OD) → Prop),
      itv = .ref it ∧ Walker prog w A g s₀ it n val od base ∧ n ≤ lim ∧ St g s₀ ((it, od 0) :: cs) base s₂ ∧ P 0 [] cs ∧ CTurn prog w A g s₀ (cEnv scope env cl) x ifs elt n val base P ∧
      ∀ a cs rs s, P n rs cs → St g s₀ ((a, .list rs) :: cs) base s → Q (.ref a) s) NoE s₁) NoE s)
    (hs : ∀ x, foldedSetIterable iter env x = pure x := by intro _; rfl) :
    wpAny (model prog w) A (eval (.ListComp elt [⟨.Name x px, iter, ifs, 0⟩] scope pos) env) Q NoE s := by
  rw [eval_ListComp]
  refine comp_gen (g := g) (s₀ := s₀) hclos hcell hkind hnames hx (wpAny_mono h (fun xv s₁ h1 => wpAny_mono h1 (fun itv s₂ h2 => ?_) fun _ _ q => q) fun _ _ q => q) hs
  obtain ⟨it, n, val, od, base, cs, P, h1, h2, h3, h4, h5, h6, done⟩ := h2
  refine ⟨it, n, val, od, base, cs, P, h1, h2, h3, h4, h5, h6, fun acc Lc cs' rs s5 hp S5 => ?_⟩
  show ∃ m, s5.heap.Ns Lc m ∧ ∀ h', Heap.SameBut Lc s5.heap h' → Q (.ref acc) { s5 with heap := h' }
  obtain ⟨V, hV, m', hm', _⟩ := S5.own (.head _)
  exact ⟨m', hm', fun h' hs => done acc cs' rs _ hp (St.dropX (l := []) (t := s5.toks) S5 hs.extBut)⟩

/-- y = [..], y a local on the same line -/
theorem comp_assign {elt iter : Expr} {x y : Str} {px py : Pos} {ifs : List Expr} {scope : Scope} {pos spos : Pos} {cl : List (Str × Addr)} {Q : Flow → Shared → Prop}
    (hsw : swapsWith (.ListComp elt [⟨.Name x px, iter, ifs, 0⟩] scope pos) (some (.Name y py)) spos.line env = pure true)
    (hclos : closureFor scope env = pure cl) (hcell : ∀ y ∈ scope.names, y.2 ≠ .cell) (hkind : scope.kind = .function) (hnames : ∀ y ∈ scope.names, y.2 = .local → scope.names.lookup y.1 = some .local)
    (hx : ∀ Lc, (cEnv scope env cl Lc).kindOf x = some .local) (hek : env.scope.kind = .function) (hy : env.kindOf y = some .local)
    (h : wpAny (model prog w) A (eval iter env) (fun xv s₁ => wpAny (model prog w) A (pyIter xv) (fun itv s₂ => ∃ (it : Addr) (n : Nat) (val : Nat → D) (od : Nat → OD) (base : List (Value × D)) (cs : List (Addr × OD)) (P : Nat → List D → List (Addr × OD) → Prop),
      itv = .ref it ∧ Walker prog w A g s₀ it n val od base ∧ n ≤ lim ∧ St g s₀ ((it, od 0) :: cs) base s₂ ∧ P 0 [] cs ∧ CTurn prog w A g s₀ (cEnv scope env cl) x ifs elt n val base P ∧
      ∀ cs rs, P n rs cs → ∃ ls ls' cs', Upd env.locals (.names ls) (.names ls') cs cs' ∧ SetN y (.list rs) ls ls' ∧ ∀ v s', St g s₀ cs' ((v, .list rs) :: base) s' → Q .next s') NoE s₁) NoE s)
    (hs : ∀ x, foldedSetIterable iter env x = pure x := by intro _; rfl) :
    wpAny (model prog w) A (exec (.Assign [.Name y py] (.ListComp elt [⟨.Name x px, iter, ifs, 0⟩] scope pos) spos) env) Q NoE s := by
  rw [exec_Assign_Name_used _ _ _ _ hsw]
  refine wpAny_bind (wpAny_standAt (wpAny_bind ?_))
  show wpAny _ A (do let _ ← comprehension (.ListComp elt [⟨.Name x px, iter, ifs, 0⟩] scope pos) scope env _ (newList []) false (eval iter env) (some (assign (.Name y py) env))) _ _ s
  refine wpAny_bind (wpAny_mono (comp_gen (g := g) (s₀ := s₀) (use := some (assign (.Name y py) env)) (Q := fun _ s' => Q .next s') hclos hcell hkind hnames hx (wpAny_mono h (fun xv s₁ h1 => wpAny_mono h1 (fun itv s₂ h2 => ?_) fun _ _ q => q) fun _ _ q => q) hs)
    (fun _ s' hq => wpAny_pure (wpAny_pure hq)) fun _ _ e => e)
  obtain ⟨it, n, val, od, base, cs, P, h1, h2, h3, h4, h5, h6, done⟩ := h2
  refine ⟨it, n, val, od, base, cs, P, h1, h2, h3, h4, h5, h6, fun acc Lc cs' rs s5 hp S5 => ?_⟩
  obtain ⟨ls, ls', cs'', U, hN, q⟩ := done cs' rs hp
  show wpAny _ A (assign (.Name y py) env (.ref acc)) _ _ _
  have S6 := (S5.perm (cs' := (acc, .list rs) :: (Lc, .names []) :: cs') (.swap ..)).freezeList
  refine wpAny_assign_Name (st_local S6 (.head _) (.tail U) hN (fun s7 S7 => ?_) hek hy)
  obtain ⟨V, hV, m', hm', _⟩ := S7.own (.head _)
  exact ⟨m', hm', fun h' hs => q _ _ (St.dropX (l := []) (t := s7.toks) S7 hs.extBut)⟩
end
end
section
open PySem PySem.W PyProof.Rows PySem.Calls PySem.MeetsSeq PySem.AutoListH PySem.SeqAt

/-- what is asked of the players' class -/
structure PC (K : Frag) : Prop where
  pg : plainGet K cP "" = true
  hd : hasDictIn K cP = true
  sa : findIn K (.ref cP) "__setattr__" = some (some (.builtin "object.__setattr__"))
  po : plainOver K cP = true
  eq : findIn K (.ref cP) "__eq__" = some (some (.builtin "object.__eq__"))
  ne : findIn K (.ref cP) "__ne__" = some (some (.builtin "object.__ne__"))

theorem putName_facts {o : Obj} {es : Array DictEntry} {ep : Nat} {name : Str} {hash : Int} {t : Tok} {v : Value} (hd : o.data = .dict es ep) (hk : StrKeys es) :
    ∃ es' ep', (Obj.putName name hash (.str name t) v o).data = .dict es' ep' ∧ StrKeys es' ∧ (∀ x, nsFind es' x = if x = name then some v else nsFind es x) ∧ es'.size ≤ es.size + 1 ∧ (nsFind es name ≠ none → es'.size = es.size) := by
  obtain ⟨c, d, dt, sl⟩ := o
  dsimp only at hd
  subst hd
  cases hi : es.findIdx? (·.key.isStr name) with
  | some i =>
    refine ⟨_, ep, by simp only [Obj.putName_eq, Obj.putNameByArray, hi], hk.modify i v, fun x => findBy_modify (fun n v => v.isStr n) Value.isStr_inj es name x v i hi, by simp, fun _ => by simp⟩
  | none =>
    refine ⟨_, ep + 1, by simp only [Obj.putName_eq, Obj.putNameByArray, hi]; rfl, hk.push _ _ _ _, fun x => ?_, by simp, fun h => absurd ?_ h⟩
    · exact findBy_push (fun n v => v.isStr n) es name x _ _ v (fun y => by
        show (name == y) = decide (y = name)
        by_cases h : y = name
        · subst h; simp
        · have : ¬ name = y := fun e => h e.symm
          simp [h, this]) hi
    · unfold nsFind findBy
      have : es.find? (fun e => e.key.isStr name) = none := by
        rw [Array.find?_eq_none]; intro e he
        simpa using (Array.findIdx?_eq_none_iff.mp hi) e he
      rw [this]; rfl
theorem lookIn_ns {o : Obj} {es : Array DictEntry} {ep : Nat} (hd : o.data = .dict es ep) (hk : StrKeys es) (name : Str) : lookIn name o = some (nsFind es name) := by
  unfold lookIn
  rw [hd]
  dsimp only
  have e : nsFind es name = (es.toList.find? (·.key.isStr name)).map (·.val) := by
    unfold nsFind findBy; rw [← Array.find?_toList]
  rw [e]
  cases q : es.toList.find? (·.key.isStr name) with
  | some x => rfl
  | none =>
    have : es.toList.any (·.refKey) = false := by
      rw [Array.any_toList, Array.any_eq_false']; intro e he; obtain ⟨n, t, h⟩ := hk e he; simp [DictEntry.refKey, h]
    dsimp only [Option.map]
    rw [this]; rfl

section
variable {K : Frag} {g : Heap} {mg mb : Str → Option Value} {s₀ s : Shared} {cs cs' : List (Addr × OD)} {ts ts' : List (Value × D)}
variable {prog : Program} {w : World} {A : Around} {E : Value → Shared → Prop} {env : Env}

theorem St.inst {v : Value} {x dx : Addr} {k : Nat} {f : Str → Option D} (S : St g s₀ cs ts s) (hv : (v, .obj x dx) ∈ ts) (ha : (dx, .attrs k f) ∈ cs) :
    ∃ od, v = .ref x ∧ InstAt s.heap x (instObj cP dx) cP (some od) ∧ s.heap.get? dx = some od := by
  obtain ⟨rfl, hx⟩ := den_obj (S.den hv)
  obtain ⟨V, hV, o, es, ep, ho, _⟩ := S.own ha
  exact ⟨o, rfl, ⟨hx, rfl, rfl, ho⟩, ho⟩

theorem a_get {v : Value} {x dx : Addr} {k : Nat} {f : Str → Option D} {d : D} {name : Str} {attr : Option Value} {expr : Bool} {Q : Value → Shared → Prop} (S : St g s₀ cs ts s) (G : Gd K g mg mb) (C : PC K)
    (hv : (v, .obj x dx) ∈ ts) (ha : (dx, .attrs k f) ∈ cs) (hf : f name = some d) (hn : findIn K (.ref cP) name = some attr) (hng : noGet K attr = true) (hh : ∀ V u, Den V u d → handedIn u = true)
    (h : ∀ u s', St g s₀ cs ((u, d) :: ts) s' → Q u s') : wpAny (model prog w) A (getAttr v name expr) Q E s := by
  obtain ⟨od, rfl, I, ho⟩ := S.inst hv ha
  have X := S.kin G
  have hpg := plainGet_of C.pg
  obtain ⟨V, a, b, c, n, e, q⟩ := S
  obtain ⟨o, es, ep, ho', hd, hk, hs, hall⟩ := (c _ ha).2.2
  rw [ho] at ho'; cases ho'
  have := hall name
  rw [hf] at this
  obtain ⟨u, hu, hD⟩ := this
  refine get_value X I hpg.1 (findObj_own C.hd hn hng ((lookIn_ns hd hk name).trans (by rw [hu]))) (hh _ _ hD) (h u _ ?_)
  refine St.toks ?_
  refine ⟨V, a, b, c, n, fun p hp => ?_, q⟩
  rcases List.mem_cons.mp hp with rfl | hp
  · exact hD
  · exact e p hp
theorem a_meth {v : Value} {x dx : Addr} {k : Nat} {f : Str → Option D} {name : Str} {fa : Addr} {pl : Sem Bool} {Q : Value × List Value → Shared → Prop} (S : St g s₀ cs ts s) (G : Gd K g mg mb) (C : PC K)
    (hv : (v, .obj x dx) ∈ ts) (ha : (dx, .attrs k f) ∈ cs) (hf : f name = none) (hn : findIn K (.ref cP) name = some (some (.ref fa))) (ht : isFn K (.ref fa) = true)
    (h : Q (.ref fa, [v]) s) : wpAny (model prog w) A (getMethod v name pl) Q E s := by
  obtain ⟨od, rfl, I, ho⟩ := S.inst hv ha
  have hpg := plainGet_of C.pg
  obtain ⟨V, hV, o, es, ep, ho', hd, hk, hs, hall⟩ := S.own ha
  rw [ho] at ho'; cases ho'
  have := hall name
  rw [hf] at this
  refine method_fn (S.kin G) I hpg.1 hpg.2 hn (beq_iff_eq.mp ht) ?_ h
  show (lookIn name od).map _ = _
  rw [lookIn_ns hd hk name, this]; rfl

noncomputable def setF (f : Str → Option D) (name : Str) (d : D) : Str → Option D := fun y => if y = name then some d else f y

theorem a_set {v u : Value} {x dx : Addr} {k k' : Nat} {f : Str → Option D} {d : D} {name : Str} {Q : Unit → Shared → Prop} (S : St g s₀ cs ts s) (G : Gd K g mg mb) (C : PC K)
    (hv : (v, .obj x dx) ∈ ts) (hu : (u, d) ∈ ts) (U : Upd dx (.attrs k f) (.attrs k' (setF f name d)) cs cs') (hk' : k + 1 = k' ∨ (k = k' ∧ (f name).isSome = true)) (hkb : k' ≤ 1000)
    (ht : takerIn K cP name = some none) (h : ∀ s', St g s₀ cs' ts s' → Q () s') : wpAny (model prog w) A (setAttr v name u) Q E s := by
  obtain ⟨od, rfl, I, ho⟩ := S.inst hv U.mem
  refine set_plain (S.kin G) I C.sa (osa_open (St.kin S.toks G) I C.po ht fun b => ?_)
  obtain ⟨V, hV, o, es, ep, ho', hd, hk, hs, hall⟩ := S.own U.mem
  rw [ho] at ho'; cases ho'
  obtain ⟨cd, hc, hd'⟩ := any_some C.hd
  have X := S.kin G
  refine wpAny_bind (wpAny_pure (wpAny_bind (wpAny_bind (wpAny_loadPart I.at_ (wpAny_bind ((looks_clsIn (St.kin (S.toks (t := s.toks + 1)) G) hc).here ?_))))))
  rw [hd']
  refine wpAny_pure (a := some dx) (wpAny_bind (wpAny_pure (wpAny_bind ?_)))
  unfold nsSet
  refine wpAny_bind (wpAny_bind (wpAny_askSetting (wpAny_pure (wpAny_bind (wpAny_mkText (wpAny_bind (wpAny_loadPart ho ?_)))))))
  rw [hd]
  dsimp only
  have hany : es.any (·.refKey) = false := by
    rw [Array.any_eq_false']; intro e he; obtain ⟨n, t, h⟩ := hk e he; simp [DictEntry.refKey, h]
  have c : (!es.any (·.key.isStr name) && es.any (·.refKey)) = false := by rw [hany, Bool.and_false]
  rw [aRefKeyMayBeTheName_at, c]
  refine wpAny_updatePart ho ?_
  obtain ⟨es', ep', q1, q2, q3, q4, q5⟩ := putName_facts (hash := PyData.keyHash w.params name) (t := s.toks + 1) (v := u) hd hk (name := name)
  have hsz : es'.size ≤ k' := by
    rcases hk' with rfl | ⟨rfl, hs'⟩
    · omega
    · have := hall name
      cases z : f name with
      | none => rw [z] at hs'; cases hs'
      | some d₀ =>
        rw [z] at this
        obtain ⟨v₀, e1, _⟩ := this
        rw [q5 (by rw [e1]; exact nofun)]; exact hs
  have D' := Heap.get?_update_self (h := s.heap) (Obj.putName name (PyData.keyHash w.params name) (.str name (s.toks + 1)) u) ho (Obj.isFreed_of_dict q1)
  refine wpAny_bind (wpAny_lookBehind D' (by rw [q1]; exact pastItsLine_dict (by rw [sizeLine_eq]; omega)) ?_)
  refine wpAny_pure (h _ ?_)
  have := S.upd (t := s.toks + 1 + 1) (o' := .attrs k' (setF f name d)) U (Heap.SameBut.update s.heap dx (Obj.putName name (PyData.keyHash w.params name) (.str name (s.toks + 1)) u)) fun V' hV' hts ⟨o2, es2, ep2, r1, r2, r3, r4, r5⟩ => by
    rw [ho] at r1; cases r1
    rw [hd] at r2; cases r2
    refine ⟨_, es', ep', D', q1, q2, hsz, fun y => ?_⟩
    unfold setF
    by_cases hy : y = name
    · rw [if_pos hy]; exact ⟨u, by rw [q3, if_pos hy], hts _ hu⟩
    · rw [if_neg hy]
      have := r5 y
      cases z : f y with
      | none => rw [z] at this; show nsFind es' y = none; rw [q3, if_neg hy]; exact this
      | some d₀ => rw [z] at this; obtain ⟨v₀, e1, e2⟩ := this; exact ⟨v₀, by rw [q3, if_neg hy]; exact e1, e2⟩
  exact this
end
end
section
open PySem PySem.W PyProof.Rows PySem.Calls PySem.MeetsSeq PySem.AutoListH PySem.SeqAt

section
variable {K : Frag} {prog : Program} {w : World} {A : Around} {E : Value → Shared → Prop} {x y dx dy : Addr} {od oe : Option Obj} {s : Shared}

theorem pc_obj (h : plainOver K cP = true) : mroIn K cP (.type "object") = some true := by
  obtain ⟨cd, hc, ho⟩ := any_some h
  have ne : cd.mro.isEmpty = false := by cases q : cd.mro with | nil => rw [q] at ho; cases ho | cons _ _ => rfl
  unfold mroIn; rw [hc, Option.bind_some, if_neg (by rw [ne]; decide), only_has ho]
theorem obj_isInst (X : K.In s.heap) (C : PC K) (I : InstAt s.heap x (instObj cP dx) cP od) : Looks (model prog w) s.heap (isInstance (.ref x) (.type "object")) true := I.type.andThen (looks_mroIn X (pc_obj C.po))

theorem obj_call_eq (X : K.In s.heap) (C : PC K) (I : InstAt s.heap x (instObj cP dx) cP od) (J : InstAt s.heap y (instObj cP dy) cP oe) (hxy : x ≠ y) {Q : Value → Shared → Prop} (hq : Q .notImplemented s) :
    wpAny (model prog w) A (call (.builtin "object.__eq__") [.ref x, .ref y]) Q E s :=
  wpAny_call (codeAny_call_builtin F.cmp_object.eq.plain F.cmpEntry_eq (check_slot F.cmpKind_eq F.cmpSplit_eq (obj_isInst X C I) (F.cmpArgs_eq _ _) (objEq_entry_other hxy I.at_ J.at_ nofun hq)))
theorem obj_sp_eq (X : K.In s.heap) (C : PC K) (I : InstAt s.heap x (instObj cP dx) cP od) (J : InstAt s.heap y (instObj cP dy) cP oe) (hxy : x ≠ y) {Q : Option Value → Shared → Prop} (hq : Q (some .notImplemented) s) :
    wpAny (model prog w) A (callSpecialIfBound? (.ref x) "__eq__" [.ref y]) Q E s := by
  simp only [callSpecialIfBound?, bindSpecialIfBound?]
  refine wpAny_holding (wpAny_bind (wpAny_bind (wpAny_bind (I.type.here ((looks_findIn X C.eq).here ?_)))))
  simp only [F.cmp_object.eq.bind]
  refine wpAny_bind (wpAny_askSetting (wpAny_ite ?_))
  have fin : ∀ {E' : Value → Shared → Prop}, wpAny (model prog w) A (call (.builtin "object.__eq__") ([.ref x] ++ [.ref y]) >>= fun v => pure (some v)) Q E' s := fun {E'} =>
    wpAny_bind (wpAny_mono (obj_call_eq X C I J hxy (Q := fun v s' => v = .notImplemented ∧ s' = s) ⟨rfl, rfl⟩ (E := NoE)) (fun v s' h' => by obtain ⟨rfl, rfl⟩ := h'; exact wpAny_pure hq) fun _ _ h' => h'.elim)
  split
  · exact wpAny_bind (wpAny_pure (wpAny_pure fin))
  · exact wpAny_tryCatch (wpAny_bind (wpAny_pure (wpAny_pure fin)))
theorem obj_try_eq (X : K.In s.heap) (C : PC K) (I : InstAt s.heap x (instObj cP dx) cP od) (J : InstAt s.heap y (instObj cP dy) cP oe) (hxy : x ≠ y) {Q : Option Value → Shared → Prop} (hq : Q none s) :
    wpAny (model prog w) A (tryCompare (.ref x) "__eq__" (.ref y)) Q E s := by
  simp only [tryCompare]
  exact wpAny_bind (obj_sp_eq X C I J hxy (wpAny_pure hq))
theorem obj_rc_eq (X : K.In s.heap) (C : PC K) (I : InstAt s.heap x (instObj cP dx) cP od) (J : InstAt s.heap y (instObj cP dy) cP oe) (hxy : x ≠ y) (hu : A.units < cLine) {Q : Value → Shared → Prop} (hq : Q (.bool false) s) :
    wpAny (model prog w) A (richCompare .Eq (.ref x) (.ref y)) Q E s := by
  have hnt : (instObj cP dx).cls ≠ .type "tuple" := nofun
  simp only [richCompare, cmpInfo_Eq, oneThing_ref]
  refine wpAny_holding (wpAny_bind (wpAny_cRoomFor hu ?_))
  repeat (first | exact hq | (with_reducible refine I.type.here ?_) | (with_reducible refine J.type.here ?_) | with_reducible refine obj_try_eq X C I J hxy ?_ | with_reducible refine obj_try_eq X C J I hxy.symm ?_ | with_reducible refine wpAny_isSame_ref_other hxy I.at_ J.at_ hnt ?_ | simp only [bne_self_eq_false, Bool.false_eq_true, if_false, Bool.not_false, if_true] | wp_step)

theorem obj_call_eqS (X : K.In s.heap) (C : PC K) (I : InstAt s.heap x (instObj cP dx) cP od) {Q : Value → Shared → Prop} (hq : Q (.bool true) s) :
    wpAny (model prog w) A (call (.builtin "object.__eq__") [.ref x, .ref x]) Q E s :=
  wpAny_call (codeAny_call_builtin F.cmp_object.eq.plain F.cmpEntry_eq (check_slot F.cmpKind_eq F.cmpSplit_eq (obj_isInst X C I) (F.cmpArgs_eq _ _) (objEq_entry_same hq)))
theorem obj_sp_eqS (X : K.In s.heap) (C : PC K) (I : InstAt s.heap x (instObj cP dx) cP od) {Q : Option Value → Shared → Prop} (hq : Q (some (.bool true)) s) :
    wpAny (model prog w) A (callSpecialIfBound? (.ref x) "__eq__" [.ref x]) Q E s := by
  simp only [callSpecialIfBound?, bindSpecialIfBound?]
  refine wpAny_holding (wpAny_bind (wpAny_bind (wpAny_bind (I.type.here ((looks_findIn X C.eq).here ?_)))))
  simp only [F.cmp_object.eq.bind]
  refine wpAny_bind (wpAny_askSetting (wpAny_ite ?_))
  have fin : ∀ {E' : Value → Shared → Prop}, wpAny (model prog w) A (call (.builtin "object.__eq__") ([.ref x] ++ [.ref x]) >>= fun v => pure (some v)) Q E' s := fun {E'} =>
    wpAny_bind (wpAny_mono (obj_call_eqS X C I (Q := fun v s' => v = .bool true ∧ s' = s) ⟨rfl, rfl⟩ (E := NoE)) (fun v s' h' => by obtain ⟨rfl, rfl⟩ := h'; exact wpAny_pure hq) fun _ _ h' => h'.elim)
  split
  · exact wpAny_bind (wpAny_pure (wpAny_pure fin))
  · exact wpAny_tryCatch (wpAny_bind (wpAny_pure (wpAny_pure fin)))
theorem obj_ne_entry (X : K.In s.heap) (C : PC K) (I : InstAt s.heap x (instObj cP dx) cP od) (J : InstAt s.heap y (instObj cP dy) cP oe) (hxy : x ≠ y) (hu : A.units < cLine) {Q : Fin → Shared → Prop} (hq : Q (.done (.ret .notImplemented)) s) :
    wpAny (model prog w) A (Builtin.«object.__ne__» ⟨[.ref x, .ref y], []⟩) Q E s := by
  unfold Builtin.«object.__ne__»
  repeat (first | with_reducible refine wpAny_cRoomFor hu ?_ | with_reducible refine obj_sp_eq X C I J hxy ?_ | wp_step)
  exact hq
theorem obj_ne_entryS (X : K.In s.heap) (C : PC K) (I : InstAt s.heap x (instObj cP dx) cP od) (hu : A.units < cLine) {Q : Fin → Shared → Prop} (hq : Q (.done (.ret (.bool false))) s) :
    wpAny (model prog w) A (Builtin.«object.__ne__» ⟨[.ref x, .ref x], []⟩) Q E s := by
  unfold Builtin.«object.__ne__»
  repeat (first | with_reducible refine wpAny_cRoomFor hu ?_ | with_reducible refine obj_sp_eqS X C I ?_ | wp_step)
  exact hq
theorem obj_sp_ne {v r : Value} (X : K.In s.heap) (C : PC K) (I : InstAt s.heap x (instObj cP dx) cP od) (hu : A.units + 1 < cLine) {Q : Option Value → Shared → Prop}
    (h : ∀ (A : Around) (E : Value → Shared → Prop) (Q : Fin → Shared → Prop), A.units < cLine → Q (.done (.ret r)) s → wpAny (model prog w) A (Builtin.«object.__ne__» ⟨[.ref x, v], []⟩) Q E s) (hq : Q (some r) s) :
    wpAny (model prog w) A (callSpecialIfBound? (.ref x) "__ne__" [v]) Q E s := by
  simp only [callSpecialIfBound?, bindSpecialIfBound?]
  refine wpAny_holding (wpAny_bind (wpAny_bind (wpAny_bind (I.type.here ((looks_findIn X C.ne).here ?_)))))
  simp only [F.cmp_object.ne.bind]
  refine wpAny_bind (wpAny_askSetting (wpAny_ite ?_))
  have fin : ∀ {E' : Value → Shared → Prop}, wpAny (model prog w) A (call (.builtin "object.__ne__") ([.ref x] ++ [v]) >>= fun v => pure (some v)) Q E' s := fun {E'} =>
    wpAny_bind (wpAny_mono (wpAny_call (codeAny_call_builtin F.cmp_object.ne.plain F.cmpEntry_ne (check_slot F.cmpKind_ne F.cmpSplit_ne (obj_isInst X C I) (F.cmpArgs_ne _ _) (h _ _ _ hu (by exact ⟨rfl, rfl⟩)))) (E := NoE) (Q := fun v s' => v = r ∧ s' = s)) (fun v s' h' => by obtain ⟨rfl, rfl⟩ := h'; exact wpAny_pure hq) fun _ _ h' => h'.elim)
  split
  · exact wpAny_bind (wpAny_pure (wpAny_pure fin))
  · exact wpAny_tryCatch (wpAny_bind (wpAny_pure (wpAny_pure fin)))
theorem obj_try_ne (X : K.In s.heap) (C : PC K) (I : InstAt s.heap x (instObj cP dx) cP od) (J : InstAt s.heap y (instObj cP dy) cP oe) (hxy : x ≠ y) (hu : A.units + 1 < cLine) {Q : Option Value → Shared → Prop} (hq : Q none s) :
    wpAny (model prog w) A (tryCompare (.ref x) "__ne__" (.ref y)) Q E s := by
  simp only [tryCompare]
  exact wpAny_bind (obj_sp_ne X C I hu (fun A E Q hu hq => obj_ne_entry X C I J hxy hu hq) (wpAny_pure hq))
theorem obj_try_neS (X : K.In s.heap) (C : PC K) (I : InstAt s.heap x (instObj cP dx) cP od) (hu : A.units + 1 < cLine) {Q : Option Value → Shared → Prop} (hq : Q (some (.bool false)) s) :
    wpAny (model prog w) A (tryCompare (.ref x) "__ne__" (.ref x)) Q E s := by
  simp only [tryCompare]
  exact wpAny_bind (obj_sp_ne X C I hu (fun A E Q hu hq => obj_ne_entryS X C I hu hq) (wpAny_pure hq))
theorem obj_rc_ne (X : K.In s.heap) (C : PC K) (I : InstAt s.heap x (instObj cP dx) cP od) (J : InstAt s.heap y (instObj cP dy) cP oe) (hxy : x ≠ y) (hu : A.units + 1 < cLine) {Q : Value → Shared → Prop} (hq : Q (.bool true) s) :
    wpAny (model prog w) A (compareOp .NotEq (.ref x) (.ref y)) Q E s := by
  show wpAny (model prog w) A (richCompare .NotEq (.ref x) (.ref y)) Q E s
  have hnt : (instObj cP dx).cls ≠ .type "tuple" := nofun
  have hu0 : A.units < cLine := Nat.lt_of_succ_lt hu
  simp only [richCompare, cmpInfo_NotEq, oneThing_ref]
  refine wpAny_holding (wpAny_bind (wpAny_cRoomFor hu0 ?_))
  repeat (first | exact hq | (with_reducible refine I.type.here ?_) | (with_reducible refine J.type.here ?_) | with_reducible refine obj_try_ne X C I J hxy hu ?_ | with_reducible refine obj_try_ne X C J I hxy.symm hu ?_ | with_reducible refine wpAny_isSame_ref_other hxy I.at_ J.at_ hnt ?_ | simp only [bne_self_eq_false, Bool.false_eq_true, if_false, Bool.not_false, if_true] | wp_step)
theorem obj_rc_neS (X : K.In s.heap) (C : PC K) (I : InstAt s.heap x (instObj cP dx) cP od) (hu : A.units + 1 < cLine) {Q : Value → Shared → Prop} (hq : Q (.bool false) s) :
    wpAny (model prog w) A (compareOp .NotEq (.ref x) (.ref x)) Q E s := by
  show wpAny (model prog w) A (richCompare .NotEq (.ref x) (.ref x)) Q E s
  have hu0 : A.units < cLine := Nat.lt_of_succ_lt hu
  simp only [richCompare, cmpInfo_NotEq, oneThing_ref]
  refine wpAny_holding (wpAny_bind (wpAny_cRoomFor hu0 ?_))
  repeat (first | exact hq | (with_reducible refine I.type.here ?_) | with_reducible refine obj_try_neS X C I hu ?_ | simp only [bne_self_eq_false, Bool.false_eq_true, if_false, Bool.not_false, if_true] | wp_step)
end
end
section
open PySem PySem.W PyProof.Rows PySem.Calls PySem.MeetsSeq PySem.AutoListH PySem.SeqAt

section
variable {K : Frag} {g : Heap} {mg mb : Str → Option Value} {s₀ s : Shared} {cs cs' : List (Addr × OD)} {ts ts' : List (Value × D)}
variable {prog : Program} {w : World} {A : Around} {E : Value → Shared → Prop} {env : Env}

/-- arguments and what is known of them -/
inductive BZ (ts : List (Value × D)) : List (Str × Value) → List (Str × D) → Prop
  | nil : BZ ts [] []
  | cons {x v d b l} : (v, d) ∈ ts → BZ ts b l → BZ ts ((x, v) :: b) ((x, d) :: l)
theorem BZ.mem {ts : List (Value × D)} : ∀ {b l}, BZ ts b l → ∀ p ∈ l, ∃ v, (p.1, v) ∈ b ∧ (v, p.2) ∈ ts
  | _, _, .cons (v := v) m r, p, hp => by
    rcases List.mem_cons.mp hp with rfl | hp
    · exact ⟨v, .head _, m⟩
    · obtain ⟨v, h1, h2⟩ := r.mem p hp; exact ⟨v, .tail _ h1, h2⟩
theorem lookup_nodup {b : List (Str × Value)} (h : (b.map (·.1)).Nodup) {x : Str} {v : Value} (hm : (x, v) ∈ b) : b.reverse.lookup x = some v := by
  have h' : ((b.reverse).map (·.1)).Nodup := by rw [List.map_reverse]; exact (List.reverse_perm _).nodup_iff.mpr h
  have hm' : (x, v) ∈ b.reverse := List.mem_reverse.mpr hm
  generalize b.reverse = l at h' hm'
  induction l with
  | nil => cases hm'
  | cons p l ih =>
    obtain ⟨y, u⟩ := p
    rw [List.map_cons, List.nodup_cons] at h'
    rw [List.lookup_cons]
    rcases List.mem_cons.mp hm' with e | hm'
    · cases e; simp
    · have : (x == y) = false := by
        rw [beq_eq_false_iff_ne]; intro e
        exact h'.1 (List.mem_map.mpr ⟨(x, v), hm', e⟩)
      rw [this]; exact ih h'.2 hm'

theorem St.frameX {h' : Heap} {t : Nat} {m : Str → Option Value} {ls : List (Str × D)} {xs : List (Addr × OD)} (S : St g s₀ cs ts s) (hc : cs ≠ []) (hn : h'.Ns s.heap.objs.size m) (hk : VLe s.heap.get? h'.get?)
    (hm : ∀ p ∈ ls, ∃ v, m p.1 = some v ∧ (v, p.2) ∈ ts) (hx : ∀ p ∈ xs, s.heap.objs.size < p.1 ∧ ∀ V, (∀ p ∈ ts, Den V p.1 p.2) → Own V h' p.1 p.2) (hxn : (xs.map (·.1)).Nodup) :
    St g s₀ ((s.heap.objs.size, .names ls) :: xs ++ cs) ts { s with heap := h', toks := t } := by
  obtain ⟨⟨a, o⟩, r, rfl⟩ : ∃ p r, cs = p :: r := by cases cs with | nil => exact absurd rfl hc | cons p r => exact ⟨p, r, rfl⟩
  have hg := S.gsize (.head _)
  obtain ⟨V, x, b, c, d, e, f⟩ := S
  have hV : ∀ y, s.heap.objs.size ≤ y → V y = none := fun y hy => by
    cases q : V y with
    | none => rfl
    | some oy => exact absurd (Heap.lt_size (b _ _ q)) (Nat.not_lt.mpr hy)
  have hlt : ∀ p ∈ (a, o) :: r, p.1 < s.heap.objs.size := fun p hp => by
    obtain ⟨o', ho'⟩ := (c p hp).2.2.ex
    exact Heap.lt_size ho'
  refine ⟨V, x, fun y oy q => hk _ _ (b _ _ q), fun p hp => ?_, ?_, e, by rw [f]⟩
  · rcases List.mem_append.mp hp with hp | hp
    · rcases List.mem_cons.mp hp with rfl | hp
      · refine ⟨hV _ (Nat.le_refl _), hg, m, hn, fun p hp => ?_⟩
        obtain ⟨v, h1, h2⟩ := hm p hp; exact ⟨v, h1, e _ h2⟩
      · have h1 := hx p hp
        exact ⟨hV _ (Nat.le_of_lt h1.1), Nat.le_trans hg (Nat.le_of_lt h1.1), h1.2 V e⟩
    · exact ⟨(c p hp).1, (c p hp).2.1, (c p hp).2.2.at fun o q => hk _ _ q⟩
  · rw [List.map_append, List.map_cons]
    refine List.nodup_append.mpr ⟨List.nodup_cons.mpr ⟨fun q => ?_, hxn⟩, d, fun y hy z hz => ?_⟩
    · obtain ⟨p, hp, q⟩ := List.mem_map.mp q
      exact Nat.lt_irrefl _ (q ▸ (hx p hp).1)
    · obtain ⟨p, hp, q⟩ := List.mem_map.mp hz
      have h2 := hlt p hp
      have q : p.1 = z := q
      rw [q] at h2
      rcases List.mem_cons.mp hy with hy | hy
      · rw [hy]; exact (Nat.ne_of_lt h2).symm
      · obtain ⟨p', hp', q'⟩ := List.mem_map.mp hy
        have h3 := (hx p' hp').1
        have q' : p'.1 = y := q'
        rw [q'] at h3
        exact (Nat.ne_of_lt (Nat.lt_trans h2 h3)).symm
theorem St.frame {h' : Heap} {t : Nat} {m : Str → Option Value} {ls : List (Str × D)} (S : St g s₀ cs ts s) (hc : cs ≠ []) (hn : h'.Ns s.heap.objs.size m) (hk : VLe s.heap.get? h'.get?)
    (hm : ∀ p ∈ ls, ∃ v, m p.1 = some v ∧ (v, p.2) ∈ ts) : St g s₀ ((s.heap.objs.size, .names ls) :: cs) ts { s with heap := h', toks := t } :=
  S.frameX (xs := []) hc hn hk hm (fun _ h => nomatch h) .nil

noncomputable abbrev retV : Flow → Value
  | .ret v => v
  | _ => .none

theorem call_fn {fa : Addr} {oc : Value} {od : Option Addr} {sl : Array (Option Value)} {fd : FuncData} {body : List Stmt} {vals : List Value} {binds : List (Str × Value)} {ls : List (Str × D)} {n : Nat} {Q : Value → Shared → Prop}
    (S : St g s₀ cs ts s) (G : Gd K g mg mb) (hA : Ok n A) (hc : cs ≠ [])
    (ho : K.lookup fa = some ⟨oc, od, .func fd, sl⟩) (hcd : codeIn K fd.code fd.qualname = true) (hbody : fd.body = .stmts body) (hbind : bindArgs fd ⟨vals, []⟩ = pure binds) (hz : BZ ts binds ls) {nms : List Str}
    (h : ∀ L s', St g s₀ ((L, .names ls) :: cs) ts s' → wpAny (model prog w) (A.deeper (callEnv fd L fa)) (execs body (callEnv fd L fa)) (fun fl s'' => Q (retV fl) s'') NoE s')
    (hnm : binds.map (·.1) = nms := by rfl) (hndn : nms.Nodup := by decide)
    (hcell : (fd.scope.names.all fun x => x.2 != .cell) = true := by rfl) (hlocn : (nms.all fun x => fd.scope.names.lookup x == some .local) = true := by rfl)
    (hco : fd.scope.isCoroutine = false := by rfl) (hgen : fd.scope.isGenerator = false := by rfl) (hk : fd.scope.kind = .function := by rfl) :
    wpAny (model prog w) A (call (.ref fa) vals) Q NoE s := by
  have hnd : (binds.map (·.1)).Nodup := hnm ▸ hndn
  have hloc : ∀ x ∈ binds, fd.scope.names.lookup x.1 = some .local := fun x hx => by
    have := List.all_eq_true.mp hlocn x.1 (hnm ▸ List.mem_map_of_mem hx)
    simpa using this
  have hcell' : ∀ x ∈ fd.scope.names, x.2 ≠ .cell := fun x hx => by
    have := List.all_eq_true.mp hcell x hx
    simpa using this
  refine wpAny_call (codeAny_call_def hA.room ((S.kin G) _ _ ho) rfl (S.nolim G) (codeRec_of (S.kin G) hcd) hbody (.of_eq hbind) hcell' hloc (fun h₀ hn hkp => ?_) hco hgen hk)
  refine noE (wpAny_mono (h _ _ (S.frame hc hn hkp fun p hp => ?_)) (fun fl s' q => ?_) fun _ _ q => q)
  · obtain ⟨v, h1, h2⟩ := hz.mem p hp
    exact ⟨v, lookup_nodup hnd h1, h2⟩
  · cases fl <;> exact q

/-- a def with cells -/
theorem call_fnC {fa : Addr} {oc : Value} {od : Option Addr} {sl : Array (Option Value)} {fd : FuncData} {body : List Stmt} {vals : List Value} {binds : List (Str × Value)} {ls : List (Str × D)} {cm : List (Str × Option D)} {n : Nat} {Q : Value → Shared → Prop}
    (S : St g s₀ cs ts s) (G : Gd K g mg mb) (hA : Ok n A) (hc : cs ≠ [])
    (ho : K.lookup fa = some ⟨oc, od, .func fd, sl⟩) (hcd : codeIn K fd.code fd.qualname = true) (hbody : fd.body = .stmts body) (hbind : bindArgs fd ⟨vals, []⟩ = pure binds)
    (hkind : ∀ n, ∀ x ∈ binds, fd.scope.names.lookup x.1 = some .local ∨ (fd.scope.names.lookup x.1 = some .cell ∧ ((cellsFrom n fd.scope.names []).lookup x.1).isSome = true))
    (hnd : ((cellsFrom 0 fd.scope.names []).map (·.1)).Nodup)
    (hls : ∀ L c, ∀ p ∈ ls, ∃ v, bindL (newEnv fd.scope L fd.globals c (fd.qualname ++ ".<locals>.") (some fa) fd.code none fd.builtins).kindOf binds (fun _ => none) p.1 = some v ∧ (v, p.2) ∈ ts)
    (hcm : ∀ L c x d, cm.lookup x = some (some d) → ∃ v, bindC (newEnv fd.scope L fd.globals c (fd.qualname ++ ".<locals>.") (some fa) fd.code none fd.builtins).kindOf binds (fun _ => none) x = some v ∧ (v, d) ∈ ts)
    (h : ∀ L s', St g s₀ ((L, .names ls) :: ((cellsFrom (L + 1) fd.scope.names []).map fun p => (p.2, OD.cell ((cm.lookup p.1).join))) ++ cs) ts s' →
      wpAny (model prog w) (A.deeper (newEnv fd.scope L fd.globals (cellsFrom (L + 1) fd.scope.names []) (fd.qualname ++ ".<locals>.") (some fa) fd.code none fd.builtins))
        (execs body (newEnv fd.scope L fd.globals (cellsFrom (L + 1) fd.scope.names []) (fd.qualname ++ ".<locals>.") (some fa) fd.code none fd.builtins)) (fun fl s'' => Q (retV fl) s'') NoE s')
    (hcl : fd.closure = [] := by rfl) (hco : fd.scope.isCoroutine = false := by rfl) (hgen : fd.scope.isGenerator = false := by rfl) (hk : fd.scope.kind = .function := by rfl) :
    wpAny (model prog w) A (call (.ref fa) vals) Q NoE s := by
  refine wpAny_call (codeAny_call_function hA.room ((S.kin G) _ _ ho) rfl hco hgen hbody (codeRec_of (S.kin G) hcd) ?_)
  refine BindsTo.of_eq hbind _ _ _ _ ?_
  rw [hcl]
  refine wpAny_newFunctionEnv_cells hk (hkind _) fun env' he s' x => ?_
  subst he
  refine ⟨(S.nolim G).keeps x.toInCall.keep, codeAny_func ?_⟩
  obtain ⟨h₁, tk, rfl⟩ := x.toInCall.same
  have hnames : ((cellsFrom (s.heap.objs.size + 1) fd.scope.names []).map (·.1)).Nodup := cellsFrom_names fd.scope.names 0 (s.heap.objs.size + 1) [] [] rfl ▸ hnd
  refine noE (wpAny_mono (h s.heap.objs.size _ (S.frameX (t := tk) hc x.toInCall.ns x.toInCall.keep (hls _ _) (fun p hp => ?_) ?_)) (fun fl s' q => ?_) fun _ _ q => q)
  · obtain ⟨⟨y, c⟩, hm, rfl⟩ := List.mem_map.mp hp
    refine ⟨x.above _ _ hm, fun V hts => ?_⟩
    have hcell := x.cell _ _ (lookup_of_mem_nodup hnames hm)
    dsimp only
    cases z : (cm.lookup y).join with
    | none => exact ⟨_, hcell⟩
    | some d =>
      have z' : cm.lookup y = some (some d) := by
        cases q : cm.lookup y with
        | none => rw [q] at z; cases z
        | some o => rw [q] at z; cases o with
          | none => cases z
          | some d' => cases z; rfl
      obtain ⟨v, h1, h2⟩ := hcm _ _ _ _ z'
      exact ⟨v, by rw [h1] at hcell; exact hcell, hts _ h2⟩
  · have := x.apart
    rw [List.map_map]
    exact List.pairwise_map.mpr this
  · cases fl <;> exact q
end
end
section
open PySem PySem.W PyProof.Rows PySem.Calls PySem.MeetsSeq PySem.AutoListH PySem.SeqAt PySem.MeetsSeq2 PySem.MeetsSeq3 PySem.SeqRoads2
open PySem.AutoSeq1 (wpAny_loadPart')

/-! comparison of items -/
noncomputable def eqv : Value → Value → Bool
  | .int i _, .int j _ => i == j
  | .str a _, .str b _ => a == b
  | .ref a, .ref b => a == b
  | _, _ => false
noncomputable def deq : D → D → Bool
  | .int i, .int j => i == j
  | .str a, .str b => a == b
  | .obj a _, .obj b _ => a == b
  | _, _ => false
inductive SK : D → D → Prop
  | int (i j) : SK (.int i) (.int j)
  | str (i j) : SK (.str i) (.str j)
  | obj (x dx y dy) : SK (.obj x dx) (.obj y dy)

theorem eqv_deq {V : View} {v u : Value} {d e : D} (hv : Den V v d) (hu : Den V u e) (h : SK d e) : eqv v u = deq d e := by
  cases h with
  | int i j => cases hv; cases hu; rfl
  | str i j => cases hv; cases hu; rfl
  | obj x dx y dy => cases hv; cases hu; rfl

section
variable {K : Frag} {g : Heap} {mg mb : Str → Option Value} {s₀ s : Shared} {cs cs' : List (Addr × OD)} {ts ts' : List (Value × D)}
variable {prog : Program} {w : World} {A : Around} {E : Value → Shared → Prop} {env : Env}

/-- both objects have their dicts -/
noncomputable def HasD (s : Shared) : D → Prop
  | .obj _ dx => ∃ o, s.heap.get? dx = some o
  | _ => True

theorem eqAt_den {v u : Value} {d e : D} (X : K.In s.heap) (C : PC K) (hv : Den s.heap.get? v d) (hu : Den s.heap.get? u e) (h : SK d e) (hd : HasD s d) (he : HasD s e) (hA : A.units < cLine) : EqAt A s v u (deq d e) := by
  cases h with
  | int i j => cases hv; cases hu; exact EqAt.int_int _ _ _ _
  | str i j => cases hv; cases hu; exact EqAt.str_str _ _ _ _
  | obj x dx y dy =>
    obtain ⟨rfl, hx⟩ := den_obj hv
    obtain ⟨rfl, hy⟩ := den_obj hu
    obtain ⟨o, ho⟩ := hd
    obtain ⟨o', ho'⟩ := he
    by_cases q : x = y
    · subst q
      have : deq (.obj x dx) (.obj x dy) = true := by simp [deq]
      rw [this]; exact EqAt.same _
    · have : deq (.obj x dx) (.obj y dy) = false := by simp [deq, q]
      rw [this]
      exact EqAt.of_refs q fun prog w E Q hq => obj_rc_eq X C (od := some o) (oe := some o') ⟨hx, rfl, rfl, ho⟩ ⟨hy, rfl, rfl, ho'⟩ q hA hq

theorem remove_loopAt (l : Addr) (items : Array Value) (n : Nat) (x : Value) (e : Value → Bool) (j : Nat) (hj : j < items.size) (hit : e items[j] = true) (k : Nat) (hs1 : items.size ≤ sizeLine) :
    ∀ i : Nat, j - i = k → i ≤ j → (∀ m (hm : m < items.size), i ≤ m → m < j → e items[m] = false) → Meets (Builtin.«list.remove.loop» ⟨[.ref l, x, rawInt i], []⟩)
      (fun A R s => s.heap.get? l = some { cls := .type "list", dict := none, data := .seq items n, slots := #[] } ∧ (∀ y, y ∈ items → EqAt A.in1 s y x (e y)) ∧ R (.ok (.ret .none)) { s with heap := s.heap.update l (Obj.mapSeq fun xs => xs.eraseIdxIfInBounds j) }) := by
  induction k with
  | zero =>
    intro i hk hij hno prog w A R s h
    obtain ⟨hp, g, d, tk, os⟩ := s; obtain ⟨hl, he, h⟩ := h
    have hij' : i = j := by omega
    subst hij'
    wp_walk using wpAny_loadPart' hl
    have hi : items[((i : Nat) : Int).toNat]? = some items[i] := by simp [hj]
    rw [hi]
    refine wpAny_bind (he _ (Array.getElem_mem hj) prog w _ _ ?_)
    rw [hit]
    have hz' : (items.eraseIdxIfInBounds i).size ≤ sizeLine + 1 := Nat.le_trans (size_erased items _) (Nat.le_succ_of_le hs1)
    wp_walk using (wpAny_updateSeq hl rfl (hz := hs1) (_hz' := hz')), wpAny_loadPart' hl
    simpa using h
  | succ k ih =>
    intro i hk hij hno prog w A R s h
    obtain ⟨hp, g, d, tk, os⟩ := s; obtain ⟨hl, he, h⟩ := h
    have hlt : i < items.size := by omega
    wp_walk using wpAny_loadPart' hl
    have hi : items[((i : Nat) : Int).toNat]? = some items[i] := by simp [hlt]
    have hc : ((i : Int) + 1) = ((i + 1 : Nat) : Int) := by push_cast; rfl
    rw [hi]
    refine wpAny_bind (he _ (Array.getElem_mem hlt) prog w _ _ ?_)
    rw [hno i hlt (Nat.le_refl _) (by omega)]
    wp_walk
    rw [hc]
    exact ⟨plainId_quiet plain_remove_loop _, codeAny_builtin entry_remove_loop (by
      rw [Around.under_plainId plain_remove_loop _]
      exact ih (i + 1) (by omega) (by omega) (fun m hm h1 h2 => hno m hm (by omega) h2) prog w A R _ ⟨hl, he, h⟩)⟩
theorem list_removeAt (l : Addr) (items : Array Value) (n : Nat) (x : Value) (e : Value → Bool) (j : Nat) (hj : j < items.size)
    (hit : e items[j] = true) (hno : ∀ m (hm : m < items.size), m < j → e items[m] = false) (hs1 : items.size ≤ sizeLine) :
    Meets (Builtin.«list.remove» ⟨[.ref l, x], []⟩)
      (fun A R s => s.heap.get? l = some { cls := .type "list", dict := none, data := .seq items n, slots := #[] } ∧ (∀ y, y ∈ items → EqAt A.in1 s y x (e y)) ∧ R (.ok (.ret .none)) { s with heap := s.heap.update l (Obj.mapSeq fun xs => xs.eraseIdxIfInBounds j) }) := by
  intro prog w A R s h
  obtain ⟨hp, g, d, tk, os⟩ := s; obtain ⟨hl, he, h⟩ := h
  wp_walk using wpAny_loadPart' hl
  exact ⟨plainId_quiet plain_remove_loop _, codeAny_builtin entry_remove_loop (by
    rw [Around.under_plainId plain_remove_loop _]
    exact remove_loopAt l items n x e j hj hit _ hs1 0 rfl (Nat.zero_le _) (fun m hm _ h2 => hno m hm h2) prog w A R _ ⟨hl, he, h⟩)⟩

noncomputable def HasC (cs : List (Addr × OD)) : D → Prop
  | .obj _ dx => ∃ o, (dx, o) ∈ cs
  | _ => True
theorem St.hasD (S : St g s₀ cs ts s) : ∀ {d : D}, HasC cs d → HasD s d
  | .obj _ dx, ⟨o, h⟩ => by obtain ⟨V, hV, ho⟩ := S.own h; exact ho.ex
  | .int _, _ => trivial
  | .str _, _ => trivial
  | .val _, _ => trivial
  | .list _, _ => trivial
  | .tup _, _ => trivial
  | .rng _, _ => trivial
theorem any_deq {V : View} {u : Value} {d : D} (hu : Den V u d) : ∀ {vs : List Value} {ds : List D}, DenL V vs ds → (∀ e ∈ ds, SK e d) → vs.any (fun y => eqv y u) = ds.any (fun e => deq e d)
  | _, _, .nil, _ => rfl
  | _, _, .cons h r, hs => by
    rw [List.any_cons, List.any_cons, eqv_deq h hu (hs _ (.head _)), any_deq hu r fun e he => hs e (.tail _ he)]

theorem in_den {l : Addr} {vs : Array Value} {ds : List D} {x : Value} {d : D} {Q : Value → Shared → Prop} (S : St g s₀ cs ts s) (G : Gd K g mg mb) (C : PC K) (hA : Ok (n + 1) A) (hl : s.heap.PlainList l vs) (hD : DenL s.heap.get? vs.toList ds)
    (hx : (x, d) ∈ ts) (hk : ∀ e ∈ ds, SK e d) (hd : ∀ e ∈ ds, HasC cs e) (hd' : HasC cs d) (h : Q (.bool (ds.any fun e => deq e d)) s) : wpAny (model prog w) A (compareOp .In x (.ref l)) Q E s := by
  refine in_listAt (fun y => eqv y x) hl.isList (fun y hy => ?_) ?_
  · obtain ⟨i, hi, rfl⟩ := Array.mem_iff_getElem.mp hy
    obtain ⟨e, he, hDe⟩ := hD.getV (i := i) (v := vs[i]) (by simp [hi])
    have hm := List.mem_of_getElem? he
    rw [eqv_deq hDe (S.den hx) (hk e hm)]
    exact eqAt_den (S.kin G) C hDe (S.den hx) (hk e hm) (S.hasD (hd e hm)) (S.hasD hd') hA.in1.units
  · have : vs.any (fun y => eqv y x) = ds.any fun e => deq e d := by
      rw [← Array.any_toList]; exact any_deq (S.den hx) hD hk
    rw [this]; exact h
theorem k_in {o x : Value} {ds : List D} {d : D} {n : Nat} {Q : Value → Shared → Prop} (S : St g s₀ cs ts s) (G : Gd K g mg mb) (C : PC K) (hA : Ok (n + 1) A) (ho : (o, .list ds) ∈ ts) (hx : (x, d) ∈ ts)
    (hk : ∀ e ∈ ds, SK e d) (hd : ∀ e ∈ ds, HasC cs e) (hd' : HasC cs d) (h : Q (.bool (ds.any fun e => deq e d)) s) : wpAny (model prog w) A (compareOp .In x o) Q E s := by
  obtain ⟨a, vs, rfl, h1, h2, h3⟩ := den_list (S.den ho)
  exact in_den S G C hA h1 h2 hx hk hd hd' h
theorem k_inO {l : Addr} {x : Value} {ds : List D} {d : D} {n : Nat} {Q : Value → Shared → Prop} (S : St g s₀ cs ts s) (G : Gd K g mg mb) (C : PC K) (hA : Ok (n + 1) A) (ho : (l, .list ds) ∈ cs) (hx : (x, d) ∈ ts)
    (hk : ∀ e ∈ ds, SK e d) (hd : ∀ e ∈ ds, HasC cs e) (hd' : HasC cs d) (h : Q (.bool (ds.any fun e => deq e d)) s) : wpAny (model prog w) A (compareOp .In x (.ref l)) Q E s := by
  obtain ⟨a, vs, e, h1, h2, h3⟩ := den_list (S.denO ho)
  cases e
  exact in_den S G C hA h1 h2 hx hk hd hd' h
theorem k_notin {o x : Value} {ds : List D} {d : D} {n : Nat} {Q : Value → Shared → Prop} (S : St g s₀ cs ts s) (G : Gd K g mg mb) (C : PC K) (hA : Ok (n + 1) A) (ho : (o, .list ds) ∈ ts) (hx : (x, d) ∈ ts)
    (hk : ∀ e ∈ ds, SK e d) (hd : ∀ e ∈ ds, HasC cs e) (hd' : HasC cs d) (h : Q (.bool (!ds.any fun e => deq e d)) s) : wpAny (model prog w) A (compareOp .NotIn x o) Q E s := by
  obtain ⟨l, vs, rfl, hl, hD, h3⟩ := den_list (S.den ho)
  refine notIn_listAt (fun y => eqv y x) hl.isList (fun y hy => ?_) ?_
  · obtain ⟨i, hi, rfl⟩ := Array.mem_iff_getElem.mp hy
    obtain ⟨e, he, hDe⟩ := hD.getV (i := i) (v := vs[i]) (by simp [hi])
    have hm := List.mem_of_getElem? he
    rw [eqv_deq hDe (S.den hx) (hk e hm)]
    exact eqAt_den (S.kin G) C hDe (S.den hx) (hk e hm) (S.hasD (hd e hm)) (S.hasD hd') hA.in1.units
  · have : vs.any (fun y => eqv y x) = ds.any fun e => deq e d := by
      rw [← Array.any_toList]; exact any_deq (S.den hx) hD hk
    rw [this]; exact h

/-! methods of lists -/
theorem m_list {o : Expr} {name : Str} {apos pos : Pos} {args : List Expr} {id : String} {Q : Value → Shared → Prop}
    (slot : Slot "list" name id) (hty : typeOf (.builtin id) = pure (.type "method_descriptor"))
    (h : wpAny (model prog w) A (eval o env) (fun ov s₁ => ∃ l vs, ov = .ref l ∧ s₁.heap.PlainList l vs ∧ wpAny (model prog w) A (callWith pos (.builtin id) [ov] (backTo pos (starEach args env)) []) Q E s₁) E s)
    (hbase : attributeBase o name env (eval o env) = eval o env := by rfl)
    (hfew : ((backTo pos (starEach args env)).all (fun x => !x.1) && (backToKw pos (keywordEach [] env)).all (fun x => x.1.isSome)
      && decide (args.length + ([] : List Keyword).length + (if ([] : List Keyword).isEmpty then 0 else 1) < 30)) = true := by rfl)
    (hline : (apos.endLine == pos.line) = true := by rfl) :
    wpAny (model prog w) A (eval (.Call (.Attribute o name apos) args [] pos) env) Q E s :=
  wpAny_Call_method hbase hfew hline PySem.F.plainAttrs_list slot hty (wpAny_mono h (fun ov s₁ ⟨l, vs, e, ⟨n, hl⟩, q⟩ => by subst e; exact ⟨⟨_, hl, rfl⟩, fun a ha => by cases ha; exact ⟨_, hl, rfl⟩, q⟩) fun _ _ q => q)

theorem w_append {pos : Pos} {l : Addr} {x : Sem Value} {Q : Value → Shared → Prop}
    (h : wpAny (model prog w) A x (fun v s₁ => ∃ cs cs' ts ds d, St g s₀ cs ts s₁ ∧ Upd l (.list ds) (.list (ds ++ [d])) cs cs' ∧ (v, d) ∈ ts ∧ ds.length + 1 ≤ lim ∧ ∀ s', St g s₀ cs' ts s' → Q .none s') E s) :
    wpAny (model prog w) A (callWith pos (.builtin "list.append") [.ref l] [(false, x)] []) Q E s := by
  refine P.append_list (wpAny_mono h (fun v s₁ hh => ?_) fun _ _ q => q)
  obtain ⟨cs, cs', ts, ds, d, S, U, hv, hl, q⟩ := hh
  obtain ⟨V, hV, vs, ⟨n, hp⟩, hd, hlim⟩ := S.own U.mem
  refine ⟨vs, n, by have h1 := hd.length; have h2 := lim_line; simp at h1; omega, hp, q _ ?_⟩
  have := S.upd (t := s₁.toks) U (Heap.SameBut.update s₁.heap l (Obj.mapSeq fun xs => xs.push v)) fun V hV hts ⟨vs', ⟨k', ha2⟩, hd2, hl2⟩ => by
    rw [hp] at ha2; cases ha2
    exact ⟨_, ⟨_, IsL.update hp _⟩, by simpa using hd2.append (.cons (hts _ hv) .nil), by simp; omega⟩
  exact this
theorem w_pop {pos : Pos} {l : Addr} {ds : List D} {d : D} {Q : Value → Shared → Prop} (S : St g s₀ cs ts s) (U : Upd l (.list (ds ++ [d])) (.list ds) cs cs') (h : ∀ v s', St g s₀ cs' ((v, d) :: ts) s' → Q v s') :
    wpAny (model prog w) A (callWith pos (.builtin "list.pop") [.ref l] [] []) Q E s := by
  obtain ⟨vs, hl, hz, hlim, v, hv, S'⟩ := S.itemO (i := ds.length) (d := d) U.mem (by simp)
  obtain ⟨n, hp⟩ := hl
  simp at hz hlim
  refine P.pop_list hp (y := v) (by rw [hz]; exact hv) (h v _ ?_) (by have := lim_line; omega)
  have := S'.upd (t := s.toks) (h' := s.heap.update l (Obj.mapSeq fun xs => xs.eraseIdxIfInBounds (vs.size - 1))) U (Heap.SameBut.update _ _ _) fun V hV hts ⟨vs', ⟨k', ha2⟩, hd2, hl2⟩ => by
    rw [hp] at ha2; cases ha2
    refine ⟨_, ⟨_, IsL.update hp _⟩, ?_, by simp at hl2; omega⟩
    have h1 := hd2.take ds.length
    rw [List.take_left] at h1
    have : (vs.eraseIdxIfInBounds (vs.size - 1)).toList = vs.toList.take ds.length := by
      unfold Array.eraseIdxIfInBounds
      rw [dif_pos (by omega), Array.toList_eraseIdx, hz]
      have h2 : vs.toList.length = ds.length + 1 := by simpa using hz
      rw [List.eraseIdx_eq_take_drop_succ, show ds.length + 1 - 1 = ds.length by omega, List.drop_eq_nil_of_le (by omega), List.append_nil]
    rw [this]; exact h1
  exact this
end
end
section
open PySem PySem.W PyProof.Rows PySem.Calls PySem.MeetsSeq PySem.AutoListH PySem.SeqAt PySem.MeetsSeq2 PySem.MeetsSeq3 PySem.SeqRoads2
open PySem.AutoSeq1 (wpAny_loadPart')

section
variable {K : Frag} {g : Heap} {mg mb : Str → Option Value} {s₀ s : Shared} {cs cs' : List (Addr × OD)} {ts ts' : List (Value × D)}
variable {prog : Program} {w : World} {A : Around} {E : Value → Shared → Prop} {env : Env}

/-- the first place -/
noncomputable def FirstAt (ds : List D) (d : D) (j : Nat) : Prop := (∃ e, ds[j]? = some e ∧ deq e d = true) ∧ ∀ m e, m < j → ds[m]? = some e → deq e d = false

theorem first_den {vs : Array Value} {ds : List D} {u : Value} {d : D} {j : Nat} {V : View} (hD : DenL V vs.toList ds) (hu : Den V u d) (hk : ∀ e ∈ ds, SK e d) (hf : FirstAt ds d j) :
    ∃ hj : j < vs.size, eqv vs[j] u = true ∧ ∀ m (hm : m < vs.size), m < j → eqv vs[m] u = false := by
  obtain ⟨⟨e, he, h1⟩, h2⟩ := hf
  have hz : vs.size = ds.length := by simpa using hD.length
  have hj : j < vs.size := by have := (List.getElem?_eq_some_iff.mp he).1; omega
  refine ⟨hj, ?_, fun m hm hmj => ?_⟩
  · obtain ⟨v, hv, hDe⟩ := hD.get he
    have : vs[j] = v := by simpa [hj] using hv
    rw [this, eqv_deq hDe hu (hk e (List.mem_of_getElem? he))]; exact h1
  · obtain ⟨e', he'⟩ : ∃ e', ds[m]? = some e' := ⟨ds[m]'(by omega), by simp [show m < ds.length by omega]⟩
    obtain ⟨v, hv, hDe⟩ := hD.get he'
    have : vs[m] = v := by simpa [hm] using hv
    rw [this, eqv_deq hDe hu (hk e' (List.mem_of_getElem? he'))]; exact h2 m e' hmj he'

theorem w_index {pos : Pos} {o : Value} {x : Sem Value} {Q : Value → Shared → Prop} {n : Nat} (G : Gd K g mg mb) (C : PC K) (hA : Ok (n + 1) A)
    (h : wpAny (model prog w) A x (fun v s₁ => ∃ cs ts ds d j, St g s₀ cs ts s₁ ∧ (o, .list ds) ∈ ts ∧ (v, d) ∈ ts ∧ (∀ e ∈ ds, SK e d) ∧ (∀ e ∈ ds, HasC cs e) ∧ HasC cs d ∧ FirstAt ds d j ∧ ∀ v' s', St g s₀ cs ((v', .int j) :: ts) s' → Q v' s') E s)
    (hl : ∃ l, o = .ref l) :
    wpAny (model prog w) A (callWith pos (.builtin "list.index") [o] [(false, x)] []) Q E s := by
  obtain ⟨l, rfl⟩ := hl
  refine seqMethod1_meets F.slot_list_index F.entry_list_index (wpAny_mono h (fun v s₁ hh => ?_) fun _ _ e => e)
  obtain ⟨cs, ts, ds, d, j, S, ho, hv, hk, hc, hc', hf, q⟩ := hh
  obtain ⟨a, vs, e, ⟨n, h1⟩, h2, h3⟩ := den_list (S.den ho)
  cases e
  obtain ⟨hj, hit, hno⟩ := first_den h2 (S.den hv) hk hf
  refine ⟨⟨_, h1, rfl⟩, F.args_list_index_2 _ _, _, list_indexAt l vs n none #[] v (fun y => eqv y v) j hj ?_ hit hno, h1, fun y hy => ?_, q _ _ (S.toks.tint _ _)⟩
  · have : vs.size = ds.length := by simpa using h2.length
    unfold lim at h3; omega
  · obtain ⟨i, hi, rfl⟩ := Array.mem_iff_getElem.mp hy
    obtain ⟨e, he, hDe⟩ := h2.getV (i := i) (v := vs[i]) (by simp [hi])
    have hm := List.mem_of_getElem? he
    rw [eqv_deq hDe (S.den hv) (hk e hm)]
    exact eqAt_den (S.kin G) C hDe (S.den hv) (hk e hm) (S.hasD (hc e hm)) (S.hasD hc') hA.in1.units

theorem w_remove {pos : Pos} {l : Addr} {x : Sem Value} {Q : Value → Shared → Prop} {n : Nat} (G : Gd K g mg mb) (C : PC K) (hA : Ok (n + 1) A)
    (h : wpAny (model prog w) A x (fun v s₁ => ∃ cs cs' ts ds d j, St g s₀ cs ts s₁ ∧ Upd l (.list ds) (.list (ds.eraseIdx j)) cs cs' ∧ (v, d) ∈ ts ∧ (∀ e ∈ ds, SK e d) ∧ (∀ e ∈ ds, HasC cs e) ∧ HasC cs d ∧ FirstAt ds d j ∧ ∀ s', St g s₀ cs' ts s' → Q .none s') E s) :
    wpAny (model prog w) A (callWith pos (.builtin "list.remove") [.ref l] [(false, x)] []) Q E s := by
  refine seqMethod1_meets F.slot_list_remove F.entry_list_remove (wpAny_mono h (fun v s₁ hh => ?_) fun _ _ e => e)
  obtain ⟨cs, cs', ts, ds, d, j, S, U, hv, hk, hc, hc', hf, q⟩ := hh
  obtain ⟨a, vs, e, ⟨n, h1⟩, h2, h3⟩ := den_list (S.denO U.mem)
  cases e
  obtain ⟨hj, hit, hno⟩ := first_den h2 (S.den hv) hk hf
  have hz : vs.size = ds.length := by simpa using h2.length
  refine ⟨⟨_, h1, rfl⟩, F.args_list_remove_2 _ _, _, list_removeAt l vs n v (fun y => eqv y v) j hj hit hno (by have := lim_line; omega), h1, fun y hy => ?_, q _ ?_⟩
  · obtain ⟨i, hi, rfl⟩ := Array.mem_iff_getElem.mp hy
    obtain ⟨e, he, hDe⟩ := h2.getV (i := i) (v := vs[i]) (by simp [hi])
    have hm := List.mem_of_getElem? he
    rw [eqv_deq hDe (S.den hv) (hk e hm)]
    exact eqAt_den (S.kin G) C hDe (S.den hv) (hk e hm) (S.hasD (hc e hm)) (S.hasD hc') hA.in1.units
  · have := S.upd (t := s₁.toks) U (Heap.SameBut.update s₁.heap l (Obj.mapSeq fun xs => xs.eraseIdxIfInBounds j)) fun V hV hts ⟨vs', ⟨k', ha2⟩, hd2, hl2⟩ => by
      rw [h1] at ha2; cases ha2
      refine ⟨_, ⟨_, IsL.update h1 _⟩, ?_, Nat.le_trans (List.length_eraseIdx_le ..) hl2⟩
      unfold Array.eraseIdxIfInBounds
      rw [dif_pos hj, Array.toList_eraseIdx]
      rw [List.eraseIdx_eq_take_drop_succ, List.eraseIdx_eq_take_drop_succ]
      exact (hd2.take j).append (hd2.drop (j + 1))
    exact this

/-! xs[i] = v -/
theorem s_item {l : Addr} {i v : Value} {ds : List D} {k : Int} {d : D} {Q : Unit → Shared → Prop} (S : St g s₀ cs ts s) (U : Upd l (.list ds) (.list (ds.set k.toNat d)) cs cs') (hi : (i, .int k) ∈ ts) (hv : (v, d) ∈ ts)
    (h0 : 0 ≤ k) (hk : k < ds.length) (h : ∀ s', St g s₀ cs' ts s' → Q () s') : wpAny (model prog w) A (setItem (.ref l) i v) Q E s := by
  obtain ⟨t, rfl⟩ := den_int (S.den hi)
  obtain ⟨a, vs, e, ⟨n, h1⟩, h2, h3⟩ := den_list (S.denO U.mem)
  cases e
  have hz : vs.size = ds.length := by simpa using h2.length
  have hl : s.heap.IsList l vs := ⟨_, h1, rfl, n, rfl⟩
  have hfit : k < 2 ^ 63 := by unfold lim at h3; omega
  unfold setItem
  refine wpAny_holding ?_
  refine wpAny_bind (wpAny_sequenceKey hl.typeIs (by decide) ?_)
  refine wpAny_bind (wpAny_callSpecial?_slot (name := Str.ofString "__setitem__") hl.typeIs slot_list_setitem
    (wpAny_call_entry slot_list_setitem hl.typeIs entry_list_setitem ?_ (args_list_setitem _ _ _)))
  show wpAny _ _ (Builtin.List.listSubscript? (.int k t) >>= _) _ _ s
  refine wpAny_bind (wpAny_listSubscript_int (fitsIndex_of h0 hfit) ?_)
  clear hfit
  obtain ⟨j, rfl⟩ := Int.eq_ofNat_of_zero_le h0
  have hj : j < vs.size := by omega
  have hx' : vs[j]? = some vs[j] := Array.getElem?_eq_getElem hj
  show wpAny _ _ ((seqItemAt l j >>= fun r => pure (r.map (j, ·))) >>= _) _ _ s
  refine wpAny_bind (wpAny_bind (wpAny_seqItemAt h1 rfl (wpAny_pure ?_)))
  rw [hx']
  show wpAny _ _ (setSeqItemAt l j v >>= _) _ _ s
  have := S.upd (t := s.toks) U (Heap.SameBut.update s.heap l (Obj.mapSeq (·.setIfInBounds j v))) fun V hV hts ⟨vs', ⟨k', ha2⟩, hd2, hl2⟩ => by
    rw [h1] at ha2; cases ha2
    exact ⟨_, ⟨_, IsL.update h1 _⟩, by simpa using hd2.set (hts _ hv) j, by simpa using hl2⟩
  refine wpAny_bind (wpAny_setSeqItemAt h1 rfl ?_)
  first
    | exact wpAny_bind (wpAny_pure (wpAny_pure ⟨.none, rfl, wpAny_pure (h _ this)⟩))
    | exact wpAny_pure ⟨.none, rfl, wpAny_pure (h _ this)⟩

/-! list(..) -/
theorem St.extL {h' : Heap} {t : Nat} {vs : Array Value} {ds : List D} {n : Nat} (S : St g s₀ cs ts s) (hc : cs ≠ []) (hk : VLe s.heap.get? h'.get?) (hn : h'.get? s.heap.objs.size = some { cls := .type "list", data := .seq vs n })
    (hD : ∀ V, (∀ p ∈ ts, Den V p.1 p.2) → VLe V s.heap.get? → DenL V vs.toList ds) (hl : ds.length ≤ lim) : St g s₀ ((s.heap.objs.size, .list ds) :: cs) ts { s with heap := h', toks := t } := by
  obtain ⟨⟨a, o⟩, r, rfl⟩ : ∃ p r, cs = p :: r := by cases cs with | nil => exact absurd rfl hc | cons p r => exact ⟨p, r, rfl⟩
  have hg := S.gsize (.head _)
  obtain ⟨V, x, b, c, d, e, f⟩ := S
  refine ⟨V, x, fun y oy q => hk _ _ (b _ _ q), fun p hp => ?_, ?_, e, by rw [f]⟩
  · rcases List.mem_cons.mp hp with rfl | hp
    · refine ⟨?_, hg, vs, ⟨n, hn⟩, hD V e b, hl⟩
      cases q : V s.heap.objs.size with
      | none => rfl
      | some oy => exact absurd (Heap.lt_size (b _ _ q)) (Nat.lt_irrefl _)
    · exact ⟨(c p hp).1, (c p hp).2.1, (c p hp).2.2.at fun o q => hk _ _ q⟩
  · refine List.nodup_cons.mpr ⟨fun q => ?_, d⟩
    obtain ⟨p, hp, q⟩ := List.mem_map.mp q
    obtain ⟨o', ho'⟩ := (c p hp).2.2.ex
    have := Heap.lt_size ho'
    dsimp only at q
    exact Nat.lt_irrefl _ (q ▸ this)
theorem c_listL {o : Value} {ds : List D} {Q : Value → Shared → Prop} (S : St g s₀ cs ts s) (hc : cs ≠ []) (ho : (o, .list ds) ∈ ts) (h : ∀ a s', St g s₀ ((a, .list ds) :: cs) ts s' → Q (.ref a) s') :
    wpAny (model prog w) A (call (.type "list") [o]) Q E s := by
  obtain ⟨l, vs, rfl, ⟨n, hl⟩, hz, hlim⟩ := S.listOf ho
  refine call_list_seq l (.inl rfl) hl rfl rfl (fun h' c' hk hn => h _ _ (S.extL (t := s.toks) hc hk hn (fun V hts hV => ?_) hlim)) (by have := lim_line; omega)
  cases hts _ ho with
  | list h1 h2 h3 =>
    have := hV _ _ h1; rw [hl] at this; cases this
    exact h2
theorem denL_ints {V : View} : ∀ {vs : List Value} {n i : Nat}, (∀ j, j < n → ∃ v t, vs[j]? = some v ∧ v = .int ((i + j : Nat) : Int) t) → vs.length = n → DenL V vs ((List.range' i n).map fun (k : Nat) => D.int (k : Int))
  | [], 0, i, _, _ => .nil
  | [], n + 1, i, _, h => by simp at h
  | v :: r, 0, i, _, h => by simp at h
  | v :: r, n + 1, i, h, hl => by
    rw [List.range'_succ, List.map_cons]
    obtain ⟨v', t, h1, h2⟩ := h 0 (by omega)
    simp at h1
    subst h1
    subst h2
    refine .cons (by simpa using Den.int _ _) (denL_ints (fun j hj => ?_) (by simpa using hl))
    obtain ⟨v', t, h1, h2⟩ := h (j + 1) (by omega)
    exact ⟨v', t, by simpa using h1, by rw [h2]; congr 1; omega⟩
theorem c_listR {o : Value} {n : Nat} {Q : Value → Shared → Prop} (S : St g s₀ cs ts s) (hh : A.handled = none) (hc : cs ≠ []) (ho : (o, .rng n) ∈ ts) (hn : n ≤ lim) (h : ∀ a s', St g s₀ ((a, .list ((List.range n).map fun (k : Nat) => D.int (k : Int))) :: cs) ts s' → Q (.ref a) s') :
    wpAny (model prog w) A (call (.type "list") [o]) Q E s := by
  obtain ⟨r, t, u, k, rfl, hr⟩ := den_rng (S.den ho)
  refine call_list_range hh hr (small_nat hn) (rangeSize_nat n) (by unfold lim at hn; omega) (fun h' tk acc c' hk hl hi => h _ _ (S.extL (t := tk) hc hk hl (fun V hts hV => ?_) (by simpa using hn)))
  obtain ⟨h1, h2⟩ := hi
  have := denL_ints (V := V) (vs := acc.toList) (n := n) (i := 0) (fun j hj => ?_) (by simpa using h1)
  · rw [List.range_eq_range']; exact this
  · have hj' : j < acc.size := by omega
    obtain ⟨t', e⟩ := h2 j acc[j] (by simp [hj'])
    exact ⟨acc[j], t', by simp [hj'], by rw [e]; congr 1; omega⟩
end
end
section
open PySem PySem.W PyProof.Rows PySem.Calls PySem.MeetsSeq PySem.AutoListH PySem.SeqAt PySem.MeetsSeq2 PySem.MeetsSeq3 PySem.SeqRoads2

theorem best_le (f : Nat → Int) : ∀ k, argBest (fun i j => decide (f i < f j)) k ≤ k ∧ ∀ i, i ≤ k → f (argBest (fun i j => decide (f i < f j)) k) ≤ f i
  | 0 => ⟨Nat.le_refl _, fun i hi => by have : i = 0 := by omega
                                        subst this; exact Int.le_refl _⟩
  | k + 1 => by
    have ih := best_le f k
    unfold argBest
    split
    · rename_i h
      have h := of_decide_eq_true h
      refine ⟨Nat.le_refl _, fun i hi => ?_⟩
      by_cases q : i = k + 1
      · subst q; exact Int.le_refl _
      · have := ih.2 i (by omega); omega
    · rename_i h
      have h : ¬ f (k + 1) < f (argBest (fun i j => decide (f i < f j)) k) := fun q => h (decide_eq_true q)
      refine ⟨by omega, fun i hi => ?_⟩
      by_cases q : i = k + 1
      · subst q; omega
      · exact ih.2 i (by omega)
theorem int_items {V : View} : ∀ {vs : List Value} {ns : List Int}, DenL V vs (ns.map .int) → ∃ xs : List (Int × Tok), vs = xs.map (fun p => .int p.1 p.2) ∧ xs.map (·.1) = ns
  | [], [], _ => ⟨[], rfl, rfl⟩
  | [], n :: r, h => by cases h
  | v :: r, [], h => by cases h
  | v :: r, n :: q, h => by
    cases h with
    | cons h1 h2 =>
      obtain ⟨t, rfl⟩ := den_int h1
      obtain ⟨xs, e1, e2⟩ := int_items h2
      exact ⟨(n, t) :: xs, by simp [e1], by simp [e2]⟩

section
variable {K : Frag} {g : Heap} {mg mb : Str → Option Value} {s₀ s : Shared} {cs cs' : List (Addr × OD)} {ts ts' : List (Value × D)}
variable {prog : Program} {w : World} {A : Around} {E : Value → Shared → Prop} {env : Env}

theorem c_min {o : Value} {ns : List Int} {Q : Value → Shared → Prop} (S : St g s₀ cs ts s) (hh : A.handled = none) (ho : (o, .list (ns.map .int)) ∈ ts) (hne : ns ≠ [])
    (h : ∀ v m s', m ∈ ns → (∀ a ∈ ns, m ≤ a) → St g s₀ cs ((v, .int m) :: ts) s' → Q v s') : wpAny (model prog w) A (call (.builtin "min") [o]) Q E s := by
  obtain ⟨l, vs, rfl, hl, hD, hlim⟩ := den_list (S.den ho)
  obtain ⟨xs, e1, e2⟩ := int_items hD
  have hvs : vs = intItems xs.toArray := by
    apply Array.ext'; rw [e1]; simp [intItems]
  subst hvs
  have hlen : 0 < xs.length := by
    cases xs with
    | nil => exact absurd e2.symm hne
    | cons _ _ => simp
  refine min_intList (xs := xs.toArray) hh hl.isList (by simpa using hlen) fun v h' tk hv hk => ?_
  have B := best_le (numAt xs.toArray) (xs.length - 1)
  simp only [List.size_toArray] at hv
  generalize argBest (fun i j => decide (numAt xs.toArray i < numAt xs.toArray j)) (xs.length - 1) = b at hv B
  have hb : b < xs.length := by omega
  have e3 : v = .int xs[b].1 xs[b].2 := by
    have : (intItems xs.toArray)[b]? = some (.int xs[b].1 xs[b].2) := by simp [intItems, hb]
    rw [this] at hv; exact (Option.some.inj hv).symm
  subst e3
  have nat : ∀ i (hi : i < xs.length), numAt xs.toArray i = xs[i].1 := fun i hi => by simp [numAt, hi]
  refine h _ xs[b].1 _ ?_ ?_ ((S.keep (t := tk) hk).tint _ _)
  · rw [← e2]; exact List.mem_map.mpr ⟨_, List.getElem_mem hb, rfl⟩
  · intro a ha
    rw [← e2] at ha
    obtain ⟨p, hp, rfl⟩ := List.mem_map.mp ha
    obtain ⟨i, hi, rfl⟩ := List.mem_iff_getElem.mp hp
    have := B.2 i (by omega)
    rw [nat b hb, nat i hi] at this
    exact this
theorem c_toint {o : Value} {i : Int} {Q : Value → Shared → Prop} (S : St g s₀ cs ts s) (ho : (o, .int i) ∈ ts) (h : ∀ v s', St g s₀ cs ((v, .int i) :: ts) s' → Q v s') : wpAny (model prog w) A (call (.type "int") [o]) Q E s := by
  obtain ⟨t, rfl⟩ := den_int (S.den ho)
  exact call_int_int (h _ _ (S.tint _ _))
theorem c_abs {o : Value} {i : Int} {Q : Value → Shared → Prop} (S : St g s₀ cs ts s) (ho : (o, .int i) ∈ ts) (h : ∀ v s', St g s₀ cs ((v, .int i.natAbs) :: ts) s' → Q v s') : wpAny (model prog w) A (call (.builtin "abs") [o]) Q E s := by
  obtain ⟨t, rfl⟩ := den_int (S.den ho)
  refine PyProof.Rows.call_abs_int fun u tk => h _ _ ?_
  have : (if i < 0 then -i else i) = (i.natAbs : Int) := by split <;> omega
  rw [this]; exact (S.toks (t := tk)).tint _ _
theorem c_strI {o : Value} {i : Int} {Q : Value → Shared → Prop} (S : St g s₀ cs ts s) (ho : (o, .int i) ∈ ts) (hi : i.natAbs.log2 < 1920) (h : ∀ v s', St g s₀ cs ((v, .str (toString i)) :: ts) s' → Q v s') : wpAny (model prog w) A (call (.type "str") [o]) Q E s := by
  obtain ⟨t, rfl⟩ := den_int (S.den ho)
  exact P.str_of_int hi (h _ _ ((S.toks (t := s.toks + 1)).tstr _ _))
theorem b_cats {a b : Value} {x y : Str} {Q : Value → Shared → Prop} (S : St g s₀ cs ts s) (ha : (a, .str x) ∈ ts) (hb : (b, .str y) ∈ ts) (hz : x.length + y.length ≤ lim) (h : ∀ v s', St g s₀ cs ((v, .str (x ++ y)) :: ts) s' → Q v s') :
    wpAny (model prog w) A (binaryOp .Add a b) Q E s := by
  obtain ⟨t, rfl⟩ := den_str (S.den ha); obtain ⟨u, rfl⟩ := den_str (S.den hb)
  exact PyProof.Rows.add_str (fun t' tk => h _ _ ((S.toks (t := tk)).tstr _ _)) (Nat.le_trans hz lim_line)
theorem c_isList {o : Value} {ds : List D} {Q : Value → Shared → Prop} (S : St g s₀ cs ts s) (ho : (o, .list ds) ∈ ts) (h : Q (.bool true) s) : wpAny (model prog w) A (call (.builtin "isinstance") [o, .type "list"]) Q E s := by
  obtain ⟨l, vs, rfl, ⟨n, hl⟩, _⟩ := S.listOf ho
  exact IsiPair.list_list hl rfl h

theorem b_fdiv {a b : Value} {i j : Int} {Q : Value → Shared → Prop} (S : St g s₀ cs ts s) (ha : (a, .int i) ∈ ts) (hb : (b, .int j) ∈ ts) (hj : j ≠ 0) (hs : j.natAbs < 1073741824) (h : ∀ v s', St g s₀ cs ((v, .int (i.fdiv j)) :: ts) s' → Q v s') :
    wpAny (model prog w) A (binaryOp .FloorDiv a b) Q E s := by
  obtain ⟨t, rfl⟩ := den_int (S.den ha); obtain ⟨u, rfl⟩ := den_int (S.den hb)
  exact PyProof.Rows.floordiv_int hj (h _ _ (S.toks.tint _ _)) (.inl (PyProof.noPylong_small hs))

/-! calls by a name -/
theorem call_name {x : Str} {np pos : Pos} {args : List Expr} {f : Value} {Q : Value → Shared → Prop}
    (hf : wpAny (model prog w) A (eval (.Name x np) env) (fun v s' => v = f ∧ s' = s) NoE s)
    (h : wpAny (model prog w) A (callWith pos f [] (backTo pos (starEach args env)) []) Q NoE s) :
    wpAny (model prog w) A (eval (.Call (.Name x np) args [] pos) env) Q NoE s :=
  wpAny_Call_ofName (wpAny_mono hf (fun v s' ⟨e1, e2⟩ => by subst e1; subst e2; exact h) fun _ _ q => q)
theorem cw_type1 {pos : Pos} {T : String} {x : Sem Value} {Q : Value → Shared → Prop} (h : wpAny (model prog w) A x (fun v s₁ => wpAny (model prog w) A (call (.type T) [v]) Q NoE s₁) NoE s) :
    wpAny (model prog w) A (callWith pos (.type T) [] [(false, x)] []) Q NoE s :=
  PyProof.Rows.callWith_type rfl (evalArgs_plain (spliced_cons (wpAny_mono h (fun v s₁ q => spliced_nil q) fun _ _ q => q)))
theorem cw_b1 {pos : Pos} {id : String} {x : Sem Value} {Q : Value → Shared → Prop} (h : wpAny (model prog w) A x (fun v s₁ => wpAny (model prog w) A (call (.builtin id) [v]) Q NoE s₁) NoE s) :
    wpAny (model prog w) A (callWith pos (.builtin id) [] [(false, x)] []) Q NoE s :=
  callWith_builtin rfl (evalArgs_plain (spliced_cons (wpAny_mono h (fun v s₁ q => spliced_nil q) fun _ _ q => q)))
theorem cw_b2 {pos : Pos} {id : String} {x y : Sem Value} {Q : Value → Shared → Prop} (h : wpAny (model prog w) A x (fun v s₁ => wpAny (model prog w) A y (fun u s₂ => wpAny (model prog w) A (call (.builtin id) [v, u]) Q NoE s₂) NoE s₁) NoE s) :
    wpAny (model prog w) A (callWith pos (.builtin id) [] [(false, x), (false, y)] []) Q NoE s :=
  callWith_builtin rfl (evalArgs_plain (spliced_cons (wpAny_mono h (fun v s₁ q => spliced_cons (wpAny_mono q (fun u s₂ q => spliced_nil q) fun _ _ q => q)) fun _ _ q => q)))
/-- a def of the text, by its address; what stands in front (self) -/
theorem cw_f0 {pos : Pos} {a : Addr} {oc : Value} {od : Option Addr} {sl : Array (Option Value)} {fd : FuncData} {first : List Value} {Q : Value → Shared → Prop} (S : St g s₀ cs ts s) (G : Gd K g mg mb) (ho : K.lookup a = some ⟨oc, od, .func fd, sl⟩)
    (h : wpAny (model prog w) A (call (.ref a) first) Q NoE s) :
    wpAny (model prog w) A (callWith pos (.ref a) first [] []) Q NoE s :=
  callWith_function (o := ⟨oc, od, .func fd, sl⟩) (fd := fd) (PySem.evalArgs_none ⟨⟨(S.kin G) _ _ ho, rfl⟩, by simpa using h⟩)
theorem cw_f1 {pos : Pos} {a : Addr} {oc : Value} {od : Option Addr} {sl : Array (Option Value)} {fd : FuncData} {first : List Value} {x : Sem Value} {Q : Value → Shared → Prop} (G : Gd K g mg mb) (ho : K.lookup a = some ⟨oc, od, .func fd, sl⟩)
    (h : wpAny (model prog w) A x (fun v s₁ => ∃ cs ts, St g s₀ cs ts s₁ ∧ wpAny (model prog w) A (call (.ref a) (first ++ [v])) Q NoE s₁) NoE s) :
    wpAny (model prog w) A (callWith pos (.ref a) first [(false, x)] []) Q NoE s :=
  callWith_function (o := ⟨oc, od, .func fd, sl⟩) (fd := fd) (evalArgs_plain (spliced_cons (wpAny_mono h (fun v s₁ ⟨cs, ts, S, q⟩ => spliced_nil ⟨⟨(S.kin G) _ _ ho, rfl⟩, q⟩) fun _ _ q => q)))
theorem cw_f2 {pos : Pos} {a : Addr} {oc : Value} {od : Option Addr} {sl : Array (Option Value)} {fd : FuncData} {first : List Value} {x y : Sem Value} {Q : Value → Shared → Prop} (G : Gd K g mg mb) (ho : K.lookup a = some ⟨oc, od, .func fd, sl⟩)
    (h : wpAny (model prog w) A x (fun v s₁ => wpAny (model prog w) A y (fun u s₂ => ∃ cs ts, St g s₀ cs ts s₂ ∧ wpAny (model prog w) A (call (.ref a) (first ++ [v, u])) Q NoE s₂) NoE s₁) NoE s) :
    wpAny (model prog w) A (callWith pos (.ref a) first [(false, x), (false, y)] []) Q NoE s :=
  callWith_function (o := ⟨oc, od, .func fd, sl⟩) (fd := fd) (evalArgs_plain (spliced_cons (wpAny_mono h (fun v s₁ q => spliced_cons (wpAny_mono q (fun u s₂ ⟨cs, ts, S, q⟩ => spliced_nil ⟨⟨(S.kin G) _ _ ho, rfl⟩, q⟩) fun _ _ q => q)) fun _ _ q => q)))

/-! methods of objects -/
theorem m_obj {o : Expr} {name : Str} {apos pos : Pos} {args : List Expr} {Q : Value → Shared → Prop}
    (h : wpAny (model prog w) A (eval o env) (fun ov s₁ => wpAny (model prog w) A (getMethod ov name (do return (← importBound o env).getD true)) (fun fm s₂ => wpAny (model prog w) A (callWith pos fm.1 fm.2 (backTo pos (starEach args env)) []) Q NoE s₂) NoE s₁) NoE s)
    (hbase : attributeBase o name env (eval o env) = eval o env := by rfl)
    (hfew : methodCallForm (args.length + ([] : List Keyword).length) (backTo pos (starEach args env)) (backToKw pos (keywordEach [] env)) = true := by rfl)
    (hline : (apos.endLine == pos.line) = true := by rfl) :
    wpAny (model prog w) A (eval (.Call (.Attribute o name apos) args [] pos) env) Q NoE s := by
  rw [arm_eval_Call, hbase]
  refine wpAny_bind (wpAny_mono h (fun ov s₁ h₁ => ?_) fun _ _ e => e)
  refine wpAny_bind (wpAny_standAt ?_)
  have hpos : methodCallPos true o env apos pos = pure pos := by unfold methodCallPos; simp [hline]
  unfold methodCall
  rw [hfew]
  refine wpAny_bind (wpAny_holding (wpAny_mono h₁ (fun fm s₂ h₂ => ?_) fun _ _ e => e))
  obtain ⟨f, first⟩ := fm
  exact wpAny_bind (wpAny_of_eq hpos h₂)
theorem e_attr {value : Expr} {attr : Str} {pos : Pos} {Q : Value → Shared → Prop}
    (h : wpAny (model prog w) A (eval value env) (fun o s₁ => wpAny (model prog w) A (getAttr o attr true) Q NoE s₁) NoE s)
    (hbase : attributeBase value attr env (eval value env) = eval value env := by rfl) :
    wpAny (model prog w) A (eval (.Attribute value attr pos) env) Q NoE s := by
  show wpAny _ A (attributeBase value attr env (eval value env) >>= _) _ _ _
  rw [hbase]
  refine wpAny_bind (wpAny_mono h (fun o s₁ h₁ => wpAny_bind (wpAny_standAt (wpAny_bind (wpAny_holding (wpAny_mono h₁ (fun r s₂ h₂ => wpAny_bind (wpAny_letTemporaryGo (wpAny_pure h₂))) fun _ _ q => q))))) fun _ _ q => q)

/-! more forms for the walk -/
theorem nm_localV {x : Str} {pos : Pos} {ls : List (Str × D)} {u : Value} {Q : Value → Shared → Prop} (S : St g s₀ cs ts s) (hL : (env.locals, .names ls) ∈ cs) (hx : (x, .val u) ∈ ls) (h : Q u s)
    (hk : env.scope.kind = .function := by rfl) (hl : env.kindOf x = some .local := by rfl) (hd : (x == ("__debug__" : Str)) = false := by decide) :
    wpAny (model prog w) A (eval (.Name x pos) env) Q E s :=
  nm_local S hL hx (fun v S' => by obtain rfl := den_val (S'.den List.mem_cons_self); exact h) hk hl hd
theorem nm_cellV {x : Str} {pos : Pos} {c : Addr} {u : Value} {Q : Value → Shared → Prop} (S : St g s₀ cs ts s) (hc : env.cells.lookup x = some c) (hm : (c, .cell (some (.val u))) ∈ cs) (h : Q u s)
    (hk : env.scope.kind = .function := by rfl) (hl : env.kindOf x = some .cell := by rfl) (hd : (x == ("__debug__" : Str)) = false := by decide) :
    wpAny (model prog w) A (eval (.Name x pos) env) Q E s :=
  nm_cell S hc hm (fun v S' => by obtain rfl := den_val (S'.den List.mem_cons_self); exact h) hk hl hd
theorem nm_freeV {x : Str} {pos : Pos} {c : Addr} {u : Value} {Q : Value → Shared → Prop} (S : St g s₀ cs ts s) (hc : env.cells.lookup x = some c) (hm : (c, .cell (some (.val u))) ∈ cs) (h : Q u s)
    (hk : env.scope.kind = .function := by rfl) (hl : env.kindOf x = some .free := by rfl) (hd : (x == ("__debug__" : Str)) = false := by decide) (hn : (x == ("__classdict__" : Str)) = false := by decide) :
    wpAny (model prog w) A (eval (.Name x pos) env) Q E s :=
  nm_free S hc hm (fun v S' => by obtain rfl := den_val (S'.den List.mem_cons_self); exact h) hk hl hd hn

theorem m_list1 {o e : Expr} {name : Str} {apos pos : Pos} {id : String} {Q : Value → Shared → Prop}
    (slot : Slot "list" name id) (hty : typeOf (.builtin id) = pure (.type "method_descriptor"))
    (h : wpAny (model prog w) A (eval o env) (fun ov s₁ => ∃ l vs, ov = .ref l ∧ s₁.heap.PlainList l vs ∧ wpAny (model prog w) A (callWith pos (.builtin id) [ov] [(false, eval e env)] []) Q NoE s₁) NoE s)
    (he : backTo pos (starEach [e] env) = [(false, eval e env)] := by rfl)
    (hbase : attributeBase o name env (eval o env) = eval o env := by rfl)
    (hline : (apos.endLine == pos.line) = true := by rfl) :
    wpAny (model prog w) A (eval (.Call (.Attribute o name apos) [e] [] pos) env) Q NoE s :=
  m_list slot hty (by rw [he]; exact h) hbase (by rw [he]; rfl) hline
theorem m_list0 {o : Expr} {name : Str} {apos pos : Pos} {id : String} {Q : Value → Shared → Prop}
    (slot : Slot "list" name id) (hty : typeOf (.builtin id) = pure (.type "method_descriptor"))
    (h : wpAny (model prog w) A (eval o env) (fun ov s₁ => ∃ l vs, ov = .ref l ∧ s₁.heap.PlainList l vs ∧ wpAny (model prog w) A (callWith pos (.builtin id) [ov] [] []) Q NoE s₁) NoE s)
    (hbase : attributeBase o name env (eval o env) = eval o env := by rfl)
    (hline : (apos.endLine == pos.line) = true := by rfl) :
    wpAny (model prog w) A (eval (.Call (.Attribute o name apos) [] [] pos) env) Q NoE s :=
  m_list slot hty h hbase rfl hline
theorem onO {l : Addr} {ds : List D} {R : Value → Prop} (S : St g s₀ cs ts s) (ho : (l, .list ds) ∈ cs) (h : R (.ref l)) : ∃ l' vs, Value.ref l = .ref l' ∧ s.heap.PlainList l' vs ∧ R (.ref l) := by
  obtain ⟨vs, hp, _⟩ := S.ownedList ho
  exact ⟨l, vs, rfl, hp, h⟩
theorem onV {v : Value} {ds : List D} {R : Value → Prop} (S : St g s₀ cs ts s) (ho : (v, .list ds) ∈ ts) (h : R v) : ∃ l' vs, v = .ref l' ∧ s.heap.PlainList l' vs ∧ R v := by
  obtain ⟨l, vs, rfl, hp, _⟩ := S.listOf ho
  exact ⟨l, vs, rfl, hp, h⟩
theorem St.isRef {v : Value} {ds : List D} (S : St g s₀ cs ts s) (ho : (v, .list ds) ∈ ts) : ∃ l, v = .ref l := by
  obtain ⟨l, vs, rfl, hp, _⟩ := S.listOf ho
  exact ⟨l, rfl⟩
theorem m_obj1 {o e : Expr} {name : Str} {apos pos : Pos} {Q : Value → Shared → Prop}
    (h : wpAny (model prog w) A (eval o env) (fun ov s₁ => wpAny (model prog w) A (getMethod ov name (do return (← importBound o env).getD true)) (fun fm s₂ => wpAny (model prog w) A (callWith pos fm.1 fm.2 [(false, eval e env)] []) Q NoE s₂) NoE s₁) NoE s)
    (he : backTo pos (starEach [e] env) = [(false, eval e env)] := by rfl)
    (hbase : attributeBase o name env (eval o env) = eval o env := by rfl)
    (hline : (apos.endLine == pos.line) = true := by rfl) :
    wpAny (model prog w) A (eval (.Call (.Attribute o name apos) [e] [] pos) env) Q NoE s :=
  m_obj (by rw [he]; exact h) hbase (by rw [he]; rfl) hline
theorem m_obj0 {o : Expr} {name : Str} {apos pos : Pos} {Q : Value → Shared → Prop}
    (h : wpAny (model prog w) A (eval o env) (fun ov s₁ => wpAny (model prog w) A (getMethod ov name (do return (← importBound o env).getD true)) (fun fm s₂ => wpAny (model prog w) A (callWith pos fm.1 fm.2 [] []) Q NoE s₂) NoE s₁) NoE s)
    (hbase : attributeBase o name env (eval o env) = eval o env := by rfl)
    (hline : (apos.endLine == pos.line) = true := by rfl) :
    wpAny (model prog w) A (eval (.Call (.Attribute o name apos) [] [] pos) env) Q NoE s :=
  m_obj h hbase rfl hline

theorem St.leave {a : Addr} {o : OD} {v : Value} {d : D} (S : St g s₀ ((a, o) :: cs) ts' s) (hv : (v, d) ∈ ts') (hb : ∀ p ∈ ts, p ∈ ts') : St g s₀ cs ((v, d) :: ts) s :=
  (S.csub (List.sublist_cons_self _ _)).tsub fun p hp => by
    rcases List.mem_cons.mp hp with rfl | hp
    · exact hv
    · exact hb p hp
theorem ex_expr {e : Expr} {pos : Pos} {Q : Flow → Shared → Prop} (h : wpAny (model prog w) A (eval e env) (fun _ s' => Q .next s') NoE s) (hi : interactive env = false := by rfl) (hs : swapsWith e none pos.line env = pure false := by rfl) :
    wpAny (model prog w) A (exec (.Expr e pos) env) Q NoE s := wpAny_Expr_any h hi hs
/-- the store of xs[i] = v -/
theorem ex_setitem {o i value : Expr} {pos' pos : Pos} {Q : Flow → Shared → Prop}
    (h : wpAny (model prog w) A (eval value env) (fun v s₁ => wpAny (model prog w) A (eval o env) (fun ov s₂ => wpAny (model prog w) A (eval i env) (fun iv s₃ => wpAny (model prog w) A (setItem ov iv v) (fun _ s' => Q .next s') NoE s₃) NoE s₂) NoE s₁) NoE s)
    (hs : swapsWith value (some (.Subscript o i pos')) pos.line env = pure false := by rfl) :
    wpAny (model prog w) A (exec (.Assign [.Subscript o i pos'] value pos) env) Q NoE s := wpAny_Assign_Subscript h hs

/-! what is new and stays as it is -/
theorem c_listRV {o : Value} {n : Nat} {Q : Value → Shared → Prop} (S : St g s₀ cs ts s) (hh : A.handled = none) (hc : cs ≠ []) (ho : (o, .rng n) ∈ ts) (hn : n ≤ lim) (h : ∀ v s', St g s₀ cs ((v, .list ((List.range n).map fun (k : Nat) => D.int (k : Int))) :: ts) s' → Q v s') :
    wpAny (model prog w) A (call (.type "list") [o]) Q E s := c_listR S hh hc ho hn fun a s' S' => h _ _ S'.freezeList
theorem c_listLV {o : Value} {ds : List D} {Q : Value → Shared → Prop} (S : St g s₀ cs ts s) (hc : cs ≠ []) (ho : (o, .list ds) ∈ ts) (h : ∀ v s', St g s₀ cs ((v, .list ds) :: ts) s' → Q v s') :
    wpAny (model prog w) A (call (.type "list") [o]) Q E s := c_listL S hc ho fun a s' S' => h _ _ S'.freezeList
theorem b_catV {a b : Value} {ds es : List D} {Q : Value → Shared → Prop} (S : St g s₀ cs ts s) (hc : cs ≠ []) (ha : (a, .list ds) ∈ ts) (hb : (b, .list es) ∈ ts) (hl : ds.length + es.length ≤ lim)
    (h : ∀ v s', St g s₀ cs ((v, .list (ds ++ es)) :: ts) s' → Q v s') : wpAny (model prog w) A (binaryOp .Add a b) Q E s := b_cat S hc ha hb hl fun a s' S' => h _ _ S'.freezeList
section
variable {o vl vu : Value} {ds : List D} {k : Int} {Q : Value → Shared → Prop}
theorem sl_from (S : St g s₀ cs ts s) (hc : cs ≠ []) (ho : (o, .list ds) ∈ ts) (hi : (vl, .int k) ∈ ts) (h0 : 0 ≤ k) (h : ∀ v s', St g s₀ cs ((v, .list (ds.drop k.toNat)) :: ts) s' → Q v s') :
    ∃ cs ts ds es lo hi, St g s₀ cs ts s ∧ cs ≠ [] ∧ (o, .list ds) ∈ ts ∧ IsPart vl lo ∧ IsPart .none hi ∧ (∀ V vs, DenL V vs.toList ds → DenL V (slicePick vs lo hi none).toList es) ∧ ∀ a s', St g s₀ ((a, .list es) :: cs) ts s' → Q (.ref a) s' :=
  ⟨cs, ts, ds, _, _, _, S, hc, ho, part_int S hi, .none, fun V vs q => pick_from h0 vs q, fun a s' S' => h _ _ S'.freezeList⟩
theorem sl_to (S : St g s₀ cs ts s) (hc : cs ≠ []) (ho : (o, .list ds) ∈ ts) (hi : (vu, .int k) ∈ ts) (h0 : 0 ≤ k) (h : ∀ v s', St g s₀ cs ((v, .list (ds.take k.toNat)) :: ts) s' → Q v s') :
    ∃ cs ts ds es lo hi, St g s₀ cs ts s ∧ cs ≠ [] ∧ (o, .list ds) ∈ ts ∧ IsPart .none lo ∧ IsPart vu hi ∧ (∀ V vs, DenL V vs.toList ds → DenL V (slicePick vs lo hi none).toList es) ∧ ∀ a s', St g s₀ ((a, .list es) :: cs) ts s' → Q (.ref a) s' :=
  ⟨cs, ts, ds, _, _, _, S, hc, ho, .none, part_int S hi, fun V vs q => pick_to h0 vs q, fun a s' S' => h _ _ S'.freezeList⟩
theorem sl_allO (S : St g s₀ cs ts s) (hc : cs ≠ []) (ho : (o, .list ds) ∈ ts) (h : ∀ a s', St g s₀ ((a, .list ds) :: cs) ts s' → Q (.ref a) s') :
    ∃ cs ts ds es lo hi, St g s₀ cs ts s ∧ cs ≠ [] ∧ (o, .list ds) ∈ ts ∧ IsPart .none lo ∧ IsPart .none hi ∧ (∀ V vs, DenL V vs.toList ds → DenL V (slicePick vs lo hi none).toList es) ∧ ∀ a s', St g s₀ ((a, .list es) :: cs) ts s' → Q (.ref a) s' :=
  ⟨cs, ts, ds, _, _, _, S, hc, ho, .none, .none, fun V vs q => pick_all vs q, h⟩
theorem sl_all (S : St g s₀ cs ts s) (hc : cs ≠ []) (ho : (o, .list ds) ∈ ts) (h : ∀ v s', St g s₀ cs ((v, .list ds) :: ts) s' → Q v s') :
    ∃ cs ts ds es lo hi, St g s₀ cs ts s ∧ cs ≠ [] ∧ (o, .list ds) ∈ ts ∧ IsPart .none lo ∧ IsPart .none hi ∧ (∀ V vs, DenL V vs.toList ds → DenL V (slicePick vs lo hi none).toList es) ∧ ∀ a s', St g s₀ ((a, .list es) :: cs) ts s' → Q (.ref a) s' :=
  sl_allO S hc ho fun a s' S' => h _ _ S'.freezeList
end
/-- [] , owned -/
theorem e_nilO {pos : Pos} {Q : Value → Shared → Prop} (S : St g s₀ cs ts s) (hc : cs ≠ []) (h : ∀ a s', St g s₀ ((a, .list []) :: cs) ts s' → Q (.ref a) s') : wpAny (model prog w) A (eval (.List [] pos) env) Q E s :=
  e_list (spliced_nil ⟨cs, ts, [], S, hc, .nil, by simp, h⟩)
theorem e_nil {pos : Pos} {Q : Value → Shared → Prop} (S : St g s₀ cs ts s) (hc : cs ≠ []) (h : ∀ v s', St g s₀ cs ((v, .list []) :: ts) s' → Q v s') : wpAny (model prog w) A (eval (.List [] pos) env) Q E s :=
  e_nilO S hc fun a s' S' => h _ _ S'.freezeList
theorem e_one {e : Expr} {pos : Pos} {Q : Value → Shared → Prop} (h : wpAny (model prog w) A (eval e env) (fun v s' => ∃ cs ts d, St g s₀ cs ts s' ∧ cs ≠ [] ∧ (v, d) ∈ ts ∧ ∀ v s', St g s₀ cs ((v, .list [d]) :: ts) s' → Q v s') E s)
    (he : backTo pos (starEach [e] env) = [(false, eval e env)] := by rfl) : wpAny (model prog w) A (eval (.List [e] pos) env) Q E s :=
  e_list (by rw [he]; exact spliced_cons (wpAny_mono h (fun v s' ⟨cs, ts, d, S, hc, hv, q⟩ => spliced_nil ⟨cs, ts, [d], S, hc, .cons hv .nil, by simp [lim], fun a s' S' => q _ _ S'.freezeList⟩) fun _ _ q => q))
theorem e_pair {e f : Expr} {k : Nat} {pos : Pos} {Q : Value → Shared → Prop} (h : wpAny (model prog w) A (eval e env) (fun v s' => wpAny (model prog w) A (eval f env) (fun u s' => ∃ cs ts d d', St g s₀ cs ts s' ∧ cs ≠ [] ∧ (v, d) ∈ ts ∧ (u, d') ∈ ts ∧ ∀ v s', St g s₀ cs ((v, .tup [d, d']) :: ts) s' → Q v s') E s') E s)
    (he : backTo pos (starEach [e, f] env) = [(false, eval e env), (false, eval f env)] := by rfl) : wpAny (model prog w) A (eval (.Tuple [e, f] k pos) env) Q E s :=
  e_tup (by rw [he]; exact spliced_cons (wpAny_mono h (fun v s' q => spliced_cons (wpAny_mono q (fun u s' ⟨cs, ts, d, d', S, hc, hv, hu, q⟩ => spliced_nil ⟨cs, ts, [d, d'], S, hc, .cons hv (.cons hu .nil), by simp [lim], q⟩) fun _ _ q => q)) fun _ _ q => q))
end
end
section
/-! the head: the text's top is run by the kernel, in four parts -/
noncomputable abbrev TP : Program := PySem.Challenge.rw_jz0001_01.row.prog
noncomputable def pbody : List Stmt := PySem.Challenge.rw_jz0001_01.prog.main.body
noncomputable def fnS : Option Stmt → Option (Arguments × List Stmt × Scope)
  | some (.FunctionDef _ ps b _ _ _ sc _ _ _) => some (ps, b, sc)
  | _ => none
noncomputable def clsS : Option Stmt → List Stmt
  | some (.ClassDef _ _ _ b _ _ _ _ _ _ _) => b
  | _ => []
noncomputable def o43 (P : Params) : Obj :=
  { cls := Value.type "tuple", data := Data.seq #[] }
noncomputable def o44 (P : Params) : Obj :=
  { cls := Value.none, data := Data.fields #[] }
noncomputable def o45 (P : Params) : Obj :=
  { cls := Value.type "code", data := Data.fields #[Value.str (Str.ofString "<module>") 182, Value.str (Str.ofString "<module>") 183, Value.str (Str.ofString "/claim/cut.py") 184, Value.int 1 0, Value.int 0 0, Value.int 0 0, Value.int 0 0, Value.int 0 0, Value.ref 11, Value.bool Bool.false, Value.int 181 0, Value.ref 12, Value.none, Value.none, Value.none, Value.none, Value.int 185 0, Value.int 1 0, Value.str (Str.ofString "/claim/cut.py") 186] }
noncomputable def o46 (P : Params) : Obj :=
  { cls := Value.type "frame", slots := #[Option.some (Value.ref 13), Option.some (Value.ref 3), Option.some (Value.ref 3), Option.none, Option.some (Value.str (Str.ofString "__main__") 164), Option.none, Option.some (Value.ref 0)] }
noncomputable def o49 (P : Params) : Obj :=
  { cls := Value.type "dict", data := Data.dict #[{ hash := PyData.keyHash P (Str.ofString "__name__"), key := Value.str (Str.ofString "__name__") 165, val := Value.str (Str.ofString "matching.base") 218 }, { hash := PyData.keyHash P (Str.ofString "__doc__"), key := Value.str (Str.ofString "__doc__") 166, val := Value.none }, { hash := PyData.keyHash P (Str.ofString "__package__"), key := Value.str (Str.ofString "__package__") 167, val := Value.none }, { hash := PyData.keyHash P (Str.ofString "__loader__"), key := Value.str (Str.ofString "__loader__") 168, val := Value.builtin "__main__.__loader__#opaque" }, { hash := PyData.keyHash P (Str.ofString "__spec__"), key := Value.str (Str.ofString "__spec__") 169, val := Value.none }, { hash := PyData.keyHash P (Str.ofString "__annotations__"), key := Value.str (Str.ofString "__annotations__") 170, val := Value.ref 6 }, { hash := PyData.keyHash P (Str.ofString "__builtins__"), key := Value.str (Str.ofString "__builtins__") 171, val := Value.ref 4 }, { hash := PyData.keyHash P (Str.ofString "__file__"), key := Value.str (Str.ofString "__file__") 173, val := Value.str (Str.ofString "/claim/cut.py") 172 }, { hash := PyData.keyHash P (Str.ofString "__cached__"), key := Value.str (Str.ofString "__cached__") 174, val := Value.none }, { hash := PyData.keyHash P (Str.ofString "_wall"), key := Value.str (Str.ofString "_wall") 193, val := Value.ref 21 }, { hash := PyData.keyHash P (Str.ofString "_delete_pair"), key := Value.str (Str.ofString "_delete_pair") 203, val := Value.ref 28 }, { hash := PyData.keyHash P (Str.ofString "first_phase"), key := Value.str (Str.ofString "first_phase") 217, val := Value.ref 35 }] 12 }
noncomputable def o50 (P : Params) : Obj :=
  { cls := Value.none, data := Data.fields #[Value.int 1 0, Value.int 0 0, Value.ref 20, Value.int 5 0, Value.int 0 0, Value.ref 27, Value.int 9 0, Value.int 0 0, Value.ref 34] }
noncomputable def o51 (P : Params) : Obj :=
  { cls := Value.type "tuple", data := Data.seq #[] }
noncomputable def o52 (P : Params) : Obj :=
  { cls := Value.none, data := Data.fields #[] }
noncomputable def o53 (P : Params) : Obj :=
  { cls := Value.type "tuple", data := Data.seq #[Value.str (Str.ofString "k") 190] }
noncomputable def o54 (P : Params) : Obj :=
  { cls := Value.type "tuple", data := Data.seq #[] }
noncomputable def qp0 : Arguments := (fun {p b c} (_ : (fnS pbody[0]?) = some (p, b, c)) => p) rfl
noncomputable def qb0 : List Stmt := (fun {p b c} (_ : (fnS pbody[0]?) = some (p, b, c)) => b) rfl
noncomputable def qs0 : Scope := (fun {p b c} (_ : (fnS pbody[0]?) = some (p, b, c)) => c) rfl
noncomputable def o55 (P : Params) : Obj :=
  { cls := Value.none, data := Data.func { name := Str.ofString "_wall", qualname := Str.ofString "_wall", params := qp0, body := FuncBody.stmts qb0, scope := qs0, globals := 0, closure := [], defaults := Value.none, kwdefaults := Value.none } }
noncomputable def o56 (P : Params) : Obj :=
  { cls := Value.type "code", data := Data.fields #[Value.str (Str.ofString "_wall") 187, Value.str (Str.ofString "_wall") 188, Value.str (Str.ofString "/claim/cut.py") 189, Value.int 1 0, Value.int 1 0, Value.int 0 0, Value.int 0 0, Value.int 3 0, Value.ref 15, Value.bool Bool.true, Value.int 181 0, Value.ref 16, Value.none, Value.ref 17, Value.ref 18, Value.ref 19, Value.int 191 0, Value.int 1 0, Value.str (Str.ofString "/claim/cut.py") 192] }
noncomputable def o57 (P : Params) : Obj :=
  { cls := Value.type "function", data := Data.func { name := Str.ofString "_wall", qualname := Str.ofString "_wall", params := qp0, body := FuncBody.stmts qb0, scope := qs0, globals := 3, closure := [], defaults := Value.none, kwdefaults := Value.none, pyModule := Value.str (Str.ofString "__main__") 164, code := Value.ref 20 } }
noncomputable def o58 (P : Params) : Obj :=
  { cls := Value.type "tuple", data := Data.seq #[] }
noncomputable def o59 (P : Params) : Obj :=
  { cls := Value.none, data := Data.fields #[] }
noncomputable def o60 (P : Params) : Obj :=
  { cls := Value.type "tuple", data := Data.seq #[Value.str (Str.ofString "player") 199, Value.str (Str.ofString "other") 200] }
noncomputable def o61 (P : Params) : Obj :=
  { cls := Value.type "tuple", data := Data.seq #[] }
noncomputable def qp1 : Arguments := (fun {p b c} (_ : (fnS pbody[2]?) = some (p, b, c)) => p) rfl
noncomputable def qb1 : List Stmt := (fun {p b c} (_ : (fnS pbody[2]?) = some (p, b, c)) => b) rfl
noncomputable def qs1 : Scope := (fun {p b c} (_ : (fnS pbody[2]?) = some (p, b, c)) => c) rfl
noncomputable def o62 (P : Params) : Obj :=
  { cls := Value.none, data := Data.func { name := Str.ofString "_delete_pair", qualname := Str.ofString "_delete_pair", params := qp1, body := FuncBody.stmts qb1, scope := qs1, globals := 0, closure := [], defaults := Value.none, kwdefaults := Value.none } }
noncomputable def o63 (P : Params) : Obj :=
  { cls := Value.type "code", data := Data.fields #[Value.str (Str.ofString "_delete_pair") 196, Value.str (Str.ofString "_delete_pair") 197, Value.str (Str.ofString "/claim/cut.py") 198, Value.int 5 0, Value.int 2 0, Value.int 0 0, Value.int 0 0, Value.int 3 0, Value.ref 22, Value.bool Bool.true, Value.int 181 0, Value.ref 23, Value.none, Value.ref 24, Value.ref 25, Value.ref 26, Value.int 201 0, Value.int 5 0, Value.str (Str.ofString "/claim/cut.py") 202] }
noncomputable def o64 (P : Params) : Obj :=
  { cls := Value.type "function", data := Data.func { name := Str.ofString "_delete_pair", qualname := Str.ofString "_delete_pair", params := qp1, body := FuncBody.stmts qb1, scope := qs1, globals := 3, closure := [], defaults := Value.none, kwdefaults := Value.none, pyModule := Value.str (Str.ofString "matching.algorithms.util") 194, code := Value.ref 27 } }
noncomputable def o65 (P : Params) : Obj :=
  { cls := Value.type "tuple", data := Data.seq #[] }
noncomputable def o66 (P : Params) : Obj :=
  { cls := Value.none, data := Data.fields #[] }
noncomputable def o67 (P : Params) : Obj :=
  { cls := Value.type "tuple", data := Data.seq #[Value.str (Str.ofString "players") 209, Value.str (Str.ofString "free_players") 210, Value.str (Str.ofString "player") 211, Value.str (Str.ofString "favourite") 212, Value.str (Str.ofString "current") 213, Value.str (Str.ofString "successor") 214] }
noncomputable def o68 (P : Params) : Obj :=
  { cls := Value.type "tuple", data := Data.seq #[] }
noncomputable def qp2 : Arguments := (fun {p b c} (_ : (fnS pbody[4]?) = some (p, b, c)) => p) rfl
noncomputable def qb2 : List Stmt := (fun {p b c} (_ : (fnS pbody[4]?) = some (p, b, c)) => b) rfl
noncomputable def qs2 : Scope := (fun {p b c} (_ : (fnS pbody[4]?) = some (p, b, c)) => c) rfl
noncomputable def o69 (P : Params) : Obj :=
  { cls := Value.none, data := Data.func { name := Str.ofString "first_phase", qualname := Str.ofString "first_phase", params := qp2, body := FuncBody.stmts qb2, scope := qs2, globals := 0, closure := [], defaults := Value.none, kwdefaults := Value.none } }
noncomputable def o70 (P : Params) : Obj :=
  { cls := Value.type "code", data := Data.fields #[Value.str (Str.ofString "first_phase") 206, Value.str (Str.ofString "first_phase") 207, Value.str (Str.ofString "/claim/cut.py") 208, Value.int 9 0, Value.int 1 0, Value.int 0 0, Value.int 0 0, Value.int 3 0, Value.ref 29, Value.bool Bool.true, Value.int 181 0, Value.ref 30, Value.none, Value.ref 31, Value.ref 32, Value.ref 33, Value.int 215 0, Value.int 9 0, Value.str (Str.ofString "/claim/cut.py") 216] }
noncomputable def o71 (P : Params) : Obj :=
  { cls := Value.type "function", data := Data.func { name := Str.ofString "first_phase", qualname := Str.ofString "first_phase", params := qp2, body := FuncBody.stmts qb2, scope := qs2, globals := 3, closure := [], defaults := Value.none, kwdefaults := Value.none, pyModule := Value.str (Str.ofString "matching.algorithms.stable_roommates") 204, code := Value.ref 34 } }
noncomputable def o73 (P : Params) : Obj :=
  { cls := Value.none, data := Data.fields #[Value.int 1 0, Value.int 0 0, Value.ref 20, Value.int 5 0, Value.int 0 0, Value.ref 27, Value.int 9 0, Value.int 0 0, Value.ref 34, Value.int 25 0, Value.int 0 0, Value.ref 41] }
noncomputable def o74 (P : Params) : Obj :=
  { cls := Value.type "tuple", data := Data.seq #[] }
noncomputable def o75 (P : Params) : Obj :=
  { cls := Value.type "builtin_function_or_method", data := Data.fields #[Value.builtin "type.__prepare__", Value.type "type"] }
noncomputable def o76 (P : Params) : Obj :=
  { cls := Value.type "dict", data := Data.dict #[{ hash := PyData.keyHash P (Str.ofString "__module__"), key := Value.str (Str.ofString "__module__") 227, val := Value.str (Str.ofString "matching.base") 218 }, { hash := PyData.keyHash P (Str.ofString "__qualname__"), key := Value.str (Str.ofString "__qualname__") 229, val := Value.str (Str.ofString "BasePlayer") 228 }, { hash := PyData.keyHash P (Str.ofString "__firstlineno__"), key := Value.str (Str.ofString "__firstlineno__") 231, val := Value.int 25 230 }, { hash := PyData.keyHash P (Str.ofString "__init__"), key := Value.str (Str.ofString "__init__") 239, val := Value.ref 49 }, { hash := PyData.keyHash P (Str.ofString "__repr__"), key := Value.str (Str.ofString "__repr__") 246, val := Value.ref 56 }, { hash := PyData.keyHash P (Str.ofString "_forget"), key := Value.str (Str.ofString "_forget") 252, val := Value.ref 61 }, { hash := PyData.keyHash P (Str.ofString "unmatched_message"), key := Value.str (Str.ofString "unmatched_message") 259, val := Value.ref 68 }, { hash := PyData.keyHash P (Str.ofString "not_in_preferences_message"), key := Value.str (Str.ofString "not_in_preferences_message") 267, val := Value.ref 75 }, { hash := PyData.keyHash P (Str.ofString "set_prefs"), key := Value.str (Str.ofString "set_prefs") 273, val := Value.ref 80 }, { hash := PyData.keyHash P (Str.ofString "prefers"), key := Value.str (Str.ofString "prefers") 282, val := Value.ref 87 }, { hash := PyData.keyHash P (Str.ofString "_match"), key := Value.str (Str.ofString "_match") 290, val := Value.ref 94 }, { hash := PyData.keyHash P (Str.ofString "_unmatch"), key := Value.str (Str.ofString "_unmatch") 298, val := Value.ref 101 }, { hash := PyData.keyHash P (Str.ofString "get_favourite"), key := Value.str (Str.ofString "get_favourite") 305, val := Value.ref 108 }, { hash := PyData.keyHash P (Str.ofString "get_successors"), key := Value.str (Str.ofString "get_successors") 312, val := Value.ref 115 }, { hash := PyData.keyHash P (Str.ofString "check_if_match_is_unacceptable"), key := Value.str (Str.ofString "check_if_match_is_unacceptable") 319, val := Value.ref 122 }, { hash := PyData.keyHash P (Str.ofString "__static_attributes__"), key := Value.str (Str.ofString "__static_attributes__") 325, val := Value.ref 123 }] 16 }
noncomputable def o77 (P : Params) : Obj :=
  { cls := Value.type "tuple", data := Data.seq #[] }
noncomputable def o78 (P : Params) : Obj :=
  { cls := Value.none, data := Data.fields #[Value.int 27 0, Value.int 4 0, Value.ref 48, Value.int 34 0, Value.int 4 0, Value.ref 55, Value.int 37 0, Value.int 4 0, Value.ref 60, Value.int 40 0, Value.int 4 0, Value.ref 67, Value.int 43 0, Value.int 4 0, Value.ref 74, Value.int 46 0, Value.int 4 0, Value.ref 79, Value.int 52 0, Value.int 4 0, Value.ref 86, Value.int 55 0, Value.int 4 0, Value.ref 93, Value.int 58 0, Value.int 4 0, Value.ref 100, Value.int 61 0, Value.int 4 0, Value.ref 107, Value.int 64 0, Value.int 4 0, Value.ref 114, Value.int 67 0, Value.int 4 0, Value.ref 121] }
noncomputable def o79 (P : Params) : Obj :=
  { cls := Value.type "code", data := Data.fields #[Value.str (Str.ofString "BasePlayer") 222, Value.str (Str.ofString "BasePlayer") 223, Value.str (Str.ofString "/claim/cut.py") 224, Value.int 25 0, Value.int 0 0, Value.int 0 0, Value.int 0 0, Value.int 0 0, Value.ref 39, Value.bool Bool.false, Value.int 181 0, Value.ref 40, Value.none, Value.none, Value.none, Value.none, Value.int 225 0, Value.int 25 0, Value.str (Str.ofString "/claim/cut.py") 226] }
noncomputable def o80 (P : Params) : Obj :=
  { cls := Value.type "frame", slots := #[Option.some (Value.ref 41), Option.some (Value.ref 3), Option.some (Value.ref 38), Option.none, Option.some (Value.str (Str.ofString "matching.base") 218), Option.none, Option.some (Value.ref 0)] }
noncomputable def o81 (P : Params) : Obj :=
  { cls := Value.type "tuple", data := Data.seq #[] }
noncomputable def o82 (P : Params) : Obj :=
  { cls := Value.none, data := Data.fields #[] }
noncomputable def o83 (P : Params) : Obj :=
  { cls := Value.type "tuple", data := Data.seq #[Value.str (Str.ofString "self") 235, Value.str (Str.ofString "name") 236] }
noncomputable def o84 (P : Params) : Obj :=
  { cls := Value.type "tuple", data := Data.seq #[] }
noncomputable def qp3 : Arguments := (fun {p b c} (_ : (fnS (clsS pbody[6]?)[0]?) = some (p, b, c)) => p) rfl
noncomputable def qb3 : List Stmt := (fun {p b c} (_ : (fnS (clsS pbody[6]?)[0]?) = some (p, b, c)) => b) rfl
noncomputable def qs3 : Scope := (fun {p b c} (_ : (fnS (clsS pbody[6]?)[0]?) = some (p, b, c)) => c) rfl
noncomputable def o85 (P : Params) : Obj :=
  { cls := Value.none, data := Data.func { name := Str.ofString "__init__", qualname := Str.ofString "BasePlayer.__init__", params := qp3, body := FuncBody.stmts qb3, scope := qs3, globals := 0, closure := [], defaults := Value.none, kwdefaults := Value.none } }
noncomputable def o86 (P : Params) : Obj :=
  { cls := Value.type "code", data := Data.fields #[Value.str (Str.ofString "__init__") 232, Value.str (Str.ofString "BasePlayer.__init__") 233, Value.str (Str.ofString "/claim/cut.py") 234, Value.int 27 0, Value.int 2 0, Value.int 0 0, Value.int 0 0, Value.int 3 0, Value.ref 43, Value.bool Bool.true, Value.int 181 0, Value.ref 44, Value.none, Value.ref 45, Value.ref 46, Value.ref 47, Value.int 237 0, Value.int 27 0, Value.str (Str.ofString "/claim/cut.py") 238] }
noncomputable def o87 (P : Params) : Obj :=
  { cls := Value.type "function", data := Data.func { name := Str.ofString "__init__", qualname := Str.ofString "BasePlayer.__init__", params := qp3, body := FuncBody.stmts qb3, scope := qs3, globals := 3, closure := [], defaults := Value.none, kwdefaults := Value.none, pyModule := Value.str (Str.ofString "matching.base") 218, code := Value.ref 48 } }
noncomputable def o88 (P : Params) : Obj :=
  { cls := Value.type "tuple", data := Data.seq #[] }
noncomputable def o89 (P : Params) : Obj :=
  { cls := Value.none, data := Data.fields #[] }
noncomputable def o90 (P : Params) : Obj :=
  { cls := Value.type "tuple", data := Data.seq #[Value.str (Str.ofString "self") 243] }
noncomputable def o91 (P : Params) : Obj :=
  { cls := Value.type "tuple", data := Data.seq #[] }
noncomputable def qp4 : Arguments := (fun {p b c} (_ : (fnS (clsS pbody[6]?)[1]?) = some (p, b, c)) => p) rfl
noncomputable def qb4 : List Stmt := (fun {p b c} (_ : (fnS (clsS pbody[6]?)[1]?) = some (p, b, c)) => b) rfl
noncomputable def qs4 : Scope := (fun {p b c} (_ : (fnS (clsS pbody[6]?)[1]?) = some (p, b, c)) => c) rfl
noncomputable def o92 (P : Params) : Obj :=
  { cls := Value.none, data := Data.func { name := Str.ofString "__repr__", qualname := Str.ofString "BasePlayer.__repr__", params := qp4, body := FuncBody.stmts qb4, scope := qs4, globals := 0, closure := [], defaults := Value.none, kwdefaults := Value.none } }
noncomputable def o93 (P : Params) : Obj :=
  { cls := Value.type "code", data := Data.fields #[Value.str (Str.ofString "__repr__") 240, Value.str (Str.ofString "BasePlayer.__repr__") 241, Value.str (Str.ofString "/claim/cut.py") 242, Value.int 34 0, Value.int 1 0, Value.int 0 0, Value.int 0 0, Value.int 3 0, Value.ref 50, Value.bool Bool.true, Value.int 181 0, Value.ref 51, Value.none, Value.ref 52, Value.ref 53, Value.ref 54, Value.int 244 0, Value.int 34 0, Value.str (Str.ofString "/claim/cut.py") 245] }
noncomputable def o94 (P : Params) : Obj :=
  { cls := Value.type "function", data := Data.func { name := Str.ofString "__repr__", qualname := Str.ofString "BasePlayer.__repr__", params := qp4, body := FuncBody.stmts qb4, scope := qs4, globals := 3, closure := [], defaults := Value.none, kwdefaults := Value.none, pyModule := Value.str (Str.ofString "matching.base") 218, code := Value.ref 55 } }
noncomputable def o95 (P : Params) : Obj :=
  { cls := Value.type "tuple", data := Data.seq #[] }
noncomputable def o96 (P : Params) : Obj :=
  { cls := Value.none, data := Data.fields #[] }
noncomputable def qp5 : Arguments := (fun {p b c} (_ : (fnS (clsS pbody[6]?)[2]?) = some (p, b, c)) => p) rfl
noncomputable def qb5 : List Stmt := (fun {p b c} (_ : (fnS (clsS pbody[6]?)[2]?) = some (p, b, c)) => b) rfl
noncomputable def qs5 : Scope := (fun {p b c} (_ : (fnS (clsS pbody[6]?)[2]?) = some (p, b, c)) => c) rfl
noncomputable def o97 (P : Params) : Obj :=
  { cls := Value.none, data := Data.func { name := Str.ofString "_forget", qualname := Str.ofString "BasePlayer._forget", params := qp5, body := FuncBody.stmts qb5, scope := qs5, globals := 0, closure := [], defaults := Value.none, kwdefaults := Value.none } }
noncomputable def o98 (P : Params) : Obj :=
  { cls := Value.type "code", data := Data.fields #[Value.str (Str.ofString "_forget") 247, Value.str (Str.ofString "BasePlayer._forget") 248, Value.str (Str.ofString "/claim/cut.py") 249, Value.int 37 0, Value.int 2 0, Value.int 0 0, Value.int 0 0, Value.int 3 0, Value.ref 57, Value.bool Bool.true, Value.int 181 0, Value.ref 58, Value.none, Value.none, Value.none, Value.ref 59, Value.int 250 0, Value.int 37 0, Value.str (Str.ofString "/claim/cut.py") 251] }
noncomputable def o99 (P : Params) : Obj :=
  { cls := Value.type "function", data := Data.func { name := Str.ofString "_forget", qualname := Str.ofString "BasePlayer._forget", params := qp5, body := FuncBody.stmts qb5, scope := qs5, globals := 3, closure := [], defaults := Value.none, kwdefaults := Value.none, pyModule := Value.str (Str.ofString "matching.base") 218, code := Value.ref 60 } }
noncomputable def o100 (P : Params) : Obj :=
  { cls := Value.type "tuple", data := Data.seq #[] }
noncomputable def o101 (P : Params) : Obj :=
  { cls := Value.none, data := Data.fields #[] }
noncomputable def o102 (P : Params) : Obj :=
  { cls := Value.type "tuple", data := Data.seq #[Value.str (Str.ofString "self") 256] }
noncomputable def o103 (P : Params) : Obj :=
  { cls := Value.type "tuple", data := Data.seq #[] }
noncomputable def qp6 : Arguments := (fun {p b c} (_ : (fnS (clsS pbody[6]?)[3]?) = some (p, b, c)) => p) rfl
noncomputable def qb6 : List Stmt := (fun {p b c} (_ : (fnS (clsS pbody[6]?)[3]?) = some (p, b, c)) => b) rfl
noncomputable def qs6 : Scope := (fun {p b c} (_ : (fnS (clsS pbody[6]?)[3]?) = some (p, b, c)) => c) rfl
noncomputable def o104 (P : Params) : Obj :=
  { cls := Value.none, data := Data.func { name := Str.ofString "unmatched_message", qualname := Str.ofString "BasePlayer.unmatched_message", params := qp6, body := FuncBody.stmts qb6, scope := qs6, globals := 0, closure := [], defaults := Value.none, kwdefaults := Value.none } }
noncomputable def o105 (P : Params) : Obj :=
  { cls := Value.type "code", data := Data.fields #[Value.str (Str.ofString "unmatched_message") 253, Value.str (Str.ofString "BasePlayer.unmatched_message") 254, Value.str (Str.ofString "/claim/cut.py") 255, Value.int 40 0, Value.int 1 0, Value.int 0 0, Value.int 0 0, Value.int 3 0, Value.ref 62, Value.bool Bool.true, Value.int 181 0, Value.ref 63, Value.none, Value.ref 64, Value.ref 65, Value.ref 66, Value.int 257 0, Value.int 40 0, Value.str (Str.ofString "/claim/cut.py") 258] }
noncomputable def o106 (P : Params) : Obj :=
  { cls := Value.type "function", data := Data.func { name := Str.ofString "unmatched_message", qualname := Str.ofString "BasePlayer.unmatched_message", params := qp6, body := FuncBody.stmts qb6, scope := qs6, globals := 3, closure := [], defaults := Value.none, kwdefaults := Value.none, pyModule := Value.str (Str.ofString "matching.base") 218, code := Value.ref 67 } }
noncomputable def o107 (P : Params) : Obj :=
  { cls := Value.type "tuple", data := Data.seq #[] }
noncomputable def o108 (P : Params) : Obj :=
  { cls := Value.none, data := Data.fields #[] }
noncomputable def o109 (P : Params) : Obj :=
  { cls := Value.type "tuple", data := Data.seq #[Value.str (Str.ofString "self") 263, Value.str (Str.ofString "other") 264] }
noncomputable def o110 (P : Params) : Obj :=
  { cls := Value.type "tuple", data := Data.seq #[] }
noncomputable def qp7 : Arguments := (fun {p b c} (_ : (fnS (clsS pbody[6]?)[4]?) = some (p, b, c)) => p) rfl
noncomputable def qb7 : List Stmt := (fun {p b c} (_ : (fnS (clsS pbody[6]?)[4]?) = some (p, b, c)) => b) rfl
noncomputable def qs7 : Scope := (fun {p b c} (_ : (fnS (clsS pbody[6]?)[4]?) = some (p, b, c)) => c) rfl
noncomputable def o111 (P : Params) : Obj :=
  { cls := Value.none, data := Data.func { name := Str.ofString "not_in_preferences_message", qualname := Str.ofString "BasePlayer.not_in_preferences_message", params := qp7, body := FuncBody.stmts qb7, scope := qs7, globals := 0, closure := [], defaults := Value.none, kwdefaults := Value.none } }
noncomputable def o112 (P : Params) : Obj :=
  { cls := Value.type "code", data := Data.fields #[Value.str (Str.ofString "not_in_preferences_message") 260, Value.str (Str.ofString "BasePlayer.not_in_preferences_message") 261, Value.str (Str.ofString "/claim/cut.py") 262, Value.int 43 0, Value.int 2 0, Value.int 0 0, Value.int 0 0, Value.int 3 0, Value.ref 69, Value.bool Bool.true, Value.int 181 0, Value.ref 70, Value.none, Value.ref 71, Value.ref 72, Value.ref 73, Value.int 265 0, Value.int 43 0, Value.str (Str.ofString "/claim/cut.py") 266] }
noncomputable def o113 (P : Params) : Obj :=
  { cls := Value.type "function", data := Data.func { name := Str.ofString "not_in_preferences_message", qualname := Str.ofString "BasePlayer.not_in_preferences_message", params := qp7, body := FuncBody.stmts qb7, scope := qs7, globals := 3, closure := [], defaults := Value.none, kwdefaults := Value.none, pyModule := Value.str (Str.ofString "matching.base") 218, code := Value.ref 74 } }
noncomputable def o114 (P : Params) : Obj :=
  { cls := Value.type "tuple", data := Data.seq #[] }
noncomputable def o115 (P : Params) : Obj :=
  { cls := Value.none, data := Data.fields #[] }
noncomputable def qp8 : Arguments := (fun {p b c} (_ : (fnS (clsS pbody[6]?)[5]?) = some (p, b, c)) => p) rfl
noncomputable def qb8 : List Stmt := (fun {p b c} (_ : (fnS (clsS pbody[6]?)[5]?) = some (p, b, c)) => b) rfl
noncomputable def qs8 : Scope := (fun {p b c} (_ : (fnS (clsS pbody[6]?)[5]?) = some (p, b, c)) => c) rfl
noncomputable def o116 (P : Params) : Obj :=
  { cls := Value.none, data := Data.func { name := Str.ofString "set_prefs", qualname := Str.ofString "BasePlayer.set_prefs", params := qp8, body := FuncBody.stmts qb8, scope := qs8, globals := 0, closure := [], defaults := Value.none, kwdefaults := Value.none } }
noncomputable def o117 (P : Params) : Obj :=
  { cls := Value.type "code", data := Data.fields #[Value.str (Str.ofString "set_prefs") 268, Value.str (Str.ofString "BasePlayer.set_prefs") 269, Value.str (Str.ofString "/claim/cut.py") 270, Value.int 46 0, Value.int 2 0, Value.int 0 0, Value.int 0 0, Value.int 3 0, Value.ref 76, Value.bool Bool.true, Value.int 181 0, Value.ref 77, Value.none, Value.none, Value.none, Value.ref 78, Value.int 271 0, Value.int 46 0, Value.str (Str.ofString "/claim/cut.py") 272] }
noncomputable def o118 (P : Params) : Obj :=
  { cls := Value.type "function", data := Data.func { name := Str.ofString "set_prefs", qualname := Str.ofString "BasePlayer.set_prefs", params := qp8, body := FuncBody.stmts qb8, scope := qs8, globals := 3, closure := [], defaults := Value.none, kwdefaults := Value.none, pyModule := Value.str (Str.ofString "matching.base") 218, code := Value.ref 79 } }
noncomputable def o119 (P : Params) : Obj :=
  { cls := Value.type "tuple", data := Data.seq #[] }
noncomputable def o120 (P : Params) : Obj :=
  { cls := Value.none, data := Data.fields #[] }
noncomputable def o121 (P : Params) : Obj :=
  { cls := Value.type "tuple", data := Data.seq #[Value.str (Str.ofString "self") 277, Value.str (Str.ofString "player") 278, Value.str (Str.ofString "other") 279] }
noncomputable def o122 (P : Params) : Obj :=
  { cls := Value.type "tuple", data := Data.seq #[] }
noncomputable def qp9 : Arguments := (fun {p b c} (_ : (fnS (clsS pbody[6]?)[6]?) = some (p, b, c)) => p) rfl
noncomputable def qb9 : List Stmt := (fun {p b c} (_ : (fnS (clsS pbody[6]?)[6]?) = some (p, b, c)) => b) rfl
noncomputable def qs9 : Scope := (fun {p b c} (_ : (fnS (clsS pbody[6]?)[6]?) = some (p, b, c)) => c) rfl
noncomputable def o123 (P : Params) : Obj :=
  { cls := Value.none, data := Data.func { name := Str.ofString "prefers", qualname := Str.ofString "BasePlayer.prefers", params := qp9, body := FuncBody.stmts qb9, scope := qs9, globals := 0, closure := [], defaults := Value.none, kwdefaults := Value.none } }
noncomputable def o124 (P : Params) : Obj :=
  { cls := Value.type "code", data := Data.fields #[Value.str (Str.ofString "prefers") 274, Value.str (Str.ofString "BasePlayer.prefers") 275, Value.str (Str.ofString "/claim/cut.py") 276, Value.int 52 0, Value.int 3 0, Value.int 0 0, Value.int 0 0, Value.int 3 0, Value.ref 81, Value.bool Bool.true, Value.int 181 0, Value.ref 82, Value.none, Value.ref 83, Value.ref 84, Value.ref 85, Value.int 280 0, Value.int 52 0, Value.str (Str.ofString "/claim/cut.py") 281] }
noncomputable def o125 (P : Params) : Obj :=
  { cls := Value.type "function", data := Data.func { name := Str.ofString "prefers", qualname := Str.ofString "BasePlayer.prefers", params := qp9, body := FuncBody.stmts qb9, scope := qs9, globals := 3, closure := [], defaults := Value.none, kwdefaults := Value.none, pyModule := Value.str (Str.ofString "matching.base") 218, code := Value.ref 86 } }
noncomputable def o126 (P : Params) : Obj :=
  { cls := Value.type "tuple", data := Data.seq #[] }
noncomputable def o127 (P : Params) : Obj :=
  { cls := Value.none, data := Data.fields #[] }
noncomputable def o128 (P : Params) : Obj :=
  { cls := Value.type "tuple", data := Data.seq #[Value.str (Str.ofString "self") 286, Value.str (Str.ofString "other") 287] }
noncomputable def o129 (P : Params) : Obj :=
  { cls := Value.type "tuple", data := Data.seq #[] }
noncomputable def qp10 : Arguments := (fun {p b c} (_ : (fnS (clsS pbody[6]?)[7]?) = some (p, b, c)) => p) rfl
noncomputable def qb10 : List Stmt := (fun {p b c} (_ : (fnS (clsS pbody[6]?)[7]?) = some (p, b, c)) => b) rfl
noncomputable def qs10 : Scope := (fun {p b c} (_ : (fnS (clsS pbody[6]?)[7]?) = some (p, b, c)) => c) rfl
noncomputable def o130 (P : Params) : Obj :=
  { cls := Value.none, data := Data.func { name := Str.ofString "_match", qualname := Str.ofString "BasePlayer._match", params := qp10, body := FuncBody.stmts qb10, scope := qs10, globals := 0, closure := [], defaults := Value.none, kwdefaults := Value.none } }
noncomputable def o131 (P : Params) : Obj :=
  { cls := Value.type "code", data := Data.fields #[Value.str (Str.ofString "_match") 283, Value.str (Str.ofString "BasePlayer._match") 284, Value.str (Str.ofString "/claim/cut.py") 285, Value.int 55 0, Value.int 2 0, Value.int 0 0, Value.int 0 0, Value.int 3 0, Value.ref 88, Value.bool Bool.true, Value.int 181 0, Value.ref 89, Value.none, Value.ref 90, Value.ref 91, Value.ref 92, Value.int 288 0, Value.int 55 0, Value.str (Str.ofString "/claim/cut.py") 289] }
noncomputable def o132 (P : Params) : Obj :=
  { cls := Value.type "function", data := Data.func { name := Str.ofString "_match", qualname := Str.ofString "BasePlayer._match", params := qp10, body := FuncBody.stmts qb10, scope := qs10, globals := 3, closure := [], defaults := Value.none, kwdefaults := Value.none, pyModule := Value.str (Str.ofString "matching.base") 218, code := Value.ref 93 } }
noncomputable def o133 (P : Params) : Obj :=
  { cls := Value.type "tuple", data := Data.seq #[] }
noncomputable def o134 (P : Params) : Obj :=
  { cls := Value.none, data := Data.fields #[] }
noncomputable def o135 (P : Params) : Obj :=
  { cls := Value.type "tuple", data := Data.seq #[Value.str (Str.ofString "self") 294, Value.str (Str.ofString "other") 295] }
noncomputable def o136 (P : Params) : Obj :=
  { cls := Value.type "tuple", data := Data.seq #[] }
noncomputable def qp11 : Arguments := (fun {p b c} (_ : (fnS (clsS pbody[6]?)[8]?) = some (p, b, c)) => p) rfl
noncomputable def qb11 : List Stmt := (fun {p b c} (_ : (fnS (clsS pbody[6]?)[8]?) = some (p, b, c)) => b) rfl
noncomputable def qs11 : Scope := (fun {p b c} (_ : (fnS (clsS pbody[6]?)[8]?) = some (p, b, c)) => c) rfl
noncomputable def o137 (P : Params) : Obj :=
  { cls := Value.none, data := Data.func { name := Str.ofString "_unmatch", qualname := Str.ofString "BasePlayer._unmatch", params := qp11, body := FuncBody.stmts qb11, scope := qs11, globals := 0, closure := [], defaults := Value.none, kwdefaults := Value.none } }
noncomputable def o138 (P : Params) : Obj :=
  { cls := Value.type "code", data := Data.fields #[Value.str (Str.ofString "_unmatch") 291, Value.str (Str.ofString "BasePlayer._unmatch") 292, Value.str (Str.ofString "/claim/cut.py") 293, Value.int 58 0, Value.int 2 0, Value.int 0 0, Value.int 0 0, Value.int 3 0, Value.ref 95, Value.bool Bool.true, Value.int 181 0, Value.ref 96, Value.none, Value.ref 97, Value.ref 98, Value.ref 99, Value.int 296 0, Value.int 58 0, Value.str (Str.ofString "/claim/cut.py") 297] }
noncomputable def o139 (P : Params) : Obj :=
  { cls := Value.type "function", data := Data.func { name := Str.ofString "_unmatch", qualname := Str.ofString "BasePlayer._unmatch", params := qp11, body := FuncBody.stmts qb11, scope := qs11, globals := 3, closure := [], defaults := Value.none, kwdefaults := Value.none, pyModule := Value.str (Str.ofString "matching.base") 218, code := Value.ref 100 } }
noncomputable def o140 (P : Params) : Obj :=
  { cls := Value.type "tuple", data := Data.seq #[] }
noncomputable def o141 (P : Params) : Obj :=
  { cls := Value.none, data := Data.fields #[] }
noncomputable def o142 (P : Params) : Obj :=
  { cls := Value.type "tuple", data := Data.seq #[Value.str (Str.ofString "self") 302] }
noncomputable def o143 (P : Params) : Obj :=
  { cls := Value.type "tuple", data := Data.seq #[] }
noncomputable def qp12 : Arguments := (fun {p b c} (_ : (fnS (clsS pbody[6]?)[9]?) = some (p, b, c)) => p) rfl
noncomputable def qb12 : List Stmt := (fun {p b c} (_ : (fnS (clsS pbody[6]?)[9]?) = some (p, b, c)) => b) rfl
noncomputable def qs12 : Scope := (fun {p b c} (_ : (fnS (clsS pbody[6]?)[9]?) = some (p, b, c)) => c) rfl
noncomputable def o144 (P : Params) : Obj :=
  { cls := Value.none, data := Data.func { name := Str.ofString "get_favourite", qualname := Str.ofString "BasePlayer.get_favourite", params := qp12, body := FuncBody.stmts qb12, scope := qs12, globals := 0, closure := [], defaults := Value.none, kwdefaults := Value.none } }
noncomputable def o145 (P : Params) : Obj :=
  { cls := Value.type "code", data := Data.fields #[Value.str (Str.ofString "get_favourite") 299, Value.str (Str.ofString "BasePlayer.get_favourite") 300, Value.str (Str.ofString "/claim/cut.py") 301, Value.int 61 0, Value.int 1 0, Value.int 0 0, Value.int 0 0, Value.int 3 0, Value.ref 102, Value.bool Bool.true, Value.int 181 0, Value.ref 103, Value.none, Value.ref 104, Value.ref 105, Value.ref 106, Value.int 303 0, Value.int 61 0, Value.str (Str.ofString "/claim/cut.py") 304] }
noncomputable def o146 (P : Params) : Obj :=
  { cls := Value.type "function", data := Data.func { name := Str.ofString "get_favourite", qualname := Str.ofString "BasePlayer.get_favourite", params := qp12, body := FuncBody.stmts qb12, scope := qs12, globals := 3, closure := [], defaults := Value.none, kwdefaults := Value.none, pyModule := Value.str (Str.ofString "matching.base") 218, code := Value.ref 107 } }
noncomputable def o147 (P : Params) : Obj :=
  { cls := Value.type "tuple", data := Data.seq #[] }
noncomputable def o148 (P : Params) : Obj :=
  { cls := Value.none, data := Data.fields #[] }
noncomputable def o149 (P : Params) : Obj :=
  { cls := Value.type "tuple", data := Data.seq #[Value.str (Str.ofString "self") 309] }
noncomputable def o150 (P : Params) : Obj :=
  { cls := Value.type "tuple", data := Data.seq #[] }
noncomputable def qp13 : Arguments := (fun {p b c} (_ : (fnS (clsS pbody[6]?)[10]?) = some (p, b, c)) => p) rfl
noncomputable def qb13 : List Stmt := (fun {p b c} (_ : (fnS (clsS pbody[6]?)[10]?) = some (p, b, c)) => b) rfl
noncomputable def qs13 : Scope := (fun {p b c} (_ : (fnS (clsS pbody[6]?)[10]?) = some (p, b, c)) => c) rfl
noncomputable def o151 (P : Params) : Obj :=
  { cls := Value.none, data := Data.func { name := Str.ofString "get_successors", qualname := Str.ofString "BasePlayer.get_successors", params := qp13, body := FuncBody.stmts qb13, scope := qs13, globals := 0, closure := [], defaults := Value.none, kwdefaults := Value.none } }
noncomputable def o152 (P : Params) : Obj :=
  { cls := Value.type "code", data := Data.fields #[Value.str (Str.ofString "get_successors") 306, Value.str (Str.ofString "BasePlayer.get_successors") 307, Value.str (Str.ofString "/claim/cut.py") 308, Value.int 64 0, Value.int 1 0, Value.int 0 0, Value.int 0 0, Value.int 3 0, Value.ref 109, Value.bool Bool.true, Value.int 181 0, Value.ref 110, Value.none, Value.ref 111, Value.ref 112, Value.ref 113, Value.int 310 0, Value.int 64 0, Value.str (Str.ofString "/claim/cut.py") 311] }
noncomputable def o153 (P : Params) : Obj :=
  { cls := Value.type "function", data := Data.func { name := Str.ofString "get_successors", qualname := Str.ofString "BasePlayer.get_successors", params := qp13, body := FuncBody.stmts qb13, scope := qs13, globals := 3, closure := [], defaults := Value.none, kwdefaults := Value.none, pyModule := Value.str (Str.ofString "matching.base") 218, code := Value.ref 114 } }
noncomputable def o154 (P : Params) : Obj :=
  { cls := Value.type "tuple", data := Data.seq #[] }
noncomputable def o155 (P : Params) : Obj :=
  { cls := Value.none, data := Data.fields #[] }
noncomputable def o156 (P : Params) : Obj :=
  { cls := Value.type "tuple", data := Data.seq #[Value.str (Str.ofString "self") 316] }
noncomputable def o157 (P : Params) : Obj :=
  { cls := Value.type "tuple", data := Data.seq #[] }
noncomputable def qp14 : Arguments := (fun {p b c} (_ : (fnS (clsS pbody[6]?)[11]?) = some (p, b, c)) => p) rfl
noncomputable def qb14 : List Stmt := (fun {p b c} (_ : (fnS (clsS pbody[6]?)[11]?) = some (p, b, c)) => b) rfl
noncomputable def qs14 : Scope := (fun {p b c} (_ : (fnS (clsS pbody[6]?)[11]?) = some (p, b, c)) => c) rfl
noncomputable def o158 (P : Params) : Obj :=
  { cls := Value.none, data := Data.func { name := Str.ofString "check_if_match_is_unacceptable", qualname := Str.ofString "BasePlayer.check_if_match_is_unacceptable", params := qp14, body := FuncBody.stmts qb14, scope := qs14, globals := 0, closure := [], defaults := Value.none, kwdefaults := Value.none } }
noncomputable def o159 (P : Params) : Obj :=
  { cls := Value.type "code", data := Data.fields #[Value.str (Str.ofString "check_if_match_is_unacceptable") 313, Value.str (Str.ofString "BasePlayer.check_if_match_is_unacceptable") 314, Value.str (Str.ofString "/claim/cut.py") 315, Value.int 67 0, Value.int 1 0, Value.int 0 0, Value.int 0 0, Value.int 3 0, Value.ref 116, Value.bool Bool.true, Value.int 181 0, Value.ref 117, Value.none, Value.ref 118, Value.ref 119, Value.ref 120, Value.int 317 0, Value.int 67 0, Value.str (Str.ofString "/claim/cut.py") 318] }
noncomputable def o160 (P : Params) : Obj :=
  { cls := Value.type "function", data := Data.func { name := Str.ofString "check_if_match_is_unacceptable", qualname := Str.ofString "BasePlayer.check_if_match_is_unacceptable", params := qp14, body := FuncBody.stmts qb14, scope := qs14, globals := 3, closure := [], defaults := Value.none, kwdefaults := Value.none, pyModule := Value.str (Str.ofString "matching.base") 218, code := Value.ref 121 } }
noncomputable def o161 (P : Params) : Obj :=
  { cls := Value.type "tuple", data := Data.seq #[Value.str (Str.ofString "_original_prefs") 320, Value.str (Str.ofString "_pref_names") 321, Value.str (Str.ofString "matching") 322, Value.str (Str.ofString "name") 323, Value.str (Str.ofString "prefs") 324] }
noncomputable def o162 (P : Params) : Obj :=
  { cls := Value.type "dict", data := Data.dict #[{ hash := PyData.keyHash P (Str.ofString "__module__"), key := Value.str (Str.ofString "__module__") 227, val := Value.str (Str.ofString "matching.base") 218 }, { hash := PyData.keyHash P (Str.ofString "__firstlineno__"), key := Value.str (Str.ofString "__firstlineno__") 231, val := Value.int 25 230 }, { hash := PyData.keyHash P (Str.ofString "__init__"), key := Value.str (Str.ofString "__init__") 239, val := Value.ref 49 }, { hash := PyData.keyHash P (Str.ofString "__repr__"), key := Value.str (Str.ofString "__repr__") 246, val := Value.ref 56 }, { hash := PyData.keyHash P (Str.ofString "_forget"), key := Value.str (Str.ofString "_forget") 252, val := Value.ref 61 }, { hash := PyData.keyHash P (Str.ofString "unmatched_message"), key := Value.str (Str.ofString "unmatched_message") 259, val := Value.ref 68 }, { hash := PyData.keyHash P (Str.ofString "not_in_preferences_message"), key := Value.str (Str.ofString "not_in_preferences_message") 267, val := Value.ref 75 }, { hash := PyData.keyHash P (Str.ofString "set_prefs"), key := Value.str (Str.ofString "set_prefs") 273, val := Value.ref 80 }, { hash := PyData.keyHash P (Str.ofString "prefers"), key := Value.str (Str.ofString "prefers") 282, val := Value.ref 87 }, { hash := PyData.keyHash P (Str.ofString "_match"), key := Value.str (Str.ofString "_match") 290, val := Value.ref 94 }, { hash := PyData.keyHash P (Str.ofString "_unmatch"), key := Value.str (Str.ofString "_unmatch") 298, val := Value.ref 101 }, { hash := PyData.keyHash P (Str.ofString "get_favourite"), key := Value.str (Str.ofString "get_favourite") 305, val := Value.ref 108 }, { hash := PyData.keyHash P (Str.ofString "get_successors"), key := Value.str (Str.ofString "get_successors") 312, val := Value.ref 115 }, { hash := PyData.keyHash P (Str.ofString "check_if_match_is_unacceptable"), key := Value.str (Str.ofString "check_if_match_is_unacceptable") 319, val := Value.ref 122 }, { hash := PyData.keyHash P (Str.ofString "__static_attributes__"), key := Value.str (Str.ofString "__static_attributes__") 325, val := Value.ref 123 }, { hash := PyData.keyHash P (Str.ofString "__dict__"), key := Value.str (Str.ofString "__dict__") 327, val := Value.ref 126 }, { hash := PyData.keyHash P (Str.ofString "__weakref__"), key := Value.str (Str.ofString "__weakref__") 329, val := Value.ref 127 }, { hash := PyData.keyHash P (Str.ofString "__doc__"), key := Value.str (Str.ofString "__doc__") 330, val := Value.none }] 4 }
noncomputable def o163 (P : Params) : Obj :=
  { cls := Value.type "type", data := Data.cls { name := Str.ofString "BasePlayer", bases := [Value.type "object"], mro := [Value.ref 125, Value.type "object"], ns := 124, qualname := Str.ofString "BasePlayer" }, slots := #[Option.none, Option.none, Option.some (Value.str (Str.ofString "BasePlayer") 220), Option.some (Value.str (Str.ofString "BasePlayer") 228), Option.some (Value.builtin "object.__new__"), Option.some (Value.bool Bool.true)] }
noncomputable def o164 (P : Params) : Obj :=
  { cls := Value.type "getset_descriptor", data := Data.fields #[Value.str (Str.ofString "__dict__") 326, Value.ref 125, Value.builtin "function.__dict__", Value.builtin "function.__dict__#set"] }
noncomputable def o165 (P : Params) : Obj :=
  { cls := Value.type "getset_descriptor", data := Data.fields #[Value.str (Str.ofString "__weakref__") 328, Value.ref 125, Value.builtin "ExceptionGroup.__weakref__", Value.none] }
noncomputable def o166 (P : Params) : Obj :=
  { cls := Value.type "super", data := Data.fields #[Value.ref 125, Value.ref 125, Value.ref 125] }
noncomputable def o167 (P : Params) : Obj :=
  { cls := Value.type "builtin_function_or_method", data := Data.fields #[Value.builtin "object.__init_subclass__", Value.ref 125] }
noncomputable def o168 (P : Params) : Obj :=
  { cls := Value.type "dict", data := Data.dict #[{ hash := PyData.keyHash P (Str.ofString "__name__"), key := Value.str (Str.ofString "__name__") 165, val := Value.str (Str.ofString "matching.players.player") 333 }, { hash := PyData.keyHash P (Str.ofString "__doc__"), key := Value.str (Str.ofString "__doc__") 166, val := Value.none }, { hash := PyData.keyHash P (Str.ofString "__package__"), key := Value.str (Str.ofString "__package__") 167, val := Value.none }, { hash := PyData.keyHash P (Str.ofString "__loader__"), key := Value.str (Str.ofString "__loader__") 168, val := Value.builtin "__main__.__loader__#opaque" }, { hash := PyData.keyHash P (Str.ofString "__spec__"), key := Value.str (Str.ofString "__spec__") 169, val := Value.none }, { hash := PyData.keyHash P (Str.ofString "__annotations__"), key := Value.str (Str.ofString "__annotations__") 170, val := Value.ref 6 }, { hash := PyData.keyHash P (Str.ofString "__builtins__"), key := Value.str (Str.ofString "__builtins__") 171, val := Value.ref 4 }, { hash := PyData.keyHash P (Str.ofString "__file__"), key := Value.str (Str.ofString "__file__") 173, val := Value.str (Str.ofString "/claim/cut.py") 172 }, { hash := PyData.keyHash P (Str.ofString "__cached__"), key := Value.str (Str.ofString "__cached__") 174, val := Value.none }, { hash := PyData.keyHash P (Str.ofString "_wall"), key := Value.str (Str.ofString "_wall") 193, val := Value.ref 21 }, { hash := PyData.keyHash P (Str.ofString "_delete_pair"), key := Value.str (Str.ofString "_delete_pair") 203, val := Value.ref 28 }, { hash := PyData.keyHash P (Str.ofString "first_phase"), key := Value.str (Str.ofString "first_phase") 217, val := Value.ref 35 }, { hash := PyData.keyHash P (Str.ofString "BasePlayer"), key := Value.str (Str.ofString "BasePlayer") 332, val := Value.ref 125 }] 13 }
noncomputable def o170 (P : Params) : Obj :=
  { cls := Value.type "dict", data := Data.dict #[{ hash := PyData.keyHash P (Str.ofString "__name__"), key := Value.str (Str.ofString "__name__") 165, val := Value.str (Str.ofString "matching.players.player") 333 }, { hash := PyData.keyHash P (Str.ofString "__doc__"), key := Value.str (Str.ofString "__doc__") 166, val := Value.none }, { hash := PyData.keyHash P (Str.ofString "__package__"), key := Value.str (Str.ofString "__package__") 167, val := Value.none }, { hash := PyData.keyHash P (Str.ofString "__loader__"), key := Value.str (Str.ofString "__loader__") 168, val := Value.builtin "__main__.__loader__#opaque" }, { hash := PyData.keyHash P (Str.ofString "__spec__"), key := Value.str (Str.ofString "__spec__") 169, val := Value.none }, { hash := PyData.keyHash P (Str.ofString "__annotations__"), key := Value.str (Str.ofString "__annotations__") 170, val := Value.ref 6 }, { hash := PyData.keyHash P (Str.ofString "__builtins__"), key := Value.str (Str.ofString "__builtins__") 171, val := Value.ref 4 }, { hash := PyData.keyHash P (Str.ofString "__file__"), key := Value.str (Str.ofString "__file__") 173, val := Value.str (Str.ofString "/claim/cut.py") 172 }, { hash := PyData.keyHash P (Str.ofString "__cached__"), key := Value.str (Str.ofString "__cached__") 174, val := Value.none }, { hash := PyData.keyHash P (Str.ofString "_wall"), key := Value.str (Str.ofString "_wall") 193, val := Value.ref 21 }, { hash := PyData.keyHash P (Str.ofString "_delete_pair"), key := Value.str (Str.ofString "_delete_pair") 203, val := Value.ref 28 }, { hash := PyData.keyHash P (Str.ofString "first_phase"), key := Value.str (Str.ofString "first_phase") 217, val := Value.ref 35 }, { hash := PyData.keyHash P (Str.ofString "BasePlayer"), key := Value.str (Str.ofString "BasePlayer") 332, val := Value.ref 125 }, { hash := PyData.keyHash P (Str.ofString "Player"), key := Value.str (Str.ofString "Player") 399, val := Value.ref 184 }] 14 }
noncomputable def o171 (P : Params) : Obj :=
  { cls := Value.none, data := Data.fields #[Value.int 1 0, Value.int 0 0, Value.ref 20, Value.int 5 0, Value.int 0 0, Value.ref 27, Value.int 9 0, Value.int 0 0, Value.ref 34, Value.int 25 0, Value.int 0 0, Value.ref 41, Value.int 70 0, Value.int 0 0, Value.ref 136] }
noncomputable def o172 (P : Params) : Obj :=
  { cls := Value.type "type", data := Data.cls { name := Str.ofString "BasePlayer", bases := [Value.type "object"], mro := [Value.ref 125, Value.type "object"], ns := 124, qualname := Str.ofString "BasePlayer", subclasses := [Value.ref 184] }, slots := #[Option.none, Option.none, Option.some (Value.str (Str.ofString "BasePlayer") 220), Option.some (Value.str (Str.ofString "BasePlayer") 228), Option.some (Value.builtin "object.__new__"), Option.some (Value.bool Bool.true)] }
noncomputable def o173 (P : Params) : Obj :=
  { cls := Value.type "tuple", data := Data.seq #[Value.ref 125] }
noncomputable def o174 (P : Params) : Obj :=
  { cls := Value.type "builtin_function_or_method", data := Data.fields #[Value.builtin "type.__prepare__", Value.type "type"] }
noncomputable def o175 (P : Params) : Obj :=
  { cls := Value.type "dict", data := Data.dict #[{ hash := PyData.keyHash P (Str.ofString "__module__"), key := Value.str (Str.ofString "__module__") 342, val := Value.str (Str.ofString "matching.players.player") 333 }, { hash := PyData.keyHash P (Str.ofString "__qualname__"), key := Value.str (Str.ofString "__qualname__") 344, val := Value.str (Str.ofString "Player") 343 }, { hash := PyData.keyHash P (Str.ofString "__firstlineno__"), key := Value.str (Str.ofString "__firstlineno__") 346, val := Value.int 70 345 }, { hash := PyData.keyHash P (Str.ofString "__init__"), key := Value.str (Str.ofString "__init__") 355, val := Value.ref 145 }, { hash := PyData.keyHash P (Str.ofString "_match"), key := Value.str (Str.ofString "_match") 363, val := Value.ref 152 }, { hash := PyData.keyHash P (Str.ofString "_unmatch"), key := Value.str (Str.ofString "_unmatch") 370, val := Value.ref 159 }, { hash := PyData.keyHash P (Str.ofString "get_favourite"), key := Value.str (Str.ofString "get_favourite") 377, val := Value.ref 166 }, { hash := PyData.keyHash P (Str.ofString "get_successors"), key := Value.str (Str.ofString "get_successors") 385, val := Value.ref 173 }, { hash := PyData.keyHash P (Str.ofString "check_if_match_is_unacceptable"), key := Value.str (Str.ofString "check_if_match_is_unacceptable") 393, val := Value.ref 181 }, { hash := PyData.keyHash P (Str.ofString "__static_attributes__"), key := Value.str (Str.ofString "__static_attributes__") 395, val := Value.ref 182 }, { hash := PyData.keyHash P (Str.ofString "__classcell__"), key := Value.str (Str.ofString "__classcell__") 396, val := Value.ref 133 }] 11 }
noncomputable def o176 (P : Params) : Obj :=
  { cls := Value.type "cell", data := Data.cell (Option.some (Value.ref 184)) }
noncomputable def o177 (P : Params) : Obj :=
  { cls := Value.type "tuple", data := Data.seq #[] }
noncomputable def o178 (P : Params) : Obj :=
  { cls := Value.none, data := Data.fields #[Value.int 72 0, Value.int 4 0, Value.ref 144, Value.int 75 0, Value.int 4 0, Value.ref 151, Value.int 78 0, Value.int 4 0, Value.ref 158, Value.int 81 0, Value.int 4 0, Value.ref 165, Value.int 84 0, Value.int 4 0, Value.ref 172, Value.int 88 0, Value.int 4 0, Value.ref 180] }
noncomputable def o179 (P : Params) : Obj :=
  { cls := Value.type "code", data := Data.fields #[Value.str (Str.ofString "Player") 337, Value.str (Str.ofString "Player") 338, Value.str (Str.ofString "/claim/cut.py") 339, Value.int 70 0, Value.int 0 0, Value.int 0 0, Value.int 0 0, Value.int 0 0, Value.ref 134, Value.bool Bool.false, Value.int 181 0, Value.ref 135, Value.none, Value.none, Value.none, Value.none, Value.int 340 0, Value.int 70 0, Value.str (Str.ofString "/claim/cut.py") 341] }
noncomputable def o180 (P : Params) : Obj :=
  { cls := Value.type "frame", slots := #[Option.some (Value.ref 136), Option.some (Value.ref 3), Option.some (Value.ref 132), Option.none, Option.some (Value.str (Str.ofString "matching.players.player") 333), Option.none, Option.some (Value.ref 0)] }
noncomputable def o181 (P : Params) : Obj :=
  { cls := Value.type "tuple", data := Data.seq #[Value.ref 133] }
noncomputable def o182 (P : Params) : Obj :=
  { cls := Value.type "tuple", data := Data.seq #[Value.str (Str.ofString "__class__") 350] }
noncomputable def o183 (P : Params) : Obj :=
  { cls := Value.none, data := Data.fields #[] }
noncomputable def o184 (P : Params) : Obj :=
  { cls := Value.type "tuple", data := Data.seq #[Value.str (Str.ofString "self") 351, Value.str (Str.ofString "name") 352] }
noncomputable def o185 (P : Params) : Obj :=
  { cls := Value.type "tuple", data := Data.seq #[] }
noncomputable def qp15 : Arguments := (fun {p b c} (_ : (fnS (clsS pbody[8]?)[0]?) = some (p, b, c)) => p) rfl
noncomputable def qb15 : List Stmt := (fun {p b c} (_ : (fnS (clsS pbody[8]?)[0]?) = some (p, b, c)) => b) rfl
noncomputable def qs15 : Scope := (fun {p b c} (_ : (fnS (clsS pbody[8]?)[0]?) = some (p, b, c)) => c) rfl
noncomputable def o186 (P : Params) : Obj :=
  { cls := Value.none, data := Data.func { name := Str.ofString "__init__", qualname := Str.ofString "Player.__init__", params := qp15, body := FuncBody.stmts qb15, scope := qs15, globals := 0, closure := [], defaults := Value.none, kwdefaults := Value.none } }
noncomputable def o187 (P : Params) : Obj :=
  { cls := Value.type "code", data := Data.fields #[Value.str (Str.ofString "__init__") 347, Value.str (Str.ofString "Player.__init__") 348, Value.str (Str.ofString "/claim/cut.py") 349, Value.int 72 0, Value.int 2 0, Value.int 0 0, Value.int 0 0, Value.int 3 0, Value.ref 139, Value.bool Bool.true, Value.int 181 0, Value.ref 140, Value.none, Value.ref 141, Value.ref 142, Value.ref 143, Value.int 353 0, Value.int 72 0, Value.str (Str.ofString "/claim/cut.py") 354] }
noncomputable def o188 (P : Params) : Obj :=
  { cls := Value.type "function", data := Data.func { name := Str.ofString "__init__", qualname := Str.ofString "Player.__init__", params := qp15, body := FuncBody.stmts qb15, scope := qs15, globals := 3, closure := [(Str.ofString "__class__", 133)], defaults := Value.none, kwdefaults := Value.none, pyModule := Value.str (Str.ofString "matching.players.player") 333, code := Value.ref 144, closureTuple := Value.ref 138 } }
noncomputable def o189 (P : Params) : Obj :=
  { cls := Value.type "tuple", data := Data.seq #[] }
noncomputable def o190 (P : Params) : Obj :=
  { cls := Value.none, data := Data.fields #[] }
noncomputable def o191 (P : Params) : Obj :=
  { cls := Value.type "tuple", data := Data.seq #[Value.str (Str.ofString "self") 359, Value.str (Str.ofString "other") 360] }
noncomputable def o192 (P : Params) : Obj :=
  { cls := Value.type "tuple", data := Data.seq #[] }
noncomputable def qp16 : Arguments := (fun {p b c} (_ : (fnS (clsS pbody[8]?)[1]?) = some (p, b, c)) => p) rfl
noncomputable def qb16 : List Stmt := (fun {p b c} (_ : (fnS (clsS pbody[8]?)[1]?) = some (p, b, c)) => b) rfl
noncomputable def qs16 : Scope := (fun {p b c} (_ : (fnS (clsS pbody[8]?)[1]?) = some (p, b, c)) => c) rfl
noncomputable def o193 (P : Params) : Obj :=
  { cls := Value.none, data := Data.func { name := Str.ofString "_match", qualname := Str.ofString "Player._match", params := qp16, body := FuncBody.stmts qb16, scope := qs16, globals := 0, closure := [], defaults := Value.none, kwdefaults := Value.none } }
noncomputable def o194 (P : Params) : Obj :=
  { cls := Value.type "code", data := Data.fields #[Value.str (Str.ofString "_match") 356, Value.str (Str.ofString "Player._match") 357, Value.str (Str.ofString "/claim/cut.py") 358, Value.int 75 0, Value.int 2 0, Value.int 0 0, Value.int 0 0, Value.int 3 0, Value.ref 146, Value.bool Bool.true, Value.int 181 0, Value.ref 147, Value.none, Value.ref 148, Value.ref 149, Value.ref 150, Value.int 361 0, Value.int 75 0, Value.str (Str.ofString "/claim/cut.py") 362] }
noncomputable def o195 (P : Params) : Obj :=
  { cls := Value.type "function", data := Data.func { name := Str.ofString "_match", qualname := Str.ofString "Player._match", params := qp16, body := FuncBody.stmts qb16, scope := qs16, globals := 3, closure := [], defaults := Value.none, kwdefaults := Value.none, pyModule := Value.str (Str.ofString "matching.players.player") 333, code := Value.ref 151 } }
noncomputable def o196 (P : Params) : Obj :=
  { cls := Value.type "tuple", data := Data.seq #[] }
noncomputable def o197 (P : Params) : Obj :=
  { cls := Value.none, data := Data.fields #[] }
noncomputable def o198 (P : Params) : Obj :=
  { cls := Value.type "tuple", data := Data.seq #[Value.str (Str.ofString "self") 367] }
noncomputable def o199 (P : Params) : Obj :=
  { cls := Value.type "tuple", data := Data.seq #[] }
noncomputable def qp17 : Arguments := (fun {p b c} (_ : (fnS (clsS pbody[8]?)[2]?) = some (p, b, c)) => p) rfl
noncomputable def qb17 : List Stmt := (fun {p b c} (_ : (fnS (clsS pbody[8]?)[2]?) = some (p, b, c)) => b) rfl
noncomputable def qs17 : Scope := (fun {p b c} (_ : (fnS (clsS pbody[8]?)[2]?) = some (p, b, c)) => c) rfl
noncomputable def o200 (P : Params) : Obj :=
  { cls := Value.none, data := Data.func { name := Str.ofString "_unmatch", qualname := Str.ofString "Player._unmatch", params := qp17, body := FuncBody.stmts qb17, scope := qs17, globals := 0, closure := [], defaults := Value.none, kwdefaults := Value.none } }
noncomputable def o201 (P : Params) : Obj :=
  { cls := Value.type "code", data := Data.fields #[Value.str (Str.ofString "_unmatch") 364, Value.str (Str.ofString "Player._unmatch") 365, Value.str (Str.ofString "/claim/cut.py") 366, Value.int 78 0, Value.int 1 0, Value.int 0 0, Value.int 0 0, Value.int 3 0, Value.ref 153, Value.bool Bool.true, Value.int 181 0, Value.ref 154, Value.none, Value.ref 155, Value.ref 156, Value.ref 157, Value.int 368 0, Value.int 78 0, Value.str (Str.ofString "/claim/cut.py") 369] }
noncomputable def o202 (P : Params) : Obj :=
  { cls := Value.type "function", data := Data.func { name := Str.ofString "_unmatch", qualname := Str.ofString "Player._unmatch", params := qp17, body := FuncBody.stmts qb17, scope := qs17, globals := 3, closure := [], defaults := Value.none, kwdefaults := Value.none, pyModule := Value.str (Str.ofString "matching.players.player") 333, code := Value.ref 158 } }
noncomputable def o203 (P : Params) : Obj :=
  { cls := Value.type "tuple", data := Data.seq #[] }
noncomputable def o204 (P : Params) : Obj :=
  { cls := Value.none, data := Data.fields #[] }
noncomputable def o205 (P : Params) : Obj :=
  { cls := Value.type "tuple", data := Data.seq #[Value.str (Str.ofString "self") 374] }
noncomputable def o206 (P : Params) : Obj :=
  { cls := Value.type "tuple", data := Data.seq #[] }
noncomputable def qp18 : Arguments := (fun {p b c} (_ : (fnS (clsS pbody[8]?)[3]?) = some (p, b, c)) => p) rfl
noncomputable def qb18 : List Stmt := (fun {p b c} (_ : (fnS (clsS pbody[8]?)[3]?) = some (p, b, c)) => b) rfl
noncomputable def qs18 : Scope := (fun {p b c} (_ : (fnS (clsS pbody[8]?)[3]?) = some (p, b, c)) => c) rfl
noncomputable def o207 (P : Params) : Obj :=
  { cls := Value.none, data := Data.func { name := Str.ofString "get_favourite", qualname := Str.ofString "Player.get_favourite", params := qp18, body := FuncBody.stmts qb18, scope := qs18, globals := 0, closure := [], defaults := Value.none, kwdefaults := Value.none } }
noncomputable def o208 (P : Params) : Obj :=
  { cls := Value.type "code", data := Data.fields #[Value.str (Str.ofString "get_favourite") 371, Value.str (Str.ofString "Player.get_favourite") 372, Value.str (Str.ofString "/claim/cut.py") 373, Value.int 81 0, Value.int 1 0, Value.int 0 0, Value.int 0 0, Value.int 3 0, Value.ref 160, Value.bool Bool.true, Value.int 181 0, Value.ref 161, Value.none, Value.ref 162, Value.ref 163, Value.ref 164, Value.int 375 0, Value.int 81 0, Value.str (Str.ofString "/claim/cut.py") 376] }
noncomputable def o209 (P : Params) : Obj :=
  { cls := Value.type "function", data := Data.func { name := Str.ofString "get_favourite", qualname := Str.ofString "Player.get_favourite", params := qp18, body := FuncBody.stmts qb18, scope := qs18, globals := 3, closure := [], defaults := Value.none, kwdefaults := Value.none, pyModule := Value.str (Str.ofString "matching.players.player") 333, code := Value.ref 165 } }
noncomputable def o210 (P : Params) : Obj :=
  { cls := Value.type "tuple", data := Data.seq #[] }
noncomputable def o211 (P : Params) : Obj :=
  { cls := Value.none, data := Data.fields #[] }
noncomputable def o212 (P : Params) : Obj :=
  { cls := Value.type "tuple", data := Data.seq #[Value.str (Str.ofString "self") 381, Value.str (Str.ofString "idx") 382] }
noncomputable def o213 (P : Params) : Obj :=
  { cls := Value.type "tuple", data := Data.seq #[] }
noncomputable def qp19 : Arguments := (fun {p b c} (_ : (fnS (clsS pbody[8]?)[4]?) = some (p, b, c)) => p) rfl
noncomputable def qb19 : List Stmt := (fun {p b c} (_ : (fnS (clsS pbody[8]?)[4]?) = some (p, b, c)) => b) rfl
noncomputable def qs19 : Scope := (fun {p b c} (_ : (fnS (clsS pbody[8]?)[4]?) = some (p, b, c)) => c) rfl
noncomputable def o214 (P : Params) : Obj :=
  { cls := Value.none, data := Data.func { name := Str.ofString "get_successors", qualname := Str.ofString "Player.get_successors", params := qp19, body := FuncBody.stmts qb19, scope := qs19, globals := 0, closure := [], defaults := Value.none, kwdefaults := Value.none } }
noncomputable def o215 (P : Params) : Obj :=
  { cls := Value.type "code", data := Data.fields #[Value.str (Str.ofString "get_successors") 378, Value.str (Str.ofString "Player.get_successors") 379, Value.str (Str.ofString "/claim/cut.py") 380, Value.int 84 0, Value.int 1 0, Value.int 0 0, Value.int 0 0, Value.int 3 0, Value.ref 167, Value.bool Bool.true, Value.int 181 0, Value.ref 168, Value.none, Value.ref 169, Value.ref 170, Value.ref 171, Value.int 383 0, Value.int 84 0, Value.str (Str.ofString "/claim/cut.py") 384] }
noncomputable def o216 (P : Params) : Obj :=
  { cls := Value.type "function", data := Data.func { name := Str.ofString "get_successors", qualname := Str.ofString "Player.get_successors", params := qp19, body := FuncBody.stmts qb19, scope := qs19, globals := 3, closure := [], defaults := Value.none, kwdefaults := Value.none, pyModule := Value.str (Str.ofString "matching.players.player") 333, code := Value.ref 172 } }
noncomputable def o217 (P : Params) : Obj :=
  { cls := Value.type "tuple", data := Data.seq #[Value.bool Bool.false] }
noncomputable def o218 (P : Params) : Obj :=
  { cls := Value.type "tuple", data := Data.seq #[] }
noncomputable def o219 (P : Params) : Obj :=
  { cls := Value.none, data := Data.fields #[] }
noncomputable def o220 (P : Params) : Obj :=
  { cls := Value.type "tuple", data := Data.seq #[Value.str (Str.ofString "self") 389, Value.str (Str.ofString "unmatched_okay") 390] }
noncomputable def o221 (P : Params) : Obj :=
  { cls := Value.type "tuple", data := Data.seq #[] }
noncomputable def qp20 : Arguments := (fun {p b c} (_ : (fnS (clsS pbody[8]?)[5]?) = some (p, b, c)) => p) rfl
noncomputable def qb20 : List Stmt := (fun {p b c} (_ : (fnS (clsS pbody[8]?)[5]?) = some (p, b, c)) => b) rfl
noncomputable def qs20 : Scope := (fun {p b c} (_ : (fnS (clsS pbody[8]?)[5]?) = some (p, b, c)) => c) rfl
noncomputable def o222 (P : Params) : Obj :=
  { cls := Value.none, data := Data.func { name := Str.ofString "check_if_match_is_unacceptable", qualname := Str.ofString "Player.check_if_match_is_unacceptable", params := qp20, body := FuncBody.stmts qb20, scope := qs20, globals := 0, closure := [], defaults := Value.none, kwdefaults := Value.none } }
noncomputable def o223 (P : Params) : Obj :=
  { cls := Value.type "code", data := Data.fields #[Value.str (Str.ofString "check_if_match_is_unacceptable") 386, Value.str (Str.ofString "Player.check_if_match_is_unacceptable") 387, Value.str (Str.ofString "/claim/cut.py") 388, Value.int 88 0, Value.int 2 0, Value.int 0 0, Value.int 0 0, Value.int 3 0, Value.ref 175, Value.bool Bool.true, Value.int 181 0, Value.ref 176, Value.none, Value.ref 177, Value.ref 178, Value.ref 179, Value.int 391 0, Value.int 88 0, Value.str (Str.ofString "/claim/cut.py") 392] }
noncomputable def o224 (P : Params) : Obj :=
  { cls := Value.type "function", data := Data.func { name := Str.ofString "check_if_match_is_unacceptable", qualname := Str.ofString "Player.check_if_match_is_unacceptable", params := qp20, body := FuncBody.stmts qb20, scope := qs20, globals := 3, closure := [], defaults := Value.ref 174, kwdefaults := Value.none, pyModule := Value.str (Str.ofString "matching.players.player") 333, code := Value.ref 180 } }
noncomputable def o225 (P : Params) : Obj :=
  { cls := Value.type "tuple", data := Data.seq #[Value.str (Str.ofString "matching") 394] }
noncomputable def o226 (P : Params) : Obj :=
  { cls := Value.type "dict", data := Data.dict #[{ hash := PyData.keyHash P (Str.ofString "__module__"), key := Value.str (Str.ofString "__module__") 342, val := Value.str (Str.ofString "matching.players.player") 333 }, { hash := PyData.keyHash P (Str.ofString "__firstlineno__"), key := Value.str (Str.ofString "__firstlineno__") 346, val := Value.int 70 345 }, { hash := PyData.keyHash P (Str.ofString "__init__"), key := Value.str (Str.ofString "__init__") 355, val := Value.ref 145 }, { hash := PyData.keyHash P (Str.ofString "_match"), key := Value.str (Str.ofString "_match") 363, val := Value.ref 152 }, { hash := PyData.keyHash P (Str.ofString "_unmatch"), key := Value.str (Str.ofString "_unmatch") 370, val := Value.ref 159 }, { hash := PyData.keyHash P (Str.ofString "get_favourite"), key := Value.str (Str.ofString "get_favourite") 377, val := Value.ref 166 }, { hash := PyData.keyHash P (Str.ofString "get_successors"), key := Value.str (Str.ofString "get_successors") 385, val := Value.ref 173 }, { hash := PyData.keyHash P (Str.ofString "check_if_match_is_unacceptable"), key := Value.str (Str.ofString "check_if_match_is_unacceptable") 393, val := Value.ref 181 }, { hash := PyData.keyHash P (Str.ofString "__static_attributes__"), key := Value.str (Str.ofString "__static_attributes__") 395, val := Value.ref 182 }, { hash := PyData.keyHash P (Str.ofString "__doc__"), key := Value.str (Str.ofString "__doc__") 397, val := Value.none }] 3 }
noncomputable def o227 (P : Params) : Obj :=
  { cls := Value.type "type", data := Data.cls { name := Str.ofString "Player", bases := [Value.ref 125], mro := [Value.ref 184, Value.ref 125, Value.type "object"], ns := 183, qualname := Str.ofString "Player" }, slots := #[Option.some (Value.ref 130), Option.none, Option.some (Value.str (Str.ofString "Player") 335), Option.some (Value.str (Str.ofString "Player") 343), Option.some (Value.builtin "object.__new__"), Option.some (Value.bool Bool.true)] }
noncomputable def o228 (P : Params) : Obj :=
  { cls := Value.type "super", data := Data.fields #[Value.ref 184, Value.ref 184, Value.ref 184] }
noncomputable def o229 (P : Params) : Obj :=
  { cls := Value.type "builtin_function_or_method", data := Data.fields #[Value.builtin "object.__init_subclass__", Value.ref 184] }
noncomputable def o230 (P : Params) : Obj :=
  { cls := Value.type "dict", data := Data.dict #[{ hash := PyData.keyHash P (Str.ofString "__name__"), key := Value.str (Str.ofString "__name__") 165, val := Value.str (Str.ofString "law_jz0001_01") 400 }, { hash := PyData.keyHash P (Str.ofString "__doc__"), key := Value.str (Str.ofString "__doc__") 166, val := Value.none }, { hash := PyData.keyHash P (Str.ofString "__package__"), key := Value.str (Str.ofString "__package__") 167, val := Value.none }, { hash := PyData.keyHash P (Str.ofString "__loader__"), key := Value.str (Str.ofString "__loader__") 168, val := Value.builtin "__main__.__loader__#opaque" }, { hash := PyData.keyHash P (Str.ofString "__spec__"), key := Value.str (Str.ofString "__spec__") 169, val := Value.none }, { hash := PyData.keyHash P (Str.ofString "__annotations__"), key := Value.str (Str.ofString "__annotations__") 170, val := Value.ref 6 }, { hash := PyData.keyHash P (Str.ofString "__builtins__"), key := Value.str (Str.ofString "__builtins__") 171, val := Value.ref 4 }, { hash := PyData.keyHash P (Str.ofString "__file__"), key := Value.str (Str.ofString "__file__") 173, val := Value.str (Str.ofString "/claim/cut.py") 172 }, { hash := PyData.keyHash P (Str.ofString "__cached__"), key := Value.str (Str.ofString "__cached__") 174, val := Value.none }, { hash := PyData.keyHash P (Str.ofString "_wall"), key := Value.str (Str.ofString "_wall") 193, val := Value.ref 21 }, { hash := PyData.keyHash P (Str.ofString "_delete_pair"), key := Value.str (Str.ofString "_delete_pair") 203, val := Value.ref 28 }, { hash := PyData.keyHash P (Str.ofString "first_phase"), key := Value.str (Str.ofString "first_phase") 217, val := Value.ref 35 }, { hash := PyData.keyHash P (Str.ofString "BasePlayer"), key := Value.str (Str.ofString "BasePlayer") 332, val := Value.ref 125 }, { hash := PyData.keyHash P (Str.ofString "Player"), key := Value.str (Str.ofString "Player") 399, val := Value.ref 184 }, { hash := PyData.keyHash P (Str.ofString "_law_cell"), key := Value.str (Str.ofString "_law_cell") 409, val := Value.ref 193 }, { hash := PyData.keyHash P (Str.ofString "_law_order"), key := Value.str (Str.ofString "_law_order") 421, val := Value.ref 200 }, { hash := PyData.keyHash P (Str.ofString "_law_orders"), key := Value.str (Str.ofString "_law_orders") 427, val := Value.ref 205 }, { hash := PyData.keyHash P (Str.ofString "_law_players"), key := Value.str (Str.ofString "_law_players") 433, val := Value.ref 210 }, { hash := PyData.keyHash P (Str.ofString "_law_number"), key := Value.str (Str.ofString "_law_number") 439, val := Value.ref 215 }, { hash := PyData.keyHash P (Str.ofString "_law_lists"), key := Value.str (Str.ofString "_law_lists") 445, val := Value.ref 220 }, { hash := PyData.keyHash P (Str.ofString "_law_held"), key := Value.str (Str.ofString "_law_held") 455, val := Value.ref 227 }, { hash := PyData.keyHash P (Str.ofString "_law_pairings"), key := Value.str (Str.ofString "_law_pairings") 461, val := Value.ref 232 }, { hash := PyData.keyHash P (Str.ofString "_law_stable"), key := Value.str (Str.ofString "_law_stable") 477, val := Value.ref 239 }, { hash := PyData.keyHash P (Str.ofString "_law_within"), key := Value.str (Str.ofString "_law_within") 483, val := Value.ref 244 }, { hash := PyData.keyHash P (Str.ofString "_law_mutual"), key := Value.str (Str.ofString "_law_mutual") 489, val := Value.ref 249 }, { hash := PyData.keyHash P (Str.ofString "_law_rounds"), key := Value.str (Str.ofString "_law_rounds") 495, val := Value.ref 254 }, { hash := PyData.keyHash P (Str.ofString "law"), key := Value.str (Str.ofString "law") 501, val := Value.ref 259 }] 27 }
noncomputable def o231 (P : Params) : Obj :=
  { cls := Value.none, data := Data.fields #[Value.int 1 0, Value.int 0 0, Value.ref 20, Value.int 5 0, Value.int 0 0, Value.ref 27, Value.int 9 0, Value.int 0 0, Value.ref 34, Value.int 25 0, Value.int 0 0, Value.ref 41, Value.int 70 0, Value.int 0 0, Value.ref 136, Value.int 91 0, Value.int 0 0, Value.ref 192, Value.int 95 0, Value.int 0 0, Value.ref 199, Value.int 104 0, Value.int 0 0, Value.ref 204, Value.int 110 0, Value.int 0 0, Value.ref 209, Value.int 115 0, Value.int 0 0, Value.ref 214, Value.int 117 0, Value.int 0 0, Value.ref 219, Value.int 119 0, Value.int 0 0, Value.ref 226, Value.int 128 0, Value.int 0 0, Value.ref 231, Value.int 136 0, Value.int 0 0, Value.ref 238, Value.int 154 0, Value.int 0 0, Value.ref 243, Value.int 156 0, Value.int 0 0, Value.ref 248, Value.int 164 0, Value.int 0 0, Value.ref 253, Value.int 175 0, Value.int 0 0, Value.ref 258] }
noncomputable def o232 (P : Params) : Obj :=
  { cls := Value.type "tuple", data := Data.seq #[] }
noncomputable def o233 (P : Params) : Obj :=
  { cls := Value.none, data := Data.fields #[] }
noncomputable def o234 (P : Params) : Obj :=
  { cls := Value.type "tuple", data := Data.seq #[Value.str (Str.ofString "script") 405, Value.str (Str.ofString "k") 406] }
noncomputable def o235 (P : Params) : Obj :=
  { cls := Value.type "tuple", data := Data.seq #[] }
noncomputable def qp21 : Arguments := (fun {p b c} (_ : (fnS pbody[10]?) = some (p, b, c)) => p) rfl
noncomputable def qb21 : List Stmt := (fun {p b c} (_ : (fnS pbody[10]?) = some (p, b, c)) => b) rfl
noncomputable def qs21 : Scope := (fun {p b c} (_ : (fnS pbody[10]?) = some (p, b, c)) => c) rfl
noncomputable def o236 (P : Params) : Obj :=
  { cls := Value.none, data := Data.func { name := Str.ofString "_law_cell", qualname := Str.ofString "_law_cell", params := qp21, body := FuncBody.stmts qb21, scope := qs21, globals := 0, closure := [], defaults := Value.none, kwdefaults := Value.none } }
noncomputable def o237 (P : Params) : Obj :=
  { cls := Value.type "code", data := Data.fields #[Value.str (Str.ofString "_law_cell") 402, Value.str (Str.ofString "_law_cell") 403, Value.str (Str.ofString "/claim/cut.py") 404, Value.int 91 0, Value.int 2 0, Value.int 0 0, Value.int 0 0, Value.int 3 0, Value.ref 187, Value.bool Bool.true, Value.int 181 0, Value.ref 188, Value.none, Value.ref 189, Value.ref 190, Value.ref 191, Value.int 407 0, Value.int 91 0, Value.str (Str.ofString "/claim/cut.py") 408] }
noncomputable def o238 (P : Params) : Obj :=
  { cls := Value.type "function", data := Data.func { name := Str.ofString "_law_cell", qualname := Str.ofString "_law_cell", params := qp21, body := FuncBody.stmts qb21, scope := qs21, globals := 3, closure := [], defaults := Value.none, kwdefaults := Value.none, pyModule := Value.str (Str.ofString "law_jz0001_01") 400, code := Value.ref 192 } }
noncomputable def o239 (P : Params) : Obj :=
  { cls := Value.type "tuple", data := Data.seq #[] }
noncomputable def o240 (P : Params) : Obj :=
  { cls := Value.none, data := Data.fields #[] }
noncomputable def o241 (P : Params) : Obj :=
  { cls := Value.type "tuple", data := Data.seq #[Value.str (Str.ofString "count") 413, Value.str (Str.ofString "cell") 414, Value.str (Str.ofString "left") 415, Value.str (Str.ofString "order") 416, Value.str (Str.ofString "k") 417, Value.str (Str.ofString "at") 418] }
noncomputable def o242 (P : Params) : Obj :=
  { cls := Value.type "tuple", data := Data.seq #[] }
noncomputable def qp22 : Arguments := (fun {p b c} (_ : (fnS pbody[11]?) = some (p, b, c)) => p) rfl
noncomputable def qb22 : List Stmt := (fun {p b c} (_ : (fnS pbody[11]?) = some (p, b, c)) => b) rfl
noncomputable def qs22 : Scope := (fun {p b c} (_ : (fnS pbody[11]?) = some (p, b, c)) => c) rfl
noncomputable def o243 (P : Params) : Obj :=
  { cls := Value.none, data := Data.func { name := Str.ofString "_law_order", qualname := Str.ofString "_law_order", params := qp22, body := FuncBody.stmts qb22, scope := qs22, globals := 0, closure := [], defaults := Value.none, kwdefaults := Value.none } }
noncomputable def o244 (P : Params) : Obj :=
  { cls := Value.type "code", data := Data.fields #[Value.str (Str.ofString "_law_order") 410, Value.str (Str.ofString "_law_order") 411, Value.str (Str.ofString "/claim/cut.py") 412, Value.int 95 0, Value.int 2 0, Value.int 0 0, Value.int 0 0, Value.int 3 0, Value.ref 194, Value.bool Bool.true, Value.int 181 0, Value.ref 195, Value.none, Value.ref 196, Value.ref 197, Value.ref 198, Value.int 419 0, Value.int 95 0, Value.str (Str.ofString "/claim/cut.py") 420] }
noncomputable def o245 (P : Params) : Obj :=
  { cls := Value.type "function", data := Data.func { name := Str.ofString "_law_order", qualname := Str.ofString "_law_order", params := qp22, body := FuncBody.stmts qb22, scope := qs22, globals := 3, closure := [], defaults := Value.none, kwdefaults := Value.none, pyModule := Value.str (Str.ofString "law_jz0001_01") 400, code := Value.ref 199 } }
noncomputable def o246 (P : Params) : Obj :=
  { cls := Value.type "tuple", data := Data.seq #[] }
noncomputable def o247 (P : Params) : Obj :=
  { cls := Value.none, data := Data.fields #[] }
noncomputable def qp23 : Arguments := (fun {p b c} (_ : (fnS pbody[12]?) = some (p, b, c)) => p) rfl
noncomputable def qb23 : List Stmt := (fun {p b c} (_ : (fnS pbody[12]?) = some (p, b, c)) => b) rfl
noncomputable def qs23 : Scope := (fun {p b c} (_ : (fnS pbody[12]?) = some (p, b, c)) => c) rfl
noncomputable def o248 (P : Params) : Obj :=
  { cls := Value.none, data := Data.func { name := Str.ofString "_law_orders", qualname := Str.ofString "_law_orders", params := qp23, body := FuncBody.stmts qb23, scope := qs23, globals := 0, closure := [], defaults := Value.none, kwdefaults := Value.none } }
noncomputable def o249 (P : Params) : Obj :=
  { cls := Value.type "code", data := Data.fields #[Value.str (Str.ofString "_law_orders") 422, Value.str (Str.ofString "_law_orders") 423, Value.str (Str.ofString "/claim/cut.py") 424, Value.int 104 0, Value.int 2 0, Value.int 0 0, Value.int 0 0, Value.int 3 0, Value.ref 201, Value.bool Bool.true, Value.int 181 0, Value.ref 202, Value.none, Value.none, Value.none, Value.ref 203, Value.int 425 0, Value.int 104 0, Value.str (Str.ofString "/claim/cut.py") 426] }
noncomputable def o250 (P : Params) : Obj :=
  { cls := Value.type "function", data := Data.func { name := Str.ofString "_law_orders", qualname := Str.ofString "_law_orders", params := qp23, body := FuncBody.stmts qb23, scope := qs23, globals := 3, closure := [], defaults := Value.none, kwdefaults := Value.none, pyModule := Value.str (Str.ofString "law_jz0001_01") 400, code := Value.ref 204 } }
noncomputable def o251 (P : Params) : Obj :=
  { cls := Value.type "tuple", data := Data.seq #[] }
noncomputable def o252 (P : Params) : Obj :=
  { cls := Value.none, data := Data.fields #[] }
noncomputable def qp24 : Arguments := (fun {p b c} (_ : (fnS pbody[13]?) = some (p, b, c)) => p) rfl
noncomputable def qb24 : List Stmt := (fun {p b c} (_ : (fnS pbody[13]?) = some (p, b, c)) => b) rfl
noncomputable def qs24 : Scope := (fun {p b c} (_ : (fnS pbody[13]?) = some (p, b, c)) => c) rfl
noncomputable def o253 (P : Params) : Obj :=
  { cls := Value.none, data := Data.func { name := Str.ofString "_law_players", qualname := Str.ofString "_law_players", params := qp24, body := FuncBody.stmts qb24, scope := qs24, globals := 0, closure := [], defaults := Value.none, kwdefaults := Value.none } }
noncomputable def o254 (P : Params) : Obj :=
  { cls := Value.type "code", data := Data.fields #[Value.str (Str.ofString "_law_players") 428, Value.str (Str.ofString "_law_players") 429, Value.str (Str.ofString "/claim/cut.py") 430, Value.int 110 0, Value.int 1 0, Value.int 0 0, Value.int 0 0, Value.int 3 0, Value.ref 206, Value.bool Bool.true, Value.int 181 0, Value.ref 207, Value.none, Value.none, Value.none, Value.ref 208, Value.int 431 0, Value.int 110 0, Value.str (Str.ofString "/claim/cut.py") 432] }
noncomputable def o255 (P : Params) : Obj :=
  { cls := Value.type "function", data := Data.func { name := Str.ofString "_law_players", qualname := Str.ofString "_law_players", params := qp24, body := FuncBody.stmts qb24, scope := qs24, globals := 3, closure := [], defaults := Value.none, kwdefaults := Value.none, pyModule := Value.str (Str.ofString "law_jz0001_01") 400, code := Value.ref 209 } }
noncomputable def o256 (P : Params) : Obj :=
  { cls := Value.type "tuple", data := Data.seq #[] }
noncomputable def o257 (P : Params) : Obj :=
  { cls := Value.none, data := Data.fields #[] }
noncomputable def qp25 : Arguments := (fun {p b c} (_ : (fnS pbody[14]?) = some (p, b, c)) => p) rfl
noncomputable def qb25 : List Stmt := (fun {p b c} (_ : (fnS pbody[14]?) = some (p, b, c)) => b) rfl
noncomputable def qs25 : Scope := (fun {p b c} (_ : (fnS pbody[14]?) = some (p, b, c)) => c) rfl
noncomputable def o258 (P : Params) : Obj :=
  { cls := Value.none, data := Data.func { name := Str.ofString "_law_number", qualname := Str.ofString "_law_number", params := qp25, body := FuncBody.stmts qb25, scope := qs25, globals := 0, closure := [], defaults := Value.none, kwdefaults := Value.none } }
noncomputable def o259 (P : Params) : Obj :=
  { cls := Value.type "code", data := Data.fields #[Value.str (Str.ofString "_law_number") 434, Value.str (Str.ofString "_law_number") 435, Value.str (Str.ofString "/claim/cut.py") 436, Value.int 115 0, Value.int 1 0, Value.int 0 0, Value.int 0 0, Value.int 3 0, Value.ref 211, Value.bool Bool.true, Value.int 181 0, Value.ref 212, Value.none, Value.none, Value.none, Value.ref 213, Value.int 437 0, Value.int 115 0, Value.str (Str.ofString "/claim/cut.py") 438] }
noncomputable def o260 (P : Params) : Obj :=
  { cls := Value.type "function", data := Data.func { name := Str.ofString "_law_number", qualname := Str.ofString "_law_number", params := qp25, body := FuncBody.stmts qb25, scope := qs25, globals := 3, closure := [], defaults := Value.none, kwdefaults := Value.none, pyModule := Value.str (Str.ofString "law_jz0001_01") 400, code := Value.ref 214 } }
noncomputable def o261 (P : Params) : Obj :=
  { cls := Value.type "tuple", data := Data.seq #[] }
noncomputable def o262 (P : Params) : Obj :=
  { cls := Value.none, data := Data.fields #[] }
noncomputable def qp26 : Arguments := (fun {p b c} (_ : (fnS pbody[15]?) = some (p, b, c)) => p) rfl
noncomputable def qb26 : List Stmt := (fun {p b c} (_ : (fnS pbody[15]?) = some (p, b, c)) => b) rfl
noncomputable def qs26 : Scope := (fun {p b c} (_ : (fnS pbody[15]?) = some (p, b, c)) => c) rfl
noncomputable def o263 (P : Params) : Obj :=
  { cls := Value.none, data := Data.func { name := Str.ofString "_law_lists", qualname := Str.ofString "_law_lists", params := qp26, body := FuncBody.stmts qb26, scope := qs26, globals := 0, closure := [], defaults := Value.none, kwdefaults := Value.none } }
noncomputable def o264 (P : Params) : Obj :=
  { cls := Value.type "code", data := Data.fields #[Value.str (Str.ofString "_law_lists") 440, Value.str (Str.ofString "_law_lists") 441, Value.str (Str.ofString "/claim/cut.py") 442, Value.int 117 0, Value.int 1 0, Value.int 0 0, Value.int 0 0, Value.int 3 0, Value.ref 216, Value.bool Bool.true, Value.int 181 0, Value.ref 217, Value.none, Value.none, Value.none, Value.ref 218, Value.int 443 0, Value.int 117 0, Value.str (Str.ofString "/claim/cut.py") 444] }
noncomputable def o265 (P : Params) : Obj :=
  { cls := Value.type "function", data := Data.func { name := Str.ofString "_law_lists", qualname := Str.ofString "_law_lists", params := qp26, body := FuncBody.stmts qb26, scope := qs26, globals := 3, closure := [], defaults := Value.none, kwdefaults := Value.none, pyModule := Value.str (Str.ofString "law_jz0001_01") 400, code := Value.ref 219 } }
noncomputable def o266 (P : Params) : Obj :=
  { cls := Value.type "tuple", data := Data.seq #[] }
noncomputable def o267 (P : Params) : Obj :=
  { cls := Value.none, data := Data.fields #[] }
noncomputable def o268 (P : Params) : Obj :=
  { cls := Value.type "tuple", data := Data.seq #[Value.str (Str.ofString "players") 449, Value.str (Str.ofString "lists") 450, Value.str (Str.ofString "k") 451, Value.str (Str.ofString "holder") 452] }
noncomputable def o269 (P : Params) : Obj :=
  { cls := Value.type "tuple", data := Data.seq #[] }
noncomputable def qp27 : Arguments := (fun {p b c} (_ : (fnS pbody[16]?) = some (p, b, c)) => p) rfl
noncomputable def qb27 : List Stmt := (fun {p b c} (_ : (fnS pbody[16]?) = some (p, b, c)) => b) rfl
noncomputable def qs27 : Scope := (fun {p b c} (_ : (fnS pbody[16]?) = some (p, b, c)) => c) rfl
noncomputable def o270 (P : Params) : Obj :=
  { cls := Value.none, data := Data.func { name := Str.ofString "_law_held", qualname := Str.ofString "_law_held", params := qp27, body := FuncBody.stmts qb27, scope := qs27, globals := 0, closure := [], defaults := Value.none, kwdefaults := Value.none } }
noncomputable def o271 (P : Params) : Obj :=
  { cls := Value.type "code", data := Data.fields #[Value.str (Str.ofString "_law_held") 446, Value.str (Str.ofString "_law_held") 447, Value.str (Str.ofString "/claim/cut.py") 448, Value.int 119 0, Value.int 2 0, Value.int 0 0, Value.int 0 0, Value.int 3 0, Value.ref 221, Value.bool Bool.true, Value.int 181 0, Value.ref 222, Value.none, Value.ref 223, Value.ref 224, Value.ref 225, Value.int 453 0, Value.int 119 0, Value.str (Str.ofString "/claim/cut.py") 454] }
noncomputable def o272 (P : Params) : Obj :=
  { cls := Value.type "function", data := Data.func { name := Str.ofString "_law_held", qualname := Str.ofString "_law_held", params := qp27, body := FuncBody.stmts qb27, scope := qs27, globals := 3, closure := [], defaults := Value.none, kwdefaults := Value.none, pyModule := Value.str (Str.ofString "law_jz0001_01") 400, code := Value.ref 226 } }
noncomputable def o273 (P : Params) : Obj :=
  { cls := Value.type "tuple", data := Data.seq #[] }
noncomputable def o274 (P : Params) : Obj :=
  { cls := Value.none, data := Data.fields #[] }
noncomputable def qp28 : Arguments := (fun {p b c} (_ : (fnS pbody[17]?) = some (p, b, c)) => p) rfl
noncomputable def qb28 : List Stmt := (fun {p b c} (_ : (fnS pbody[17]?) = some (p, b, c)) => b) rfl
noncomputable def qs28 : Scope := (fun {p b c} (_ : (fnS pbody[17]?) = some (p, b, c)) => c) rfl
noncomputable def o275 (P : Params) : Obj :=
  { cls := Value.none, data := Data.func { name := Str.ofString "_law_pairings", qualname := Str.ofString "_law_pairings", params := qp28, body := FuncBody.stmts qb28, scope := qs28, globals := 0, closure := [], defaults := Value.none, kwdefaults := Value.none } }
noncomputable def o276 (P : Params) : Obj :=
  { cls := Value.type "code", data := Data.fields #[Value.str (Str.ofString "_law_pairings") 456, Value.str (Str.ofString "_law_pairings") 457, Value.str (Str.ofString "/claim/cut.py") 458, Value.int 128 0, Value.int 1 0, Value.int 0 0, Value.int 0 0, Value.int 3 0, Value.ref 228, Value.bool Bool.true, Value.int 181 0, Value.ref 229, Value.none, Value.none, Value.none, Value.ref 230, Value.int 459 0, Value.int 128 0, Value.str (Str.ofString "/claim/cut.py") 460] }
noncomputable def o277 (P : Params) : Obj :=
  { cls := Value.type "function", data := Data.func { name := Str.ofString "_law_pairings", qualname := Str.ofString "_law_pairings", params := qp28, body := FuncBody.stmts qb28, scope := qs28, globals := 3, closure := [], defaults := Value.none, kwdefaults := Value.none, pyModule := Value.str (Str.ofString "law_jz0001_01") 400, code := Value.ref 231 } }
noncomputable def o278 (P : Params) : Obj :=
  { cls := Value.type "tuple", data := Data.seq #[] }
noncomputable def o279 (P : Params) : Obj :=
  { cls := Value.none, data := Data.fields #[] }
noncomputable def o280 (P : Params) : Obj :=
  { cls := Value.type "tuple", data := Data.seq #[Value.str (Str.ofString "orders") 465, Value.str (Str.ofString "found") 466, Value.str (Str.ofString "count") 467, Value.str (Str.ofString "pairs") 468, Value.str (Str.ofString "mates") 469, Value.str (Str.ofString "one") 470, Value.str (Str.ofString "two") 471, Value.str (Str.ofString "good") 472, Value.str (Str.ofString "i") 473, Value.str (Str.ofString "j") 474] }
noncomputable def o281 (P : Params) : Obj :=
  { cls := Value.type "tuple", data := Data.seq #[] }
noncomputable def qp29 : Arguments := (fun {p b c} (_ : (fnS pbody[18]?) = some (p, b, c)) => p) rfl
noncomputable def qb29 : List Stmt := (fun {p b c} (_ : (fnS pbody[18]?) = some (p, b, c)) => b) rfl
noncomputable def qs29 : Scope := (fun {p b c} (_ : (fnS pbody[18]?) = some (p, b, c)) => c) rfl
noncomputable def o282 (P : Params) : Obj :=
  { cls := Value.none, data := Data.func { name := Str.ofString "_law_stable", qualname := Str.ofString "_law_stable", params := qp29, body := FuncBody.stmts qb29, scope := qs29, globals := 0, closure := [], defaults := Value.none, kwdefaults := Value.none } }
noncomputable def o283 (P : Params) : Obj :=
  { cls := Value.type "code", data := Data.fields #[Value.str (Str.ofString "_law_stable") 462, Value.str (Str.ofString "_law_stable") 463, Value.str (Str.ofString "/claim/cut.py") 464, Value.int 136 0, Value.int 1 0, Value.int 0 0, Value.int 0 0, Value.int 3 0, Value.ref 233, Value.bool Bool.true, Value.int 181 0, Value.ref 234, Value.none, Value.ref 235, Value.ref 236, Value.ref 237, Value.int 475 0, Value.int 136 0, Value.str (Str.ofString "/claim/cut.py") 476] }
noncomputable def o284 (P : Params) : Obj :=
  { cls := Value.type "function", data := Data.func { name := Str.ofString "_law_stable", qualname := Str.ofString "_law_stable", params := qp29, body := FuncBody.stmts qb29, scope := qs29, globals := 3, closure := [], defaults := Value.none, kwdefaults := Value.none, pyModule := Value.str (Str.ofString "law_jz0001_01") 400, code := Value.ref 238 } }
noncomputable def o285 (P : Params) : Obj :=
  { cls := Value.type "tuple", data := Data.seq #[] }
noncomputable def o286 (P : Params) : Obj :=
  { cls := Value.none, data := Data.fields #[] }
noncomputable def qp30 : Arguments := (fun {p b c} (_ : (fnS pbody[19]?) = some (p, b, c)) => p) rfl
noncomputable def qb30 : List Stmt := (fun {p b c} (_ : (fnS pbody[19]?) = some (p, b, c)) => b) rfl
noncomputable def qs30 : Scope := (fun {p b c} (_ : (fnS pbody[19]?) = some (p, b, c)) => c) rfl
noncomputable def o287 (P : Params) : Obj :=
  { cls := Value.none, data := Data.func { name := Str.ofString "_law_within", qualname := Str.ofString "_law_within", params := qp30, body := FuncBody.stmts qb30, scope := qs30, globals := 0, closure := [], defaults := Value.none, kwdefaults := Value.none } }
noncomputable def o288 (P : Params) : Obj :=
  { cls := Value.type "code", data := Data.fields #[Value.str (Str.ofString "_law_within") 478, Value.str (Str.ofString "_law_within") 479, Value.str (Str.ofString "/claim/cut.py") 480, Value.int 154 0, Value.int 2 0, Value.int 0 0, Value.int 0 0, Value.int 3 0, Value.ref 240, Value.bool Bool.true, Value.int 181 0, Value.ref 241, Value.none, Value.none, Value.none, Value.ref 242, Value.int 481 0, Value.int 154 0, Value.str (Str.ofString "/claim/cut.py") 482] }
noncomputable def o289 (P : Params) : Obj :=
  { cls := Value.type "function", data := Data.func { name := Str.ofString "_law_within", qualname := Str.ofString "_law_within", params := qp30, body := FuncBody.stmts qb30, scope := qs30, globals := 3, closure := [], defaults := Value.none, kwdefaults := Value.none, pyModule := Value.str (Str.ofString "law_jz0001_01") 400, code := Value.ref 243 } }
noncomputable def o290 (P : Params) : Obj :=
  { cls := Value.type "tuple", data := Data.seq #[] }
noncomputable def o291 (P : Params) : Obj :=
  { cls := Value.none, data := Data.fields #[] }
noncomputable def qp31 : Arguments := (fun {p b c} (_ : (fnS pbody[20]?) = some (p, b, c)) => p) rfl
noncomputable def qb31 : List Stmt := (fun {p b c} (_ : (fnS pbody[20]?) = some (p, b, c)) => b) rfl
noncomputable def qs31 : Scope := (fun {p b c} (_ : (fnS pbody[20]?) = some (p, b, c)) => c) rfl
noncomputable def o292 (P : Params) : Obj :=
  { cls := Value.none, data := Data.func { name := Str.ofString "_law_mutual", qualname := Str.ofString "_law_mutual", params := qp31, body := FuncBody.stmts qb31, scope := qs31, globals := 0, closure := [], defaults := Value.none, kwdefaults := Value.none } }
noncomputable def o293 (P : Params) : Obj :=
  { cls := Value.type "code", data := Data.fields #[Value.str (Str.ofString "_law_mutual") 484, Value.str (Str.ofString "_law_mutual") 485, Value.str (Str.ofString "/claim/cut.py") 486, Value.int 156 0, Value.int 2 0, Value.int 0 0, Value.int 0 0, Value.int 3 0, Value.ref 245, Value.bool Bool.true, Value.int 181 0, Value.ref 246, Value.none, Value.none, Value.none, Value.ref 247, Value.int 487 0, Value.int 156 0, Value.str (Str.ofString "/claim/cut.py") 488] }
noncomputable def o294 (P : Params) : Obj :=
  { cls := Value.type "function", data := Data.func { name := Str.ofString "_law_mutual", qualname := Str.ofString "_law_mutual", params := qp31, body := FuncBody.stmts qb31, scope := qs31, globals := 3, closure := [], defaults := Value.none, kwdefaults := Value.none, pyModule := Value.str (Str.ofString "law_jz0001_01") 400, code := Value.ref 248 } }
noncomputable def o295 (P : Params) : Obj :=
  { cls := Value.type "tuple", data := Data.seq #[] }
noncomputable def o296 (P : Params) : Obj :=
  { cls := Value.none, data := Data.fields #[] }
noncomputable def qp32 : Arguments := (fun {p b c} (_ : (fnS pbody[21]?) = some (p, b, c)) => p) rfl
noncomputable def qb32 : List Stmt := (fun {p b c} (_ : (fnS pbody[21]?) = some (p, b, c)) => b) rfl
noncomputable def qs32 : Scope := (fun {p b c} (_ : (fnS pbody[21]?) = some (p, b, c)) => c) rfl
noncomputable def o297 (P : Params) : Obj :=
  { cls := Value.none, data := Data.func { name := Str.ofString "_law_rounds", qualname := Str.ofString "_law_rounds", params := qp32, body := FuncBody.stmts qb32, scope := qs32, globals := 0, closure := [], defaults := Value.none, kwdefaults := Value.none } }
noncomputable def o298 (P : Params) : Obj :=
  { cls := Value.type "code", data := Data.fields #[Value.str (Str.ofString "_law_rounds") 490, Value.str (Str.ofString "_law_rounds") 491, Value.str (Str.ofString "/claim/cut.py") 492, Value.int 164 0, Value.int 1 0, Value.int 0 0, Value.int 0 0, Value.int 3 0, Value.ref 250, Value.bool Bool.true, Value.int 181 0, Value.ref 251, Value.none, Value.none, Value.none, Value.ref 252, Value.int 493 0, Value.int 164 0, Value.str (Str.ofString "/claim/cut.py") 494] }
noncomputable def o299 (P : Params) : Obj :=
  { cls := Value.type "function", data := Data.func { name := Str.ofString "_law_rounds", qualname := Str.ofString "_law_rounds", params := qp32, body := FuncBody.stmts qb32, scope := qs32, globals := 3, closure := [], defaults := Value.none, kwdefaults := Value.none, pyModule := Value.str (Str.ofString "law_jz0001_01") 400, code := Value.ref 253 } }
noncomputable def o300 (P : Params) : Obj :=
  { cls := Value.type "tuple", data := Data.seq #[] }
noncomputable def o301 (P : Params) : Obj :=
  { cls := Value.none, data := Data.fields #[] }
noncomputable def qp33 : Arguments := (fun {p b c} (_ : (fnS pbody[22]?) = some (p, b, c)) => p) rfl
noncomputable def qb33 : List Stmt := (fun {p b c} (_ : (fnS pbody[22]?) = some (p, b, c)) => b) rfl
noncomputable def qs33 : Scope := (fun {p b c} (_ : (fnS pbody[22]?) = some (p, b, c)) => c) rfl
noncomputable def o302 (P : Params) : Obj :=
  { cls := Value.none, data := Data.func { name := Str.ofString "law", qualname := Str.ofString "law", params := qp33, body := FuncBody.stmts qb33, scope := qs33, globals := 0, closure := [], defaults := Value.none, kwdefaults := Value.none } }
noncomputable def o303 (P : Params) : Obj :=
  { cls := Value.type "code", data := Data.fields #[Value.str (Str.ofString "law") 496, Value.str (Str.ofString "law") 497, Value.str (Str.ofString "/claim/cut.py") 498, Value.int 175 0, Value.int 1 0, Value.int 0 0, Value.int 0 0, Value.int 3 0, Value.ref 255, Value.bool Bool.true, Value.int 181 0, Value.ref 256, Value.none, Value.none, Value.none, Value.ref 257, Value.int 499 0, Value.int 175 0, Value.str (Str.ofString "/claim/cut.py") 500] }
noncomputable def o304 (P : Params) : Obj :=
  { cls := Value.type "function", data := Data.func { name := Str.ofString "law", qualname := Str.ofString "law", params := qp33, body := FuncBody.stmts qb33, scope := qs33, globals := 3, closure := [], defaults := Value.none, kwdefaults := Value.none, pyModule := Value.str (Str.ofString "law_jz0001_01") 400, code := Value.ref 258 } }
noncomputable def hheap_46 (P : Params) : Heap :=
  { objs := { toList := [boot_o_0 P, boot_o_1 P, boot_o_2 P, boot_o_3 P, boot_o_4 P, boot_o_5 P, boot_o_6 P, boot_o_7 P, boot_o_8 P, boot_o_9 P, boot_o_10 P, o43 P, o44 P, o45 P, o46 P] } }
noncomputable def htree_47 (P : Params) : BT :=
  .node (boot_o_0 P) (.node (boot_o_1 P) (.node (boot_o_3 P) (.node (boot_o_7 P) .nil .nil) (.node (o43 P) .nil .nil)) (.node (boot_o_5 P) (.node (boot_o_9 P) .nil .nil) (.node (o45 P) .nil .nil))) (.node (boot_o_2 P) (.node (boot_o_4 P) (.node (boot_o_8 P) .nil .nil) (.node (o44 P) .nil .nil)) (.node (boot_o_6 P) (.node (boot_o_10 P) .nil .nil) (.node (o46 P) .nil .nil)))
noncomputable def htree_71 (P : Params) : BT :=
  .node (boot_o_0 P) (.node (boot_o_1 P) (.node (o49 P) (.node (boot_o_7 P) (.node (o51 P) (.node (o67 P) .nil .nil) .nil) (.node (o59 P) .nil .nil)) (.node (o43 P) (.node (o55 P) (.node (o71 P) .nil .nil) .nil) (.node (o63 P) .nil .nil))) (.node (boot_o_5 P) (.node (boot_o_9 P) (.node (o53 P) (.node (o69 P) .nil .nil) .nil) (.node (o61 P) .nil .nil)) (.node (o45 P) (.node (o57 P) .nil .nil) (.node (o65 P) .nil .nil)))) (.node (boot_o_2 P) (.node (boot_o_4 P) (.node (boot_o_8 P) (.node (o52 P) (.node (o68 P) .nil .nil) .nil) (.node (o60 P) .nil .nil)) (.node (o50 P) (.node (o56 P) .nil .nil) (.node (o64 P) .nil .nil))) (.node (boot_o_6 P) (.node (boot_o_10 P) (.node (o54 P) (.node (o70 P) .nil .nil) .nil) (.node (o62 P) .nil .nil)) (.node (o46 P) (.node (o58 P) .nil .nil) (.node (o66 P) .nil .nil))))
noncomputable def htree_168 (P : Params) : BT :=
  .node (boot_o_0 P) (.node (boot_o_1 P) (.node (o168 P) (.node (boot_o_7 P) (.node (o51 P) (.node (o67 P) (.node (o101 P) (.node (o165 P) .nil .nil) .nil) (.node (o133 P) .nil .nil)) (.node (o85 P) (.node (o117 P) .nil .nil) (.node (o149 P) .nil .nil))) (.node (o59 P) (.node (o77 P) (.node (o109 P) .nil .nil) (.node (o141 P) .nil .nil)) (.node (o93 P) (.node (o125 P) .nil .nil) (.node (o157 P) .nil .nil)))) (.node (o43 P) (.node (o55 P) (.node (o71 P) (.node (o105 P) .nil .nil) (.node (o137 P) .nil .nil)) (.node (o89 P) (.node (o121 P) .nil .nil) (.node (o153 P) .nil .nil))) (.node (o63 P) (.node (o81 P) (.node (o113 P) .nil .nil) (.node (o145 P) .nil .nil)) (.node (o97 P) (.node (o129 P) .nil .nil) (.node (o161 P) .nil .nil))))) (.node (boot_o_5 P) (.node (boot_o_9 P) (.node (o53 P) (.node (o69 P) (.node (o103 P) (.node (o167 P) .nil .nil) .nil) (.node (o135 P) .nil .nil)) (.node (o87 P) (.node (o119 P) .nil .nil) (.node (o151 P) .nil .nil))) (.node (o61 P) (.node (o79 P) (.node (o111 P) .nil .nil) (.node (o143 P) .nil .nil)) (.node (o95 P) (.node (o127 P) .nil .nil) (.node (o159 P) .nil .nil)))) (.node (o45 P) (.node (o57 P) (.node (o75 P) (.node (o107 P) .nil .nil) (.node (o139 P) .nil .nil)) (.node (o91 P) (.node (o123 P) .nil .nil) (.node (o155 P) .nil .nil))) (.node (o65 P) (.node (o83 P) (.node (o115 P) .nil .nil) (.node (o147 P) .nil .nil)) (.node (o99 P) (.node (o131 P) .nil .nil) (.node (o163 P) .nil .nil)))))) (.node (boot_o_2 P) (.node (boot_o_4 P) (.node (boot_o_8 P) (.node (o52 P) (.node (o68 P) (.node (o102 P) (.node (o166 P) .nil .nil) .nil) (.node (o134 P) .nil .nil)) (.node (o86 P) (.node (o118 P) .nil .nil) (.node (o150 P) .nil .nil))) (.node (o60 P) (.node (o78 P) (.node (o110 P) .nil .nil) (.node (o142 P) .nil .nil)) (.node (o94 P) (.node (o126 P) .nil .nil) (.node (o158 P) .nil .nil)))) (.node (o73 P) (.node (o56 P) (.node (o74 P) (.node (o106 P) .nil .nil) (.node (o138 P) .nil .nil)) (.node (o90 P) (.node (o122 P) .nil .nil) (.node (o154 P) .nil .nil))) (.node (o64 P) (.node (o82 P) (.node (o114 P) .nil .nil) (.node (o146 P) .nil .nil)) (.node (o98 P) (.node (o130 P) .nil .nil) (.node (o162 P) .nil .nil))))) (.node (boot_o_6 P) (.node (boot_o_10 P) (.node (o54 P) (.node (o70 P) (.node (o104 P) .nil .nil) (.node (o136 P) .nil .nil)) (.node (o88 P) (.node (o120 P) .nil .nil) (.node (o152 P) .nil .nil))) (.node (o62 P) (.node (o80 P) (.node (o112 P) .nil .nil) (.node (o144 P) .nil .nil)) (.node (o96 P) (.node (o128 P) .nil .nil) (.node (o160 P) .nil .nil)))) (.node (o46 P) (.node (o58 P) (.node (o76 P) (.node (o108 P) .nil .nil) (.node (o140 P) .nil .nil)) (.node (o92 P) (.node (o124 P) .nil .nil) (.node (o156 P) .nil .nil))) (.node (o66 P) (.node (o84 P) (.node (o116 P) .nil .nil) (.node (o148 P) .nil .nil)) (.node (o100 P) (.node (o132 P) .nil .nil) (.node (o164 P) .nil .nil))))))
noncomputable def htree_229 (P : Params) : BT :=
  .node (boot_o_0 P) (.node (boot_o_1 P) (.node (o170 P) (.node (boot_o_7 P) (.node (o51 P) (.node (o67 P) (.node (o101 P) (.node (o165 P) .nil .nil) .nil) (.node (o133 P) (.node (o202 P) .nil .nil) .nil)) (.node (o85 P) (.node (o117 P) (.node (o186 P) .nil .nil) .nil) (.node (o149 P) (.node (o218 P) .nil .nil) .nil))) (.node (o59 P) (.node (o77 P) (.node (o109 P) (.node (o178 P) .nil .nil) .nil) (.node (o141 P) (.node (o210 P) .nil .nil) .nil)) (.node (o93 P) (.node (o125 P) (.node (o194 P) .nil .nil) .nil) (.node (o157 P) (.node (o226 P) .nil .nil) .nil)))) (.node (o43 P) (.node (o55 P) (.node (o71 P) (.node (o105 P) (.node (o174 P) .nil .nil) .nil) (.node (o137 P) (.node (o206 P) .nil .nil) .nil)) (.node (o89 P) (.node (o121 P) (.node (o190 P) .nil .nil) .nil) (.node (o153 P) (.node (o222 P) .nil .nil) .nil))) (.node (o63 P) (.node (o81 P) (.node (o113 P) (.node (o182 P) .nil .nil) .nil) (.node (o145 P) (.node (o214 P) .nil .nil) .nil)) (.node (o97 P) (.node (o129 P) (.node (o198 P) .nil .nil) .nil) (.node (o161 P) .nil .nil))))) (.node (boot_o_5 P) (.node (boot_o_9 P) (.node (o53 P) (.node (o69 P) (.node (o103 P) (.node (o167 P) .nil .nil) .nil) (.node (o135 P) (.node (o204 P) .nil .nil) .nil)) (.node (o87 P) (.node (o119 P) (.node (o188 P) .nil .nil) .nil) (.node (o151 P) (.node (o220 P) .nil .nil) .nil))) (.node (o61 P) (.node (o79 P) (.node (o111 P) (.node (o180 P) .nil .nil) .nil) (.node (o143 P) (.node (o212 P) .nil .nil) .nil)) (.node (o95 P) (.node (o127 P) (.node (o196 P) .nil .nil) .nil) (.node (o159 P) (.node (o228 P) .nil .nil) .nil)))) (.node (o45 P) (.node (o57 P) (.node (o75 P) (.node (o107 P) (.node (o176 P) .nil .nil) .nil) (.node (o139 P) (.node (o208 P) .nil .nil) .nil)) (.node (o91 P) (.node (o123 P) (.node (o192 P) .nil .nil) .nil) (.node (o155 P) (.node (o224 P) .nil .nil) .nil))) (.node (o65 P) (.node (o83 P) (.node (o115 P) (.node (o184 P) .nil .nil) .nil) (.node (o147 P) (.node (o216 P) .nil .nil) .nil)) (.node (o99 P) (.node (o131 P) (.node (o200 P) .nil .nil) .nil) (.node (o172 P) .nil .nil)))))) (.node (boot_o_2 P) (.node (boot_o_4 P) (.node (boot_o_8 P) (.node (o52 P) (.node (o68 P) (.node (o102 P) (.node (o166 P) .nil .nil) .nil) (.node (o134 P) (.node (o203 P) .nil .nil) .nil)) (.node (o86 P) (.node (o118 P) (.node (o187 P) .nil .nil) .nil) (.node (o150 P) (.node (o219 P) .nil .nil) .nil))) (.node (o60 P) (.node (o78 P) (.node (o110 P) (.node (o179 P) .nil .nil) .nil) (.node (o142 P) (.node (o211 P) .nil .nil) .nil)) (.node (o94 P) (.node (o126 P) (.node (o195 P) .nil .nil) .nil) (.node (o158 P) (.node (o227 P) .nil .nil) .nil)))) (.node (o171 P) (.node (o56 P) (.node (o74 P) (.node (o106 P) (.node (o175 P) .nil .nil) .nil) (.node (o138 P) (.node (o207 P) .nil .nil) .nil)) (.node (o90 P) (.node (o122 P) (.node (o191 P) .nil .nil) .nil) (.node (o154 P) (.node (o223 P) .nil .nil) .nil))) (.node (o64 P) (.node (o82 P) (.node (o114 P) (.node (o183 P) .nil .nil) .nil) (.node (o146 P) (.node (o215 P) .nil .nil) .nil)) (.node (o98 P) (.node (o130 P) (.node (o199 P) .nil .nil) .nil) (.node (o162 P) .nil .nil))))) (.node (boot_o_6 P) (.node (boot_o_10 P) (.node (o54 P) (.node (o70 P) (.node (o104 P) (.node (o173 P) .nil .nil) .nil) (.node (o136 P) (.node (o205 P) .nil .nil) .nil)) (.node (o88 P) (.node (o120 P) (.node (o189 P) .nil .nil) .nil) (.node (o152 P) (.node (o221 P) .nil .nil) .nil))) (.node (o62 P) (.node (o80 P) (.node (o112 P) (.node (o181 P) .nil .nil) .nil) (.node (o144 P) (.node (o213 P) .nil .nil) .nil)) (.node (o96 P) (.node (o128 P) (.node (o197 P) .nil .nil) .nil) (.node (o160 P) (.node (o229 P) .nil .nil) .nil)))) (.node (o46 P) (.node (o58 P) (.node (o76 P) (.node (o108 P) (.node (o177 P) .nil .nil) .nil) (.node (o140 P) (.node (o209 P) .nil .nil) .nil)) (.node (o92 P) (.node (o124 P) (.node (o193 P) .nil .nil) .nil) (.node (o156 P) (.node (o225 P) .nil .nil) .nil))) (.node (o66 P) (.node (o84 P) (.node (o116 P) (.node (o185 P) .nil .nil) .nil) (.node (o148 P) (.node (o217 P) .nil .nil) .nil)) (.node (o100 P) (.node (o132 P) (.node (o201 P) .nil .nil) .nil) (.node (o164 P) .nil .nil))))))
noncomputable def htree_304 (P : Params) : BT :=
  .node (boot_o_0 P) (.node (boot_o_1 P) (.node (o230 P) (.node (boot_o_7 P) (.node (o51 P) (.node (o67 P) (.node (o101 P) (.node (o165 P) (.node (o300 P) .nil .nil) .nil) (.node (o236 P) .nil .nil)) (.node (o133 P) (.node (o202 P) .nil .nil) (.node (o268 P) .nil .nil))) (.node (o85 P) (.node (o117 P) (.node (o186 P) .nil .nil) (.node (o252 P) .nil .nil)) (.node (o149 P) (.node (o218 P) .nil .nil) (.node (o284 P) .nil .nil)))) (.node (o59 P) (.node (o77 P) (.node (o109 P) (.node (o178 P) .nil .nil) (.node (o244 P) .nil .nil)) (.node (o141 P) (.node (o210 P) .nil .nil) (.node (o276 P) .nil .nil))) (.node (o93 P) (.node (o125 P) (.node (o194 P) .nil .nil) (.node (o260 P) .nil .nil)) (.node (o157 P) (.node (o226 P) .nil .nil) (.node (o292 P) .nil .nil))))) (.node (o43 P) (.node (o55 P) (.node (o71 P) (.node (o105 P) (.node (o174 P) (.node (o304 P) .nil .nil) .nil) (.node (o240 P) .nil .nil)) (.node (o137 P) (.node (o206 P) .nil .nil) (.node (o272 P) .nil .nil))) (.node (o89 P) (.node (o121 P) (.node (o190 P) .nil .nil) (.node (o256 P) .nil .nil)) (.node (o153 P) (.node (o222 P) .nil .nil) (.node (o288 P) .nil .nil)))) (.node (o63 P) (.node (o81 P) (.node (o113 P) (.node (o182 P) .nil .nil) (.node (o248 P) .nil .nil)) (.node (o145 P) (.node (o214 P) .nil .nil) (.node (o280 P) .nil .nil))) (.node (o97 P) (.node (o129 P) (.node (o198 P) .nil .nil) (.node (o264 P) .nil .nil)) (.node (o161 P) (.node (o232 P) .nil .nil) (.node (o296 P) .nil .nil)))))) (.node (boot_o_5 P) (.node (boot_o_9 P) (.node (o53 P) (.node (o69 P) (.node (o103 P) (.node (o167 P) (.node (o302 P) .nil .nil) .nil) (.node (o238 P) .nil .nil)) (.node (o135 P) (.node (o204 P) .nil .nil) (.node (o270 P) .nil .nil))) (.node (o87 P) (.node (o119 P) (.node (o188 P) .nil .nil) (.node (o254 P) .nil .nil)) (.node (o151 P) (.node (o220 P) .nil .nil) (.node (o286 P) .nil .nil)))) (.node (o61 P) (.node (o79 P) (.node (o111 P) (.node (o180 P) .nil .nil) (.node (o246 P) .nil .nil)) (.node (o143 P) (.node (o212 P) .nil .nil) (.node (o278 P) .nil .nil))) (.node (o95 P) (.node (o127 P) (.node (o196 P) .nil .nil) (.node (o262 P) .nil .nil)) (.node (o159 P) (.node (o228 P) .nil .nil) (.node (o294 P) .nil .nil))))) (.node (o45 P) (.node (o57 P) (.node (o75 P) (.node (o107 P) (.node (o176 P) .nil .nil) (.node (o242 P) .nil .nil)) (.node (o139 P) (.node (o208 P) .nil .nil) (.node (o274 P) .nil .nil))) (.node (o91 P) (.node (o123 P) (.node (o192 P) .nil .nil) (.node (o258 P) .nil .nil)) (.node (o155 P) (.node (o224 P) .nil .nil) (.node (o290 P) .nil .nil)))) (.node (o65 P) (.node (o83 P) (.node (o115 P) (.node (o184 P) .nil .nil) (.node (o250 P) .nil .nil)) (.node (o147 P) (.node (o216 P) .nil .nil) (.node (o282 P) .nil .nil))) (.node (o99 P) (.node (o131 P) (.node (o200 P) .nil .nil) (.node (o266 P) .nil .nil)) (.node (o172 P) (.node (o234 P) .nil .nil) (.node (o298 P) .nil .nil))))))) (.node (boot_o_2 P) (.node (boot_o_4 P) (.node (boot_o_8 P) (.node (o52 P) (.node (o68 P) (.node (o102 P) (.node (o166 P) (.node (o301 P) .nil .nil) .nil) (.node (o237 P) .nil .nil)) (.node (o134 P) (.node (o203 P) .nil .nil) (.node (o269 P) .nil .nil))) (.node (o86 P) (.node (o118 P) (.node (o187 P) .nil .nil) (.node (o253 P) .nil .nil)) (.node (o150 P) (.node (o219 P) .nil .nil) (.node (o285 P) .nil .nil)))) (.node (o60 P) (.node (o78 P) (.node (o110 P) (.node (o179 P) .nil .nil) (.node (o245 P) .nil .nil)) (.node (o142 P) (.node (o211 P) .nil .nil) (.node (o277 P) .nil .nil))) (.node (o94 P) (.node (o126 P) (.node (o195 P) .nil .nil) (.node (o261 P) .nil .nil)) (.node (o158 P) (.node (o227 P) .nil .nil) (.node (o293 P) .nil .nil))))) (.node (o231 P) (.node (o56 P) (.node (o74 P) (.node (o106 P) (.node (o175 P) .nil .nil) (.node (o241 P) .nil .nil)) (.node (o138 P) (.node (o207 P) .nil .nil) (.node (o273 P) .nil .nil))) (.node (o90 P) (.node (o122 P) (.node (o191 P) .nil .nil) (.node (o257 P) .nil .nil)) (.node (o154 P) (.node (o223 P) .nil .nil) (.node (o289 P) .nil .nil)))) (.node (o64 P) (.node (o82 P) (.node (o114 P) (.node (o183 P) .nil .nil) (.node (o249 P) .nil .nil)) (.node (o146 P) (.node (o215 P) .nil .nil) (.node (o281 P) .nil .nil))) (.node (o98 P) (.node (o130 P) (.node (o199 P) .nil .nil) (.node (o265 P) .nil .nil)) (.node (o162 P) (.node (o233 P) .nil .nil) (.node (o297 P) .nil .nil)))))) (.node (boot_o_6 P) (.node (boot_o_10 P) (.node (o54 P) (.node (o70 P) (.node (o104 P) (.node (o173 P) (.node (o303 P) .nil .nil) .nil) (.node (o239 P) .nil .nil)) (.node (o136 P) (.node (o205 P) .nil .nil) (.node (o271 P) .nil .nil))) (.node (o88 P) (.node (o120 P) (.node (o189 P) .nil .nil) (.node (o255 P) .nil .nil)) (.node (o152 P) (.node (o221 P) .nil .nil) (.node (o287 P) .nil .nil)))) (.node (o62 P) (.node (o80 P) (.node (o112 P) (.node (o181 P) .nil .nil) (.node (o247 P) .nil .nil)) (.node (o144 P) (.node (o213 P) .nil .nil) (.node (o279 P) .nil .nil))) (.node (o96 P) (.node (o128 P) (.node (o197 P) .nil .nil) (.node (o263 P) .nil .nil)) (.node (o160 P) (.node (o229 P) .nil .nil) (.node (o295 P) .nil .nil))))) (.node (o46 P) (.node (o58 P) (.node (o76 P) (.node (o108 P) (.node (o177 P) .nil .nil) (.node (o243 P) .nil .nil)) (.node (o140 P) (.node (o209 P) .nil .nil) (.node (o275 P) .nil .nil))) (.node (o92 P) (.node (o124 P) (.node (o193 P) .nil .nil) (.node (o259 P) .nil .nil)) (.node (o156 P) (.node (o225 P) .nil .nil) (.node (o291 P) .nil .nil)))) (.node (o66 P) (.node (o84 P) (.node (o116 P) (.node (o185 P) .nil .nil) (.node (o251 P) .nil .nil)) (.node (o148 P) (.node (o217 P) .nil .nil) (.node (o283 P) .nil .nil))) (.node (o100 P) (.node (o132 P) (.node (o201 P) .nil .nil) (.node (o267 P) .nil .nil)) (.node (o164 P) (.node (o235 P) .nil .nil) (.node (o299 P) .nil .nil)))))))
noncomputable def hheap_305 (P : Params) : Heap :=
  { objs := { toList := [boot_o_0 P, boot_o_1 P, boot_o_2 P, o230 P, boot_o_4 P, boot_o_5 P, boot_o_6 P, boot_o_7 P, boot_o_8 P, boot_o_9 P, boot_o_10 P, o43 P, o231 P, o45 P, o46 P, o51 P, o52 P, o53 P, o54 P, o55 P, o56 P, o57 P, o58 P, o59 P, o60 P, o61 P, o62 P, o63 P, o64 P, o65 P, o66 P, o67 P, o68 P, o69 P, o70 P, o71 P, o74 P, o75 P, o76 P, o77 P, o78 P, o79 P, o80 P, o81 P, o82 P, o83 P, o84 P, o85 P, o86 P, o87 P, o88 P, o89 P, o90 P, o91 P, o92 P, o93 P, o94 P, o95 P, o96 P, o97 P, o98 P, o99 P, o100 P, o101 P, o102 P, o103 P, o104 P, o105 P, o106 P, o107 P, o108 P, o109 P, o110 P, o111 P, o112 P, o113 P, o114 P, o115 P, o116 P, o117 P, o118 P, o119 P, o120 P, o121 P, o122 P, o123 P, o124 P, o125 P, o126 P, o127 P, o128 P, o129 P, o130 P, o131 P, o132 P, o133 P, o134 P, o135 P, o136 P, o137 P, o138 P, o139 P, o140 P, o141 P, o142 P, o143 P, o144 P, o145 P, o146 P, o147 P, o148 P, o149 P, o150 P, o151 P, o152 P, o153 P, o154 P, o155 P, o156 P, o157 P, o158 P, o159 P, o160 P, o161 P, o162 P, o172 P, o164 P, o165 P, o166 P, o167 P, o173 P, o174 P, o175 P, o176 P, o177 P, o178 P, o179 P, o180 P, o181 P, o182 P, o183 P, o184 P, o185 P, o186 P, o187 P, o188 P, o189 P, o190 P, o191 P, o192 P, o193 P, o194 P, o195 P, o196 P, o197 P, o198 P, o199 P, o200 P, o201 P, o202 P, o203 P, o204 P, o205 P, o206 P, o207 P, o208 P, o209 P, o210 P, o211 P, o212 P, o213 P, o214 P, o215 P, o216 P, o217 P, o218 P, o219 P, o220 P, o221 P, o222 P, o223 P, o224 P, o225 P, o226 P, o227 P, o228 P, o229 P, o232 P, o233 P, o234 P, o235 P, o236 P, o237 P, o238 P, o239 P, o240 P, o241 P, o242 P, o243 P, o244 P, o245 P, o246 P, o247 P, o248 P, o249 P, o250 P, o251 P, o252 P, o253 P, o254 P, o255 P, o256 P, o257 P, o258 P, o259 P, o260 P, o261 P, o262 P, o263 P, o264 P, o265 P, o266 P, o267 P, o268 P, o269 P, o270 P, o271 P, o272 P, o273 P, o274 P, o275 P, o276 P, o277 P, o278 P, o279 P, o280 P, o281 P, o282 P, o283 P, o284 P, o285 P, o286 P, o287 P, o288 P, o289 P, o290 P, o291 P, o292 P, o293 P, o294 P, o295 P, o296 P, o297 P, o298 P, o299 P, o300 P, o301 P, o302 P, o303 P, o304 P] } }
noncomputable def KK (P : Params) : Frag := [(2, boot_o_2 P), (3, o230 P), (28, o64 P), (27, o63 P), (35, o71 P), (34, o70 P), (49, o87 P), (48, o86 P), (61, o99 P), (60, o98 P), (80, o118 P), (79, o117 P), (124, o162 P), (125, o172 P), (130, o173 P), (133, o176 P), (138, o181 P), (145, o188 P), (144, o187 P), (152, o195 P), (151, o194 P), (159, o202 P), (158, o201 P), (166, o209 P), (165, o208 P), (173, o216 P), (172, o215 P), (183, o226 P), (184, o227 P), (193, o238 P), (192, o237 P), (200, o245 P), (199, o244 P), (205, o250 P), (204, o249 P), (210, o255 P), (209, o254 P), (215, o260 P), (214, o259 P), (220, o265 P), (219, o264 P), (227, o272 P), (226, o271 P), (232, o277 P), (231, o276 P), (239, o284 P), (238, o283 P), (244, o289 P), (243, o288 P), (249, o294 P), (248, o293 P), (254, o299 P), (253, o298 P)]
noncomputable def AS : List Addr := [2, 3, 28, 27, 35, 34, 49, 48, 61, 60, 80, 79, 124, 125, 130, 133, 138, 145, 144, 152, 151, 159, 158, 166, 165, 173, 172, 183, 184, 193, 192, 200, 199, 205, 204, 210, 209, 215, 214, 220, 219, 227, 226, 232, 231, 239, 238, 244, 243, 249, 248, 254, 253]

noncomputable def vw : Program :=
  { PySem.Challenge.rw_jz0001_01.prog with main := { PySem.Challenge.rw_jz0001_01.prog.main with body := [0, 2, 4, 6, 8, 10, 11, 12, 13, 14, 15, 16, 17, 18, 19, 20, 21, 22].filterMap fun i => pbody[i]? } }
theorem hAS (P : Params) : AS = (KK P).map (·.1) := by kernel_rfl
noncomputable def st1 : List Stmt := (fun {a b c d e f : Stmt} {r : List Stmt} (_ : pbody = a :: b :: c :: d :: e :: f :: r) => [a, b, c, d, e, f]) rfl
noncomputable def st2 : List Stmt := (fun {a b : Stmt} {r : List Stmt} (_ : pbody.drop 6 = a :: b :: r) => [a, b]) rfl
noncomputable def st3 : List Stmt := (fun {a : Stmt} {r : List Stmt} (_ : pbody.drop 8 = a :: r) => [a]) rfl
noncomputable def st4 : List Stmt := (fun {r : List Stmt} (_ : pbody.drop 9 = r) => r) rfl
noncomputable def tenv : Env := { scope := TP.main.scope, locals := mainNs, globals := mainNs, cells := [], code := .ref 13, frame := some 14 }
noncomputable def tcode : Code := .body (behindTheImports TP) tenv
theorem tops (w : World) (os : OsState) : topGo treeTable TP w 11 (some (.ref 6)) 12 { heap := boot_heap w.params, gens := #[], drawn := boot_drawn, toks := boot_toks, os := os } (topStub TP) =
    some ({ heap := hheap_46 w.params, gens := #[], drawn := { }, toks := 187, os := os }, ⟨denote treeTable tcode, tcode, ⟨0, 0, 0, 0⟩, [topFrame ⟨0, 0, 0, 0⟩]⟩) := by kernel_rfl
theorem blk (w : World) (os : OsState) : segRun treeTable TP w 11 (some (.ref 6)) 1 1 { heap := hheap_46 w.params, gens := #[], drawn := { }, toks := 187, os := os } (blockOf (behindTheImports TP) tenv tcode ⟨0, 0, 0, 0⟩ [topFrame ⟨0, 0, 0, 0⟩]) =
    some (.next, SharedT.abs { tree := htree_47 w.params, n := 15, life := { }, gens := #[], drawn := { }, toks := 187, os := os }, tcode, ⟨0, 0, 0, 0⟩) := by kernel_rfl
theorem seg1 (w : World) (os : OsState) : segRunT treeTable TP w 11 (some (.ref 6)) 1 400 { tree := htree_47 w.params, n := 15, life := { }, gens := #[], drawn := { }, toks := 187, os := os } (piecesOf st1 tenv tcode ⟨0, 0, 0, 0⟩ [topFrame ⟨0, 0, 0, 0⟩]) =
    some (.next, { tree := htree_71 w.params, n := 36, life := { }, gens := #[], drawn := { }, toks := 220, os := os }, tcode, ⟨24, 0, 24, 8⟩) := by kernel_rfl
theorem seg2 (w : World) (os : OsState) : segRunT treeTable TP w 11 (some (.ref 6)) 1 700 { tree := htree_71 w.params, n := 36, life := { }, gens := #[], drawn := { }, toks := 220, os := os } (piecesOf st2 tenv tcode ⟨24, 0, 24, 8⟩ [topFrame ⟨0, 0, 0, 0⟩]) =
    some (.next, { tree := htree_168 w.params, n := 130, life := { }, gens := #[], drawn := { }, toks := 335, os := os }, tcode, ⟨69, 0, 69, 8⟩) := by kernel_rfl

theorem seg3 (w : World) (os : OsState) : segRunT treeTable TP w 11 (some (.ref 6)) 1 700 { tree := htree_168 w.params, n := 130, life := { }, gens := #[], drawn := { }, toks := 335, os := os } (piecesOf st3 tenv tcode ⟨69, 0, 69, 8⟩ [topFrame ⟨0, 0, 0, 0⟩]) =
    some (.next, { tree := htree_229 w.params, n := 187, life := { }, gens := #[], drawn := { }, toks := 400, os := os }, tcode, ⟨70, 0, 89, 16⟩) := by kernel_rfl
theorem seg4 (w : World) (os : OsState) : segRunT treeTable TP w 11 (some (.ref 6)) 1 700 { tree := htree_229 w.params, n := 187, life := { }, gens := #[], drawn := { }, toks := 400, os := os } (piecesOf st4 tenv tcode ⟨70, 0, 89, 16⟩ [topFrame ⟨0, 0, 0, 0⟩]) =
    some (.next, { tree := htree_304 w.params, n := 260, life := { }, gens := #[], drawn := { }, toks := 502, os := os }, tcode, ⟨175, 0, 194, 53⟩) := by kernel_rfl

theorem fint (w : World) (os : OsState) : topRun treeTable TP w 11 (some (.ref 6)) 2 (SharedT.abs { tree := htree_304 w.params, n := 260, life := { }, gens := #[], drawn := { }, toks := 502, os := os }) ⟨doneF .next, tcode, ⟨175, 0, 194, 53⟩, [topFrame ⟨0, 0, 0, 0⟩]⟩ =
    some { heap := hheap_305 w.params, gens := #[], drawn := { }, toks := 502, os := os } := by kernel_rfl
theorem stB : st1 ++ (st2 ++ (st3 ++ (st4 ++ []))) = behindTheImports TP := by kernel_rfl
theorem opened : opening TP = plainProg TP.main.scope.names := by kernel_rfl
theorem unfenced (s : Shared) : fenceModules? TP s = some s := by kernel_rfl
theorem look1 (w : World) (os : OsState) : (staticsOk (importedModules TP.main.body) (boot_heap w.params) (hheap_305 w.params) && namesBound TP (hheap_305 w.params) && gensDone ⟨hheap_305 w.params, #[], { }, 502, os⟩ && laidKept (boot_heap w.params) (hheap_305 w.params)) = true := by kernel_rfl
theorem look2 (w : World) (os : OsState) : openSeen vw [Str.ofString "Player"] (importedModules TP.main.body) (fun s => xlAt vw [] s && recOk (RowW.records PySem.Challenge.rw_jz0001_01.row.toRowW) s) true ⟨hheap_305 w.params, #[], { }, 502, os⟩ = openGood vw [Str.ofString "Player"] := by kernel_rfl
theorem look3 (w : World) : AS.map (hheap_305 w.params).get? = (KK w.params).map fun p => some p.2 := by kernel_rfl
theorem sized (w : World) : ((boot_heap w.params).isNs mainGlobals && (#[] : Array GenState).size == 0, (boot_heap w.params).objs.size, (boot_heap w.params).nsMap mainGlobals "__annotations__") = (true, 11, some (.ref 6)) := by kernel_rfl
theorem ran (w : World) (os : OsState) : topRun treeTable TP w 11 (some (.ref 6)) (12 + (1 + (400 + (700 + (700 + (700 + 2)))))) ⟨boot_heap w.params, #[], boot_drawn, boot_toks, os⟩ (topStub TP) = some ⟨hheap_305 w.params, #[], { }, 502, os⟩ := by
  refine go_top (tops w os) (piece_block (blk w os) ?_)
  rw [← stB]
  exact piece_app (segRun_of (seg1 w os)) (piece_app (segRun_of (seg2 w os)) (piece_app (segRun_of (seg3 w os)) (piece_app (segRun_of (seg4 w os)) (piece_nil (fint w os)))))
theorem left_run : LeftO TP vw [Str.ofString "Player"] (fun s => xlAt vw [] s && recOk (RowW.records PySem.Challenge.rw_jz0001_01.row.toRowW) s) (fun s => AS.map s.heap.get?) (fun w => (KK w.params).map fun p => some p.2) 3110 :=
  LeftO.of_pieces (boot_open opened (by kernel_rfl) unfenced) sized ran (by kernel_rfl) fun w => funext fun os => looks_pair (look1 w os) (looks_pair (look2 w os) (look3 w))
end
section
/-! the looks at the row, one after the other -/
theorem lk1 : namesResolve PySem.Challenge.rw_jz0001_01.row.prog = true := by kernel_rfl
theorem lk2 : (PySem.Challenge.rw_jz0001_01.row.prog.boundNames.all fun n => !worldNames.contains n) = true := by kernel_rfl
theorem lk3 : noRoadLSs { strict := !(importedModules PySem.Challenge.rw_jz0001_01.row.prog.main.body).all cThrough.contains, foot := none, bare := (["vars", "dir", "locals"] : List Str).filter (readsOut PySem.Challenge.rw_jz0001_01.row.prog PySem.Challenge.rw_jz0001_01.row.prog.main.body) } PySem.Challenge.rw_jz0001_01.row.prog.main.body = true := by kernel_rfl
theorem lk4 : (namesMeet PySem.Challenge.rw_jz0001_01.row.prog PySem.Challenge.rw_jz0001_01.row.prog.main.body fun _ n => attrL n) = true := by kernel_rfl
theorem lk5 : ((moduleNames PySem.Challenge.rw_jz0001_01.row.prog.main.body).isEmpty || lookedIntoSs (moduleNames PySem.Challenge.rw_jz0001_01.row.prog.main.body) PySem.Challenge.rw_jz0001_01.row.prog.main.body) = true := by kernel_rfl
theorem lk6 : sreFenced PySem.Challenge.rw_jz0001_01.row.prog.main = true := by kernel_rfl
theorem saidLooks : looksOpen PySem.Challenge.rw_jz0001_01.row.prog = true :=
  look_both (look_both (look_both (look_both (look_both lk6 lk5) lk1) lk2) lk3) lk4
theorem saidRow : PySem.Challenge.rw_jz0001_01.row.wellSaid = true := by
  unfold OpenRow.wellSaid OpenRow.partSaid
  repeat' (first | (with_reducible exact saidLooks) | (with_reducible refine look_both ?_ ?_) | kernel_rfl)
theorem sd3 : PySem.Challenge.rw_jz0001_01.footing.all footLine = true := by kernel_rfl
theorem sd6 : noRoadLSs { strict := true, foot := some PySem.Challenge.rw_jz0001_01.bound', writes := PySem.Challenge.rw_jz0001_01.writes, may := PySem.Challenge.rw_jz0001_01.may } PySem.Challenge.rw_jz0001_01.footing = true := by kernel_rfl
theorem sd9 : PySem.Challenge.rw_jz0001_01.bound'.all (fun n => !builtinNamed n || PySem.Challenge.rw_jz0001_01.about == [n] || !PySem.Challenge.rw_jz0001_01.reads n) = true := by kernel_rfl
theorem sd16 : namesMeet PySem.Challenge.rw_jz0001_01.prog PySem.Challenge.rw_jz0001_01.above (fun _ n => !PySem.Challenge.rw_jz0001_01.own.contains n) = true := by kernel_rfl
theorem sd17 : (namesMeet PySem.Challenge.rw_jz0001_01.prog PySem.Challenge.rw_jz0001_01.footing fun sc n => sc.kind == .module || sc.names.lookup n != some .globalExplicit) = true := by kernel_rfl
theorem said : PySem.Challenge.rw_jz0001_01.wellSaid = true := by
  unfold OpenLaw.wellSaid
  repeat' (first | (with_reducible exact saidRow) | (with_reducible exact sd3) | (with_reducible exact sd6) | (with_reducible exact sd9) | (with_reducible exact sd16) | (with_reducible exact sd17) | (with_reducible refine look_both ?_ ?_) | kernel_rfl)
theorem hd {d : DefRec} {kwd : List (Str × Expr)} (h1 : defOf vw PySem.Challenge.rw_jz0001_01.row.name = some (d, kwd)) (h2 : PySem.Challenge.rw_jz0001_01.row.prog.theDef PySem.Challenge.rw_jz0001_01.row.name = some (d.params, d.body, d.scope))
    (h3 : kwWritten? d.params.kwonlyargs d.params.kw_defaults = some kwd)
    (walk : WalkO vw [Str.ofString "Player"] (XL vw []) (kHook KK AS hAS).says PySem.Challenge.rw_jz0001_01.row.toRowW d kwd fun f vs => call f vs) : PySem.Challenge.rw_jz0001_01.Holds := by
  w_on
  refine holds_law said fun ok => ?_
  refine holds_open (q := vw) (loose := [Str.ofString "Player"]) (Xt := fun s => xlAt vw [] s && recOk (RowW.records PySem.Challenge.rw_jz0001_01.row.toRowW) s) (XP := XL vw [])
    (Yf := Hook.obs (kHook KK AS hAS)) (Ya := Hook.val (kHook KK AS hAS)) (YP := Hook.says (kHook KK AS hAS)) (N := 3110) left_run (Hook.of _) (Hook.keeps _) (fun s e => xl_of s (Bool.and_eq_true_iff.mp e).1) XL.keeps h1 h2 h3 (fun s e => recFacts_of (Bool.and_eq_true_iff.mp e).2) (by rfl) ok (by kernel_rfl) ⟨rfl, rfl, rfl, rfl, rfl, by kernel_rfl⟩ ?hw walk
  case hw => w_witness2
end
section
noncomputable def fdDel : FuncData := (fun {fd : FuncData} (_ : ∀ P, (KK P).lookup 28 = some ⟨_, _, .func fd, _⟩) => fd) (fun P => rfl)
noncomputable def bdDel : List Stmt := (fun {b : List Stmt} (_ : fdDel.body = .stmts b) => b) rfl
theorem hoDel (P : Params) : (KK P).lookup 28 = some ⟨.type "function", none, .func fdDel, #[]⟩ := rfl
theorem hbDel : fdDel.body = .stmts bdDel := rfl
theorem hcDel (P : Params) : codeIn (KK P) fdDel.code fdDel.qualname = true := rfl
theorem haDel (v0 v1 : Value) : bindArgs fdDel ⟨[v0, v1], []⟩ = pure [(("player" : Str), v0), (("other" : Str), v1)] := rfl
noncomputable def fdFirst : FuncData := (fun {fd : FuncData} (_ : ∀ P, (KK P).lookup 35 = some ⟨_, _, .func fd, _⟩) => fd) (fun P => rfl)
noncomputable def bdFirst : List Stmt := (fun {b : List Stmt} (_ : fdFirst.body = .stmts b) => b) rfl
theorem hoFirst (P : Params) : (KK P).lookup 35 = some ⟨.type "function", none, .func fdFirst, #[]⟩ := rfl
theorem hbFirst : fdFirst.body = .stmts bdFirst := rfl
theorem hcFirst (P : Params) : codeIn (KK P) fdFirst.code fdFirst.qualname = true := rfl
theorem haFirst (v0 : Value) : bindArgs fdFirst ⟨[v0], []⟩ = pure [(("players" : Str), v0)] := rfl
noncomputable def fdBInit : FuncData := (fun {fd : FuncData} (_ : ∀ P, (KK P).lookup 49 = some ⟨_, _, .func fd, _⟩) => fd) (fun P => rfl)
noncomputable def bdBInit : List Stmt := (fun {b : List Stmt} (_ : fdBInit.body = .stmts b) => b) rfl
theorem hoBInit (P : Params) : (KK P).lookup 49 = some ⟨.type "function", none, .func fdBInit, #[]⟩ := rfl
theorem hbBInit : fdBInit.body = .stmts bdBInit := rfl
theorem hcBInit (P : Params) : codeIn (KK P) fdBInit.code fdBInit.qualname = true := rfl
theorem haBInit (v0 v1 : Value) : bindArgs fdBInit ⟨[v0, v1], []⟩ = pure [(("self" : Str), v0), (("name" : Str), v1)] := rfl
noncomputable def fdForget : FuncData := (fun {fd : FuncData} (_ : ∀ P, (KK P).lookup 61 = some ⟨_, _, .func fd, _⟩) => fd) (fun P => rfl)
noncomputable def bdForget : List Stmt := (fun {b : List Stmt} (_ : fdForget.body = .stmts b) => b) rfl
theorem hoForget (P : Params) : (KK P).lookup 61 = some ⟨.type "function", none, .func fdForget, #[]⟩ := rfl
theorem hbForget : fdForget.body = .stmts bdForget := rfl
theorem hcForget (P : Params) : codeIn (KK P) fdForget.code fdForget.qualname = true := rfl
theorem haForget (v0 v1 : Value) : bindArgs fdForget ⟨[v0, v1], []⟩ = pure [(("self" : Str), v0), (("other" : Str), v1)] := rfl
noncomputable def fdSet : FuncData := (fun {fd : FuncData} (_ : ∀ P, (KK P).lookup 80 = some ⟨_, _, .func fd, _⟩) => fd) (fun P => rfl)
noncomputable def bdSet : List Stmt := (fun {b : List Stmt} (_ : fdSet.body = .stmts b) => b) rfl
theorem hoSet (P : Params) : (KK P).lookup 80 = some ⟨.type "function", none, .func fdSet, #[]⟩ := rfl
theorem hbSet : fdSet.body = .stmts bdSet := rfl
theorem hcSet (P : Params) : codeIn (KK P) fdSet.code fdSet.qualname = true := rfl
theorem haSet (v0 v1 : Value) : bindArgs fdSet ⟨[v0, v1], []⟩ = pure [(("self" : Str), v0), (("players" : Str), v1)] := rfl
noncomputable def fdPInit : FuncData := (fun {fd : FuncData} (_ : ∀ P, (KK P).lookup 145 = some ⟨_, _, .func fd, _⟩) => fd) (fun P => rfl)
noncomputable def bdPInit : List Stmt := (fun {b : List Stmt} (_ : fdPInit.body = .stmts b) => b) rfl
theorem hoPInit (P : Params) : (KK P).lookup 145 = some ⟨.type "function", none, .func fdPInit, #[]⟩ := rfl
theorem hbPInit : fdPInit.body = .stmts bdPInit := rfl
theorem hcPInit (P : Params) : codeIn (KK P) fdPInit.code fdPInit.qualname = true := rfl
theorem haPInit (v0 v1 : Value) : bindArgs fdPInit ⟨[v0, v1], []⟩ = pure [(("self" : Str), v0), (("name" : Str), v1)] := rfl
noncomputable def fdMatch : FuncData := (fun {fd : FuncData} (_ : ∀ P, (KK P).lookup 152 = some ⟨_, _, .func fd, _⟩) => fd) (fun P => rfl)
noncomputable def bdMatch : List Stmt := (fun {b : List Stmt} (_ : fdMatch.body = .stmts b) => b) rfl
theorem hoMatch (P : Params) : (KK P).lookup 152 = some ⟨.type "function", none, .func fdMatch, #[]⟩ := rfl
theorem hbMatch : fdMatch.body = .stmts bdMatch := rfl
theorem hcMatch (P : Params) : codeIn (KK P) fdMatch.code fdMatch.qualname = true := rfl
theorem haMatch (v0 v1 : Value) : bindArgs fdMatch ⟨[v0, v1], []⟩ = pure [(("self" : Str), v0), (("other" : Str), v1)] := rfl
noncomputable def fdUnmatch : FuncData := (fun {fd : FuncData} (_ : ∀ P, (KK P).lookup 159 = some ⟨_, _, .func fd, _⟩) => fd) (fun P => rfl)
noncomputable def bdUnmatch : List Stmt := (fun {b : List Stmt} (_ : fdUnmatch.body = .stmts b) => b) rfl
theorem hoUnmatch (P : Params) : (KK P).lookup 159 = some ⟨.type "function", none, .func fdUnmatch, #[]⟩ := rfl
theorem hbUnmatch : fdUnmatch.body = .stmts bdUnmatch := rfl
theorem hcUnmatch (P : Params) : codeIn (KK P) fdUnmatch.code fdUnmatch.qualname = true := rfl
theorem haUnmatch (v0 : Value) : bindArgs fdUnmatch ⟨[v0], []⟩ = pure [(("self" : Str), v0)] := rfl
noncomputable def fdFav : FuncData := (fun {fd : FuncData} (_ : ∀ P, (KK P).lookup 166 = some ⟨_, _, .func fd, _⟩) => fd) (fun P => rfl)
noncomputable def bdFav : List Stmt := (fun {b : List Stmt} (_ : fdFav.body = .stmts b) => b) rfl
theorem hoFav (P : Params) : (KK P).lookup 166 = some ⟨.type "function", none, .func fdFav, #[]⟩ := rfl
theorem hbFav : fdFav.body = .stmts bdFav := rfl
theorem hcFav (P : Params) : codeIn (KK P) fdFav.code fdFav.qualname = true := rfl
theorem haFav (v0 : Value) : bindArgs fdFav ⟨[v0], []⟩ = pure [(("self" : Str), v0)] := rfl
noncomputable def fdSucc : FuncData := (fun {fd : FuncData} (_ : ∀ P, (KK P).lookup 173 = some ⟨_, _, .func fd, _⟩) => fd) (fun P => rfl)
noncomputable def bdSucc : List Stmt := (fun {b : List Stmt} (_ : fdSucc.body = .stmts b) => b) rfl
theorem hoSucc (P : Params) : (KK P).lookup 173 = some ⟨.type "function", none, .func fdSucc, #[]⟩ := rfl
theorem hbSucc : fdSucc.body = .stmts bdSucc := rfl
theorem hcSucc (P : Params) : codeIn (KK P) fdSucc.code fdSucc.qualname = true := rfl
theorem haSucc (v0 : Value) : bindArgs fdSucc ⟨[v0], []⟩ = pure [(("self" : Str), v0)] := rfl
noncomputable def fdCell : FuncData := (fun {fd : FuncData} (_ : ∀ P, (KK P).lookup 193 = some ⟨_, _, .func fd, _⟩) => fd) (fun P => rfl)
noncomputable def bdCell : List Stmt := (fun {b : List Stmt} (_ : fdCell.body = .stmts b) => b) rfl
theorem hoCell (P : Params) : (KK P).lookup 193 = some ⟨.type "function", none, .func fdCell, #[]⟩ := rfl
theorem hbCell : fdCell.body = .stmts bdCell := rfl
theorem hcCell (P : Params) : codeIn (KK P) fdCell.code fdCell.qualname = true := rfl
theorem haCell (v0 v1 : Value) : bindArgs fdCell ⟨[v0, v1], []⟩ = pure [(("script" : Str), v0), (("k" : Str), v1)] := rfl
noncomputable def fdOrder : FuncData := (fun {fd : FuncData} (_ : ∀ P, (KK P).lookup 200 = some ⟨_, _, .func fd, _⟩) => fd) (fun P => rfl)
noncomputable def bdOrder : List Stmt := (fun {b : List Stmt} (_ : fdOrder.body = .stmts b) => b) rfl
theorem hoOrder (P : Params) : (KK P).lookup 200 = some ⟨.type "function", none, .func fdOrder, #[]⟩ := rfl
theorem hbOrder : fdOrder.body = .stmts bdOrder := rfl
theorem hcOrder (P : Params) : codeIn (KK P) fdOrder.code fdOrder.qualname = true := rfl
theorem haOrder (v0 v1 : Value) : bindArgs fdOrder ⟨[v0, v1], []⟩ = pure [(("count" : Str), v0), (("cell" : Str), v1)] := rfl
noncomputable def fdOrders : FuncData := (fun {fd : FuncData} (_ : ∀ P, (KK P).lookup 205 = some ⟨_, _, .func fd, _⟩) => fd) (fun P => rfl)
noncomputable def bdOrders : List Stmt := (fun {b : List Stmt} (_ : fdOrders.body = .stmts b) => b) rfl
theorem hoOrders (P : Params) : (KK P).lookup 205 = some ⟨.type "function", none, .func fdOrders, #[]⟩ := rfl
theorem hbOrders : fdOrders.body = .stmts bdOrders := rfl
theorem hcOrders (P : Params) : codeIn (KK P) fdOrders.code fdOrders.qualname = true := rfl
theorem haOrders (v0 v1 : Value) : bindArgs fdOrders ⟨[v0, v1], []⟩ = pure [(("script" : Str), v0), (("count" : Str), v1)] := rfl
noncomputable def fdPlayers : FuncData := (fun {fd : FuncData} (_ : ∀ P, (KK P).lookup 210 = some ⟨_, _, .func fd, _⟩) => fd) (fun P => rfl)
noncomputable def bdPlayers : List Stmt := (fun {b : List Stmt} (_ : fdPlayers.body = .stmts b) => b) rfl
theorem hoPlayers (P : Params) : (KK P).lookup 210 = some ⟨.type "function", none, .func fdPlayers, #[]⟩ := rfl
theorem hbPlayers : fdPlayers.body = .stmts bdPlayers := rfl
theorem hcPlayers (P : Params) : codeIn (KK P) fdPlayers.code fdPlayers.qualname = true := rfl
theorem haPlayers (v0 : Value) : bindArgs fdPlayers ⟨[v0], []⟩ = pure [(("orders" : Str), v0)] := rfl
noncomputable def fdNumber : FuncData := (fun {fd : FuncData} (_ : ∀ P, (KK P).lookup 215 = some ⟨_, _, .func fd, _⟩) => fd) (fun P => rfl)
noncomputable def bdNumber : List Stmt := (fun {b : List Stmt} (_ : fdNumber.body = .stmts b) => b) rfl
theorem hoNumber (P : Params) : (KK P).lookup 215 = some ⟨.type "function", none, .func fdNumber, #[]⟩ := rfl
theorem hbNumber : fdNumber.body = .stmts bdNumber := rfl
theorem hcNumber (P : Params) : codeIn (KK P) fdNumber.code fdNumber.qualname = true := rfl
theorem haNumber (v0 : Value) : bindArgs fdNumber ⟨[v0], []⟩ = pure [(("player" : Str), v0)] := rfl
noncomputable def fdLists : FuncData := (fun {fd : FuncData} (_ : ∀ P, (KK P).lookup 220 = some ⟨_, _, .func fd, _⟩) => fd) (fun P => rfl)
noncomputable def bdLists : List Stmt := (fun {b : List Stmt} (_ : fdLists.body = .stmts b) => b) rfl
theorem hoLists (P : Params) : (KK P).lookup 220 = some ⟨.type "function", none, .func fdLists, #[]⟩ := rfl
theorem hbLists : fdLists.body = .stmts bdLists := rfl
theorem hcLists (P : Params) : codeIn (KK P) fdLists.code fdLists.qualname = true := rfl
theorem haLists (v0 : Value) : bindArgs fdLists ⟨[v0], []⟩ = pure [(("players" : Str), v0)] := rfl
noncomputable def fdHeld : FuncData := (fun {fd : FuncData} (_ : ∀ P, (KK P).lookup 227 = some ⟨_, _, .func fd, _⟩) => fd) (fun P => rfl)
noncomputable def bdHeld : List Stmt := (fun {b : List Stmt} (_ : fdHeld.body = .stmts b) => b) rfl
theorem hoHeld (P : Params) : (KK P).lookup 227 = some ⟨.type "function", none, .func fdHeld, #[]⟩ := rfl
theorem hbHeld : fdHeld.body = .stmts bdHeld := rfl
theorem hcHeld (P : Params) : codeIn (KK P) fdHeld.code fdHeld.qualname = true := rfl
theorem haHeld (v0 v1 : Value) : bindArgs fdHeld ⟨[v0, v1], []⟩ = pure [(("players" : Str), v0), (("lists" : Str), v1)] := rfl
noncomputable def fdPairings : FuncData := (fun {fd : FuncData} (_ : ∀ P, (KK P).lookup 232 = some ⟨_, _, .func fd, _⟩) => fd) (fun P => rfl)
noncomputable def bdPairings : List Stmt := (fun {b : List Stmt} (_ : fdPairings.body = .stmts b) => b) rfl
theorem hoPairings (P : Params) : (KK P).lookup 232 = some ⟨.type "function", none, .func fdPairings, #[]⟩ := rfl
theorem hbPairings : fdPairings.body = .stmts bdPairings := rfl
theorem hcPairings (P : Params) : codeIn (KK P) fdPairings.code fdPairings.qualname = true := rfl
theorem haPairings (v0 : Value) : bindArgs fdPairings ⟨[v0], []⟩ = pure [(("left" : Str), v0)] := rfl
noncomputable def fdStable : FuncData := (fun {fd : FuncData} (_ : ∀ P, (KK P).lookup 239 = some ⟨_, _, .func fd, _⟩) => fd) (fun P => rfl)
noncomputable def bdStable : List Stmt := (fun {b : List Stmt} (_ : fdStable.body = .stmts b) => b) rfl
theorem hoStable (P : Params) : (KK P).lookup 239 = some ⟨.type "function", none, .func fdStable, #[]⟩ := rfl
theorem hbStable : fdStable.body = .stmts bdStable := rfl
theorem hcStable (P : Params) : codeIn (KK P) fdStable.code fdStable.qualname = true := rfl
theorem haStable (v0 : Value) : bindArgs fdStable ⟨[v0], []⟩ = pure [(("orders" : Str), v0)] := rfl
noncomputable def fdWithin : FuncData := (fun {fd : FuncData} (_ : ∀ P, (KK P).lookup 244 = some ⟨_, _, .func fd, _⟩) => fd) (fun P => rfl)
noncomputable def bdWithin : List Stmt := (fun {b : List Stmt} (_ : fdWithin.body = .stmts b) => b) rfl
theorem hoWithin (P : Params) : (KK P).lookup 244 = some ⟨.type "function", none, .func fdWithin, #[]⟩ := rfl
theorem hbWithin : fdWithin.body = .stmts bdWithin := rfl
theorem hcWithin (P : Params) : codeIn (KK P) fdWithin.code fdWithin.qualname = true := rfl
theorem haWithin (v0 v1 : Value) : bindArgs fdWithin ⟨[v0, v1], []⟩ = pure [(("stable" : Str), v0), (("lists" : Str), v1)] := rfl
noncomputable def fdMutual : FuncData := (fun {fd : FuncData} (_ : ∀ P, (KK P).lookup 249 = some ⟨_, _, .func fd, _⟩) => fd) (fun P => rfl)
noncomputable def bdMutual : List Stmt := (fun {b : List Stmt} (_ : fdMutual.body = .stmts b) => b) rfl
theorem hoMutual (P : Params) : (KK P).lookup 249 = some ⟨.type "function", none, .func fdMutual, #[]⟩ := rfl
theorem hbMutual : fdMutual.body = .stmts bdMutual := rfl
theorem hcMutual (P : Params) : codeIn (KK P) fdMutual.code fdMutual.qualname = true := rfl
theorem haMutual (v0 v1 : Value) : bindArgs fdMutual ⟨[v0, v1], []⟩ = pure [(("orders" : Str), v0), (("lists" : Str), v1)] := rfl
noncomputable def fdRounds : FuncData := (fun {fd : FuncData} (_ : ∀ P, (KK P).lookup 254 = some ⟨_, _, .func fd, _⟩) => fd) (fun P => rfl)
noncomputable def bdRounds : List Stmt := (fun {b : List Stmt} (_ : fdRounds.body = .stmts b) => b) rfl
theorem hoRounds (P : Params) : (KK P).lookup 254 = some ⟨.type "function", none, .func fdRounds, #[]⟩ := rfl
theorem hbRounds : fdRounds.body = .stmts bdRounds := rfl
theorem hcRounds (P : Params) : codeIn (KK P) fdRounds.code fdRounds.qualname = true := rfl
theorem haRounds (v0 : Value) : bindArgs fdRounds ⟨[v0], []⟩ = pure [(("orders" : Str), v0)] := rfl

section
variable {g : Heap} {mg mb : Str → Option Value} {s₀ s : Shared} {cs cs' : List (Addr × OD)} {ts ts' : List (Value × D)} {prog : Program} {w : World} {A : Around} {env : Env}
theorem bb_len : bootBuiltins "len" = some (.builtin "len") := rfl
theorem gn_len (P : Params) : nsIn (KK P) mainGlobals "len" = some none := rfl
theorem cl_len {e0 : Expr} {np pos : Pos} {Q : Value → Shared → Prop} (S : St g s₀ cs ts s) (G : Gd (KK w.params) g mg mb) (h : wpAny (model prog w) A (eval e0 env) (fun v s₁ => wpAny (model prog w) A (call (.builtin "len") [v]) Q NoE s₁) NoE s)
    (he : backTo pos (starEach [e0] env) = [(false, eval e0 env)] := by rfl) (hk : env.scope.kind = .function := by rfl) (hx : env.kindOf "len" = some .globalImplicit := by rfl) (hg : env.globals = mainGlobals := by rfl) (hb : env.builtins = builtinsNs := by rfl) :
    wpAny (model prog w) A (eval (.Call (.Name "len" np) [e0] [] pos) env) Q NoE s :=
  call_name (nm_builtin S G (gn_len _) bb_len ⟨rfl, rfl⟩ (by decide) hk hx hg hb (by decide)) (he ▸ cw_b1 h)
theorem bb_abs : bootBuiltins "abs" = some (.builtin "abs") := rfl
theorem gn_abs (P : Params) : nsIn (KK P) mainGlobals "abs" = some none := rfl
theorem cl_abs {e0 : Expr} {np pos : Pos} {Q : Value → Shared → Prop} (S : St g s₀ cs ts s) (G : Gd (KK w.params) g mg mb) (h : wpAny (model prog w) A (eval e0 env) (fun v s₁ => wpAny (model prog w) A (call (.builtin "abs") [v]) Q NoE s₁) NoE s)
    (he : backTo pos (starEach [e0] env) = [(false, eval e0 env)] := by rfl) (hk : env.scope.kind = .function := by rfl) (hx : env.kindOf "abs" = some .globalImplicit := by rfl) (hg : env.globals = mainGlobals := by rfl) (hb : env.builtins = builtinsNs := by rfl) :
    wpAny (model prog w) A (eval (.Call (.Name "abs" np) [e0] [] pos) env) Q NoE s :=
  call_name (nm_builtin S G (gn_abs _) bb_abs ⟨rfl, rfl⟩ (by decide) hk hx hg hb (by decide)) (he ▸ cw_b1 h)
theorem bb_min : bootBuiltins "min" = some (.builtin "min") := rfl
theorem gn_min (P : Params) : nsIn (KK P) mainGlobals "min" = some none := rfl
theorem cl_min {e0 : Expr} {np pos : Pos} {Q : Value → Shared → Prop} (S : St g s₀ cs ts s) (G : Gd (KK w.params) g mg mb) (h : wpAny (model prog w) A (eval e0 env) (fun v s₁ => wpAny (model prog w) A (call (.builtin "min") [v]) Q NoE s₁) NoE s)
    (he : backTo pos (starEach [e0] env) = [(false, eval e0 env)] := by rfl) (hk : env.scope.kind = .function := by rfl) (hx : env.kindOf "min" = some .globalImplicit := by rfl) (hg : env.globals = mainGlobals := by rfl) (hb : env.builtins = builtinsNs := by rfl) :
    wpAny (model prog w) A (eval (.Call (.Name "min" np) [e0] [] pos) env) Q NoE s :=
  call_name (nm_builtin S G (gn_min _) bb_min ⟨rfl, rfl⟩ (by decide) hk hx hg hb (by decide)) (he ▸ cw_b1 h)
theorem bb_isinstance : bootBuiltins "isinstance" = some (.builtin "isinstance") := rfl
theorem gn_isinstance (P : Params) : nsIn (KK P) mainGlobals "isinstance" = some none := rfl
theorem cl_isinstance {e0 e1 : Expr} {np pos : Pos} {Q : Value → Shared → Prop} (S : St g s₀ cs ts s) (G : Gd (KK w.params) g mg mb) (h : wpAny (model prog w) A (eval e0 env) (fun v s₁ => wpAny (model prog w) A (eval e1 env) (fun u s₂ => wpAny (model prog w) A (call (.builtin "isinstance") [v, u]) Q NoE s₂) NoE s₁) NoE s)
    (he : backTo pos (starEach [e0, e1] env) = [(false, eval e0 env), (false, eval e1 env)] := by rfl) (hk : env.scope.kind = .function := by rfl) (hx : env.kindOf "isinstance" = some .globalImplicit := by rfl) (hg : env.globals = mainGlobals := by rfl) (hb : env.builtins = builtinsNs := by rfl) :
    wpAny (model prog w) A (eval (.Call (.Name "isinstance" np) [e0, e1] [] pos) env) Q NoE s :=
  call_name (nm_builtin S G (gn_isinstance _) bb_isinstance ⟨rfl, rfl⟩ (by decide) hk hx hg hb (by decide)) (he ▸ cw_b2 h)
theorem bb_int : bootBuiltins "int" = some (.type "int") := rfl
theorem gn_int (P : Params) : nsIn (KK P) mainGlobals "int" = some none := rfl
theorem cl_int {e0 : Expr} {np pos : Pos} {Q : Value → Shared → Prop} (S : St g s₀ cs ts s) (G : Gd (KK w.params) g mg mb) (h : wpAny (model prog w) A (eval e0 env) (fun v s₁ => wpAny (model prog w) A (call (.type "int") [v]) Q NoE s₁) NoE s)
    (he : backTo pos (starEach [e0] env) = [(false, eval e0 env)] := by rfl) (hk : env.scope.kind = .function := by rfl) (hx : env.kindOf "int" = some .globalImplicit := by rfl) (hg : env.globals = mainGlobals := by rfl) (hb : env.builtins = builtinsNs := by rfl) :
    wpAny (model prog w) A (eval (.Call (.Name "int" np) [e0] [] pos) env) Q NoE s :=
  call_name (nm_builtin S G (gn_int _) bb_int ⟨rfl, rfl⟩ (by decide) hk hx hg hb (by decide)) (he ▸ cw_type1 h)
theorem bb_list : bootBuiltins "list" = some (.type "list") := rfl
theorem gn_list (P : Params) : nsIn (KK P) mainGlobals "list" = some none := rfl
theorem cl_list {e0 : Expr} {np pos : Pos} {Q : Value → Shared → Prop} (S : St g s₀ cs ts s) (G : Gd (KK w.params) g mg mb) (h : wpAny (model prog w) A (eval e0 env) (fun v s₁ => wpAny (model prog w) A (call (.type "list") [v]) Q NoE s₁) NoE s)
    (he : backTo pos (starEach [e0] env) = [(false, eval e0 env)] := by rfl) (hk : env.scope.kind = .function := by rfl) (hx : env.kindOf "list" = some .globalImplicit := by rfl) (hg : env.globals = mainGlobals := by rfl) (hb : env.builtins = builtinsNs := by rfl) :
    wpAny (model prog w) A (eval (.Call (.Name "list" np) [e0] [] pos) env) Q NoE s :=
  call_name (nm_builtin S G (gn_list _) bb_list ⟨rfl, rfl⟩ (by decide) hk hx hg hb (by decide)) (he ▸ cw_type1 h)
theorem bb_range : bootBuiltins "range" = some (.type "range") := rfl
theorem gn_range (P : Params) : nsIn (KK P) mainGlobals "range" = some none := rfl
theorem cl_range {e0 : Expr} {np pos : Pos} {Q : Value → Shared → Prop} (S : St g s₀ cs ts s) (G : Gd (KK w.params) g mg mb) (h : wpAny (model prog w) A (eval e0 env) (fun v s₁ => wpAny (model prog w) A (call (.type "range") [v]) Q NoE s₁) NoE s)
    (he : backTo pos (starEach [e0] env) = [(false, eval e0 env)] := by rfl) (hk : env.scope.kind = .function := by rfl) (hx : env.kindOf "range" = some .globalImplicit := by rfl) (hg : env.globals = mainGlobals := by rfl) (hb : env.builtins = builtinsNs := by rfl) :
    wpAny (model prog w) A (eval (.Call (.Name "range" np) [e0] [] pos) env) Q NoE s :=
  call_name (nm_builtin S G (gn_range _) bb_range ⟨rfl, rfl⟩ (by decide) hk hx hg hb (by decide)) (he ▸ cw_type1 h)
theorem bb_str : bootBuiltins "str" = some (.type "str") := rfl
theorem gn_str (P : Params) : nsIn (KK P) mainGlobals "str" = some none := rfl
theorem cl_str {e0 : Expr} {np pos : Pos} {Q : Value → Shared → Prop} (S : St g s₀ cs ts s) (G : Gd (KK w.params) g mg mb) (h : wpAny (model prog w) A (eval e0 env) (fun v s₁ => wpAny (model prog w) A (call (.type "str") [v]) Q NoE s₁) NoE s)
    (he : backTo pos (starEach [e0] env) = [(false, eval e0 env)] := by rfl) (hk : env.scope.kind = .function := by rfl) (hx : env.kindOf "str" = some .globalImplicit := by rfl) (hg : env.globals = mainGlobals := by rfl) (hb : env.builtins = builtinsNs := by rfl) :
    wpAny (model prog w) A (eval (.Call (.Name "str" np) [e0] [] pos) env) Q NoE s :=
  call_name (nm_builtin S G (gn_str _) bb_str ⟨rfl, rfl⟩ (by decide) hk hx hg hb (by decide)) (he ▸ cw_type1 h)
theorem gf_Del (P : Params) : nsIn (KK P) mainGlobals "_delete_pair" = some (some (.ref 28)) := rfl
theorem cl_Del {e0 e1 : Expr} {np pos : Pos} {Q : Value → Shared → Prop} (S : St g s₀ cs ts s) (G : Gd (KK w.params) g mg mb) (h : wpAny (model prog w) A (eval e0 env) (fun v s₁ => wpAny (model prog w) A (eval e1 env) (fun u s₂ => ∃ cs ts, St g s₀ cs ts s₂ ∧ wpAny (model prog w) A (call (.ref 28) [v, u]) Q NoE s₂) NoE s₁) NoE s)
    (he : backTo pos (starEach [e0, e1] env) = [(false, eval e0 env), (false, eval e1 env)] := by rfl) (hk : env.scope.kind = .function := by rfl) (hx : env.kindOf "_delete_pair" = some .globalImplicit := by rfl) (hg : env.globals = mainGlobals := by rfl) :
    wpAny (model prog w) A (eval (.Call (.Name "_delete_pair" np) [e0, e1] [] pos) env) Q NoE s :=
  call_name (nm_global S G (gf_Del _) ⟨rfl, rfl⟩ hk hx hg (by decide)) (he ▸ cw_f2 G (hoDel _) (by simpa using h))
theorem gf_First (P : Params) : nsIn (KK P) mainGlobals "first_phase" = some (some (.ref 35)) := rfl
theorem cl_First {e0 : Expr} {np pos : Pos} {Q : Value → Shared → Prop} (S : St g s₀ cs ts s) (G : Gd (KK w.params) g mg mb) (h : wpAny (model prog w) A (eval e0 env) (fun v s₁ => ∃ cs ts, St g s₀ cs ts s₁ ∧ wpAny (model prog w) A (call (.ref 35) [v]) Q NoE s₁) NoE s)
    (he : backTo pos (starEach [e0] env) = [(false, eval e0 env)] := by rfl) (hk : env.scope.kind = .function := by rfl) (hx : env.kindOf "first_phase" = some .globalImplicit := by rfl) (hg : env.globals = mainGlobals := by rfl) :
    wpAny (model prog w) A (eval (.Call (.Name "first_phase" np) [e0] [] pos) env) Q NoE s :=
  call_name (nm_global S G (gf_First _) ⟨rfl, rfl⟩ hk hx hg (by decide)) (he ▸ cw_f1 G (hoFirst _) (by simpa using h))
theorem gf_Cell (P : Params) : nsIn (KK P) mainGlobals "_law_cell" = some (some (.ref 193)) := rfl
theorem cl_Cell {e0 e1 : Expr} {np pos : Pos} {Q : Value → Shared → Prop} (S : St g s₀ cs ts s) (G : Gd (KK w.params) g mg mb) (h : wpAny (model prog w) A (eval e0 env) (fun v s₁ => wpAny (model prog w) A (eval e1 env) (fun u s₂ => ∃ cs ts, St g s₀ cs ts s₂ ∧ wpAny (model prog w) A (call (.ref 193) [v, u]) Q NoE s₂) NoE s₁) NoE s)
    (he : backTo pos (starEach [e0, e1] env) = [(false, eval e0 env), (false, eval e1 env)] := by rfl) (hk : env.scope.kind = .function := by rfl) (hx : env.kindOf "_law_cell" = some .globalImplicit := by rfl) (hg : env.globals = mainGlobals := by rfl) :
    wpAny (model prog w) A (eval (.Call (.Name "_law_cell" np) [e0, e1] [] pos) env) Q NoE s :=
  call_name (nm_global S G (gf_Cell _) ⟨rfl, rfl⟩ hk hx hg (by decide)) (he ▸ cw_f2 G (hoCell _) (by simpa using h))
theorem gf_Order (P : Params) : nsIn (KK P) mainGlobals "_law_order" = some (some (.ref 200)) := rfl
theorem cl_Order {e0 e1 : Expr} {np pos : Pos} {Q : Value → Shared → Prop} (S : St g s₀ cs ts s) (G : Gd (KK w.params) g mg mb) (h : wpAny (model prog w) A (eval e0 env) (fun v s₁ => wpAny (model prog w) A (eval e1 env) (fun u s₂ => ∃ cs ts, St g s₀ cs ts s₂ ∧ wpAny (model prog w) A (call (.ref 200) [v, u]) Q NoE s₂) NoE s₁) NoE s)
    (he : backTo pos (starEach [e0, e1] env) = [(false, eval e0 env), (false, eval e1 env)] := by rfl) (hk : env.scope.kind = .function := by rfl) (hx : env.kindOf "_law_order" = some .globalImplicit := by rfl) (hg : env.globals = mainGlobals := by rfl) :
    wpAny (model prog w) A (eval (.Call (.Name "_law_order" np) [e0, e1] [] pos) env) Q NoE s :=
  call_name (nm_global S G (gf_Order _) ⟨rfl, rfl⟩ hk hx hg (by decide)) (he ▸ cw_f2 G (hoOrder _) (by simpa using h))
theorem gf_Orders (P : Params) : nsIn (KK P) mainGlobals "_law_orders" = some (some (.ref 205)) := rfl
theorem cl_Orders {e0 e1 : Expr} {np pos : Pos} {Q : Value → Shared → Prop} (S : St g s₀ cs ts s) (G : Gd (KK w.params) g mg mb) (h : wpAny (model prog w) A (eval e0 env) (fun v s₁ => wpAny (model prog w) A (eval e1 env) (fun u s₂ => ∃ cs ts, St g s₀ cs ts s₂ ∧ wpAny (model prog w) A (call (.ref 205) [v, u]) Q NoE s₂) NoE s₁) NoE s)
    (he : backTo pos (starEach [e0, e1] env) = [(false, eval e0 env), (false, eval e1 env)] := by rfl) (hk : env.scope.kind = .function := by rfl) (hx : env.kindOf "_law_orders" = some .globalImplicit := by rfl) (hg : env.globals = mainGlobals := by rfl) :
    wpAny (model prog w) A (eval (.Call (.Name "_law_orders" np) [e0, e1] [] pos) env) Q NoE s :=
  call_name (nm_global S G (gf_Orders _) ⟨rfl, rfl⟩ hk hx hg (by decide)) (he ▸ cw_f2 G (hoOrders _) (by simpa using h))
theorem gf_Players (P : Params) : nsIn (KK P) mainGlobals "_law_players" = some (some (.ref 210)) := rfl
theorem cl_Players {e0 : Expr} {np pos : Pos} {Q : Value → Shared → Prop} (S : St g s₀ cs ts s) (G : Gd (KK w.params) g mg mb) (h : wpAny (model prog w) A (eval e0 env) (fun v s₁ => ∃ cs ts, St g s₀ cs ts s₁ ∧ wpAny (model prog w) A (call (.ref 210) [v]) Q NoE s₁) NoE s)
    (he : backTo pos (starEach [e0] env) = [(false, eval e0 env)] := by rfl) (hk : env.scope.kind = .function := by rfl) (hx : env.kindOf "_law_players" = some .globalImplicit := by rfl) (hg : env.globals = mainGlobals := by rfl) :
    wpAny (model prog w) A (eval (.Call (.Name "_law_players" np) [e0] [] pos) env) Q NoE s :=
  call_name (nm_global S G (gf_Players _) ⟨rfl, rfl⟩ hk hx hg (by decide)) (he ▸ cw_f1 G (hoPlayers _) (by simpa using h))
theorem gf_Number (P : Params) : nsIn (KK P) mainGlobals "_law_number" = some (some (.ref 215)) := rfl
theorem cl_Number {e0 : Expr} {np pos : Pos} {Q : Value → Shared → Prop} (S : St g s₀ cs ts s) (G : Gd (KK w.params) g mg mb) (h : wpAny (model prog w) A (eval e0 env) (fun v s₁ => ∃ cs ts, St g s₀ cs ts s₁ ∧ wpAny (model prog w) A (call (.ref 215) [v]) Q NoE s₁) NoE s)
    (he : backTo pos (starEach [e0] env) = [(false, eval e0 env)] := by rfl) (hk : env.scope.kind = .function := by rfl) (hx : env.kindOf "_law_number" = some .globalImplicit := by rfl) (hg : env.globals = mainGlobals := by rfl) :
    wpAny (model prog w) A (eval (.Call (.Name "_law_number" np) [e0] [] pos) env) Q NoE s :=
  call_name (nm_global S G (gf_Number _) ⟨rfl, rfl⟩ hk hx hg (by decide)) (he ▸ cw_f1 G (hoNumber _) (by simpa using h))
theorem gf_Lists (P : Params) : nsIn (KK P) mainGlobals "_law_lists" = some (some (.ref 220)) := rfl
theorem cl_Lists {e0 : Expr} {np pos : Pos} {Q : Value → Shared → Prop} (S : St g s₀ cs ts s) (G : Gd (KK w.params) g mg mb) (h : wpAny (model prog w) A (eval e0 env) (fun v s₁ => ∃ cs ts, St g s₀ cs ts s₁ ∧ wpAny (model prog w) A (call (.ref 220) [v]) Q NoE s₁) NoE s)
    (he : backTo pos (starEach [e0] env) = [(false, eval e0 env)] := by rfl) (hk : env.scope.kind = .function := by rfl) (hx : env.kindOf "_law_lists" = some .globalImplicit := by rfl) (hg : env.globals = mainGlobals := by rfl) :
    wpAny (model prog w) A (eval (.Call (.Name "_law_lists" np) [e0] [] pos) env) Q NoE s :=
  call_name (nm_global S G (gf_Lists _) ⟨rfl, rfl⟩ hk hx hg (by decide)) (he ▸ cw_f1 G (hoLists _) (by simpa using h))
theorem gf_Held (P : Params) : nsIn (KK P) mainGlobals "_law_held" = some (some (.ref 227)) := rfl
theorem cl_Held {e0 e1 : Expr} {np pos : Pos} {Q : Value → Shared → Prop} (S : St g s₀ cs ts s) (G : Gd (KK w.params) g mg mb) (h : wpAny (model prog w) A (eval e0 env) (fun v s₁ => wpAny (model prog w) A (eval e1 env) (fun u s₂ => ∃ cs ts, St g s₀ cs ts s₂ ∧ wpAny (model prog w) A (call (.ref 227) [v, u]) Q NoE s₂) NoE s₁) NoE s)
    (he : backTo pos (starEach [e0, e1] env) = [(false, eval e0 env), (false, eval e1 env)] := by rfl) (hk : env.scope.kind = .function := by rfl) (hx : env.kindOf "_law_held" = some .globalImplicit := by rfl) (hg : env.globals = mainGlobals := by rfl) :
    wpAny (model prog w) A (eval (.Call (.Name "_law_held" np) [e0, e1] [] pos) env) Q NoE s :=
  call_name (nm_global S G (gf_Held _) ⟨rfl, rfl⟩ hk hx hg (by decide)) (he ▸ cw_f2 G (hoHeld _) (by simpa using h))
theorem gf_Pairings (P : Params) : nsIn (KK P) mainGlobals "_law_pairings" = some (some (.ref 232)) := rfl
theorem cl_Pairings {e0 : Expr} {np pos : Pos} {Q : Value → Shared → Prop} (S : St g s₀ cs ts s) (G : Gd (KK w.params) g mg mb) (h : wpAny (model prog w) A (eval e0 env) (fun v s₁ => ∃ cs ts, St g s₀ cs ts s₁ ∧ wpAny (model prog w) A (call (.ref 232) [v]) Q NoE s₁) NoE s)
    (he : backTo pos (starEach [e0] env) = [(false, eval e0 env)] := by rfl) (hk : env.scope.kind = .function := by rfl) (hx : env.kindOf "_law_pairings" = some .globalImplicit := by rfl) (hg : env.globals = mainGlobals := by rfl) :
    wpAny (model prog w) A (eval (.Call (.Name "_law_pairings" np) [e0] [] pos) env) Q NoE s :=
  call_name (nm_global S G (gf_Pairings _) ⟨rfl, rfl⟩ hk hx hg (by decide)) (he ▸ cw_f1 G (hoPairings _) (by simpa using h))
theorem gf_Stable (P : Params) : nsIn (KK P) mainGlobals "_law_stable" = some (some (.ref 239)) := rfl
theorem cl_Stable {e0 : Expr} {np pos : Pos} {Q : Value → Shared → Prop} (S : St g s₀ cs ts s) (G : Gd (KK w.params) g mg mb) (h : wpAny (model prog w) A (eval e0 env) (fun v s₁ => ∃ cs ts, St g s₀ cs ts s₁ ∧ wpAny (model prog w) A (call (.ref 239) [v]) Q NoE s₁) NoE s)
    (he : backTo pos (starEach [e0] env) = [(false, eval e0 env)] := by rfl) (hk : env.scope.kind = .function := by rfl) (hx : env.kindOf "_law_stable" = some .globalImplicit := by rfl) (hg : env.globals = mainGlobals := by rfl) :
    wpAny (model prog w) A (eval (.Call (.Name "_law_stable" np) [e0] [] pos) env) Q NoE s :=
  call_name (nm_global S G (gf_Stable _) ⟨rfl, rfl⟩ hk hx hg (by decide)) (he ▸ cw_f1 G (hoStable _) (by simpa using h))
theorem gf_Within (P : Params) : nsIn (KK P) mainGlobals "_law_within" = some (some (.ref 244)) := rfl
theorem cl_Within {e0 e1 : Expr} {np pos : Pos} {Q : Value → Shared → Prop} (S : St g s₀ cs ts s) (G : Gd (KK w.params) g mg mb) (h : wpAny (model prog w) A (eval e0 env) (fun v s₁ => wpAny (model prog w) A (eval e1 env) (fun u s₂ => ∃ cs ts, St g s₀ cs ts s₂ ∧ wpAny (model prog w) A (call (.ref 244) [v, u]) Q NoE s₂) NoE s₁) NoE s)
    (he : backTo pos (starEach [e0, e1] env) = [(false, eval e0 env), (false, eval e1 env)] := by rfl) (hk : env.scope.kind = .function := by rfl) (hx : env.kindOf "_law_within" = some .globalImplicit := by rfl) (hg : env.globals = mainGlobals := by rfl) :
    wpAny (model prog w) A (eval (.Call (.Name "_law_within" np) [e0, e1] [] pos) env) Q NoE s :=
  call_name (nm_global S G (gf_Within _) ⟨rfl, rfl⟩ hk hx hg (by decide)) (he ▸ cw_f2 G (hoWithin _) (by simpa using h))
theorem gf_Mutual (P : Params) : nsIn (KK P) mainGlobals "_law_mutual" = some (some (.ref 249)) := rfl
theorem cl_Mutual {e0 e1 : Expr} {np pos : Pos} {Q : Value → Shared → Prop} (S : St g s₀ cs ts s) (G : Gd (KK w.params) g mg mb) (h : wpAny (model prog w) A (eval e0 env) (fun v s₁ => wpAny (model prog w) A (eval e1 env) (fun u s₂ => ∃ cs ts, St g s₀ cs ts s₂ ∧ wpAny (model prog w) A (call (.ref 249) [v, u]) Q NoE s₂) NoE s₁) NoE s)
    (he : backTo pos (starEach [e0, e1] env) = [(false, eval e0 env), (false, eval e1 env)] := by rfl) (hk : env.scope.kind = .function := by rfl) (hx : env.kindOf "_law_mutual" = some .globalImplicit := by rfl) (hg : env.globals = mainGlobals := by rfl) :
    wpAny (model prog w) A (eval (.Call (.Name "_law_mutual" np) [e0, e1] [] pos) env) Q NoE s :=
  call_name (nm_global S G (gf_Mutual _) ⟨rfl, rfl⟩ hk hx hg (by decide)) (he ▸ cw_f2 G (hoMutual _) (by simpa using h))
theorem gf_Rounds (P : Params) : nsIn (KK P) mainGlobals "_law_rounds" = some (some (.ref 254)) := rfl
theorem cl_Rounds {e0 : Expr} {np pos : Pos} {Q : Value → Shared → Prop} (S : St g s₀ cs ts s) (G : Gd (KK w.params) g mg mb) (h : wpAny (model prog w) A (eval e0 env) (fun v s₁ => ∃ cs ts, St g s₀ cs ts s₁ ∧ wpAny (model prog w) A (call (.ref 254) [v]) Q NoE s₁) NoE s)
    (he : backTo pos (starEach [e0] env) = [(false, eval e0 env)] := by rfl) (hk : env.scope.kind = .function := by rfl) (hx : env.kindOf "_law_rounds" = some .globalImplicit := by rfl) (hg : env.globals = mainGlobals := by rfl) :
    wpAny (model prog w) A (eval (.Call (.Name "_law_rounds" np) [e0] [] pos) env) Q NoE s :=
  call_name (nm_global S G (gf_Rounds _) ⟨rfl, rfl⟩ hk hx hg (by decide)) (he ▸ cw_f1 G (hoRounds _) (by simpa using h))
end

theorem pcKK (P : Params) : PC (KK P) := ⟨by rfl, by rfl, by rfl, by rfl, by rfl, by rfl⟩
end
section
variable {g : Heap} {mg mb : Str → Option Value} {s₀ s : Shared} {cs cs' : List (Addr × OD)} {ts ts' : List (Value × D)} {prog : Program} {w : World} {A : Around} {n : Nat} {Q : Value → Shared → Prop}
/-! numbers and lists of numbers as data -/
noncomputable abbrev dN (k : Nat) : D := .int (k : Int)
noncomputable abbrev dL (l : List Nat) : D := .list (l.map dN)
theorem fmodN (a b : Nat) : ((a : Int).fmod (b : Int)) = ((a % b : Nat) : Int) := by rw [Int.fmod_eq_emod_of_nonneg _ (by omega)]; simp
theorem fdivN (a b : Nat) : ((a : Int).fdiv (b : Int)) = ((a / b : Nat) : Int) := by rw [Int.fdiv_eq_ediv_of_nonneg _ (by omega)]; simp
section
variable {env : Env} {E : Value → Shared → Prop} {K : Frag}
theorem c_intN {i k : Nat} {pos : Pos} (S : St g s₀ cs ts s) (h : ∀ v s', St g s₀ cs ((v, dN (OfNat.ofNat i)) :: ts) s' → Q v s') : wpAny (model prog w) A (eval (.Constant (.int (OfNat.ofNat i)) k pos) env) Q E s := c_int S h
theorem b_addN {a b : Value} {i j : Nat} (S : St g s₀ cs ts s) (ha : (a, dN i) ∈ ts) (hb : (b, dN j) ∈ ts) (h : ∀ v s', St g s₀ cs ((v, dN (i + j)) :: ts) s' → Q v s') : wpAny (model prog w) A (binaryOp .Add a b) Q E s := b_add S ha hb (by rw [← Int.natCast_add]; exact h)
theorem b_subN {a b : Value} {i j : Nat} (S : St g s₀ cs ts s) (ha : (a, dN i) ∈ ts) (hb : (b, dN j) ∈ ts) (hj : j ≤ i) (h : ∀ v s', St g s₀ cs ((v, dN (i - j)) :: ts) s' → Q v s') : wpAny (model prog w) A (binaryOp .Sub a b) Q E s := b_sub S ha hb (by
  have : ((i : Int) - (j : Int)) = ((i - j : Nat) : Int) := by omega
  rw [this]; exact h)
theorem b_mulN {a b : Value} {i j : Nat} (S : St g s₀ cs ts s) (ha : (a, dN i) ∈ ts) (hb : (b, dN j) ∈ ts) (hm : i ≤ 37) (h : ∀ v s', St g s₀ cs ((v, dN (i * j)) :: ts) s' → Q v s') : wpAny (model prog w) A (binaryOp .Mult a b) Q E s := by
  exact b_mul S ha hb (PySem.IntMulOk.of_left (PySem.intBits_le_64 (by omega) (by omega))) (by rw [← Int.natCast_mul]; exact h)
theorem b_modN {a b : Value} {i j : Nat} (S : St g s₀ cs ts s) (ha : (a, dN i) ∈ ts) (hb : (b, dN j) ∈ ts) (hj : 0 < j) (h : ∀ v s', St g s₀ cs ((v, dN (i % j)) :: ts) s' → Q v s') : wpAny (model prog w) A (binaryOp .Mod a b) Q E s := b_mod S ha hb (by omega) (by rw [fmodN]; exact h)
theorem b_fdivN {a b : Value} {i j : Nat} (S : St g s₀ cs ts s) (ha : (a, dN i) ∈ ts) (hb : (b, dN j) ∈ ts) (hj : 0 < j) (hs : j < 1073741824) (h : ∀ v s', St g s₀ cs ((v, dN (i / j)) :: ts) s' → Q v s') : wpAny (model prog w) A (binaryOp .FloorDiv a b) Q E s := b_fdiv S ha hb (by omega) (by omega) (by rw [fdivN]; exact h)
theorem k_eqN {a b : Value} {i j : Nat} (S : St g s₀ cs ts s) (ha : (a, dN i) ∈ ts) (hb : (b, dN j) ∈ ts) (h : Q (.bool (decide (i = j))) s) : wpAny (model prog w) A (compareOp .Eq a b) Q E s := k_eq S ha hb (by
  have : ((i : Int) == (j : Int)) = decide (i = j) := by rw [Bool.eq_iff_iff, beq_iff_eq, decide_eq_true_iff]; omega
  rw [this]; exact h)
theorem k_neN {a b : Value} {i j : Nat} (S : St g s₀ cs ts s) (ha : (a, dN i) ∈ ts) (hb : (b, dN j) ∈ ts) (h : Q (.bool (decide (i ≠ j))) s) : wpAny (model prog w) A (compareOp .NotEq a b) Q E s := k_ne S ha hb (by
  have : ((i : Int) != (j : Int)) = decide (i ≠ j) := by rw [Bool.eq_iff_iff, bne_iff_ne, decide_eq_true_iff]; omega
  rw [this]; exact h)
theorem k_ltN {a b : Value} {i j : Nat} (S : St g s₀ cs ts s) (ha : (a, dN i) ∈ ts) (hb : (b, dN j) ∈ ts) (h : Q (.bool (decide (i < j))) s) : wpAny (model prog w) A (compareOp .Lt a b) Q E s := k_lt S ha hb (by
  have : decide ((i : Int) < (j : Int)) = decide (i < j) := by rw [Bool.eq_iff_iff]; simp
  rw [this]; exact h)

/-! lists made from lists -/
variable {α β : Type} {f : α → D}
theorem c_lenL {o : Value} {l : List α} (S : St g s₀ cs ts s) (ho : (o, .list (l.map f)) ∈ ts) (h : ∀ v s', St g s₀ cs ((v, dN l.length) :: ts) s' → Q v s') : wpAny (model prog w) A (call (.builtin "len") [o]) Q E s := c_len S ho (by simpa using h)
theorem c_lenR {f : Nat → D} {o : Value} {N : Nat} (S : St g s₀ cs ts s) (ho : (o, .list ((List.range N).map f)) ∈ ts) (h : ∀ v s', St g s₀ cs ((v, dN N) :: ts) s' → Q v s') : wpAny (model prog w) A (call (.builtin "len") [o]) Q E s := c_len S ho (by simpa using h)
theorem c_lenLO {a : Addr} {l : List α} (S : St g s₀ cs ts s) (ho : (a, .list (l.map f)) ∈ cs) (h : ∀ v s', St g s₀ cs ((v, dN l.length) :: ts) s' → Q v s') : wpAny (model prog w) A (call (.builtin "len") [.ref a]) Q E s := c_lenO S ho (by simpa using h)
theorem onOP {l : Addr} {ds : List D} {R : Prop} (S : St g s₀ cs ts s) (ho : (l, .list ds) ∈ cs) (h : R) : ∃ l' vs, Value.ref l = .ref l' ∧ s.heap.PlainList l' vs ∧ R := onO (R := fun _ => R) S ho h
theorem onVP {v : Value} {ds : List D} {R : Prop} (S : St g s₀ cs ts s) (ho : (v, .list ds) ∈ ts) (h : R) : ∃ l' vs, v = .ref l' ∧ s.heap.PlainList l' vs ∧ R := onV (R := fun _ => R) S ho h
theorem t_itemR {f : Nat → D} {value slice : Expr} {o i : Value} {N k : Nat} (S : St g s₀ cs ts s) (ho : (o, .list ((List.range N).map f)) ∈ ts) (hi : (i, dN k) ∈ ts) (hx : k < N)
    (h : ∀ v, St g s₀ cs ((v, f k) :: ts) s → Q v s)
    (hs : ∀ a k u, subscripted slice false (.ref a) (.int k u) = operate [.ref a, .int k u] (getItem (.ref a) (.int k u)) := by with_unfolding_all exact fun _ _ _ => rfl) :
    wpAny (model prog w) A (subscriptTail value slice o i) Q NoE s := t_item S ho hi (by omega) (d := f k) (by simp [hx]) h (fun a u => hs a _ u)
theorem t_itemL {value slice : Expr} {o i : Value} {l : List α} {k : Nat} (S : St g s₀ cs ts s) (ho : (o, .list (l.map f)) ∈ ts) (hi : (i, dN k) ∈ ts) (hx : k < l.length)
    (h : ∀ x, l[k]? = some x → ∀ v, St g s₀ cs ((v, f x) :: ts) s → Q v s)
    (hs : ∀ a k u, subscripted slice false (.ref a) (.int k u) = operate [.ref a, .int k u] (getItem (.ref a) (.int k u)) := by with_unfolding_all exact fun _ _ _ => rfl) :
    wpAny (model prog w) A (subscriptTail value slice o i) Q NoE s := t_item S ho hi (by omega) (d := f l[k]) (by simp [hx]) (h l[k] (by simp [hx])) (fun a u => hs a _ u)
theorem t_itemLO {value slice : Expr} {a : Addr} {i : Value} {l : List α} {k : Nat} (S : St g s₀ cs ts s) (ho : (a, .list (l.map f)) ∈ cs) (hi : (i, dN k) ∈ ts) (hx : k < l.length)
    (h : ∀ x, l[k]? = some x → ∀ v, St g s₀ cs ((v, f x) :: ts) s → Q v s)
    (hs : ∀ a k u, subscripted slice false (.ref a) (.int k u) = operate [.ref a, .int k u] (getItem (.ref a) (.int k u)) := by with_unfolding_all exact fun _ _ _ => rfl) :
    wpAny (model prog w) A (subscriptTail value slice (.ref a) i) Q NoE s := t_itemO S ho hi (by omega) (d := f l[k]) (by simp [hx]) (h l[k] (by simp [hx])) (fun a u => hs a _ u)
noncomputable def SlG (g : Heap) (s₀ : Shared) (o vl vu : Value) (Q : Value → Shared → Prop) (s : Shared) : Prop :=
  ∃ cs ts ds es lo hi, St g s₀ cs ts s ∧ cs ≠ [] ∧ (o, .list ds) ∈ ts ∧ IsPart vl lo ∧ IsPart vu hi ∧ (∀ V vs, DenL V vs.toList ds → DenL V (slicePick vs lo hi none).toList es) ∧ ∀ a s', St g s₀ ((a, .list es) :: cs) ts s' → Q (.ref a) s'
theorem sl_allL {o : Value} {ds : List D} (S : St g s₀ cs ts s) (hc : cs ≠ []) (ho : (o, .list ds) ∈ ts) (h : ∀ v s', St g s₀ cs ((v, .list ds) :: ts) s' → Q v s') : SlG g s₀ o .none .none Q s := sl_all S hc ho h
theorem sl_allOL {o : Value} {ds : List D} (S : St g s₀ cs ts s) (hc : cs ≠ []) (ho : (o, .list ds) ∈ ts) (h : ∀ a s', St g s₀ ((a, .list ds) :: cs) ts s' → Q (.ref a) s') : SlG g s₀ o .none .none Q s := sl_allO S hc ho h
theorem sl_fromL {o vl : Value} {l : List α} {k : Nat} (S : St g s₀ cs ts s) (hc : cs ≠ []) (ho : (o, .list (l.map f)) ∈ ts) (hi : (vl, dN k) ∈ ts) (h : ∀ v s', St g s₀ cs ((v, .list ((l.drop k).map f)) :: ts) s' → Q v s') :
    SlG g s₀ o vl .none Q s :=
  sl_from S hc ho hi (by omega) (by rw [List.map_drop] at h; exact h)
theorem sl_toL {o vu : Value} {l : List α} {k : Nat} (S : St g s₀ cs ts s) (hc : cs ≠ []) (ho : (o, .list (l.map f)) ∈ ts) (hi : (vu, dN k) ∈ ts) (h : ∀ v s', St g s₀ cs ((v, .list ((l.take k).map f)) :: ts) s' → Q v s') :
    SlG g s₀ o .none vu Q s :=
  sl_to S hc ho hi (by omega) (by rw [List.map_take] at h; exact h)
theorem b_catL {a b : Value} {l m : List α} (S : St g s₀ cs ts s) (hc : cs ≠ []) (ha : (a, .list (l.map f)) ∈ ts) (hb : (b, .list (m.map f)) ∈ ts) (hl : l.length + m.length ≤ lim)
    (h : ∀ v s', St g s₀ cs ((v, .list ((l ++ m).map f)) :: ts) s' → Q v s') : wpAny (model prog w) A (binaryOp .Add a b) Q E s := b_catV S hc ha hb (by simpa using hl) (by rw [List.map_append] at h; exact h)
theorem c_listRL {o : Value} {n : Nat} (S : St g s₀ cs ts s) (hh : A.handled = none) (hc : cs ≠ []) (ho : (o, .rng n) ∈ ts) (hn : n ≤ lim) (h : ∀ v s', St g s₀ cs ((v, dL (List.range n)) :: ts) s' → Q v s') :
    wpAny (model prog w) A (call (.type "list") [o]) Q E s := c_listRV S hh hc ho hn h
/-- append, with its state -/
theorem w_appendS {pos : Pos} {l : Addr} {x : Sem Value} (S : St g s₀ cs ts s)
    (h : wpAny (model prog w) A x (fun v s₁ => ∃ cs cs' ts ds d, St g s₀ cs ts s₁ ∧ Upd l (.list ds) (.list (ds ++ [d])) cs cs' ∧ (v, d) ∈ ts ∧ ds.length + 1 ≤ lim ∧ ∀ s', St g s₀ cs' ts s' → Q .none s') E s) :
    wpAny (model prog w) A (callWith pos (.builtin "list.append") [.ref l] [(false, x)] []) Q E s := w_append h
theorem w_appendL {cs cs' : List (Addr × OD)} {ts : List (Value × D)} {s : Shared} {l : Addr} {m : List α} {a : α} {v : Value} (S : St g s₀ cs ts s) (U : Upd l (.list (m.map f)) (.list ((m ++ [a]).map f)) cs cs') (hv : (v, f a) ∈ ts) (hl : m.length + 1 ≤ lim) (h : ∀ s', St g s₀ cs' ts s' → Q .none s') :
    ∃ cs cs' ts ds d, St g s₀ cs ts s ∧ Upd l (.list ds) (.list (ds ++ [d])) cs cs' ∧ (v, d) ∈ ts ∧ ds.length + 1 ≤ lim ∧ ∀ s', St g s₀ cs' ts s' → Q .none s' :=
  ⟨cs, cs', ts, _, _, S, by rw [List.map_append] at U; exact U, hv, by simpa using hl, h⟩
theorem e_sliceS {value : Expr} {lower upper : Option Expr} {p pos : Pos} (S : St g s₀ cs ts s)
    (h : wpAny (model prog w) A (eval value env) (fun o s₁ => wpAny (model prog w) A (evalPart lower env) (fun vl s₂ => wpAny (model prog w) A (evalPart upper env) (fun vu s₃ =>
      SlG g s₀ o vl vu Q s₃) E s₂) E s₁) E s) :
    wpAny (model prog w) A (eval (.Subscript value (.Slice lower upper none p) pos) env) Q E s := e_slice h
theorem TurnTo.nextN {P : List (Addr × OD) → Prop} {it a : Addr} {od : OD} {base : List (Value × D)} {ls ls' : List (Str × D)} (S : St g s₀ ((it, od) :: cs) ts s) (U : Upd a (.names ls) (.names ls') cs cs') (hl : ∀ p ∈ ls', p ∈ ls) (h : ∀ p ∈ base, p ∈ ts) (p : P cs') : TurnTo g s₀ P it od base .next s :=
  .next (S.names (.tail U) hl) h p
theorem e_oneS {e : Expr} {pos : Pos} (S : St g s₀ cs ts s) (h : wpAny (model prog w) A (eval e env) (fun v s' => ∃ cs ts d, St g s₀ cs ts s' ∧ cs ≠ [] ∧ (v, d) ∈ ts ∧ ∀ v s', St g s₀ cs ((v, .list [d]) :: ts) s' → Q v s') E s)
    (he : backTo pos (starEach [e] env) = [(false, eval e env)] := by rfl) : wpAny (model prog w) A (eval (.List [e] pos) env) Q E s := e_one h he
theorem e_pairS {e f : Expr} {k : Nat} {pos : Pos} (S : St g s₀ cs ts s) (h : wpAny (model prog w) A (eval e env) (fun v s' => wpAny (model prog w) A (eval f env) (fun u s' => ∃ cs ts d d', St g s₀ cs ts s' ∧ cs ≠ [] ∧ (v, d) ∈ ts ∧ (u, d') ∈ ts ∧ ∀ v s', St g s₀ cs ((v, .tup [d, d']) :: ts) s' → Q v s') E s') E s)
    (he : backTo pos (starEach [e, f] env) = [(false, eval e env), (false, eval f env)] := by rfl) : wpAny (model prog w) A (eval (.Tuple [e, f] k pos) env) Q E s := e_pair h he

/-! membership and places, of numbers -/
theorem any_dN (l : List Nat) (k : Nat) : ((l.map dN).any fun e => deq e (dN k)) = decide (k ∈ l) := by
  rw [Bool.eq_iff_iff]
  simp only [List.any_eq_true, List.mem_map, decide_eq_true_eq]
  constructor
  · rintro ⟨_, ⟨x, hx, rfl⟩, h⟩
    have : x = k := by have : ((x : Nat) : Int) = (k : Nat) := by simpa [deq] using h
                       omega
    exact this ▸ hx
  · exact fun h => ⟨_, ⟨k, h, rfl⟩, by simp [deq]⟩
theorem sk_dN (l : List Nat) (k : Nat) : ∀ e ∈ l.map dN, SK e (dN k) := fun e he => by
  obtain ⟨x, _, rfl⟩ := List.mem_map.mp he
  exact .int _ _
theorem hc_dN (cs : List (Addr × OD)) (l : List Nat) : ∀ e ∈ l.map dN, HasC cs e := fun e he => by
  obtain ⟨x, _, rfl⟩ := List.mem_map.mp he
  trivial
theorem k_inN {o x : Value} {l : List Nat} {k n : Nat} (S : St g s₀ cs ts s) (G : Gd K g mg mb) (C : PC K) (hA : Ok (n + 1) A) (ho : (o, dL l) ∈ ts) (hx : (x, dN k) ∈ ts) (h : Q (.bool (decide (k ∈ l))) s) : wpAny (model prog w) A (compareOp .In x o) Q E s :=
  k_in S G C hA ho hx (sk_dN _ _) (hc_dN _ _) trivial (by rw [any_dN]; exact h)
theorem k_notinN {o x : Value} {l : List Nat} {k n : Nat} (S : St g s₀ cs ts s) (G : Gd K g mg mb) (C : PC K) (hA : Ok (n + 1) A) (ho : (o, dL l) ∈ ts) (hx : (x, dN k) ∈ ts) (h : Q (.bool (decide (k ∉ l))) s) : wpAny (model prog w) A (compareOp .NotIn x o) Q E s :=
  k_notin S G C hA ho hx (sk_dN _ _) (hc_dN _ _) trivial (by
    rw [any_dN]
    have : (!decide (k ∈ l)) = decide (k ∉ l) := by rw [Bool.eq_iff_iff]; simp
    rw [this]; exact h)
theorem idx_dN {l : List Nat} {k : Nat} (hk : k ∈ l) : FirstAt (l.map dN) (dN k) (l.idxOf k) := by
  have hlt : l.idxOf k < l.length := List.idxOf_lt_length_iff.mpr hk
  refine ⟨⟨dN k, ?_, by simp [deq]⟩, fun m e hm he => ?_⟩
  · rw [List.getElem?_map, List.getElem?_eq_getElem hlt, List.getElem_idxOf hlt]; rfl
  · rw [List.getElem?_map] at he
    obtain ⟨x, hx, rfl⟩ := Option.map_eq_some_iff.mp he
    have hne : x ≠ k := fun e => by
      subst e
      obtain ⟨hml, hmx⟩ := List.getElem?_eq_some_iff.mp hx
      have := List.not_of_lt_findIdx (xs := l) (p := (· == x)) (by simpa [List.idxOf] using hm)
      simp [hmx] at this
    simp only [deq, beq_eq_false_iff_ne, ne_eq]; omega
theorem w_indexN {l₀ : List Nat} {pos : Pos} {o : Value} {x : Sem Value} {n : Nat} (S : St g s₀ cs ts s) (G : Gd K g mg mb) (C : PC K) (hA : Ok (n + 1) A) (ho : (o, dL l₀) ∈ ts)
    (h : wpAny (model prog w) A x (fun v s₁ => ∃ cs ts l k, St g s₀ cs ts s₁ ∧ (o, dL l) ∈ ts ∧ (v, dN k) ∈ ts ∧ k ∈ l ∧ ∀ v' s', St g s₀ cs ((v', dN (l.idxOf k)) :: ts) s' → Q v' s') E s) :
    wpAny (model prog w) A (callWith pos (.builtin "list.index") [o] [(false, x)] []) Q E s :=
  w_index (g := g) (s₀ := s₀) G C hA (wpAny_mono h (fun v s₁ ⟨cs, ts, l, k, S, h1, h2, h3, h4⟩ => ⟨cs, ts, _, _, _, S, h1, h2, sk_dN _ _, hc_dN _ _, trivial, idx_dN h3, h4⟩) fun _ _ q => q) (S.isRef ho)
theorem k_eqNil {a b : Value} {l : List α} {n : Nat} (S : St g s₀ cs ts s) (ha : (a, .list (l.map f)) ∈ ts) (hb : (b, .list []) ∈ ts) (hu : A.units + 64 < cLine) (hp : ∀ x ∈ l, Pl n (f x)) (hn : n < 50) (h : Q (.bool l.isEmpty) s) : wpAny (model prog w) A (compareOp .Eq a b) Q E s := by
  have hP : PlA n (l.map f) := by
    clear ha h
    induction l with
    | nil => exact .nil
    | cons x r ih => exact .cons (hp x (.head _)) (ih fun y hy => hp y (.tail _ hy))
  refine k_eqD S ha hb (.list hP) (.list (n := 0) .nil) hu (fun r hr => ?_) (by omega) (by decide)
  have : r = l.isEmpty := by rw [Bool.eq_iff_iff, hr]; simp
  rw [this]; exact h
theorem k_neNil {a b : Value} {l : List α} {n : Nat} (S : St g s₀ cs ts s) (ha : (a, .list (l.map f)) ∈ ts) (hb : (b, .list []) ∈ ts) (hu : A.units + 64 < cLine) (hp : ∀ x ∈ l, Pl n (f x)) (hn : n < 50) (h : Q (.bool (!l.isEmpty)) s) : wpAny (model prog w) A (compareOp .NotEq a b) Q E s := by
  have hP : PlA n (l.map f) := by
    clear ha h
    induction l with
    | nil => exact .nil
    | cons x r ih => exact .cons (hp x (.head _)) (ih fun y hy => hp y (.tail _ hy))
  refine k_neD S ha hb (.list hP) (.list (n := 0) .nil) hu (fun r hr => ?_) (by omega) (by decide)
  have : r = l.isEmpty := by rw [Bool.eq_iff_iff, hr]; simp
  rw [this]; exact h
theorem pl_dN {n : Nat} (k : Nat) : Pl n (dN k) := .int _
theorem plA_map {n : Nat} : ∀ {l : List α}, (∀ x ∈ l, Pl n (f x)) → PlA n (l.map f)
  | [], _ => .nil
  | x :: r, h => .cons (h x (.head _)) (plA_map fun y hy => h y (.tail _ hy))
theorem pl_dL {n : Nat} (l : List Nat) : Pl (n + 1) (dL l) := .list (plA_map fun x _ => pl_dN x)
end
end
section
variable {g : Heap} {mg mb : Str → Option Value} {s₀ s : Shared} {cs cs' : List (Addr × OD)} {ts ts' : List (Value × D)} {prog : Program} {w : World} {A : Around} {n : Nat} {Q : Value → Shared → Prop}
section
variable {env : Env} {α β : Type} {f : α → D} {gD : β → D}
/-- what can be walked: a list, or a range -/
noncomputable def ItA (ts : List (Value × D)) (v : Value) (l : List α) (f : α → D) : Prop := (v, .list (l.map f)) ∈ ts ∨ ((v, .rng (l.length : Nat)) ∈ ts ∧ l.length ≤ lim ∧ ∀ i (h : i < l.length), f l[i] = .int i)
theorem ItA.list {v : Value} {l : List α} (h : (v, .list (l.map f)) ∈ ts) : ItA ts v l f := .inl h
theorem ItA.rng {v : Value} {n : Nat} (h : (v, .rng (n : Nat)) ∈ ts) (hn : n ≤ lim) : ItA ts v (List.range n) dN := .inr (by simpa using ⟨h, hn⟩)
theorem iter_any {v : Value} {l : List α} {Q : Value → Shared → Prop} (hh : A.handled = none) (S : St g s₀ cs ts s) (hc : cs ≠ []) (hi : ItA ts v l f)
    (h : ∀ it od val s', (∀ i (h : i < l.length), val i = f l[i]) → l.length ≤ lim → St g s₀ ((it, od 0) :: cs) ts s' → Walker prog w A g s₀ it l.length val od ts → Q (.ref it) s') : wpAny (model prog w) A (pyIter v) Q NoE s := by
  rcases hi with hi | ⟨hi, hn, hf⟩
  · obtain ⟨_, _, _, _, _, hlim⟩ := S.listOf hi
    refine iter_list hh S hc hi (fun p hp => hp) fun it od s' S' W => ?_
    rw [List.length_map] at W hlim
    exact h it od _ s' (fun i hi => by simp [hi]) hlim S' W
  · refine iter_range hh S hc hi (fun p hp => hp) hn fun it od s' S' W => ?_
    exact h it od _ s' (fun i hi => (hf i hi).symm) hn S' W

noncomputable def OneOf (prog : Program) (w : World) (A : Around) (g : Heap) (s₀ : Shared) (cenv : Addr → Env) (x : Str) (ifs : List Expr) (elt : Expr) (l : List α) (f : α → D) (φ : α → Option β) (gD : β → D) (ts : List (Value × D)) (cs : List (Addr × OD)) : Prop :=
  ∀ a ∈ l, ∀ v Lc it od acc oda s, St g s₀ ((Lc, .names [(x, f a)]) :: (acc, oda) :: (it, od) :: cs) ((v, f a) :: ts) s →
    wpAny (model prog w) A (forIn ifs true fun c r => if r = true then do let ok ← isTrue c (cenv Lc) (eval c (cenv Lc)); pure (ForInStep.yield ok) else pure (ForInStep.yield r)) (fun ok s₁ =>
      if ok = true then wpAny (model prog w) A (eval elt (cenv Lc)) (fun y s₂ => ∃ ts' b, St g s₀ ((Lc, .names [(x, f a)]) :: (acc, oda) :: (it, od) :: cs) ts' s₂ ∧ (∀ p ∈ ts, p ∈ ts') ∧ (y, gD b) ∈ ts' ∧ φ a = some b) NoE s₁
      else ∃ ts', St g s₀ ((Lc, .names [(x, f a)]) :: (acc, oda) :: (it, od) :: cs) ts' s₁ ∧ (∀ p ∈ ts, p ∈ ts') ∧ φ a = none) NoE s

theorem OneOf.turn {cenv : Addr → Env} {x : Str} {ifs : List Expr} {elt : Expr} {l : List α} {φ : α → Option β} {val : Nat → D} (hv : ∀ i (h : i < l.length), val i = f l[i]) (T : OneOf prog w A g s₀ cenv x ifs elt l f φ gD ts cs) :
    CTurn prog w A g s₀ cenv x ifs elt l.length val ts fun i rs cs' => rs = ((l.take i).filterMap φ).map gD ∧ cs' = cs := by
  rintro i v Lc it od acc oda _ _ s hi ⟨rfl, rfl⟩ S
  rw [hv i hi] at S
  have e : l.take (i + 1) = l.take i ++ [l[i]] := by rw [List.take_succ_eq_append_getElem hi]
  refine noE (wpAny_mono (T l[i] (List.getElem_mem hi) v Lc it od acc oda s S) (fun ok s₁ h => ?_) fun _ _ q => q)
  cases ok with
  | true =>
    rw [if_pos rfl] at h ⊢
    refine noE (wpAny_mono h (fun y s₂ ⟨ts', b, S', hs, hy, hb⟩ => ⟨_, ts', _, _, S', hs, hy, ?_, rfl⟩) fun _ _ q => q)
    rw [e, List.filterMap_append, List.map_append]; simp [hb]
  | false =>
    rw [if_neg (by decide)] at h ⊢
    obtain ⟨ts', S', hs, hb⟩ := h
    refine ⟨_, ts', _, S', hs, ?_, rfl⟩
    rw [e, List.filterMap_append, List.map_append]; simp [hb]

noncomputable def CG (prog : Program) (w : World) (A : Around) (g : Heap) (s₀ : Shared) (cenv : Addr → Env) (x : Str) (ifs : List Expr) (elt : Expr) (Q : Value → Shared → Prop) (itv : Value) (s₂ : Shared) : Prop :=
    ∃ (it : Addr) (n : Nat) (val : Nat → D) (od : Nat → OD) (base : List (Value × D)) (cs : List (Addr × OD)) (P : Nat → List D → List (Addr × OD) → Prop),
      itv = .ref it ∧ Walker prog w A g s₀ it n val od base ∧ n ≤ lim ∧ St g s₀ ((it, od 0) :: cs) base s₂ ∧ P 0 [] cs ∧ CTurn prog w A g s₀ cenv x ifs elt n val base P ∧
      ∀ a cs rs s, P n rs cs → St g s₀ ((a, .list rs) :: cs) base s → Q (.ref a) s
noncomputable def CGA (prog : Program) (w : World) (A : Around) (g : Heap) (s₀ : Shared) (env : Env) (cenv : Addr → Env) (x y : Str) (ifs : List Expr) (elt : Expr) (Q : Flow → Shared → Prop) (itv : Value) (s₂ : Shared) : Prop :=
    ∃ (it : Addr) (n : Nat) (val : Nat → D) (od : Nat → OD) (base : List (Value × D)) (cs : List (Addr × OD)) (P : Nat → List D → List (Addr × OD) → Prop),
      itv = .ref it ∧ Walker prog w A g s₀ it n val od base ∧ n ≤ lim ∧ St g s₀ ((it, od 0) :: cs) base s₂ ∧ P 0 [] cs ∧ CTurn prog w A g s₀ cenv x ifs elt n val base P ∧
      ∀ cs rs, P n rs cs → ∃ ls ls' cs', Upd env.locals (.names ls) (.names ls') cs cs' ∧ SetN y (.list rs) ls ls' ∧ ∀ v s', St g s₀ cs' ((v, .list rs) :: base) s' → Q .next s'
theorem comp_coreS {elt iter : Expr} {x : Str} {px : Pos} {ifs : List Expr} {scope : Scope} {pos : Pos} {cl : List (Str × Addr)} {Q : Value → Shared → Prop} (S : St g s₀ cs ts s)
    (hclos : closureFor scope env = pure cl) (hcell : ∀ y ∈ scope.names, y.2 ≠ .cell) (hkind : scope.kind = .function) (hnames : ∀ y ∈ scope.names, y.2 = .local → scope.names.lookup y.1 = some .local)
    (hx : ∀ Lc, (cEnv scope env cl Lc).kindOf x = some .local)
    (h : wpAny (model prog w) A (eval iter env) (fun xv s₁ => wpAny (model prog w) A (pyIter xv) (CG prog w A g s₀ (cEnv scope env cl) x ifs elt Q) NoE s₁) NoE s)
    (hs : ∀ x, foldedSetIterable iter env x = pure x := by intro _; rfl) :
    wpAny (model prog w) A (eval (.ListComp elt [⟨.Name x px, iter, ifs, 0⟩] scope pos) env) Q NoE s := comp_core hclos hcell hkind hnames hx h hs
theorem comp_assignS {elt iter : Expr} {x y : Str} {px py : Pos} {ifs : List Expr} {scope : Scope} {pos spos : Pos} {cl : List (Str × Addr)} {Q : Flow → Shared → Prop} (S : St g s₀ cs ts s)
    (hsw : swapsWith (.ListComp elt [⟨.Name x px, iter, ifs, 0⟩] scope pos) (some (.Name y py)) spos.line env = pure true)
    (hclos : closureFor scope env = pure cl) (hcell : ∀ y ∈ scope.names, y.2 ≠ .cell) (hkind : scope.kind = .function) (hnames : ∀ y ∈ scope.names, y.2 = .local → scope.names.lookup y.1 = some .local)
    (hx : ∀ Lc, (cEnv scope env cl Lc).kindOf x = some .local) (hek : env.scope.kind = .function) (hy : env.kindOf y = some .local)
    (h : wpAny (model prog w) A (eval iter env) (fun xv s₁ => wpAny (model prog w) A (pyIter xv) (CGA prog w A g s₀ env (cEnv scope env cl) x y ifs elt Q) NoE s₁) NoE s)
    (hs : ∀ x, foldedSetIterable iter env x = pure x := by intro _; rfl) :
    wpAny (model prog w) A (exec (.Assign [.Name y py] (.ListComp elt [⟨.Name x px, iter, ifs, 0⟩] scope pos) spos) env) Q NoE s := comp_assign hsw hclos hcell hkind hnames hx hek hy h hs

theorem cs_core {v : Value} {l : List α} {x : Str} {ifs : List Expr} {elt : Expr} {cenv : Addr → Env} {φ : α → Option β} {Q : Value → Shared → Prop} (hh : A.handled = none) (S : St g s₀ cs ts s) (hc : cs ≠ []) (hi : ItA ts v l f)
    (T : OneOf prog w A g s₀ cenv x ifs elt l f φ gD ts cs) (done : ∀ a s, St g s₀ ((a, .list ((l.filterMap φ).map gD)) :: cs) ts s → Q (.ref a) s) :
    wpAny (model prog w) A (pyIter v) (CG prog w A g s₀ cenv x ifs elt Q) NoE s := by
  refine iter_any hh S hc hi fun it od val s' hv hl S' W => ⟨it, _, val, od, _, cs, _, rfl, W, hl, S', ⟨?_, rfl⟩, T.turn hv, ?_⟩
  · rintro a _ _ s ⟨rfl, rfl⟩ S''
    rw [List.take_length] at S''
    exact done a s S''
  · simp
theorem cs_asg {v : Value} {l : List α} {x y : Str} {ifs : List Expr} {elt : Expr} {cenv : Addr → Env} {φ : α → Option β} {Q : Flow → Shared → Prop} {ls ls' : List (Str × D)} (hh : A.handled = none) (S : St g s₀ cs ts s) (hc : cs ≠ []) (hi : ItA ts v l f)
    (T : OneOf prog w A g s₀ cenv x ifs elt l f φ gD ts cs) (U : Upd env.locals (.names ls) (.names ls') cs cs') (hn : SetN y (.list ((l.filterMap φ).map gD)) ls ls')
    (done : ∀ v s', St g s₀ cs' ((v, .list ((l.filterMap φ).map gD)) :: ts) s' → Q .next s') :
    wpAny (model prog w) A (pyIter v) (CGA prog w A g s₀ env cenv x y ifs elt Q) NoE s := by
  refine iter_any hh S hc hi fun it od val s' hv hl S' W => ⟨it, _, val, od, _, cs, _, rfl, W, hl, S', ⟨?_, rfl⟩, T.turn hv, ?_⟩
  · rintro _ _ ⟨rfl, rfl⟩
    rw [List.take_length]
    exact ⟨ls, ls', cs', U, hn, done⟩
  · simp

theorem ifs_nil {Q : Bool → Shared → Prop} {E : Value → Shared → Prop} {k : Expr → Bool → Sem (ForInStep Bool)} (h : Q true s) : wpAny (model prog w) A (forIn ([] : List Expr) true k) Q E s := wpAny_pure h
theorem ifs_one {c : Expr} {env : Env} {Q : Bool → Shared → Prop} {E : Value → Shared → Prop} (h : wpAny (model prog w) A (isTrue c env (eval c env)) Q E s) :
    wpAny (model prog w) A (forIn [c] true fun c r => if r = true then do let ok ← isTrue c env (eval c env); pure (ForInStep.yield ok) else pure (ForInStep.yield r)) Q E s := by
  have : (forIn [c] true fun c r => if r = true then do let ok ← isTrue c env (eval c env); pure (ForInStep.yield ok) else pure (ForInStep.yield r)) = isTrue c env (eval c env) := by
    simp
  rw [this]; exact h
theorem fm_some (φ : α → β) (l : List α) : l.filterMap (fun a => some (φ a)) = l.map φ := by simp
theorem fm_if (p : α → Bool) (φ : α → β) (l : List α) : l.filterMap (fun a => if p a = true then some (φ a) else none) = (l.filter p).map φ := by
  induction l with
  | nil => rfl
  | cons a r ih => by_cases h : p a = true <;> simp [h, ih]

/-- without a condition -/
theorem one_all {cenv : Addr → Env} {x : Str} {elt : Expr} {l : List α} {φ : α → β}
    (T : ∀ a ∈ l, ∀ v Lc it od acc oda s, St g s₀ ((Lc, .names [(x, f a)]) :: (acc, oda) :: (it, od) :: cs) ((v, f a) :: ts) s →
      wpAny (model prog w) A (eval elt (cenv Lc)) (fun y s₂ => ∃ ts', St g s₀ ((Lc, .names [(x, f a)]) :: (acc, oda) :: (it, od) :: cs) ts' s₂ ∧ (∀ p ∈ ts, p ∈ ts') ∧ (y, gD (φ a)) ∈ ts') NoE s) :
    OneOf prog w A g s₀ cenv x [] elt l f (fun a => some (φ a)) gD ts cs := fun a ha v Lc it od acc oda s S =>
  ifs_nil (by rw [if_pos rfl]; exact wpAny_mono (T a ha v Lc it od acc oda s S) (fun y s₂ ⟨ts', S', h1, h2⟩ => ⟨ts', _, S', h1, h2, rfl⟩) fun _ _ q => q)
theorem one_if {cenv : Addr → Env} {x : Str} {c elt : Expr} {l : List α} {p : α → Bool} {φ : α → β}
    (T : ∀ a ∈ l, ∀ v Lc it od acc oda s, St g s₀ ((Lc, .names [(x, f a)]) :: (acc, oda) :: (it, od) :: cs) ((v, f a) :: ts) s →
      wpAny (model prog w) A (isTrue c (cenv Lc) (eval c (cenv Lc))) (fun ok s₁ => ok = p a ∧ (p a = true → wpAny (model prog w) A (eval elt (cenv Lc)) (fun y s₂ => ∃ ts', St g s₀ ((Lc, .names [(x, f a)]) :: (acc, oda) :: (it, od) :: cs) ts' s₂ ∧ (∀ p ∈ ts, p ∈ ts') ∧ (y, gD (φ a)) ∈ ts') NoE s₁) ∧
        (p a = false → ∃ ts', St g s₀ ((Lc, .names [(x, f a)]) :: (acc, oda) :: (it, od) :: cs) ts' s₁ ∧ (∀ p ∈ ts, p ∈ ts'))) NoE s) :
    OneOf prog w A g s₀ cenv x [c] elt l f (fun a => if p a = true then some (φ a) else none) gD ts cs := fun a ha v Lc it od acc oda s S =>
  ifs_one (noE (wpAny_mono (T a ha v Lc it od acc oda s S) (fun ok s₁ ⟨h1, h2, h3⟩ => by
    subst h1
    by_cases hp : p a = true
    · rw [if_pos hp]
      exact noE (wpAny_mono (h2 hp) (fun y s₂ ⟨ts', S', h1, h2⟩ => ⟨ts', _, S', h1, h2, if_pos hp⟩) fun _ _ q => q)
    · rw [if_neg hp]
      obtain ⟨ts', S', hs⟩ := h3 (by simpa using hp)
      exact ⟨ts', S', hs, if_neg hp⟩) fun _ _ q => q))
end
end
section
variable {g : Heap} {mg mb : Str → Option Value} {s₀ s : Shared} {cs cs' : List (Addr × OD)} {ts ts' : List (Value × D)} {prog : Program} {w : World} {A : Around} {n : Nat} {Q : Value → Shared → Prop}
theorem ite_yes {c : Prop} {d : Decidable c} {P Q : Prop} (h : c) (p : P) : @ite Prop c d P Q := by rw [if_pos h]; exact p
theorem ite_no {c : Prop} {d : Decidable c} {P Q : Prop} (h : ¬c) (p : Q) : @ite Prop c d P Q := by rw [if_neg h]; exact p
noncomputable def clEnv (fd : FuncData) (L fa : Addr) (cl : List (Str × Addr)) : Env := newEnv fd.scope L fd.globals cl (fd.qualname ++ ".<locals>.") (some fa) fd.code none fd.builtins
theorem lookup_map_some {cm : List (Str × D)} {x : Str} : (cm.map fun p => (p.1, some p.2)).lookup x = (cm.lookup x).map some := by
  induction cm with
  | nil => rfl
  | cons p r ih =>
    obtain ⟨y, d⟩ := p
    simp only [List.map_cons, List.lookup_cons]
    cases x == y <;> simp [ih]
theorem mem_of_lookup {cm : List (Str × D)} {x : Str} {d : D} (h : cm.lookup x = some d) : (x, d) ∈ cm := by
  induction cm with
  | nil => cases h
  | cons p r ih =>
    obtain ⟨y, e⟩ := p
    rw [List.lookup_cons] at h
    cases hq : x == y with
    | true => rw [hq] at h; cases h; rw [beq_iff_eq.mp hq]; exact .head _
    | false => rw [hq] at h; exact .tail _ (ih h)
theorem call_fnD {K : Frag} {fa : Addr} {oc : Value} {od : Option Addr} {sl : Array (Option Value)} {fd : FuncData} {body : List Stmt} {vals : List Value} {binds : List (Str × Value)} {n : Nat} {ls cm : List (Str × D)} {cl : Addr → List (Str × Addr)} {co : Addr → List (Addr × OD)}
    (S : St g s₀ cs ts s) (G : Gd K g mg mb) (hA : Ok n A) (hc : cs ≠ [])
    (ho : K.lookup fa = some ⟨oc, od, .func fd, sl⟩) (hcd : codeIn K fd.code fd.qualname = true) (hbody : fd.body = .stmts body) (hbind : bindArgs fd ⟨vals, []⟩ = pure binds)
    (hls : ∀ L c, ∀ p ∈ ls, ∃ v, bindL (clEnv fd L fa c).kindOf binds (fun _ => none) p.1 = some v ∧ (v, p.2) ∈ ts)
    (hcm : ∀ L c, ∀ p ∈ cm, ∃ v, bindC (clEnv fd L fa c).kindOf binds (fun _ => none) p.1 = some v ∧ (v, p.2) ∈ ts)
    (hcf : ∀ L, cellsFrom (L + 1) fd.scope.names [] = cl L) (hcf' : ∀ L, (cl L).map (fun p => (p.2, OD.cell (cm.lookup p.1))) = co L)
    (hkind : ∀ n, ∀ x ∈ binds, fd.scope.names.lookup x.1 = some .local ∨ (fd.scope.names.lookup x.1 = some .cell ∧ ((cellsFrom n fd.scope.names []).lookup x.1).isSome = true))
    (h : ∀ L s', St g s₀ ((L, .names ls) :: (co L ++ cs)) ts s' → wpAny (model prog w) (A.deeper (clEnv fd L fa (cl L))) (execs body (clEnv fd L fa (cl L))) (fun fl s'' => Q (retV fl) s'') NoE s')
    (hnd : ((cellsFrom 0 fd.scope.names []).map (·.1)).Nodup := by decide)
    (hcl : fd.closure = [] := by rfl) (hco : fd.scope.isCoroutine = false := by rfl) (hgen : fd.scope.isGenerator = false := by rfl) (hk : fd.scope.kind = .function := by rfl) :
    wpAny (model prog w) A (call (.ref fa) vals) Q NoE s := by
  refine call_fnC S G hA hc ho hcd hbody hbind hkind hnd (ls := ls) (cm := cm.map fun p => (p.1, some p.2)) hls (fun L c x d hx => ?_) (fun L s' S' => ?_) hcl hco hgen hk
  · rw [lookup_map_some] at hx
    obtain ⟨d', hd, hq⟩ := Option.map_eq_some_iff.mp hx
    cases hq
    exact hcm L c _ (mem_of_lookup hd)
  · rw [hcf] at S' ⊢
    refine h L s' ?_
    have e : ((cl L).map fun p => (p.2, OD.cell (((cm.map fun p => (p.1, some p.2)).lookup p.1).join))) = co L := by
      rw [← hcf' L]
      refine List.map_congr_left fun p _ => ?_
      rw [lookup_map_some]
      cases cm.lookup p.1 <;> rfl
    rw [e] at S'
    exact S'

theorem St.leaveC {v : Value} {d : D} (S : St g s₀ cs' ts' s) (hs : cs.Sublist cs') (hv : (v, d) ∈ ts') (hb : ∀ p ∈ ts, p ∈ ts') : St g s₀ cs ((v, d) :: ts) s :=
  (S.csub hs).tsub fun p hp => by
    rcases List.mem_cons.mp hp with rfl | hp
    · exact hv
    · exact hb p hp

section
variable {env : Env} {α β : Type} {f : α → D}
theorem cs_all {v : Value} {l : List α} {x : Str} {elt : Expr} {cenv : Addr → Env} {Q : Value → Shared → Prop} (hh : A.handled = none) (S : St g s₀ cs ts s) (hc : cs ≠ []) (hi : ItA ts v l f) (φ : α → β) (gD : β → D)
    (T : ∀ a ∈ l, ∀ v Lc it od acc oda s, St g s₀ ((Lc, .names [(x, f a)]) :: (acc, oda) :: (it, od) :: cs) ((v, f a) :: ts) s →
      wpAny (model prog w) A (eval elt (cenv Lc)) (fun y s₂ => ∃ ts', St g s₀ ((Lc, .names [(x, f a)]) :: (acc, oda) :: (it, od) :: cs) ts' s₂ ∧ (∀ p ∈ ts, p ∈ ts') ∧ (y, gD (φ a)) ∈ ts') NoE s)
    (done : ∀ v s, St g s₀ cs ((v, .list ((l.map φ).map gD)) :: ts) s → Q v s) : wpAny (model prog w) A (pyIter v) (CG prog w A g s₀ cenv x [] elt Q) NoE s :=
  cs_core hh S hc hi (one_all (gD := gD) (φ := φ) T) fun a s S' => done _ _ (by rw [fm_some] at S'; exact S'.freezeList)
theorem cs_if {v : Value} {l : List α} {x : Str} {c elt : Expr} {cenv : Addr → Env} {Q : Value → Shared → Prop} (hh : A.handled = none) (S : St g s₀ cs ts s) (hc : cs ≠ []) (hi : ItA ts v l f) (p : α → Bool) (φ : α → β) (gD : β → D)
    (T : ∀ a ∈ l, ∀ v Lc it od acc oda s, St g s₀ ((Lc, .names [(x, f a)]) :: (acc, oda) :: (it, od) :: cs) ((v, f a) :: ts) s →
      wpAny (model prog w) A (isTrue c (cenv Lc) (eval c (cenv Lc))) (fun ok s₁ => ok = p a ∧ (p a = true → wpAny (model prog w) A (eval elt (cenv Lc)) (fun y s₂ => ∃ ts', St g s₀ ((Lc, .names [(x, f a)]) :: (acc, oda) :: (it, od) :: cs) ts' s₂ ∧ (∀ p ∈ ts, p ∈ ts') ∧ (y, gD (φ a)) ∈ ts') NoE s₁) ∧
        (p a = false → ∃ ts', St g s₀ ((Lc, .names [(x, f a)]) :: (acc, oda) :: (it, od) :: cs) ts' s₁ ∧ (∀ p ∈ ts, p ∈ ts'))) NoE s)
    (done : ∀ v s, St g s₀ cs ((v, .list (((l.filter p).map φ).map gD)) :: ts) s → Q v s) : wpAny (model prog w) A (pyIter v) (CG prog w A g s₀ cenv x [c] elt Q) NoE s :=
  cs_core hh S hc hi (one_if (gD := gD) (p := p) (φ := φ) T) fun a s S' => done _ _ (by rw [fm_if] at S'; exact S'.freezeList)
theorem ca_all {v : Value} {l : List α} {x y : Str} {elt : Expr} {cenv : Addr → Env} {Q : Flow → Shared → Prop} {ls ls' : List (Str × D)} (hh : A.handled = none) (S : St g s₀ cs ts s) (hc : cs ≠ []) (hi : ItA ts v l f) (φ : α → β) (gD : β → D)
    (T : ∀ a ∈ l, ∀ v Lc it od acc oda s, St g s₀ ((Lc, .names [(x, f a)]) :: (acc, oda) :: (it, od) :: cs) ((v, f a) :: ts) s →
      wpAny (model prog w) A (eval elt (cenv Lc)) (fun y s₂ => ∃ ts', St g s₀ ((Lc, .names [(x, f a)]) :: (acc, oda) :: (it, od) :: cs) ts' s₂ ∧ (∀ p ∈ ts, p ∈ ts') ∧ (y, gD (φ a)) ∈ ts') NoE s)
    (U : Upd env.locals (.names ls) (.names ls') cs cs') (hn : SetN y (.list ((l.map φ).map gD)) ls ls')
    (done : ∀ v s, St g s₀ cs' ((v, .list ((l.map φ).map gD)) :: ts) s → Q .next s) : wpAny (model prog w) A (pyIter v) (CGA prog w A g s₀ env cenv x y [] elt Q) NoE s :=
  cs_asg hh S hc hi (one_all (gD := gD) (φ := φ) T) U (by rw [fm_some]; exact hn) fun v s S' => done v s (by rw [fm_some] at S'; exact S')
theorem ca_if {v : Value} {l : List α} {x y : Str} {c elt : Expr} {cenv : Addr → Env} {Q : Flow → Shared → Prop} {ls ls' : List (Str × D)} (hh : A.handled = none) (S : St g s₀ cs ts s) (hc : cs ≠ []) (hi : ItA ts v l f) (p : α → Bool) (φ : α → β) (gD : β → D)
    (T : ∀ a ∈ l, ∀ v Lc it od acc oda s, St g s₀ ((Lc, .names [(x, f a)]) :: (acc, oda) :: (it, od) :: cs) ((v, f a) :: ts) s →
      wpAny (model prog w) A (isTrue c (cenv Lc) (eval c (cenv Lc))) (fun ok s₁ => ok = p a ∧ (p a = true → wpAny (model prog w) A (eval elt (cenv Lc)) (fun y s₂ => ∃ ts', St g s₀ ((Lc, .names [(x, f a)]) :: (acc, oda) :: (it, od) :: cs) ts' s₂ ∧ (∀ p ∈ ts, p ∈ ts') ∧ (y, gD (φ a)) ∈ ts') NoE s₁) ∧
        (p a = false → ∃ ts', St g s₀ ((Lc, .names [(x, f a)]) :: (acc, oda) :: (it, od) :: cs) ts' s₁ ∧ (∀ p ∈ ts, p ∈ ts'))) NoE s)
    (U : Upd env.locals (.names ls) (.names ls') cs cs') (hn : SetN y (.list (((l.filter p).map φ).map gD)) ls ls')
    (done : ∀ v s, St g s₀ cs' ((v, .list (((l.filter p).map φ).map gD)) :: ts) s → Q .next s) : wpAny (model prog w) A (pyIter v) (CGA prog w A g s₀ env cenv x y [c] elt Q) NoE s :=
  cs_asg hh S hc hi (one_if (gD := gD) (p := p) (φ := φ) T) U (by rw [fm_if]; exact hn) fun v s S' => done v s (by rw [fm_if] at S'; exact S')
end
end
local macro_rules | `(tactic| wtm_at "mem") => `(tactic| with_reducible first | exact List.mem_cons_self | (refine List.mem_cons_of_mem _ ?_; wtm_at "mem") | assumption)
local macro_rules | `(tactic| wtm_at "fr") => `(tactic| first | exact List.mem_cons_self | (refine List.mem_cons_of_mem _ ?_; wtm_at "fr") | assumption)
local macro_rules | `(tactic| wtm_at "up") => `(tactic| first | exact Upd.head | ((with_reducible apply Upd.tail); wtm_at "up") | assumption)
local macro_rules | `(tactic| wtm_at "setn") => `(tactic| first | (with_reducible exact SetN.nil) | ((with_reducible apply SetN.drop); wtm_at "setn") | ((with_reducible apply SetN.keep); decide; wtm_at "setn"))
local macro_rules | `(tactic| wtm_at "sub") => `(tactic| (intro p hp; repeat (first | exact hp | refine List.mem_cons_of_mem _ ?_)))
local macro_rules | `(tactic| wtm_at "subm") => `(tactic| with_reducible first | exact fun p hp => hp | (refine fun p hp => List.mem_cons_of_mem _ ((?_ : ∀ p ∈ _, p ∈ _) p hp); wtm_at "subm") | (refine List.forall_mem_cons.mpr ⟨by wtm_at "mem", ?_⟩; wtm_at "subm"))
local macro_rules | `(tactic| wtm_at "sl") => `(tactic| first | exact List.Sublist.refl _ | (refine List.Sublist.cons _ ?_; wtm_at "sl"))
local macro_rules | `(tactic| wtm_at "subl") => `(tactic| first | exact List.forall_mem_nil _ | (refine List.forall_mem_cons.mpr ⟨by wtm_at "mem", ?_⟩; wtm_at "subl"))
local macro_rules | `(tactic| wtm_at "at") => `(tactic| first | exact gF_name | exact gF_prefs | exact gF_matching | exact gF_pn | exact gF_op | assumption)
local macro_rules | `(tactic| wtm_at "hd") => `(tactic| intro _ _ h; cases h <;> rfl)
local macro_rules | `(tactic| wtm_at "yes") => `(tactic| first | exact rfl | assumption | (simp only [decide_eq_true_eq, ne_eq]; omega) | simpa)
local macro_rules | `(tactic| wtm_at "no") => `(tactic| first | exact Bool.false_ne_true | assumption | (simp only [decide_eq_true_eq, ne_eq]; omega) | simpa)
local macro_rules | `(tactic| wtm_at "un") => `(tactic| first | exact Ok.units64 (n := 0) (by wtm_at "ok"))
local macro_rules | `(tactic| wtm_at "pl") => `(tactic| first | exact pl_dN _ | exact pl_dL _)
local macro_rules | `(tactic| wtm_at "ok") => `(tactic| first | assumption | exact Ok.deeper (by assumption) _ | exact Ok.le (by assumption) (by omega) | exact Ok.le (Ok.deeper (by assumption) _) (by omega))
local macro_rules | `(tactic| wtm_at "go") => `(tactic| (repeat' wtm_at "st") <;> first | (with_reducible show wpAny _ _ _ _ _ _) | wtm_at "sd" | skip)
local macro_rules | `(tactic| wtm_at "sd") => `(tactic| (have hlimE : lim = 4096 := rfl; first | omega | (simp only [List.length_map, List.length_take, List.length_drop, List.length_append, List.length_cons, List.length_nil, List.length_range, ne_eq, Int.natAbs_natCast]; omega)))
local macro_rules | `(tactic| wtm_at "ev") => `(tactic| first
  | ((with_reducible show wpAny _ _ (eval (Expr.Name _ _) _) _ _ _); first | refine nm_localV (by assumption) (by wtm_at "fr") (by wtm_at "mem") ?_ | refine nm_local (by assumption) (by wtm_at "fr") (by wtm_at "mem") (fun _ _ => ?_) | refine nm_cellV (by assumption) (by rfl) (by wtm_at "mem") ?_ | refine nm_cell (by assumption) (by rfl) (by wtm_at "mem") (fun _ _ => ?_) | refine nm_freeV (by assumption) (by rfl) (by wtm_at "mem") ?_ | refine nm_free (by assumption) (by rfl) (by wtm_at "mem") (fun _ _ => ?_) | (refine nm_builtin (by assumption) (by assumption) ?_ ?_ ?_ <;> first | exact gn_list _ | exact gn_int _ | exact bb_list | exact bb_int | skip))
  | ((with_reducible show wpAny _ _ (eval (Expr.Constant (Const.int _) _ _) _) _ _ _); first | refine c_intN (by assumption) (fun _ _ _ => ?_) | refine c_int (by assumption) (fun _ _ _ => ?_))
  | ((with_reducible show wpAny _ _ (eval (Expr.Constant Const.none _ _) _) _ _ _); refine c_none (by assumption) (fun _ => ?_))
  | ((with_reducible show wpAny _ _ (eval (Expr.Constant (Const.bool _) _ _) _) _ _ _); refine c_bool (by assumption) (fun _ => ?_))
  | ((with_reducible show wpAny _ _ (eval (Expr.Constant (Const.str _) _ _) _) _ _ _); refine c_str (by assumption) (fun _ _ _ => ?_))
  | ((with_reducible show wpAny _ _ (eval (Expr.BinOp _ _ _ _) _) _ _ _); refine wpAny_BinOp ?_)
  | ((with_reducible show wpAny _ _ (eval (Expr.Subscript _ (Expr.Slice _ _ _ _) _) _) _ _ _); refine e_sliceS (by assumption) ?_)
  | ((with_reducible show wpAny _ _ (eval (Expr.Subscript _ _ _) _) _ _ _); refine Subscript_ ?_)
  | ((with_reducible show wpAny _ _ (eval (Expr.Compare _ _ _ _) _) _ _ _); refine wpAny_Compare1 ?_)
  | ((with_reducible show wpAny _ _ (eval (Expr.List [_] _) _) _ _ _); refine e_oneS (by assumption) ?_)
  | ((with_reducible show wpAny _ _ (eval (Expr.List [] _) _) _ _ _); (fail_if_success (with_reducible show wpAny _ _ (eval _ _) (fun v s => wpAny _ _ (storeName _ _ v) _ _ s) _ _)); refine e_nil (by assumption) (List.cons_ne_nil _ _) (fun _ _ _ => ?_))
  | ((with_reducible show wpAny _ _ (eval (Expr.Tuple [_, _] _ _) _) _ _ _); refine e_pairS (by assumption) ?_)
  | ((with_reducible show wpAny _ _ (eval (Expr.Attribute _ _ _) _) _ _ _); refine e_attr ?_)
  | ((with_reducible show wpAny _ _ (eval (Expr.ListComp _ [_] _ _) _) _ _ _); refine comp_coreS (by assumption) (by rfl) (by decide) (by rfl) (by decide) (fun _ => by rfl) ?_)
  | ((with_reducible show wpAny _ _ (eval (Expr.Call (Expr.Name _ _) _ _ _) _) _ _ _); first
    | ((with_reducible show wpAny _ _ (eval (Expr.Call (Expr.Name (PySem.Str.ofString "len") _) _ _ _) _) _ _ _); refine cl_len (by assumption) (by assumption) ?_)
    | ((with_reducible show wpAny _ _ (eval (Expr.Call (Expr.Name (PySem.Str.ofString "abs") _) _ _ _) _) _ _ _); refine cl_abs (by assumption) (by assumption) ?_)
    | ((with_reducible show wpAny _ _ (eval (Expr.Call (Expr.Name (PySem.Str.ofString "min") _) _ _ _) _) _ _ _); refine cl_min (by assumption) (by assumption) ?_)
    | ((with_reducible show wpAny _ _ (eval (Expr.Call (Expr.Name (PySem.Str.ofString "isinstance") _) _ _ _) _) _ _ _); refine cl_isinstance (by assumption) (by assumption) ?_)
    | ((with_reducible show wpAny _ _ (eval (Expr.Call (Expr.Name (PySem.Str.ofString "int") _) _ _ _) _) _ _ _); refine cl_int (by assumption) (by assumption) ?_)
    | ((with_reducible show wpAny _ _ (eval (Expr.Call (Expr.Name (PySem.Str.ofString "list") _) _ _ _) _) _ _ _); refine cl_list (by assumption) (by assumption) ?_)
    | ((with_reducible show wpAny _ _ (eval (Expr.Call (Expr.Name (PySem.Str.ofString "range") _) _ _ _) _) _ _ _); refine cl_range (by assumption) (by assumption) ?_)
    | ((with_reducible show wpAny _ _ (eval (Expr.Call (Expr.Name (PySem.Str.ofString "str") _) _ _ _) _) _ _ _); refine cl_str (by assumption) (by assumption) ?_)
    | ((with_reducible show wpAny _ _ (eval (Expr.Call (Expr.Name (PySem.Str.ofString "_delete_pair") _) _ _ _) _) _ _ _); refine cl_Del (by assumption) (by assumption) ?_)
    | ((with_reducible show wpAny _ _ (eval (Expr.Call (Expr.Name (PySem.Str.ofString "first_phase") _) _ _ _) _) _ _ _); refine cl_First (by assumption) (by assumption) ?_)
    | ((with_reducible show wpAny _ _ (eval (Expr.Call (Expr.Name (PySem.Str.ofString "_law_cell") _) _ _ _) _) _ _ _); refine cl_Cell (by assumption) (by assumption) ?_)
    | ((with_reducible show wpAny _ _ (eval (Expr.Call (Expr.Name (PySem.Str.ofString "_law_order") _) _ _ _) _) _ _ _); refine cl_Order (by assumption) (by assumption) ?_)
    | ((with_reducible show wpAny _ _ (eval (Expr.Call (Expr.Name (PySem.Str.ofString "_law_orders") _) _ _ _) _) _ _ _); refine cl_Orders (by assumption) (by assumption) ?_)
    | ((with_reducible show wpAny _ _ (eval (Expr.Call (Expr.Name (PySem.Str.ofString "_law_players") _) _ _ _) _) _ _ _); refine cl_Players (by assumption) (by assumption) ?_)
    | ((with_reducible show wpAny _ _ (eval (Expr.Call (Expr.Name (PySem.Str.ofString "_law_number") _) _ _ _) _) _ _ _); refine cl_Number (by assumption) (by assumption) ?_)
    | ((with_reducible show wpAny _ _ (eval (Expr.Call (Expr.Name (PySem.Str.ofString "_law_lists") _) _ _ _) _) _ _ _); refine cl_Lists (by assumption) (by assumption) ?_)
    | ((with_reducible show wpAny _ _ (eval (Expr.Call (Expr.Name (PySem.Str.ofString "_law_held") _) _ _ _) _) _ _ _); refine cl_Held (by assumption) (by assumption) ?_)
    | ((with_reducible show wpAny _ _ (eval (Expr.Call (Expr.Name (PySem.Str.ofString "_law_pairings") _) _ _ _) _) _ _ _); refine cl_Pairings (by assumption) (by assumption) ?_)
    | ((with_reducible show wpAny _ _ (eval (Expr.Call (Expr.Name (PySem.Str.ofString "_law_stable") _) _ _ _) _) _ _ _); refine cl_Stable (by assumption) (by assumption) ?_)
    | ((with_reducible show wpAny _ _ (eval (Expr.Call (Expr.Name (PySem.Str.ofString "_law_within") _) _ _ _) _) _ _ _); refine cl_Within (by assumption) (by assumption) ?_)
    | ((with_reducible show wpAny _ _ (eval (Expr.Call (Expr.Name (PySem.Str.ofString "_law_mutual") _) _ _ _) _) _ _ _); refine cl_Mutual (by assumption) (by assumption) ?_)
    | ((with_reducible show wpAny _ _ (eval (Expr.Call (Expr.Name (PySem.Str.ofString "_law_rounds") _) _ _ _) _) _ _ _); refine cl_Rounds (by assumption) (by assumption) ?_)
    | ((with_reducible show wpAny _ _ (eval (Expr.Call (Expr.Name (PySem.Str.ofString "Player") _) _ _ _) _) _ _ _); refine cl_Player (by assumption) (by assumption) ?_))
  | ((with_reducible show wpAny _ _ (eval (Expr.Call (Expr.Attribute _ _ _) _ _ _) _) _ _ _); first
    | ((with_reducible show wpAny _ _ (eval (Expr.Call (Expr.Attribute _ (PySem.Str.ofString "append") _) [_] _ _) _) _ _ _); refine m_list1 F.slot_list_append PySem.F.type_list_append ?_)
    | ((with_reducible show wpAny _ _ (eval (Expr.Call (Expr.Attribute _ (PySem.Str.ofString "index") _) [_] _ _) _) _ _ _); refine m_list1 F.slot_list_index PySem.F.type_list_index ?_)
    | ((with_reducible show wpAny _ _ (eval (Expr.Call (Expr.Attribute _ (PySem.Str.ofString "pop") _) [] _ _) _) _ _ _); refine m_list0 F.slot_list_pop PySem.F.type_list_pop ?_)
    | ((with_reducible show wpAny _ _ (eval (Expr.Call (Expr.Attribute _ (PySem.Str.ofString "remove") _) [_] _ _) _) _ _ _); refine m_list1 F.slot_list_remove PySem.F.type_list_remove ?_)
    | ((with_reducible show wpAny _ _ (eval (Expr.Call (Expr.Attribute _ _ _) [_] _ _) _) _ _ _); refine m_obj1 ?_)
    | ((with_reducible show wpAny _ _ (eval (Expr.Call (Expr.Attribute _ _ _) [] _ _) _) _ _ _); refine m_obj0 ?_)))
local macro_rules | `(tactic| wtm_at "st") => `(tactic| first
  | ((with_reducible show wpAny _ _ (eval _ _) _ _ _); wtm_at "ev")
  | ((with_reducible show wpAny _ _ (exec _ _) _ _ _); first
    | ((with_reducible show wpAny _ _ (exec (Stmt.Expr _ _) _) _ _ _); refine ex_expr ?_)
    | ((with_reducible show wpAny _ _ (exec (Stmt.For _ _ _ _ _) _) _ _ _); refine ex_for ?_)
    | ((with_reducible show wpAny _ _ (exec (Stmt.Assign [Expr.Subscript _ _ _] _ _) _) _ _ _); refine ex_setitem ?_)
    | ((with_reducible show wpAny _ _ (exec (Stmt.Return (some _) _) _) _ _ _); refine wpAny_Return_some ?_)
    | ((with_reducible show wpAny _ _ (exec (Stmt.If _ _ _ _) _) _ _ _); refine wpAny_If ?_)
    | ((with_reducible show wpAny _ _ (exec (Stmt.Assign [Expr.Name _ _] (Expr.ListComp _ [_] _ _) _) _) _ _ _); first | refine comp_assignS (by assumption) (by rfl) (by rfl) (by decide) (by rfl) (by decide) (fun _ => by rfl) (by rfl) (by rfl) ?_ | refine ex_assign ?_)
    | ((with_reducible show wpAny _ _ (exec (Stmt.Assign [Expr.Name _ _] _ _) _) _ _ _); refine ex_assign ?_)
    | ((with_reducible show wpAny _ _ (exec (Stmt.Assign [Expr.Attribute _ _ _] _ _) _) _ _ _); refine plainObj_wpAny_Assign_Attribute ?_))
  | ((with_reducible show wpAny _ _ (call _ _) _ _ _); first
    | ((with_reducible show wpAny _ _ (call (Value.type "list") _) _ _ _); first | refine c_listRL (by assumption) (by assumption) (List.cons_ne_nil _ _) (by wtm_at "mem") ?_ (fun _ _ _ => ?_) | refine c_listLV (by assumption) (List.cons_ne_nil _ _) (by wtm_at "mem") (fun _ _ _ => ?_))
    | ((with_reducible show wpAny _ _ (call (Value.type "str") _) _ _ _); refine c_strI (by assumption) (by wtm_at "mem") ?_ (fun _ _ _ => ?_))
    | ((with_reducible show wpAny _ _ (call (Value.type "int") _) _ _ _); refine c_toint (by assumption) (by wtm_at "mem") (fun _ _ _ => ?_))
    | ((with_reducible show wpAny _ _ (call (Value.builtin "abs") _) _ _ _); refine c_abs (by assumption) (by wtm_at "mem") (fun _ _ _ => ?_))
    | ((with_reducible show wpAny _ _ (call (Value.builtin "len") _) _ _ _); first | refine c_lenR (by assumption) (by wtm_at "mem") (fun _ _ _ => ?_) | refine c_lenL (by assumption) (by wtm_at "mem") (fun _ _ _ => ?_) | refine c_len (by assumption) (by wtm_at "mem") (fun _ _ _ => ?_) | refine c_lenRO (by assumption) (by wtm_at "fr") (fun _ _ _ => ?_) | refine c_lenLO (by assumption) (by wtm_at "fr") (fun _ _ _ => ?_) | refine c_lenO (by assumption) (by wtm_at "fr") (fun _ _ _ => ?_))
    | ((with_reducible show wpAny _ _ (call (Value.type "range") _) _ _ _); refine c_range (by assumption) (List.cons_ne_nil _ _) (by wtm_at "mem") (fun _ _ _ => ?_)))
  | ((with_reducible show wpAny _ _ (binaryOp _ _ _) _ _ _); first
    | ((with_reducible show wpAny _ _ (binaryOp Operator.Mult _ _) _ _ _); first | refine b_mulN (by assumption) (by wtm_at "mem") (by wtm_at "mem") ?_ (fun _ _ _ => ?_) | refine b_mul (by assumption) (by wtm_at "mem") (by wtm_at "mem") ?_ (fun _ _ _ => ?_) | refine b_repN (by assumption) (List.cons_ne_nil _ _) (by wtm_at "mem") (by wtm_at "mem") ?_ (fun _ _ _ => ?_))
    | ((with_reducible show wpAny _ _ (binaryOp Operator.Sub _ _) _ _ _); first | refine b_subN (by assumption) (by wtm_at "mem") (by wtm_at "mem") ?_ (fun _ _ _ => ?_) | refine b_sub (by assumption) (by wtm_at "mem") (by wtm_at "mem") (fun _ _ _ => ?_))
    | ((with_reducible show wpAny _ _ (binaryOp Operator.Add _ _) _ _ _); first | refine b_addN (by assumption) (by wtm_at "mem") (by wtm_at "mem") (fun _ _ _ => ?_) | refine b_add (by assumption) (by wtm_at "mem") (by wtm_at "mem") (fun _ _ _ => ?_) | refine b_cats (by assumption) (by wtm_at "mem") (by wtm_at "mem") ?_ (fun _ _ _ => ?_) | refine b_catL (by assumption) (List.cons_ne_nil _ _) (by wtm_at "mem") (by wtm_at "mem") ?_ (fun _ _ _ => ?_) | refine b_catV (by assumption) (List.cons_ne_nil _ _) (by wtm_at "mem") (by wtm_at "mem") ?_ (fun _ _ _ => ?_))
    | ((with_reducible show wpAny _ _ (binaryOp Operator.Mod _ _) _ _ _); first | refine b_modN (by assumption) (by wtm_at "mem") (by wtm_at "mem") ?_ (fun _ _ _ => ?_) | refine b_mod (by assumption) (by wtm_at "mem") (by wtm_at "mem") ?_ (fun _ _ _ => ?_))
    | ((with_reducible show wpAny _ _ (binaryOp Operator.FloorDiv _ _) _ _ _); first | refine b_fdivN (by assumption) (by wtm_at "mem") (by wtm_at "mem") ?_ ?_ (fun _ _ _ => ?_) | refine b_fdiv (by assumption) (by wtm_at "mem") (by wtm_at "mem") ?_ ?_ (fun _ _ _ => ?_)))
  | ((with_reducible show wpAny _ _ (compareOp _ _ _) _ _ _); first
    | ((with_reducible show wpAny _ _ (compareOp CmpOp.Lt _ _) _ _ _); first | refine k_ltN (by assumption) (by wtm_at "mem") (by wtm_at "mem") ?_ | refine k_lt (by assumption) (by wtm_at "mem") (by wtm_at "mem") ?_)
    | ((with_reducible show wpAny _ _ (compareOp CmpOp.Eq _ _) _ _ _); first | refine k_eqN (by assumption) (by wtm_at "mem") (by wtm_at "mem") ?_ | refine k_eq (by assumption) (by wtm_at "mem") (by wtm_at "mem") ?_ | refine k_eqNil (n := 8) (by assumption) (by wtm_at "mem") (by wtm_at "mem") (by wtm_at "un") (fun _ _ => by wtm_at "pl") (by decide) ?_ | refine k_neLL (by assumption) (by wtm_at "mem") (by wtm_at "mem") (by wtm_at "un") ?_ | refine k_eqLL (by assumption) (by wtm_at "mem") (by wtm_at "mem") (by wtm_at "un") ?_)
    | ((with_reducible show wpAny _ _ (compareOp CmpOp.NotEq _ _) _ _ _); first | refine k_neN (by assumption) (by wtm_at "mem") (by wtm_at "mem") ?_ | refine k_ne (by assumption) (by wtm_at "mem") (by wtm_at "mem") ?_ | refine k_neNil (n := 8) (by assumption) (by wtm_at "mem") (by wtm_at "mem") (by wtm_at "un") (fun _ _ => by wtm_at "pl") (by decide) ?_ | refine k_neLL (by assumption) (by wtm_at "mem") (by wtm_at "mem") (by wtm_at "un") ?_ | refine k_eqLL (by assumption) (by wtm_at "mem") (by wtm_at "mem") (by wtm_at "un") ?_)
    | ((with_reducible show wpAny _ _ (compareOp CmpOp.In _ _) _ _ _); refine k_inN (by assumption) (by assumption) (pcKK _) (by wtm_at "ok") (by wtm_at "mem") (by wtm_at "mem") ?_)
    | ((with_reducible show wpAny _ _ (compareOp CmpOp.NotIn _ _) _ _ _); refine k_notinN (by assumption) (by assumption) (pcKK _) (by wtm_at "ok") (by wtm_at "mem") (by wtm_at "mem") ?_)
    | ((with_reducible show wpAny _ _ (compareOp CmpOp.Is _ Value.none) _ _ _); refine is_none ?_)
    | ((with_reducible show wpAny _ _ (compareOp CmpOp.IsNot _ Value.none) _ _ _); first | refine isNotO (by assumption) (by wtm_at "mem") ?_ | refine isNot_none ?_))
  | ((with_reducible show wpAny _ _ (truthy _) _ _ _); first
    | ((with_reducible show wpAny _ _ (truthy (Value.bool _)) _ _ _); refine wpAny_truthy_bool ?_)
    | ((with_reducible show wpAny _ _ (truthy _) _ _ _); first | refine tr_list (by assumption) (by wtm_at "mem") (fun _ _ => ?_) | refine tr_listO (by assumption) (by wtm_at "fr") (fun _ _ => ?_)))
  | ((with_reducible show wpAny _ _ (execs _ _) _ _ _); first
    | ((with_reducible show wpAny _ _ (execs (_ :: _) _) _ _ _); refine wpAny_execs_cons ?_)
    | ((with_reducible show wpAny _ _ (execs [] _) _ _ _); refine ex_nil ?_))
  | ((with_reducible show wpAny _ _ (getAttr _ _ _) _ _ _); first | refine a_getV (by assumption) (by assumption) (by wtm_at "mem") (by wtm_at "fr") (by wtm_at "at") rfl rfl rfl (fun _ _ => ?_) | refine a_getO (by assumption) (by assumption) (by wtm_at "mem") (by wtm_at "fr") (by wtm_at "at") rfl rfl (fun _ _ => ?_) | refine a_get (by assumption) (by assumption) (pcKK _) (by wtm_at "mem") (by wtm_at "fr") (by wtm_at "at") rfl rfl (by wtm_at "hd") (fun _ _ _ => ?_))
  | ((with_reducible show wpAny _ _ (assign _ _ _) _ _ _); first
    | ((with_reducible show wpAny _ _ (assign (Expr.Name _ _) _ _) _ _ _); refine PyProof.Rows.assign_Name ?_)
    | ((with_reducible show wpAny _ _ (assign (Expr.Tuple [Expr.Name _ _, Expr.Name _ _] _ _) _ _) _ _ _); refine a_pair (by assumption) (by assumption) (by wtm_at "mem") (fun _ _ _ _ => ?_)))
  | ((with_reducible show wpAny _ _ (isTrue _ _ _) _ _ _); first
    | ((with_reducible show wpAny _ _ (isTrue (Expr.Compare _ _ _ _) _ _) _ _ _); refine wpAny_isTrue_Compare1 ?_)
    | ((with_reducible show wpAny _ _ (isTrue (Expr.UnaryOp UnaryOp.Not _ _) _ _) _ _ _); refine wpAny_isTrue_Not ?_)
    | ((with_reducible show wpAny _ _ (isTrue (Expr.BoolOp _ _ _) _ _) _ _ _); refine wpAny_isTrue_BoolOp ?_)
    | ((with_reducible show wpAny _ _ (isTrue (Expr.Attribute _ _ _) _ _) _ _ _); refine wpAny_isTrue_value ?_)
    | ((with_reducible show wpAny _ _ (isTrue (Expr.Name _ _) _ _) _ _ _); refine wpAny_isTrue_value ?_)
    | ((with_reducible show wpAny _ _ (isTrue (Expr.Call _ _ _ _) _ _) _ _ _); refine wpAny_isTrue_value ?_))
  | ((with_reducible show wpAny _ _ (allTrue _ _ _) _ _ _); first
    | ((with_reducible show wpAny _ _ (allTrue BoolOp.And [] _) _ _ _); refine wpAny_allTrue_And_nil ?_)
    | ((with_reducible show wpAny _ _ (allTrue BoolOp.Or [] _) _ _ _); refine wpAny_allTrue_Or_nil ?_)
    | ((with_reducible show wpAny _ _ (allTrue BoolOp.And (_ :: _) _) _ _ _); refine wpAny_allTrue_And_cons ?_)
    | ((with_reducible show wpAny _ _ (allTrue BoolOp.Or (_ :: _) _) _ _ _); refine wpAny_allTrue_Or_cons ?_))
  | ((with_reducible show wpAny _ _ (storeName _ _ _) _ _ _); first | refine st_local (by assumption) (by wtm_at "mem") (by wtm_at "up") (by wtm_at "setn") (fun _ _ => ?_) | refine st_cell (by assumption) (by wtm_at "mem") (by rfl) (by wtm_at "up") (fun _ _ => ?_))
  | ((with_reducible show wpAny _ _ (subscriptTail _ _ _ _) _ _ _); first | refine t_itemR (by assumption) (by wtm_at "mem") (by wtm_at "mem") ?_ (fun _ _ => ?_) | refine t_itemL (by assumption) (by wtm_at "mem") (by wtm_at "mem") ?_ (fun _ _ _ _ => ?_) | refine t_itemRO (by assumption) (by wtm_at "fr") (by wtm_at "mem") ?_ (fun _ _ => ?_) | refine t_itemLO (by assumption) (by wtm_at "fr") (by wtm_at "mem") ?_ (fun _ _ _ _ => ?_) | refine t_tup0 (by assumption) (by wtm_at "mem") (by wtm_at "mem") (fun _ _ => ?_) | refine t_tup1 (by assumption) (by wtm_at "mem") (by wtm_at "mem") (fun _ _ => ?_))
  | ((with_reducible show wpAny _ _ (callWith _ _ _ _ _) _ _ _); first
    | ((with_reducible show wpAny _ _ (callWith _ (Value.builtin "list.append") _ _ _) _ _ _); refine w_appendS (by assumption) ?_)
    | ((with_reducible show wpAny _ _ (callWith _ (Value.builtin "list.pop") _ _ _) _ _ _); refine w_pop (by assumption) (by wtm_at "up") (fun _ _ _ => ?_))
    | ((with_reducible show wpAny _ _ (callWith _ (Value.builtin "list.index") _ _ _) _ _ _); refine w_indexN (by assumption) (by assumption) (pcKK _) (by wtm_at "ok") (by wtm_at "mem") ?_)
    | ((with_reducible show wpAny _ _ (callWith _ (Value.ref 80) _ [_] _) _ _ _); refine cw_f1S (by assumption) (by assumption) (hoSet _) ?_)
    | ((with_reducible show wpAny _ _ (callWith _ (Value.ref 61) _ [_] _) _ _ _); refine cw_f1S (by assumption) (by assumption) (hoForget _) ?_)
    | ((with_reducible show wpAny _ _ (callWith _ (Value.ref 152) _ [_] _) _ _ _); refine cw_f1S (by assumption) (by assumption) (hoMatch _) ?_)
    | ((with_reducible show wpAny _ _ (callWith _ (Value.ref 159) _ [] _) _ _ _); refine cw_f0 (by assumption) (by assumption) (hoUnmatch _) ?_)
    | ((with_reducible show wpAny _ _ (callWith _ (Value.ref 166) _ [] _) _ _ _); refine cw_f0 (by assumption) (by assumption) (hoFav _) ?_)
    | ((with_reducible show wpAny _ _ (callWith _ (Value.ref 173) _ [] _) _ _ _); refine cw_f0 (by assumption) (by assumption) (hoSucc _) ?_))
  | ((with_reducible show wpAny _ _ (setItem _ _ _) _ _ _); refine s_itemN (by assumption) (by wtm_at "up") (by wtm_at "mem") (by wtm_at "mem") ?_ (fun _ _ => ?_))
  | ((with_reducible show wpAny _ _ (getMethod _ _ _) _ _ _); refine a_meth (by assumption) (by assumption) (pcKK _) (by wtm_at "mem") (by wtm_at "fr") (gF_none (by decide)) rfl rfl ?_)
  | ((with_reducible show wpAny _ _ (evalPart _ _) _ _ _); first
    | ((with_reducible show wpAny _ _ (evalPart none _) _ _ _); refine wpAny_evalPart_none ?_)
    | ((with_reducible show wpAny _ _ (evalPart (some _) _) _ _ _); refine wpAny_evalPart_some ?_))
  | ((with_reducible show Flow.next = Flow.next ∧ _); refine ⟨rfl, ?_⟩)
  | ((with_reducible show ite _ _ _); first | refine ite_yes (by wtm_at "yes") ?_ | refine ite_no (by wtm_at "no") ?_ | split)
  | ((with_reducible show ∃ l vs, Value.ref _ = Value.ref l ∧ _); refine onOP (by assumption) (by wtm_at "fr") ?_)
  | ((with_reducible show ∃ l vs, _ = Value.ref l ∧ _ ∧ _); refine onVP (by assumption) (by wtm_at "mem") ?_)
  | (with_reducible refine w_appendL (by assumption) (by wtm_at "up") (by wtm_at "mem") ?_ (fun _ _ => ?_))
  | (with_reducible refine ⟨_, _, _, _, _, by assumption, by wtm_at "up", by wtm_at "mem", ?_, fun _ _ => ?_⟩)
  | (with_reducible refine ⟨_, _, _, _, by assumption, by wtm_at "mem", by wtm_at "mem", ?_, fun _ _ _ => ?_⟩)
  | (with_reducible refine ⟨_, _, _, by assumption, (List.cons_ne_nil _ _), by wtm_at "mem", fun _ _ _ => ?_⟩)
  | (with_reducible refine ⟨_, _, _, _, by assumption, (List.cons_ne_nil _ _), by wtm_at "mem", by wtm_at "mem", fun _ _ _ => ?_⟩)
  | (with_reducible refine sl_fromL (by assumption) (List.cons_ne_nil _ _) (by wtm_at "mem") (by wtm_at "mem") (fun _ _ _ => ?_))
  | (with_reducible refine sl_toL (by assumption) (List.cons_ne_nil _ _) (by wtm_at "mem") (by wtm_at "mem") (fun _ _ _ => ?_))
  | (with_reducible refine sl_allL (by assumption) (List.cons_ne_nil _ _) (by wtm_at "mem") (fun _ _ _ => ?_))
  | ((with_reducible show ∃ ts', St _ _ _ ts' _ ∧ _ ∧ _); exact ⟨_, by assumption, by wtm_at "sub", by wtm_at "mem"⟩)
  | ((with_reducible show _ = _ ∧ (_ = true → wpAny _ _ _ _ _ _) ∧ (_ = false → _)); refine ⟨by first | rfl | (simp only [decide_eq_decide]; omega), fun _ => ?_, fun _ => ⟨_, by assumption, by wtm_at "sub"⟩⟩)
  | ((with_reducible show ∃ cs ts, St _ _ cs ts _ ∧ _); with_reducible refine ⟨_, _, by assumption, ?_⟩)
  | fail)
section
variable {g : Heap} {mg mb : Str → Option Value} {s₀ s : Shared} {cs cs' : List (Addr × OD)} {ts ts' : List (Value × D)} {prog : Program} {w : World} {A : Around} {n : Nat} {Q : Value → Shared → Prop}
/-- what the script's cell holds -/
noncomputable def cellN (ns : List Int) (k : Nat) : Nat := if h : k < ns.length then (ns[k]).natAbs else 37 * k + 11

theorem mul37 (k : Int) : IntMulOk 37 k := PySem.IntMulOk.of_left (by decide)
theorem law_cell_spec {a : Addr} {vs : List Value} {ns : List Int} {v : Value} {k : Nat} (G : Gd (KK w.params) g mg mb) (hA : Ok (n + 1) A) (S : St g s₀ cs ts s) (hc : cs ≠ [])
    (hl : g.IsList a vs.toArray) (hi : IntsAre vs ns) (hlen : ns.length ≤ 63) (hk : k ≤ 10) (hv : (v, .int k) ∈ ts)
    (h : ∀ v s', St g s₀ cs ((v, .int (cellN ns k : Nat)) :: ts) s' → Q v s') : wpAny (model prog w) A (call (.ref 193) [.ref a, v]) Q NoE s := by
  refine call_fn (fd := fdCell) (body := bdCell) (nms := ["script", "k"]) (S.tval (.ref a)) G hA hc (hoCell _) (hcCell _) hbCell (haCell _ _) (ls := [("script", .val (.ref a)), ("k", .int k)]) (.cons (by wtm_at "mem") (.cons (by wtm_at "mem") .nil)) (fun L s' S' => ?_)
  show wpAny _ _ (execs (_ :: _) _) _ _ _
  repeat wtm_at "st"
  rename_i v1 S2
  have hls := hi.length
  refine Calls.call_len_list (hl.at (S2.ground _)) (by simp; omega) ?_
  have S3 := (S2.toks (t := s'.toks + 1 + 1)).tint (vs.toArray.size : Nat) (s'.toks + 1)
  have hsz : vs.toArray.size = ns.length := by simp; omega
  have S3 : St g s₀ _ ((_, dN vs.toArray.size) :: _) _ := S3
  by_cases hlt : k < ns.length
  · have hy : decide (k < vs.toArray.size) = true := decide_eq_true (by omega)
    wtm_at "go"
    rename_i v5 S5
    obtain ⟨t, rfl⟩ := den_int (S5.den List.mem_cons_self)
    obtain ⟨t', hx⟩ := hi.get k ns[k] (by simp [hlt])
    refine tail_any (Heap.IsList.typeIs (hl.at (S5.ground _))) slot_list_getitem.lookup (wpAny_getItem_list (hl.at (S5.ground _)) (by omega) (by omega) (x := .int ns[k] t') (by simpa using hx) ?_) (by with_unfolding_all rfl)
    have S6 := S5.tint ns[k] t'
    wtm_at "go"
    rename_i v7 s7 S7
    refine h _ _ ((S7.csub (List.sublist_cons_self _ _)).tsub fun p hp => ?_)
    rcases List.mem_cons.mp hp with rfl | hp
    · rw [cellN, dif_pos hlt]; exact List.mem_cons_self
    · simp only [List.mem_cons]; simp [hp]
  · have hn : ¬decide (k < vs.toArray.size) = true := fun q => hlt (by have := of_decide_eq_true q; omega)
    wtm_at "go"
    rename_i v7 s7 S7
    refine h _ _ ((S7.csub (List.sublist_cons_self _ _)).tsub fun p hp => ?_)
    rcases List.mem_cons.mp hp with rfl | hp
    · rw [cellN, dif_neg hlt]; exact List.mem_cons_self
    · simp only [List.mem_cons]; simp [hp]
end
section
variable {g : Heap} {mg mb : Str → Option Value} {s₀ s : Shared} {cs cs' : List (Addr × OD)} {ts ts' : List (Value × D)} {prog : Program} {w : World} {A : Around} {n : Nat} {Q : Value → Shared → Prop}
theorem order_step {order left : List Nat} {k x : Nat} (h : left[k]? = some x) : ((order ++ [x]) ++ (left.take k ++ left.drop (k + 1))).Perm (order ++ left) := by
  obtain ⟨hk, rfl⟩ := List.getElem?_eq_some_iff.mp h
  rw [List.append_assoc]
  refine List.Perm.append_left _ ?_
  have e : left = left.take k ++ left[k] :: left.drop (k + 1) := by rw [← List.drop_eq_getElem_cons hk, List.take_append_drop]
  conv => rhs; rw [e]
  simp only [List.singleton_append]
  exact List.perm_middle.symm
theorem law_order_spec {v u : Value} {N c : Nat} (G : Gd (KK w.params) g mg mb) (hA : Ok (n + 3) A) (S : St g s₀ cs ts s) (hc : cs ≠ [])
    (hN : N ≤ 10) (hv : (v, dN N) ∈ ts) (hu : (u, dN c) ∈ ts)
    (h : ∀ v s' (l : List Nat), l.Perm (List.range N) → St g s₀ cs ((v, dL l) :: ts) s' → Q v s') : wpAny (model prog w) A (call (.ref 200) [v, u]) Q NoE s := by
  refine call_fn (fd := fdOrder) (body := bdOrder) (nms := ["count", "cell"]) S G hA hc (hoOrder _) (hcOrder _) hbOrder (haOrder _ _) (ls := [("count", dN N), ("cell", dN c)]) (.cons (by wtm_at "mem") (.cons (by wtm_at "mem") .nil)) (fun L s' S' => ?_)
  have hh : (A.deeper (callEnv fdOrder L 200)).handled = none := hA.hd
  have hlim : N ≤ lim := by unfold lim; omega
  show wpAny _ _ (execs (_ :: _) _) _ _ _
  wtm_at "go"
  refine e_nilO (by assumption) (List.cons_ne_nil _ _) (fun a s1 S1 => ?_)
  have S2 := S1.tval (.ref a)
  wtm_at "go"
  rename_i v3 s3 S3
  refine for_range_code hh S3 (List.cons_ne_nil _ _) (.head _) (base := ts) (fun p hp => by simp [hp]) hlim
    (P := fun i cs' => ∃ (left order : List Nat) (c : Nat), cs' = (a, .list (order.map dN)) :: (L, .names [("count", dN N), ("cell", dN c), ("left", dL left), ("order", .val (.ref a))]) :: cs ∧ (order ++ left).Perm (List.range N) ∧ order.length = i)
    ⟨List.range N, [], c, rfl, .refl _, rfl⟩ (fun i v it od cs' s hi ⟨left, order, c, hcs, hp, hl⟩ S => ?_) (fun cs' s ⟨left, order, c, hcs, hp, hl⟩ S => ?_)
  · subst hcs
    have hln : left.length + order.length = N := by have := hp.length_eq; simp at this; omega
    wtm_at "go"
    · exact Nat.mod_lt _ (by omega)
    · have hx := ‹left[c % left.length]? = some _›
      exact TurnTo.nextN (by assumption) (ls' := [("count", dN N), ("cell", dN (c / left.length)), ("left", dL _), ("order", .val (.ref a))]) (.tail .head) (by wtm_at "subl") (by wtm_at "sub")
        ⟨_, order ++ [_], _, by rw [List.map_append]; rfl, .trans (order_step hx) hp, by simp; omega⟩
  · subst hcs
    show wpAny _ _ (execs (_ :: _) _) _ _ _
    wtm_at "go"
    show Q _ _
    have h0 : left = [] := List.length_eq_zero_iff.mp (by have := hp.length_eq; simp at this; omega)
    rw [h0, List.append_nil] at hp
    exact h _ _ order hp (S.freezeList.leave (.head _) (by wtm_at "sub"))
end
section
variable {g : Heap} {mg mb : Str → Option Value} {s₀ s : Shared} {cs cs' : List (Addr × OD)} {ts ts' : List (Value × D)} {prog : Program} {w : World} {A : Around} {n : Nat} {Q : Value → Shared → Prop}
noncomputable def IsOrders (N : Nat) (os : List (List Nat)) : Prop := os.length = N ∧ ∀ (k : Nat) (o : List Nat), os[k]? = some o → o.Perm ((List.range N).filter fun j => decide (j ≠ k))
theorem others_len {i N : Nat} (h : i < N) : ((List.range N).filter fun j => decide (j ≠ i)).length = N - 1 := by
  have e : (List.range N).filter (fun j => decide (j ≠ i)) = (List.range N).erase i := by
    rw [List.nodup_range.erase_eq_filter]
    refine List.filter_congr fun j _ => ?_
    rw [Bool.eq_iff_iff, decide_eq_true_iff, bne_iff_ne]
  rw [e, List.length_erase_of_mem (List.mem_range.mpr h), List.length_range]
theorem range_getD {l : List Nat} {n : Nat} (h : l.length = n) : (List.range n).map (fun j => l.getD j 0) = l := by
  subst h
  refine List.ext_getElem (by simp) fun i h1 h2 => ?_
  simp [h2]
theorem law_orders_spec {a : Addr} {vs : List Value} {ns : List Int} {v : Value} {N : Nat} (G : Gd (KK w.params) g mg mb) (hA : Ok (n + 8) A) (S : St g s₀ cs ts s) (hc : cs ≠ [])
    (hl0 : g.IsList a vs.toArray) (hi0 : IntsAre vs ns) (hlen : ns.length ≤ 63) (hN : N ≤ 6) (hN2 : 2 ≤ N) (hv : (v, dN N) ∈ ts)
    (h : ∀ v s' os, IsOrders N os → St g s₀ cs ((v, .list (os.map dL)) :: ts) s' → Q v s') : wpAny (model prog w) A (call (.ref 205) [.ref a, v]) Q NoE s := by
  refine call_fnD (fd := fdOrders) (body := bdOrders) (S.tval (.ref a)) G hA hc (hoOrders _) (hcOrders _) hbOrders (haOrders _ _) (ls := [("script", .val (.ref a)), ("count", dN N)]) (cm := [])
    (cl := fun L => [("others", L + 2), ("k", L + 1)]) (co := fun L => [(L + 2, .cell none), (L + 1, .cell none)])
    (fun L c => List.forall_mem_cons.mpr ⟨⟨_, rfl, by wtm_at "mem"⟩, List.forall_mem_cons.mpr ⟨⟨_, rfl, by wtm_at "mem"⟩, List.forall_mem_nil _⟩⟩)
    (fun L c => List.forall_mem_nil _) (fun L => rfl) (fun L => rfl)
    (fun n => List.forall_mem_cons.mpr ⟨.inl rfl, List.forall_mem_cons.mpr ⟨.inl rfl, List.forall_mem_nil _⟩⟩) (fun L s' S' => ?_)
  have hh : (A.deeper (clEnv fdOrders L 205 [("others", L + 2), ("k", L + 1)])).handled = none := hA.hd
  dsimp only [List.cons_append, List.nil_append] at S'
  show wpAny _ _ (execs (_ :: _) _) _ _ _
  wtm_at "go"
  refine e_nilO (by assumption) (List.cons_ne_nil _ _) (fun r s1 S1 => ?_)
  have S2 := S1.tval (.ref r)
  wtm_at "go"
  rename_i v3 s3 S3
  refine for_range_code hh S3 (List.cons_ne_nil _ _) (.head _) (base := (.ref a, .val (.ref a)) :: ts) (by wtm_at "subm") (by wtm_at "sd")
    (P := fun i cs' => ∃ (os : List (List Nat)) (c1 c2 : Option D), cs' = (r, .list (os.map dL)) :: (L, .names [("script", .val (.ref a)), ("count", dN N), ("orders", .val (.ref r))]) :: (L + 2, .cell c2) :: (L + 1, .cell c1) :: cs ∧ os.length = i ∧ ∀ (k : Nat) (o : List Nat), os[k]? = some o → o.Perm ((List.range N).filter fun j => decide (j ≠ k)))
    ⟨[], none, none, rfl, rfl, fun k o q => by cases q⟩ (fun i v it od cs' s hi ⟨os, c1, c2, hcs, hl, hp⟩ S => ?_) (fun cs' s ⟨os, c1, c2, hcs, hl, hp⟩ S => ?_)
  · subst hcs
    wtm_at "go"
    rename_i v4 s4 S4
    refine cs_if hh S4 (List.cons_ne_nil _ _) (.rng (by wtm_at "mem") (by wtm_at "sd")) (fun j => decide (j ≠ i)) (fun j => j) dN (fun j hj v' Lc it' od' acc oda s5 S5 => ?_) (fun v5 s5 S5 => ?_)
    · wtm_at "go"
    · rw [List.map_id'] at S5
      wtm_at "go"
      refine law_cell_spec G (by wtm_at "ok") (by assumption) (List.cons_ne_nil _ _) hl0 hi0 hlen (k := 1 + i) (by omega) (by wtm_at "mem") (fun v6 s6 S6 => ?_)
      wtm_at "go"
      refine law_order_spec G (by wtm_at "ok") (by assumption) (List.cons_ne_nil _ _) (N := N - 1) (by omega) (by wtm_at "mem") (by wtm_at "mem") (fun v7 s7 lo hlo S7 => ?_)
      refine cs_all hh S7 (List.cons_ne_nil _ _) (.list (l := lo) (.head _)) (fun j => ((List.range N).filter fun j => decide (j ≠ i)).getD j 0) dN (fun j hj v' Lc it' od' acc oda s8 S8 => ?_) (fun v8 s8 S8 => ?_)
      · have hjn : j < N - 1 := by have := hlo.mem_iff.mp hj; simpa using this
        have hol := others_len hi
        wtm_at "go"
        · rename_i x hx v9 S9
          have : ((List.range N).filter fun j => decide (j ≠ i)).getD j 0 = x := by rw [List.getD_eq_getElem?_getD, hx]; rfl
          rw [this]
          wtm_at "st"
      · wtm_at "go"
        refine TurnTo.nextN (by assumption) (ls' := [("script", .val (.ref a)), ("count", dN N), ("orders", .val (.ref r))]) (.tail .head) (by wtm_at "subl") (by wtm_at "sub")
          ⟨os ++ [lo.map fun j => ((List.range N).filter fun j => decide (j ≠ i)).getD j 0], _, _, by rw [List.map_append]; rfl, by simp; omega, fun k o hk => ?_⟩
        rcases Nat.lt_or_ge k os.length with hlt | hge
        · exact hp k o (by rw [← hk, List.getElem?_append_left hlt])
        · rw [List.getElem?_append_right hge] at hk
          have hk0 : k = i := by
            have := (List.getElem?_eq_some_iff.mp hk).1
            simp at this; omega
          subst hk0
          rw [hl, Nat.sub_self] at hk
          cases hk
          exact (hlo.map _).trans (by rw [range_getD (others_len hi)])
  · subst hcs
    show wpAny _ _ (execs (_ :: _) _) _ _ _
    wtm_at "go"
    show Q _ _
    exact h _ _ os ⟨hl, hp⟩ (S.freezeList.leaveC (by wtm_at "sl") (.head _) (by wtm_at "sub"))
end
section
variable {g : Heap} {mg mb : Str → Option Value} {s₀ s : Shared} {cs cs' : List (Addr × OD)} {ts ts' : List (Value × D)} {prog : Program} {w : World} {A : Around} {n : Nat} {Q : Value → Shared → Prop}
/-! players -/
noncomputable def pF (nm : Str) (pr ma pn op : D) : Str → Option D := setF (setF (setF (setF (setF (fun _ => none) "name" (.str nm)) "prefs" pr) "matching" ma) "_pref_names" pn) "_original_prefs" op
theorem setF_comm {f : Str → Option D} {x y : Str} {d e : D} (h : x ≠ y) : setF (setF f x d) y e = setF (setF f y e) x d := by
  funext z; unfold setF
  by_cases h1 : z = y
  · subst h1; rw [if_pos rfl, if_neg (fun e => h e.symm), if_pos rfl]
  · rw [if_neg h1]
    by_cases h2 : z = x
    · subst h2; rw [if_pos rfl, if_pos rfl]
    · rw [if_neg h2, if_neg h2, if_neg h1]
theorem setF_same {f : Str → Option D} {x : Str} {d e : D} : setF (setF f x d) x e = setF f x e := by
  funext z; unfold setF
  by_cases h1 : z = x
  · rw [if_pos h1, if_pos h1]
  · rw [if_neg h1, if_neg h1, if_neg h1]
section
variable {nm : Str} {pr ma pn op d : D}
theorem pF_prefs : setF (pF nm pr ma pn op) "prefs" d = pF nm d ma pn op := by
  unfold pF
  rw [setF_comm (x := "_original_prefs") (by decide), setF_comm (x := "_pref_names") (by decide), setF_comm (x := "matching") (by decide), setF_same]
theorem pF_matching : setF (pF nm pr ma pn op) "matching" d = pF nm pr d pn op := by
  unfold pF
  rw [setF_comm (x := "_original_prefs") (by decide), setF_comm (x := "_pref_names") (by decide), setF_same]
theorem pF_pn : setF (pF nm pr ma pn op) "_pref_names" d = pF nm pr ma d op := by
  unfold pF
  rw [setF_comm (x := "_original_prefs") (by decide), setF_same]
theorem pF_op : setF (pF nm pr ma pn op) "_original_prefs" d = pF nm pr ma pn d := by
  unfold pF
  rw [setF_same]
theorem gF_name : pF nm pr ma pn op "name" = some (.str nm) := by
  unfold pF setF; rw [if_neg (by decide), if_neg (by decide), if_neg (by decide), if_neg (by decide), if_pos rfl]
theorem gF_prefs : pF nm pr ma pn op "prefs" = some pr := by
  unfold pF setF; rw [if_neg (by decide), if_neg (by decide), if_neg (by decide), if_pos rfl]
theorem gF_matching : pF nm pr ma pn op "matching" = some ma := by
  unfold pF setF; rw [if_neg (by decide), if_neg (by decide), if_pos rfl]
theorem gF_pn : pF nm pr ma pn op "_pref_names" = some pn := by
  unfold pF setF; rw [if_neg (by decide), if_pos rfl]
theorem gF_op : pF nm pr ma pn op "_original_prefs" = some op := by
  unfold pF setF; rw [if_pos rfl]
theorem gF_none {x : Str} (h : x ∉ (["name", "prefs", "matching", "_pref_names", "_original_prefs"] : List Str)) : pF nm pr ma pn op x = none := by
  simp only [List.mem_cons, List.not_mem_nil, or_false, not_or] at h
  unfold pF setF; rw [if_neg h.2.2.2.2, if_neg h.2.2.2.1, if_neg h.2.2.1, if_neg h.2.1, if_neg h.1]
end
theorem a_setK {v u : Value} {x dx : Addr} {k : Nat} {f : Str → Option D} {d : D} {name : Str} {Q : Unit → Shared → Prop} (S : St g s₀ cs ts s) (G : Gd (KK w.params) g mg mb)
    (hv : (v, .obj x dx) ∈ ts) (hu : (u, d) ∈ ts) (U : Upd dx (.attrs k f) (.attrs (k + 1) (setF f name d)) cs cs') (hkb : k + 1 ≤ 1000)
    (ht : takerIn (KK w.params) cP name = some none) (h : ∀ s', St g s₀ cs' ts s' → Q () s') : wpAny (model prog w) A (setAttr v name u) Q NoE s := a_set S G (pcKK _) hv hu U (.inl rfl) hkb ht h
theorem call_fnK {K : Frag} {fa : Addr} {oc : Value} {od : Option Addr} {sl : Array (Option Value)} {fd : FuncData} {body : List Stmt} {vals : List Value} {binds : List (Str × Value)} {ls : List (Str × D)} {n : Nat} {R : Result → Shared → Prop}
    (S : St g s₀ cs ts s) (G : Gd K g mg mb) (hA : Ok n A) (hc : cs ≠ [])
    (ho : K.lookup fa = some ⟨oc, od, .func fd, sl⟩) (hcd : codeIn K fd.code fd.qualname = true) (hbody : fd.body = .stmts body) (hbind : bindArgs fd ⟨vals, []⟩ = pure binds) (hz : BZ ts binds ls) {nms : List Str}
    (h : ∀ L s', St g s₀ ((L, .names ls) :: cs) ts s' → wpAny (model prog w) (A.deeper (callEnv fd L fa)) (execs body (callEnv fd L fa)) (fun fl s'' => R (.ok (.ret (retV fl))) s'') NoE s')
    (hnm : binds.map (·.1) = nms := by rfl) (hndn : nms.Nodup := by decide)
    (hcell : (fd.scope.names.all fun x => x.2 != .cell) = true := by rfl) (hlocn : (nms.all fun x => fd.scope.names.lookup x == some .local) = true := by rfl)
    (hco : fd.scope.isCoroutine = false := by rfl) (hgen : fd.scope.isGenerator = false := by rfl) (hk : fd.scope.kind = .function := by rfl) :
    codeAny (model prog w) A (.call (.ref fa) ⟨vals, []⟩) R s := by
  have hnd : (binds.map (·.1)).Nodup := hnm ▸ hndn
  have hloc : ∀ x ∈ binds, fd.scope.names.lookup x.1 = some .local := fun x hx => by
    have := List.all_eq_true.mp hlocn x.1 (hnm ▸ List.mem_map_of_mem hx)
    simpa using this
  have hcell' : ∀ x ∈ fd.scope.names, x.2 ≠ .cell := fun x hx => by
    have := List.all_eq_true.mp hcell x hx
    simpa using this
  refine codeAny_call_def hA.room ((S.kin G) _ _ ho) rfl (S.nolim G) (codeRec_of (S.kin G) hcd) hbody (.of_eq hbind) hcell' hloc (fun h₀ hn hkp => ?_) hco hgen hk
  refine noE (wpAny_mono (h _ _ (S.frame hc hn hkp fun p hp => ?_)) (fun fl s' q => ?_) fun _ _ q => q)
  · obtain ⟨v, h1, h2⟩ := hz.mem p hp
    exact ⟨v, lookup_nodup hnd h1, h2⟩
  · cases fl <;> exact q
theorem binit_spec {v u : Value} {x dx : Addr} {nm : Str} {R : Result → Shared → Prop} (G : Gd (KK w.params) g mg mb) (hA : Ok (n + 1) A) (S : St g s₀ ((dx, .attrs 0 fun _ => none) :: cs) ts s)
    (hv : (v, .obj x dx) ∈ ts) (hu : (u, .str nm) ∈ ts) (h : ∀ s', St g s₀ ((dx, .attrs 5 (pF nm (.list []) (.val .none) (.list []) (.val .none))) :: cs) ts s' → R (.ok (.ret .none)) s') :
    codeAny (model prog w) A (.call (.ref 49) ⟨[v, u], []⟩) R s := by
  refine call_fnK (fd := fdBInit) (body := bdBInit) (nms := ["self", "name"]) S G hA (List.cons_ne_nil _ _) (hoBInit _) (hcBInit _) hbBInit (haBInit _ _) (ls := [("self", .obj x dx), ("name", .str nm)]) (.cons (by wtm_at "mem") (.cons (by wtm_at "mem") .nil)) (fun L s' S' => ?_)
  show wpAny _ _ (execs (_ :: _) _) _ _ _
  wtm_at "st"
  wtm_at "go"
  refine a_setK (by assumption) (by assumption) (by wtm_at "mem") (by wtm_at "mem") (.tail .head) (by decide) rfl (fun s1 S1 => ?_)
  wtm_at "go"
  wtm_at "go"
  refine a_setK (by assumption) (by assumption) (by wtm_at "mem") (by wtm_at "mem") (.tail .head) (by decide) rfl (fun s1 S1 => ?_)
  wtm_at "go"
  wtm_at "go"
  refine a_setK (by assumption) (by assumption) (by wtm_at "mem") (by wtm_at "mem") (.tail .head) (by decide) rfl (fun s1 S1 => ?_)
  wtm_at "go"
  wtm_at "go"
  refine a_setK (by assumption) (by assumption) (by wtm_at "mem") (by wtm_at "mem") (.tail .head) (by decide) rfl (fun s1 S1 => ?_)
  wtm_at "go"
  wtm_at "go"
  refine a_setK (by assumption) (by assumption) (by wtm_at "mem") (by wtm_at "mem") (.tail .head) (by decide) rfl (fun s1 S1 => ?_)
  wtm_at "go"
  exact h _ ((S1.csub (List.sublist_cons_self _ _)).tsub (by wtm_at "sub"))
end
local macro_rules | `(tactic| wtm_at "at") => `(tactic| first | exact gF_name | exact gF_prefs | exact gF_matching | exact gF_pn | exact gF_op | assumption)
local macro_rules | `(tactic| wtm_at "st") => `(tactic| first
  | ((with_reducible show wpAny _ _ (getMethod _ _ _) _ _ _); refine a_meth (by assumption) (by assumption) (pcKK _) (by wtm_at "mem") (by wtm_at "fr") (gF_none (by decide)) rfl rfl ?_))
section
variable {g : Heap} {mg mb : Str → Option Value} {s₀ s : Shared} {cs cs' : List (Addr × OD)} {ts ts' : List (Value × D)} {prog : Program} {w : World} {A : Around} {n : Nat} {Q : Value → Shared → Prop}
structure PO (prog : Program) : Prop where
  file : ((prog.main.file : Str) == (Str.ofString "/claim/cut.py")) = true
  top : (prog.main.scope.names.lookup ("super" : Str)).isSome = false
theorem Ok.underMake {C : Addr} {rest : List Value} {kw : List (Str × Value)} (h : Ok (n + 1) A) : Ok n (A.under (.builtin "type.__call__" ⟨.ref C :: rest, kw⟩)) := by
  have e1 : (Code.builtin "type.__call__" ⟨.ref C :: rest, kw⟩).weight = 1 := by kernel_rfl
  have e2 : (Code.builtin "type.__call__" ⟨.ref C :: rest, kw⟩).cUnits = 1 := by kernel_rfl
  refine ⟨h.hd, ?_, ?_⟩
  · have := h.dp
    show A.depth + _ + n < _
    omega
  · have := h.un
    show A.units + _ + 8 * n + 80 < _
    omega
theorem pinit_super {v : Value} {x dx : Addr} {nm : Str} (PP : PO prog) (G : Gd (KK w.params) g mg mb) (hA : Ok (n + 3) A) (S : St g s₀ ((dx, .attrs 0 fun _ => none) :: cs) ts s)
    (hx : (.ref x, .obj x dx) ∈ ts) (hv : (v, .str nm) ∈ ts) {R : Result → Shared → Prop} (h : ∀ s', St g s₀ ((dx, .attrs 5 (pF nm (.list []) (.val .none) (.list []) (.val .none))) :: cs) ts s' → R (.ok (.ret .none)) s') :
    codeAny (model prog w) A (.call (.ref 145) ⟨[.ref x, v], []⟩) R s := by
  have X := S.kin G
  refine ks_codeAny_call_defAt (fd := fdPInit) (body := bdPInit) (binds := [("self", .ref x), ("name", v)]) hA.room (X _ _ (hoPInit _)) rfl (S.nolim G) (codeRec_of X (hcPInit _)) hbPInit (.of_eq (haPInit _ _))
    (by decide) (fun y hy => by rcases List.mem_cons.mp hy with rfl | hy; rfl; rcases List.mem_cons.mp hy with rfl | hy; rfl; cases hy) (fun h₀ hn hk => ?_)
  have S1 := S.frame (t := s.toks + 2) (ls := [("self", .obj x dx), ("name", .str nm)]) (List.cons_ne_nil _ _) hn hk (fun p hp => by
    rcases List.mem_cons.mp hp with rfl | hp
    · exact ⟨.ref x, rfl, hx⟩
    rcases List.mem_cons.mp hp with rfl | hp
    · exact ⟨v, rfl, hv⟩
    cases hp)
  generalize s.heap.objs.size = L at S1 ⊢
  generalize ({ s with heap := h₀, toks := s.toks + 2 } : Shared) = s1 at S1
  show _root_.PySem.wpAt _ _ _ (execs (_ :: _) _) _ _ s1
  refine ks_wpAt_execs_cons (ks_wpAt_Expr_any (ks_wpAt_MethodCall (pl := _) (ks_wpAt_super_base (f := 145) (cc := 144) (ar := ⟨"self", none, _⟩) rfl rfl rfl rfl ((S1.kin G) _ _ (hoPInit _)) rfl rfl rfl ((S1.kin G) 144 _ rfl) rfl rfl PP.file PP.top ?_)))
  have X1 := S1.kin G
  obtain ⟨V, hV, m1, hns, hself⟩ := S1.own (.head _)
  obtain ⟨v0, hv0, hD0⟩ := hself ("self", .obj x dx) (.head _)
  obtain rfl := (den_obj hD0).1
  have hxo := (den_obj (S1.den hx)).2
  refine ks_loadName_global rfl rfl (loadGlobal_builtin (S1.gns G) (mg_none_of G.kin G.gns rfl) (S1.bns G) ((G.bts _ (by decide)).trans rfl) ⟨rfl, ?_⟩)
  refine wpAny_loadName_free rfl rfl rfl ⟨_, X1 133 _ rfl, rfl⟩ ?_
  refine wpAny_loadName_local rfl rfl hns hv0 ?_
  obtain ⟨hh, gg, d, t, os⟩ := s1
  refine ks_wpAny_isType_cls (X1 184 _ rfl) rfl ⟨rfl, ?_⟩
  refine ks_wpAny_call_super (X1 184 _ rfl) rfl hxo rfl (fun c e => by cases e) (looks_mroIn X1 (by rfl)) (fun h' e k => ?_)
  have S2 := S1.keep (h' := h') (t := t) k
  have X2 : (KK w.params).In h' := S2.kin G
  refine ks_wpAny_getMethod_super (K := KK w.params) (f := 49) e (looks_opaque X2 rfl) (fun A Q E s k q => wpAny_bind ((looks_clsIn X2 (C := 184) rfl) A _ E s k (wpAny_pure q))) rfl X2 rfl (X2 49 _ (hoBInit _)) rfl ?_ (by decide) ?_
  · rintro rfl
    have e := X1 184 _ rfl
    rw [hxo] at e
    cases e
  have S3 := S2.keep (h' := h'.push { cls := .type "method", data := .fields #[.ref 49, .ref x] }) (t := t + 1) (fun b o q => Heap.get?_push_of_some _ q)
  have hq : (h'.push { cls := .type "method", data := .fields #[.ref 49, .ref x] }).get? h'.objs.size = some (methodObj (.ref 49) (.ref x)) := Heap.get?_push_at rfl rfl
  refine callWith_of (P := MethP (KK w.params) h'.objs.size 49 (.ref x)) rfl (keeps_M rfl) (evalArgs_plain (spliced_cons ?_))
  refine nm_local S3 (.head _) (.tail _ (.head _)) (fun v1 S4 => ?_)
  refine spliced_nil ⟨⟨hq, S4.kin G⟩, wpAny_call (method_call hq ?_)⟩
  refine binit_spec G (hA.deeper _) (S4.perm (cs' := (dx, .attrs 0 fun _ => none) :: _ :: cs) (List.Perm.swap _ _ _)) (.tail _ hx) (.head _) (fun s5 S5 => ?_)
  refine wpAt_of_wpAny (wpAny_execs_nil ?_)
  exact h _ ((S5.csub (.cons_cons _ (List.sublist_cons_self _ _))).tsub (by wtm_at "sub"))
theorem make_player {v : Value} {nm : Str} (PP : PO prog) (G : Gd (KK w.params) g mg mb) (hA : Ok (n + 4) A) (S : St g s₀ cs ts s) (hc : cs ≠ []) (hv : (v, .str nm) ∈ ts)
    (h : ∀ x dx s', St g s₀ ((dx, .attrs 5 (pF nm (.list []) (.val .none) (.list []) (.val .none))) :: cs) ((.ref x, .obj x dx) :: ts) s' → Q (.ref x) s') :
    wpAny (model prog w) A (call (.ref 184) [v]) Q NoE s := by
  have X := S.kin G
  obtain ⟨⟨a₀, o₀⟩, r₀, rfl⟩ : ∃ p r, cs = p :: r := by cases cs with | nil => exact absurd rfl hc | cons p r => exact ⟨p, r, rfl⟩
  obtain ⟨hh, gg, d, t, os⟩ := s
  refine wpAny_call (make_core (makes_of X rfl) (looks_findIn X (r := some (.ref 145)) rfl) (fun self => bind_fn X self rfl) (.inl rfl) ?_)
  have S1 := S.alloc (t := t) (o := emptyDict) (od := .attrs 0 fun _ => none) rfl (fun V hV hts h a ha => ⟨_, #[], _, ha, rfl, fun e he => absurd he (Array.not_mem_empty e), Nat.le_refl 0, fun x => rfl⟩) (S.gsize (.head _))
  have S2 := S1.alloc (t := t) (o := instObj 184 hh.objs.size) (od := .raw (instObj 184 hh.objs.size)) rfl (fun V hV hts h a ha => ha) (S1.gsize (.head _))
  have e : (hh.push emptyDict).objs.size = hh.objs.size + 1 := Heap.size_push ..
  dsimp only at S1 S2
  rw [e] at S2
  have S3 := S2.freeze (d := .obj (hh.objs.size + 1) hh.objs.size) (fun V o ho hv V' k _ hr => by
    have hr : _ = some _ := hr
    rw [ho] at hr; cases hr
    exact .obj hv)
  refine pinit_super PP G hA.underMake S3 (.head _) (.tail _ hv) (fun s5 S5 => ⟨rfl, ?_⟩)
  exact h _ _ _ S5
end
section
variable {g : Heap} {mg mb : Str → Option Value} {s₀ s : Shared} {cs cs' : List (Addr × OD)} {ts ts' : List (Value × D)} {prog : Program} {w : World} {A : Around} {n : Nat} {Q : Value → Shared → Prop}
/-! a group of players -/
noncomputable def pname (k : Nat) : Str := Str.ofString "p" ++ (toString (k : Int))
noncomputable abbrev Fs := Nat → Str → Option D
noncomputable abbrev dxOf (ps : List (Addr × Addr)) (k : Nat) : Addr := (ps.getD k (0, 0)).2
noncomputable abbrev pD (ps : List (Addr × Addr)) (k : Nat) : D := .obj (ps.getD k (0, 0)).1 (ps.getD k (0, 0)).2
noncomputable def PLx (F : Fs) (ps : List (Addr × Addr)) : List (Addr × OD) := (List.range ps.length).map fun k => (dxOf ps k, .attrs 5 (F k))
noncomputable def upF (F : Fs) (k : Nat) (f : Str → Option D) : Fs := fun j => if j = k then f else F j
theorem PLx_snoc (F : Fs) (ps : List (Addr × Addr)) (p : Addr × Addr) : PLx F (ps ++ [p]) = PLx F ps ++ [(p.2, .attrs 5 (F ps.length))] := by
  unfold PLx dxOf
  rw [List.length_append, List.length_singleton, List.range_succ, List.map_append, List.map_singleton]
  congr 1
  · refine List.map_congr_left fun k hk => ?_
    rw [List.getD_eq_getElem?_getD, List.getD_eq_getElem?_getD, List.getElem?_append_left (List.mem_range.mp hk)]
  · simp
theorem PLx_mem {F : Fs} {ps : List (Addr × Addr)} {k : Nat} (hk : k < ps.length) : (dxOf ps k, OD.attrs 5 (F k)) ∈ PLx F ps ++ cs :=
  List.mem_append_left _ (List.mem_map.mpr ⟨k, List.mem_range.mpr hk, rfl⟩)
theorem range_split {n k : Nat} (h : k < n) : ∃ r, List.range n = List.range k ++ k :: r ∧ ∀ j ∈ r, j ≠ k := by
  have h1 : (List.range n).take k = List.range k := by rw [List.take_range]; congr 1; omega
  have h2 := List.drop_eq_getElem_cons (l := List.range n) (i := k) (by simpa using h)
  rw [List.getElem_range] at h2
  refine ⟨(List.range n).drop (k + 1), by rw [← h1, ← h2, List.take_append_drop], fun j hj => ?_⟩
  obtain ⟨i, hi, rfl⟩ := List.mem_iff_getElem.mp hj
  simp; omega
theorem PLx_upd {F : Fs} {ps : List (Addr × Addr)} {k : Nat} {f : Str → Option D} (hk : k < ps.length) : Upd (dxOf ps k) (.attrs 5 (F k)) (.attrs 5 f) (PLx F ps ++ cs) (PLx (upF F k f) ps ++ cs) := by
  obtain ⟨r, hr, hne⟩ := range_split hk
  refine ⟨(List.range k).map fun j => (dxOf ps j, .attrs 5 (F j)), (r.map fun j => (dxOf ps j, .attrs 5 (F j))) ++ cs, ?_, ?_⟩
  · unfold PLx
    rw [hr, List.map_append, List.map_cons, List.append_assoc, List.cons_append]
  · unfold PLx
    rw [hr, List.map_append, List.map_cons, List.append_assoc, List.cons_append]
    have e1 : upF F k f k = f := if_pos rfl
    have e2 : (List.range k).map (fun j => (dxOf ps j, OD.attrs 5 (upF F k f j))) = (List.range k).map fun j => (dxOf ps j, OD.attrs 5 (F j)) := by
      refine List.map_congr_left fun j hj => ?_
      have : j ≠ k := by have := List.mem_range.mp hj; omega
      rw [upF, if_neg this]
    have e3 : r.map (fun j => (dxOf ps j, OD.attrs 5 (upF F k f j))) = r.map fun j => (dxOf ps j, OD.attrs 5 (F j)) := by
      refine List.map_congr_left fun j hj => ?_
      rw [upF, if_neg (hne j hj)]
    rw [e1, e2, e3]
section
variable {env : Env}
theorem isNotO {v : Value} {x dx : Addr} {E : Value → Shared → Prop} {Q : Value → Shared → Prop} (S : St g s₀ cs ts s) (hv : (v, .obj x dx) ∈ ts) (h : Q (.bool true) s) : wpAny (model prog w) A (compareOp .IsNot v .none) Q E s := by
  obtain ⟨rfl, _⟩ := den_obj (S.den hv)
  exact isNot_none h
theorem execs_two {a b : Stmt} {rest : List Stmt} {Q : Flow → Shared → Prop} (C : Shared → Prop) (h1 : wpAny (model prog w) A (exec a env) (fun f s1 => f = .next ∧ wpAny (model prog w) A (exec b env) (fun f s2 => f = .next ∧ C s2) NoE s1) NoE s)
    (h2 : ∀ s', C s' → wpAny (model prog w) A (execs rest env) Q NoE s') : wpAny (model prog w) A (execs (a :: b :: rest) env) Q NoE s := by
  refine wpAny_execs_cons (noE (wpAny_mono h1 (fun f s1 ⟨hf, h3⟩ => ?_) fun _ _ q => q))
  subst hf
  refine wpAny_execs_cons (noE (wpAny_mono h3 (fun f s2 ⟨hf, h4⟩ => ?_) fun _ _ q => q))
  subst hf
  exact h2 _ h4
theorem a_getV {v u : Value} {x dx : Addr} {k : Nat} {f : Str → Option D} {name : Str} {attr : Option Value} {expr : Bool} {Q : Value → Shared → Prop} (S : St g s₀ cs ts s) (G : Gd (KK w.params) g mg mb)
    (hv : (v, .obj x dx) ∈ ts) (ha : (dx, .attrs k f) ∈ cs) (hf : f name = some (.val u)) (hn : findIn (KK w.params) (.ref cP) name = some attr) (hng : noGet (KK w.params) attr = true) (hu : handedIn u = true)
    (h : ∀ s', St g s₀ cs ((u, .val u) :: ts) s' → Q u s') : wpAny (model prog w) A (getAttr v name expr) Q NoE s := a_get S G (pcKK _) hv ha hf hn hng (fun V y hy => by rw [den_val hy]; exact hu) fun y s' S' => by
  have := den_val (S'.den (.head _))
  subst this
  exact h s' S'
theorem a_getO {v : Value} {x dx y dy : Addr} {k : Nat} {f : Str → Option D} {name : Str} {attr : Option Value} {expr : Bool} {Q : Value → Shared → Prop} (S : St g s₀ cs ts s) (G : Gd (KK w.params) g mg mb)
    (hv : (v, .obj x dx) ∈ ts) (ha : (dx, .attrs k f) ∈ cs) (hf : f name = some (.obj y dy)) (hn : findIn (KK w.params) (.ref cP) name = some attr) (hng : noGet (KK w.params) attr = true)
    (h : ∀ s', St g s₀ cs ((.ref y, .obj y dy) :: ts) s' → Q (.ref y) s') : wpAny (model prog w) A (getAttr v name expr) Q NoE s := a_get S G (pcKK _) hv ha hf hn hng (fun V u hu => by cases hu; rfl) fun u s' S' => by
  have := (den_obj (S'.den (.head _))).1
  subst this
  exact h s' S'
theorem cl_Player {e0 : Expr} {np pos : Pos} {Q : Value → Shared → Prop} (S : St g s₀ cs ts s) (G : Gd (KK w.params) g mg mb) (h : wpAny (model prog w) A (eval e0 env) (fun v s₁ => ∃ cs ts, St g s₀ cs ts s₁ ∧ wpAny (model prog w) A (call (.ref 184) [v]) Q NoE s₁) NoE s)
    (he : backTo pos (starEach [e0] env) = [(false, eval e0 env)] := by rfl) (hk : env.scope.kind = .function := by rfl) (hx : env.kindOf "Player" = some .globalImplicit := by rfl) (hg : env.globals = mainGlobals := by rfl) :
    wpAny (model prog w) A (eval (.Call (.Name "Player" np) [e0] [] pos) env) Q NoE s :=
  call_name (f := .ref 184) (nm_global S G (v := .ref 184) rfl ⟨rfl, rfl⟩ hk hx hg (by decide)) (he ▸ callWith_of (P := (KK w.params).In) rfl (keeps_K (K := KK w.params) (f := .ref 184) rfl) (evalArgs_plain (spliced_cons (wpAny_mono h (fun v s₁ ⟨cs, ts, S, q⟩ => spliced_nil ⟨S.kin G, q⟩) fun _ _ q => q))))
end
end
local macro_rules | `(tactic| wtm_at "ev") => `(tactic| first
  | ((with_reducible show wpAny _ _ (eval (Expr.Call (Expr.Name (PySem.Str.ofString "Player") _) _ _ _) _) _ _ _); refine cl_Player (by assumption) (by assumption) ?_))
local macro_rules | `(tactic| wtm_at "st") => `(tactic| first
  | ((with_reducible show wpAny _ _ (compareOp CmpOp.IsNot _ Value.none) _ _ _); first | refine isNotO (by assumption) (by wtm_at "mem") ?_ | refine isNot_none ?_)
  | ((with_reducible show wpAny _ _ (getAttr _ _ _) _ _ _); first | refine a_getV (by assumption) (by assumption) (by wtm_at "mem") (by wtm_at "fr") (by wtm_at "at") rfl rfl rfl (fun _ _ => ?_) | refine a_getO (by assumption) (by assumption) (by wtm_at "mem") (by wtm_at "fr") (by wtm_at "at") rfl rfl (fun _ _ => ?_) | refine a_get (by assumption) (by assumption) (pcKK _) (by wtm_at "mem") (by wtm_at "fr") (by wtm_at "at") rfl rfl (by wtm_at "hd") (fun _ _ _ => ?_)))
section
variable {g : Heap} {mg mb : Str → Option Value} {s₀ s : Shared} {cs cs' : List (Addr × OD)} {ts ts' : List (Value × D)} {prog : Program} {w : World} {A : Around} {n : Nat} {Q : Value → Shared → Prop}
theorem upF_upF {F : Fs} {k : Nat} {f f' : Str → Option D} : upF (upF F k f) k f' = upF F k f' := by
  funext j; unfold upF; by_cases h : j = k
  · rw [if_pos h, if_pos h]
  · rw [if_neg h, if_neg h, if_neg h]
theorem upF_self {F : Fs} {k : Nat} {f : Str → Option D} : upF F k f k = f := if_pos rfl
theorem upF_id {F : Fs} {k : Nat} : upF F k (F k) = F := by
  funext j; unfold upF; by_cases h : j = k
  · rw [if_pos h, h]
  · rw [if_neg h]
theorem PLx_up {F : Fs} {ps : List (Addr × Addr)} {k : Nat} {f f' : Str → Option D} (hk : k < ps.length) : Upd (dxOf ps k) (.attrs 5 f) (.attrs 5 f') (PLx (upF F k f) ps ++ cs) (PLx (upF F k f') ps ++ cs) := by
  have := PLx_upd (cs := cs) (F := upF F k f) (f := f') hk
  rw [upF_self, upF_upF] at this
  exact this
theorem PLx_at {F : Fs} {ps : List (Addr × Addr)} {k : Nat} {f : Str → Option D} (hk : k < ps.length) : (dxOf ps k, OD.attrs 5 f) ∈ PLx (upF F k f) ps ++ cs := (PLx_up (f' := f) hk).mem
theorem a_setP {v u : Value} {ps : List (Addr × Addr)} {k : Nat} {f f' : Str → Option D} {d : D} {name : Str} {Q : Unit → Shared → Prop} (S : St g s₀ cs ts s) (G : Gd (KK w.params) g mg mb)
    (hv : (v, pD ps k) ∈ ts) (hu : (u, d) ∈ ts) (hf : setF f name d = f') (U : Upd (dxOf ps k) (.attrs 5 f) (.attrs 5 f') cs cs') (hs : (f name).isSome = true)
    (ht : takerIn (KK w.params) cP name = some none) (h : ∀ s', St g s₀ cs' ts s' → Q () s') : wpAny (model prog w) A (setAttr v name u) Q NoE s := by
  subst hf
  exact a_set S G (pcKK _) hv hu U (.inr ⟨rfl, hs⟩) (by decide) ht h
section
variable {env : Env} {α β : Type} {f : α → D}
theorem cs_grow {v : Value} {l : List α} {x : Str} {elt : Expr} {cenv : Addr → Env} {Q : Value → Shared → Prop} (hh : A.handled = none) (S : St g s₀ cs ts s) (hc : cs ≠ []) (hi : ItA ts v l f) (P : Nat → List D → List (Addr × OD) → Prop) (p0 : P 0 [] cs)
    (T : ∀ i a, l[i]? = some a → ∀ v Lc it od acc oda cs rs s, P i rs cs → St g s₀ ((Lc, .names [(x, f a)]) :: (acc, oda) :: (it, od) :: cs) ((v, f a) :: ts) s →
      wpAny (model prog w) A (eval elt (cenv Lc)) (fun y s₂ => ∃ cs' ts' d, St g s₀ ((Lc, .names [(x, f a)]) :: (acc, oda) :: (it, od) :: cs') ts' s₂ ∧ (∀ p ∈ ts, p ∈ ts') ∧ (y, d) ∈ ts' ∧ P (i + 1) (rs ++ [d]) cs') NoE s)
    (done : ∀ v cs rs s, P l.length rs cs → St g s₀ cs ((v, .list rs) :: ts) s → Q v s) : wpAny (model prog w) A (pyIter v) (CG prog w A g s₀ cenv x [] elt Q) NoE s := by
  refine iter_any hh S hc hi fun it od val s' hv hl S' W => ⟨it, _, val, od, _, cs, P, rfl, W, hl, S', p0, ?_, fun a cs rs s hp S'' => done _ _ _ _ hp S''.freezeList⟩
  intro i v Lc it od acc oda cs rs s hi hp S
  rw [hv i hi] at S
  refine ifs_nil ?_
  rw [if_pos rfl]
  exact wpAny_mono (T i l[i] (by simp [hi]) v Lc it od acc oda cs rs s hp S) (fun y s₂ ⟨cs', ts', d, h1, h2, h3, h4⟩ => ⟨cs', ts', _, d, h1, h2, h3, h4⟩) fun _ _ q => q
end
noncomputable abbrev pnD (k : Nat) : D := .str (pname k)
theorem set_prefs_spec {v u : Value} {ps : List (Addr × Addr)} {k : Nat} {F : Fs} {l : List Nat} {pr ma pn : D} (G : Gd (KK w.params) g mg mb) (hA : Ok (n + 3) A) (hk : k < ps.length)
    (S : St g s₀ (PLx (upF F k (pF (pname k) pr ma pn (.val .none))) ps ++ cs) ts s) (hF : ∀ j, j < ps.length → F j "name" = some (.str (pname j))) (hv : (v, pD ps k) ∈ ts) (hu : (u, .list (l.map (pD ps))) ∈ ts) (hl : ∀ j ∈ l, j < ps.length)
    (h : ∀ s', St g s₀ (PLx (upF F k (pF (pname k) (.list (l.map (pD ps))) ma (.list (l.map pnD)) (.list (l.map (pD ps))))) ps ++ cs) ts s' → Q .none s') :
    wpAny (model prog w) A (call (.ref 80) [v, u]) Q NoE s := by
  have hne : PLx (upF F k (pF (pname k) pr ma pn (.val .none))) ps ++ cs ≠ [] := List.ne_nil_of_mem (PLx_at hk)
  refine call_fn (fd := fdSet) (body := bdSet) (nms := ["self", "players"]) S G hA hne (hoSet _) (hcSet _) hbSet (haSet _ _) (ls := [("self", pD ps k), ("players", .list (l.map (pD ps)))]) (.cons (by wtm_at "mem") (.cons (by wtm_at "mem") .nil)) (fun L s' S' => ?_)
  have hh : (A.deeper (callEnv fdSet L 80)).handled = none := hA.hd
  show wpAny _ _ (execs (_ :: _) _) _ _ _
  wtm_at "go"
  refine a_setP (by assumption) (by assumption) (by wtm_at "mem") (by wtm_at "mem") pF_prefs (.tail (PLx_up hk)) rfl rfl (fun s1 S1 => ?_)
  wtm_at "go"
  rename_i v2 S2
  refine cs_all hh S2 (List.cons_ne_nil _ _) (.list (l := l) (.head _)) pname D.str (fun j hj v' Lc it od acc oda s3 S3 => ?_) (fun v3 s3 S3 => ?_)
  · have hm := PLx_mem (cs := cs) (F := upF F k (pF (pname k) (.list (l.map (pD ps))) ma pn (.val .none))) (hl j hj)
    have hn : upF F k (pF (pname k) (.list (l.map (pD ps))) ma pn (.val .none)) j "name" = some (.str (pname j)) := by
      unfold upF
      by_cases hjk : j = k
      · rw [if_pos hjk, hjk]; exact gF_name
      · rw [if_neg hjk]; exact hF j (hl j hj)
    wtm_at "go"
  · rw [List.map_map] at S3
    wtm_at "go"
    refine a_setP (by assumption) (by assumption) (by wtm_at "mem") (by wtm_at "mem") pF_pn (.tail (PLx_up hk)) rfl rfl (fun s4 S4 => ?_)
    have hm4 := PLx_at (cs := cs) (F := F) (f := pF (pname k) (.list (l.map (pD ps))) ma (.list (l.map (D.str ∘ pname))) (.val .none)) hk
    wtm_at "go"
    refine a_setP (by assumption) (by assumption) (by wtm_at "mem") (by wtm_at "mem") pF_op (.tail (PLx_up hk)) rfl rfl (fun s5 S5 => ?_)
    wtm_at "go"
    exact h _ ((S5.csub (List.sublist_cons_self _ _)).tsub (by wtm_at "sub"))
theorem cw_f1S {K : Frag} {pos : Pos} {a : Addr} {oc : Value} {od : Option Addr} {sl : Array (Option Value)} {fd : FuncData} {first : List Value} {x : Sem Value} {Q : Value → Shared → Prop} (_S : St g s₀ cs ts s) (G : Gd K g mg mb) (ho : K.lookup a = some ⟨oc, od, .func fd, sl⟩)
    (h : wpAny (model prog w) A x (fun v s₁ => ∃ cs ts, St g s₀ cs ts s₁ ∧ wpAny (model prog w) A (call (.ref a) (first ++ [v])) Q NoE s₁) NoE s) :
    wpAny (model prog w) A (callWith pos (.ref a) first [(false, x)] []) Q NoE s := cw_f1 G ho h
theorem St.front (xs : List (Addr × OD)) {l r : List (Addr × OD)} (S : St g s₀ (xs ++ (l ++ r)) ts s) : St g s₀ (l ++ (xs ++ r)) ts s := S.perm (List.perm_append_comm_assoc l xs r)
theorem St.back (xs : List (Addr × OD)) {l r : List (Addr × OD)} (S : St g s₀ (l ++ (xs ++ r)) ts s) : St g s₀ (xs ++ (l ++ r)) ts s := S.perm (List.perm_append_comm_assoc xs l r)
noncomputable def F0 : Fs := fun k => pF (pname k) (.list []) (.val .none) (.list []) (.val .none)
noncomputable def hD (ps : List (Addr × Addr)) : Option Nat → D
  | none => .val .none
  | some j => pD ps j
noncomputable def FS (ps : List (Addr × Addr)) (X : Nat → D × D) (st : Nat → List Nat) (hd : Nat → Option Nat) : Fs := fun k => pF (pname k) (.list ((st k).map (pD ps))) (hD ps (hd k)) (X k).1 (X k).2
theorem PLx_congr {F F' : Fs} {ps : List (Addr × Addr)} (h : ∀ k, k < ps.length → F k = F' k) : PLx F ps = PLx F' ps := by
  unfold PLx
  refine List.map_congr_left fun k hk => ?_
  rw [h k (List.mem_range.mp hk)]
theorem pname_small : ∀ k : Nat, k < 6 → (Str.ofString "p").length + (toString (k : Int) : Str).length ≤ lim := by decide
theorem str_small : ∀ k : Nat, k < 6 → ((k : Nat) : Int).natAbs.log2 < 1920 := by decide
theorem pD_snoc {ps : List (Addr × Addr)} {p : Addr × Addr} : (List.range (ps.length + 1)).map (pD (ps ++ [p])) = (List.range ps.length).map (pD ps) ++ [.obj p.1 p.2] := by
  rw [List.range_succ, List.map_append, List.map_singleton]
  congr 1
  · refine List.map_congr_left fun k hk => ?_
    unfold pD
    rw [List.getD_eq_getElem?_getD, List.getD_eq_getElem?_getD, List.getElem?_append_left (List.mem_range.mp hk)]
  · simp
end
local macro_rules | `(tactic| wtm_at "st") => `(tactic| first
  | ((with_reducible show wpAny _ _ (callWith _ (Value.ref 80) _ [_] _) _ _ _); refine cw_f1S (by assumption) (by assumption) (hoSet _) ?_)
  | ((with_reducible show wpAny _ _ (callWith _ (Value.ref 61) _ [_] _) _ _ _); refine cw_f1S (by assumption) (by assumption) (hoForget _) ?_)
  | ((with_reducible show wpAny _ _ (callWith _ (Value.ref 152) _ [_] _) _ _ _); refine cw_f1S (by assumption) (by assumption) (hoMatch _) ?_))
section
variable {g : Heap} {mg mb : Str → Option Value} {s₀ s : Shared} {cs cs' : List (Addr × OD)} {ts ts' : List (Value × D)} {prog : Program} {w : World} {A : Around} {n : Nat} {Q : Value → Shared → Prop}
theorem perm2 {α : Type} {a b : α} (l r : List α) : (a :: b :: (l ++ r)).Perm (l ++ a :: b :: r) :=
  (List.Perm.cons a List.perm_middle.symm).trans List.perm_middle.symm
theorem law_players_spec {v : Value} {os : List (List Nat)} (PP : PO prog) (G : Gd (KK w.params) g mg mb) (hA : Ok (n + 8) A) (S : St g s₀ cs ts s) (hc : cs ≠ [])
    (ho : IsOrders os.length os) (hN : os.length ≤ 6) (hv : (v, .list (os.map dL)) ∈ ts)
    (h : ∀ v s' ps X, ps.length = os.length → St g s₀ (PLx (FS ps X (fun k => os.getD k []) fun _ => none) ps ++ cs) ((v, .list ((List.range os.length).map (pD ps))) :: ts) s' → Q v s') :
    wpAny (model prog w) A (call (.ref 210) [v]) Q NoE s := by
  refine call_fnD (fd := fdPlayers) (body := bdPlayers) S G hA hc (hoPlayers _) (hcPlayers _) hbPlayers (haPlayers _) (ls := [("orders", .list (os.map dL))]) (cm := [])
    (cl := fun L => [("players", L + 1)]) (co := fun L => [(L + 1, .cell none)])
    (fun L c => List.forall_mem_cons.mpr ⟨⟨_, rfl, by wtm_at "mem"⟩, List.forall_mem_nil _⟩)
    (fun L c => List.forall_mem_nil _) (fun L => rfl) (fun L => rfl)
    (fun n => List.forall_mem_cons.mpr ⟨.inl rfl, List.forall_mem_nil _⟩) (fun L s' S' => ?_)
  have hh : (A.deeper (clEnv fdPlayers L 210 [("players", L + 1)])).handled = none := hA.hd
  dsimp only [List.cons_append, List.nil_append] at S'
  show wpAny _ _ (execs (_ :: _) _) _ _ _
  wtm_at "go"
  rename_i v1 s1 S1
  refine cs_grow hh S1 (List.cons_ne_nil _ _) (.rng (n := os.length) (by wtm_at "mem") (by wtm_at "sd")) (fun i rs cs' => ∃ ps : List (Addr × Addr), ps.length = i ∧ rs = (List.range i).map (pD ps) ∧ cs' = PLx F0 ps ++ ((L, .names [("orders", .list (os.map dL))]) :: (L + 1, .cell none) :: cs))
    ⟨[], rfl, rfl, rfl⟩ (fun i a hia v' Lc it od acc oda cs' rs s2 hP S2 => ?_) (fun v2 cs' rs s2 hP S2 => ?_)
  · obtain ⟨ps, hl, hrs, hcs⟩ := hP
    subst hcs hrs
    have hi : i < os.length ∧ a = i := by
      obtain ⟨h1, h2⟩ := List.getElem?_eq_some_iff.mp hia
      rw [List.getElem_range] at h2
      exact ⟨by simpa using h1, h2.symm⟩
    obtain ⟨hi, rfl⟩ := hi
    wtm_at "go"
    all_goals first | exact str_small a (by omega) | exact pname_small a (by omega) | skip
    refine make_player PP G (n := n) (by wtm_at "ok") (by assumption) (List.cons_ne_nil _ _) (by wtm_at "mem") (fun x dx s3 S3 => ?_)
    refine ⟨_, _, _, S3.perm (cs' := (Lc, _) :: (acc, _) :: (it, _) :: (PLx F0 (ps ++ [(x, dx)]) ++ ((L, .names [("orders", .list (os.map dL))]) :: (L + 1, .cell none) :: cs))) ?_, by wtm_at "sub", .head _, ps ++ [(x, dx)], by simp [hl], ?_, rfl⟩
    · rw [PLx_snoc, List.append_assoc, hl]
      exact List.perm_middle (l₁ := (Lc, _) :: (acc, _) :: (it, _) :: PLx F0 ps)
    · subst hl; exact (pD_snoc (p := (x, dx))).symm
  · obtain ⟨ps, hl, hrs, hcs⟩ := hP
    subst hcs hrs
    rw [List.length_range] at hl
    rw [List.length_range] at S2
    have S3 := S2.perm (cs' := (L, .names [("orders", .list (os.map dL))]) :: (L + 1, .cell none) :: (PLx F0 ps ++ cs)) (perm2 _ _)
    wtm_at "go"
    rename_i v4 s4 S4
    have hNl : os.length ≤ lim := by unfold lim; omega
    refine for_range_code hh S4 (List.cons_ne_nil _ _) (.head _) (base := ts) (by wtm_at "sub") hNl
      (P := fun i cs' => ∃ F : Fs, cs' = (L, .names [("orders", .list (os.map dL))]) :: (L + 1, .cell (some (.list ((List.range os.length).map (pD ps))))) :: (PLx F ps ++ cs) ∧
        (∀ j, j < i → F j = FS ps (fun k => (.list ((os.getD k []).map pnD), .list ((os.getD k []).map (pD ps)))) (fun k => os.getD k []) (fun _ => none) j) ∧ ∀ j, i ≤ j → F j = F0 j)
      ⟨F0, rfl, fun j hj => absurd hj (Nat.not_lt_zero _), fun j _ => rfl⟩ (fun i v it od cs' s hi hP S => ?_) (fun cs' s hP S => ?_)
    · obtain ⟨F, hcs, h1, h2⟩ := hP
      subst hcs
      have hi' : i < ps.length := by omega
      rw [← upF_id (F := F) (k := i), h2 i (Nat.le_refl _)] at S
      have hm := PLx_at (cs := cs) (F := F) (f := F0 i) hi'
      unfold F0 at hm S
      wtm_at "go"
      rename_i o ho' v6 S6
      have hol : o = os.getD i [] := by rw [List.getD_eq_getElem?_getD, ho']; rfl
      have hop := ho.2 i o ho'
      refine cs_all hh S6 (List.cons_ne_nil _ _) (.list (l := o) (.head _)) (fun j => j) (pD ps) (fun j hj v' Lc it' od' acc oda s7 S7 => ?_) (fun v7 s7 S7 => ?_)
      · have hjN : j < os.length := by
          have := hop.mem_iff.mp hj
          simp at this; exact this.1
        wtm_at "go"
      · rw [List.map_id'] at S7
        refine ⟨_, _, S7, ?_⟩
        have hln : ∀ j ∈ o, j < ps.length := fun j hj => by
          have := hop.mem_iff.mp hj
          simp at this; omega
        have hFn : ∀ j, j < ps.length → F j "name" = some (.str (pname j)) := fun j hj => by
          rcases Nat.lt_or_ge j i with h3 | h3
          · rw [h1 j h3]; exact gF_name
          · rw [h2 j h3]; exact gF_name
        refine set_prefs_spec (ps := ps) (k := i) (F := F) (l := o) G (n := n) (by wtm_at "ok") hi' (St.front [_, _, _] S7) hFn (by wtm_at "mem") (.head _) hln (fun s8 S8 => ?_)
        have S9 := St.back [_, _, _] S8
        refine ex_nil ?_
        refine TurnTo.nextN S9 (ls' := [("orders", .list (os.map dL))]) .head (by wtm_at "subl") (by wtm_at "sub") ⟨_, rfl, fun j hj => ?_, fun j hj => ?_⟩
        · rcases Nat.lt_or_ge j i with h3 | h3
          · rw [upF, if_neg (by omega)]; exact h1 j h3
          · have : j = i := by omega
            subst this
            rw [upF_self]
            rw [hol]
            rfl
        · rw [upF, if_neg (by omega)]; exact h2 j (by omega)
    · obtain ⟨F, hcs, h1, h2⟩ := hP
      subst hcs
      wtm_at "go"
      rename_i v5 S5
      have e : PLx F ps = PLx (FS ps (fun k => (.list ((os.getD k []).map pnD), .list ((os.getD k []).map (pD ps)))) (fun k => os.getD k []) (fun _ => none)) ps := PLx_congr fun k hk => h1 k (by omega)
      rw [e] at S5
      exact h _ _ ps _ hl (S5.leaveC (by wtm_at "sl") (.head _) (by wtm_at "sub"))
end
section
variable {g : Heap} {mg mb : Str → Option Value} {s₀ s : Shared} {cs cs' : List (Addr × OD)} {ts ts' : List (Value × D)} {prog : Program} {w : World} {A : Around} {n : Nat} {Q : Value → Shared → Prop}
theorem idx_str {l : List Str} {k : Str} (hk : k ∈ l) : FirstAt (l.map D.str) (.str k) (l.idxOf k) := by
  have hlt : l.idxOf k < l.length := List.idxOf_lt_length_iff.mpr hk
  refine ⟨⟨.str k, ?_, by simp [deq]⟩, fun m e hm he => ?_⟩
  · rw [List.getElem?_map, List.getElem?_eq_getElem hlt, List.getElem_idxOf hlt]; rfl
  · rw [List.getElem?_map] at he
    obtain ⟨x, hx, rfl⟩ := Option.map_eq_some_iff.mp he
    have hne : x ≠ k := fun e => by
      subst e
      obtain ⟨hml, hmx⟩ := List.getElem?_eq_some_iff.mp hx
      have := List.not_of_lt_findIdx (xs := l) (p := (· == x)) (by simpa [List.idxOf] using hm)
      simp [hmx] at this
    simpa [deq] using hne
theorem sk_str (l : List Str) (k : Str) : ∀ e ∈ l.map D.str, SK e (.str k) := fun e he => by
  obtain ⟨x, _, rfl⟩ := List.mem_map.mp he
  exact .str _ _
theorem hc_str (cs : List (Addr × OD)) (l : List Str) : ∀ e ∈ l.map D.str, HasC cs e := fun e he => by
  obtain ⟨x, _, rfl⟩ := List.mem_map.mp he
  trivial
theorem w_indexStr {K : Frag} {E : Value → Shared → Prop} {l₀ : List Str} {pos : Pos} {o : Value} {x : Sem Value} {n : Nat} {Q : Value → Shared → Prop} (S : St g s₀ cs ts s) (G : Gd K g mg mb) (C : PC K) (hA : Ok (n + 1) A) (ho : (o, .list (l₀.map D.str)) ∈ ts)
    (h : wpAny (model prog w) A x (fun v s₁ => ∃ cs ts, ∃ l : List Str, ∃ k : Str, St g s₀ cs ts s₁ ∧ (o, .list (l.map D.str)) ∈ ts ∧ (v, .str k) ∈ ts ∧ k ∈ l ∧ ∀ v' s', St g s₀ cs ((v', dN (l.idxOf k)) :: ts) s' → Q v' s') E s) :
    wpAny (model prog w) A (callWith pos (.builtin "list.index") [o] [(false, x)] []) Q E s :=
  w_index (g := g) (s₀ := s₀) G C hA (wpAny_mono h (fun v s₁ ⟨cs, ts, l, k, S, h1, h2, h3, h4⟩ => ⟨cs, ts, _, _, _, S, h1, h2, sk_str _ _, hc_str _ _, trivial, idx_str h3, h4⟩) fun _ _ q => q) (S.isRef ho)
theorem pname_idx : ∀ k : Nat, k < 6 → ((List.range 6).map pname).idxOf (pname k) = k := by decide
theorem pname_in {k : Nat} (h : k < 6) : pname k ∈ (List.range 6).map pname := List.mem_map.mpr ⟨k, List.mem_range.mpr h, rfl⟩
theorem law_number_spec {v : Value} {x dx : Addr} {f : Str → Option D} {k : Nat} (G : Gd (KK w.params) g mg mb) (hA : Ok (n + 3) A) (S : St g s₀ cs ts s) (ha : (dx, .attrs 5 f) ∈ cs) (hf : f "name" = some (.str (pname k))) (hk : k < 6)
    (hv : (v, .obj x dx) ∈ ts) (h : ∀ v s', St g s₀ cs ((v, dN k) :: ts) s' → Q v s') : wpAny (model prog w) A (call (.ref 215) [v]) Q NoE s := by
  refine call_fn (fd := fdNumber) (body := bdNumber) (nms := ["player"]) S G hA (List.ne_nil_of_mem ha) (hoNumber _) (hcNumber _) hbNumber (haNumber _) (ls := [("player", .obj x dx)]) (.cons (by wtm_at "mem") .nil) (fun L s' S' => ?_)
  have hh : (A.deeper (callEnv fdNumber L 215)).handled = none := hA.hd
  show wpAny _ _ (execs (_ :: _) _) _ _ _
  wtm_at "go"
  rename_i v1 s1 S1
  refine cs_all hh S1 (List.cons_ne_nil _ _) (.rng (n := 6) (by wtm_at "mem") (by decide)) pname D.str (fun j hj v' Lc it od acc oda s3 S3 => ?_) (fun v3 s3 S3 => ?_)
  · have hj6 := List.mem_range.mp hj
    wtm_at "go"
    all_goals first | exact str_small j (by omega) | exact pname_small j (by omega) | exact ⟨_, by assumption, by wtm_at "sub", .head _⟩
  · refine onVP S3 (.head _) ?_
    refine w_indexStr S3 G (pcKK _) (n := n) (by wtm_at "ok") (.head _) ?_
    wtm_at "go"
    · exact pname_in hk
    · rename_i v5 s5 S5
      rw [pname_idx k hk] at S5
      exact h _ _ (S5.leaveC (by wtm_at "sl") (.head _) (by wtm_at "sub"))
theorem law_lists_spec {v : Value} {ps : List (Addr × Addr)} {N : Nat} {F : Fs} {st : Nat → List Nat} (G : Gd (KK w.params) g mg mb) (hA : Ok (n + 6) A) (S : St g s₀ cs ts s) (hc : cs ≠ []) (hN : N ≤ 6)
    (H : ∀ k, k < N → (dxOf ps k, OD.attrs 5 (F k)) ∈ cs) (Hp : ∀ k, k < N → F k "prefs" = some (.list ((st k).map (pD ps)))) (Hn : ∀ k, k < N → F k "name" = some (.str (pname k))) (Hs : ∀ k, k < N → ∀ j ∈ st k, j < N)
    (hv : (v, .list ((List.range N).map (pD ps))) ∈ ts) (h : ∀ v s', St g s₀ cs ((v, .list (((List.range N).map st).map dL)) :: ts) s' → Q v s') : wpAny (model prog w) A (call (.ref 220) [v]) Q NoE s := by
  refine call_fn (fd := fdLists) (body := bdLists) (nms := ["players"]) S G hA hc (hoLists _) (hcLists _) hbLists (haLists _) (ls := [("players", .list ((List.range N).map (pD ps)))]) (.cons (by wtm_at "mem") .nil) (fun L s' S' => ?_)
  have hh : (A.deeper (callEnv fdLists L 220)).handled = none := hA.hd
  show wpAny _ _ (execs (_ :: _) _) _ _ _
  wtm_at "go"
  rename_i v1 S1
  refine cs_all hh S1 (List.cons_ne_nil _ _) (.list (l := List.range N) (.head _)) st dL (fun k hk v' Lc it od acc oda s3 S3 => ?_) (fun v3 s3 S3 => ?_)
  · have hk6 := List.mem_range.mp hk
    have hm := H k hk6
    have hp := Hp k hk6
    wtm_at "go"
    rename_i v4 s4 S4
    refine cs_all hh S4 (List.cons_ne_nil _ _) (.list (l := st k) (.head _)) (fun j => j) dN (fun j hj v' Lc it od acc oda s5 S5 => ?_) (fun v5 s5 S5 => ?_)
    · have hj6 := Hs k hk6 j hj
      have hm := H j hj6
      wtm_at "go"
      rename_i v6 S6
      refine law_number_spec G (n := n) (by wtm_at "ok") S6 (by wtm_at "fr") (Hn j hj6) (by omega) (.head _) (fun v7 s7 S7 => ?_)
      wtm_at "go"
    · rw [List.map_id'] at S5
      wtm_at "go"
  · wtm_at "go"
    exact h _ _ (S3.leaveC (by wtm_at "sl") (.head _) (by wtm_at "sub"))
end
section
variable {g : Heap} {mg mb : Str → Option Value} {s₀ s : Shared} {cs cs' : List (Addr × OD)} {ts ts' : List (Value × D)} {prog : Program} {w : World} {A : Around} {n : Nat} {Q : Value → Shared → Prop}
theorem law_held_spec {v u : Value} {ps : List (Addr × Addr)} {N : Nat} {F : Fs} {st : Nat → List Nat} {hd : Nat → Option Nat} (G : Gd (KK w.params) g mg mb) (hA : Ok (n + 6) A) (S : St g s₀ cs ts s) (hc : cs ≠ []) (hN : N ≤ 6)
    (H : ∀ k, k < N → (dxOf ps k, OD.attrs 5 (F k)) ∈ cs) (Hm : ∀ k, k < N → F k "matching" = some (hD ps (hd k))) (Hn : ∀ k, k < N → F k "name" = some (.str (pname k)))
    (h0 : ∀ k, k < N → st k = [] → hd k = none) (h1 : ∀ k y r, k < N → st k = y :: r → y < N ∧ hd y = some k)
    (hv : (v, .list ((List.range N).map (pD ps))) ∈ ts) (hu : (u, .list ((List.range N).map fun k => dL (st k))) ∈ ts) (h : ∀ s', St g s₀ cs ts s' → Q (.bool true) s') : wpAny (model prog w) A (call (.ref 227) [v, u]) Q NoE s := by
  refine call_fn (fd := fdHeld) (body := bdHeld) (nms := ["players", "lists"]) S G hA hc (hoHeld _) (hcHeld _) hbHeld (haHeld _ _) (ls := [("players", .list ((List.range N).map (pD ps))), ("lists", .list ((List.range N).map fun k => dL (st k)))]) (.cons (by wtm_at "mem") (.cons (by wtm_at "mem") .nil)) (fun L s' S' => ?_)
  have hh : (A.deeper (callEnv fdHeld L 227)).handled = none := hA.hd
  show wpAny _ _ (execs (_ :: _) _) _ _ _
  wtm_at "go"
  rename_i v1 s1 S1
  refine for_range_code hh S1 (List.cons_ne_nil _ _) (.head _) (base := ts) (by wtm_at "sub") (by wtm_at "sd")
    (P := fun i cs' => cs' = (L, .names [("players", .list ((List.range N).map (pD ps))), ("lists", .list ((List.range N).map fun k => dL (st k)))]) :: cs)
    rfl (fun i v it od cs' s hi hP S => ?_) (fun cs' s hP S => ?_)
  · subst hP
    have hm := H i hi
    have hma := Hm i hi
    have fin : ∀ {ls : List (Str × D)} {s : Shared} {ts' : List (Value × D)}, St g s₀ ((it, od) :: (L, .names ls) :: cs) ts' s → (∀ p ∈ ts, p ∈ ts') → (∀ p ∈ ([("players", .list ((List.range N).map (pD ps))), ("lists", .list ((List.range N).map fun k => dL (st k)))] : List (Str × D)), p ∈ ls) →
        TurnTo g s₀ ((fun i cs' => cs' = (L, .names [("players", .list ((List.range N).map (pD ps))), ("lists", .list ((List.range N).map fun k => dL (st k)))]) :: cs) (i + 1)) it od ts .next s :=
      fun S hb hl => TurnTo.nextN S .head hl hb rfl
    cases hst : st i with
    | nil =>
      have he : (st i).isEmpty = true := by rw [hst]; rfl
      have he' : ¬(!(st i).isEmpty) = true := by rw [hst]; decide
      rw [h0 i hi hst] at hma
      have hma : F i "matching" = some (.val .none) := hma
      wtm_at "go"
      exact fin (by assumption) (by wtm_at "sub") (by wtm_at "subl")
    | cons y r =>
      have he : ¬(st i).isEmpty = true := by rw [hst]; exact Bool.false_ne_true
      have he' : (!(st i).isEmpty) = true := by rw [hst]; rfl
      obtain ⟨hy, hhy⟩ := h1 i y r hi hst
      have hmy := H y hy
      have hmay := Hm y hy
      rw [hhy] at hmay
      have hmay : F y "matching" = some (pD ps i) := hmay
      wtm_at "go"
      · rw [hst]; exact Nat.succ_pos _
      · have hx := ‹(st i)[0]? = some _›
        rw [hst] at hx
        cases hx
        exact hy
      · have hx := ‹(st i)[0]? = some _›
        rw [hst] at hx
        cases hx
        wtm_at "go"
        refine law_number_spec G (n := n) (by wtm_at "ok") (by assumption) (by wtm_at "fr") (Hn i hi) (by omega) (by wtm_at "mem") (fun v7 s7 S7 => ?_)
        wtm_at "go"
        exact fin (by assumption) (by wtm_at "sub") (by wtm_at "subl")
  · subst hP
    wtm_at "go"
    exact h _ ((S.csub (List.sublist_cons_self _ _)))
end
section
variable {g : Heap} {mg mb : Str → Option Value} {s₀ s : Shared} {cs cs' : List (Addr × OD)} {ts ts' : List (Value × D)} {prog : Program} {w : World} {A : Around} {n : Nat} {Q : Value → Shared → Prop}
noncomputable def InjX (ps : List (Addr × Addr)) (N : Nat) : Prop := ∀ i j, i < N → j < N → (ps.getD i (0, 0)).1 = (ps.getD j (0, 0)).1 → i = j
theorem nodup_map_inj {α β : Type} {f : α → β} : ∀ {l : List α}, (l.map f).Nodup → ∀ a ∈ l, ∀ b ∈ l, f a = f b → a = b
  | [], _, a, h, _, _, _ => by cases h
  | x :: r, hn, a, ha, b, hb, e => by
    rw [List.map_cons, List.nodup_cons] at hn
    rcases List.mem_cons.mp ha with rfl | ha' <;> rcases List.mem_cons.mp hb with rfl | hb'
    · rfl
    · exact absurd (e ▸ List.mem_map_of_mem hb') hn.1
    · exact absurd (e ▸ List.mem_map_of_mem ha') hn.1
    · exact nodup_map_inj hn.2 a ha' b hb' e
theorem St.injX {ps : List (Addr × Addr)} {F : Fs} {v : Value} (S : St g s₀ (PLx F ps ++ cs) ts s) (hv : (v, .list ((List.range ps.length).map (pD ps))) ∈ ts) : InjX ps ps.length := by
  intro i j hi hj e
  obtain ⟨v1, -, S1⟩ : ∃ x, ∃ _ : True, St g s₀ (PLx F ps ++ cs) ((x, pD ps i) :: ts) s := by
    obtain ⟨_, _, _, _, _, _, x, _, S2⟩ := S.item (v := .none) (i := i) hv (d := pD ps i) (by simp [hi])
    exact ⟨x, trivial, S2⟩
  obtain ⟨_, _, _, _, _, _, v2, _, S2⟩ := S1.item (v := .none) (i := j) (.tail _ hv) (d := pD ps j) (by simp [hj])
  have h1 := (den_obj (S2.den (v := v1) (d := pD ps i) (.tail _ (.head _)))).2
  have h2 := (den_obj (S2.den (v := v2) (d := pD ps j) (.head _))).2
  rw [e, h2] at h1
  have hdx : dxOf ps i = dxOf ps j := by
    injection h1 with h1
    injection h1 with _ h1
    injection h1 with h1
    exact h1.symm
  obtain ⟨V, _, _, _, hn, _⟩ := S
  rw [List.map_append] at hn
  have hn := (List.nodup_append.mp hn).1
  unfold PLx at hn
  rw [List.map_map] at hn
  exact nodup_map_inj hn i (List.mem_range.mpr hi) j (List.mem_range.mpr hj) hdx
theorem k_neP {E : Value → Shared → Prop} {ps : List (Addr × Addr)} {N i j k k' : Nat} {a b : Value} {f f' : Str → Option D} {Q : Value → Shared → Prop} (S : St g s₀ cs ts s) (G : Gd (KK w.params) g mg mb) (hA : Ok n A) (hI : InjX ps N) (hi : i < N) (hj : j < N)
    (ha : (a, pD ps i) ∈ ts) (hb : (b, pD ps j) ∈ ts) (hai : (dxOf ps i, OD.attrs k f) ∈ cs) (haj : (dxOf ps j, OD.attrs k' f') ∈ cs) (h : Q (.bool (decide (i ≠ j))) s) : wpAny (model prog w) A (compareOp .NotEq a b) Q E s := by
  have hu := hA.units64
  by_cases e : i = j
  · subst e
    obtain ⟨od, rfl, I, _⟩ := S.inst ha hai
    obtain ⟨_, e2, _, _⟩ := S.inst hb haj
    subst e2
    exact obj_rc_neS (S.kin G) (pcKK _) I (by omega) (by simpa using h)
  · obtain ⟨od, rfl, I, _⟩ := S.inst ha hai
    obtain ⟨_, rfl, J, _⟩ := S.inst hb haj
    exact obj_rc_ne (S.kin G) (pcKK _) I J (fun q => e (hI i j hi hj q)) (by omega) (by simpa [e] using h)
theorem forget_spec {v u : Value} {ps : List (Addr × Addr)} {k j : Nat} {F : Fs} {l : List Nat} {ma pn op : D} (G : Gd (KK w.params) g mg mb) (hA : Ok (n + 3) A) (hI : InjX ps ps.length) (hk : k < ps.length) (hj : j < ps.length)
    (S : St g s₀ (PLx (upF F k (pF (pname k) (.list (l.map (pD ps))) ma pn op)) ps ++ cs) ts s) (hv : (v, pD ps k) ∈ ts) (hu : (u, pD ps j) ∈ ts) (hl : ∀ j ∈ l, j < ps.length)
    (h : ∀ s', St g s₀ (PLx (upF F k (pF (pname k) (.list ((l.filter fun i => decide (i ≠ j)).map (pD ps))) ma pn op)) ps ++ cs) ts s' → Q .none s') :
    wpAny (model prog w) A (call (.ref 61) [v, u]) Q NoE s := by
  have hne : PLx (upF F k (pF (pname k) (.list (l.map (pD ps))) ma pn op)) ps ++ cs ≠ [] := List.ne_nil_of_mem (PLx_at hk)
  refine call_fnD (fd := fdForget) (body := bdForget) S G hA hne (hoForget _) (hcForget _) hbForget (haForget _ _) (ls := [("self", pD ps k)]) (cm := [("other", pD ps j)])
    (cl := fun L => [("other", L + 1)]) (co := fun L => [(L + 1, .cell (some (pD ps j)))])
    (fun L c => List.forall_mem_cons.mpr ⟨⟨_, rfl, by wtm_at "mem"⟩, List.forall_mem_nil _⟩)
    (fun L c => List.forall_mem_cons.mpr ⟨⟨_, rfl, by wtm_at "mem"⟩, List.forall_mem_nil _⟩) (fun L => rfl) (fun L => rfl)
    (fun n => List.forall_mem_cons.mpr ⟨.inl rfl, List.forall_mem_cons.mpr ⟨.inr ⟨rfl, rfl⟩, List.forall_mem_nil _⟩⟩) (fun L s' S' => ?_)
  have hh : (A.deeper (clEnv fdForget L 61 [("other", L + 1)])).handled = none := hA.hd
  dsimp only [List.cons_append, List.nil_append] at S'
  have hm := PLx_at (cs := cs) (F := F) (f := pF (pname k) (.list (l.map (pD ps))) ma pn op) hk
  have hmj := PLx_mem (cs := cs) (F := upF F k (pF (pname k) (.list (l.map (pD ps))) ma pn op)) hj
  show wpAny _ _ (execs (_ :: _) _) _ _ _
  wtm_at "go"
  rename_i v1 s1 S1
  refine cs_if hh S1 (List.cons_ne_nil _ _) (.list (l := l) (.head _)) (fun i => decide (i ≠ j)) (fun i => i) (pD ps) (fun i hi v' Lc it' od' acc oda s5 S5 => ?_) (fun v5 s5 S5 => ?_)
  · have hmi := PLx_mem (cs := cs) (F := upF F k (pF (pname k) (.list (l.map (pD ps))) ma pn op)) (hl i hi)
    wtm_at "go"
    refine k_neP (n := n) (by assumption) (by assumption) (by wtm_at "ok") hI (hl i hi) hj (by wtm_at "mem") (by wtm_at "mem") (by wtm_at "fr") (by wtm_at "fr") ?_
    wtm_at "go"
  · rw [List.map_id'] at S5
    wtm_at "go"
    refine a_setP (by assumption) (by assumption) (by wtm_at "mem") (by wtm_at "mem") pF_prefs (.tail (.tail (PLx_up hk))) rfl rfl (fun s6 S6 => ?_)
    wtm_at "go"
    exact h _ (((S6.csub (by wtm_at "sl"))).tsub (by wtm_at "sub"))
end
section
variable {g : Heap} {mg mb : Str → Option Value} {s₀ s : Shared} {cs cs' : List (Addr × OD)} {ts ts' : List (Value × D)} {prog : Program} {w : World} {A : Around} {n : Nat} {Q : Value → Shared → Prop}
noncomputable def updN {α : Type} (st : Nat → α) (k : Nat) (l : α) : Nat → α := fun i => if i = k then l else st i
noncomputable def fl (l : List Nat) (j : Nat) : List Nat := l.filter fun i => decide (i ≠ j)
noncomputable def del1 (st : Nat → List Nat) (i j : Nat) : Nat → List Nat := updN st i (fl (st i) j)
noncomputable def del (st : Nat → List Nat) (i j : Nat) : Nat → List Nat := del1 (del1 st i j) j i
section
variable {ps : List (Addr × Addr)} {X : Nat → D × D} {st : Nat → List Nat} {hd : Nat → Option Nat} {k : Nat}
theorem FS_st {l : List Nat} : upF (FS ps X st hd) k (pF (pname k) (.list (l.map (pD ps))) (hD ps (hd k)) (X k).1 (X k).2) = FS ps X (updN st k l) hd := by
  funext j
  unfold upF FS updN
  by_cases h : j = k
  · subst h; rw [if_pos rfl, if_pos rfl]
  · rw [if_neg h, if_neg h]
theorem FS_hd {m : Option Nat} : upF (FS ps X st hd) k (pF (pname k) (.list ((st k).map (pD ps))) (hD ps m) (X k).1 (X k).2) = FS ps X st (updN hd k m) := by
  funext j
  unfold upF FS updN
  by_cases h : j = k
  · subst h; rw [if_pos rfl, if_pos rfl]
  · rw [if_neg h, if_neg h]
theorem FS_as (k : Nat) : FS ps X st hd = upF (FS ps X st hd) k (pF (pname k) (.list ((st k).map (pD ps))) (hD ps (hd k)) (X k).1 (X k).2) := (upF_id (F := FS ps X st hd) (k := k)).symm
theorem St.asUp (k : Nat) (S : St g s₀ (PLx (FS ps X st hd) ps ++ cs) ts s) : St g s₀ (PLx (upF (FS ps X st hd) k (pF (pname k) (.list ((st k).map (pD ps))) (hD ps (hd k)) (X k).1 (X k).2)) ps ++ cs) ts s := by
  rw [← FS_as k]; exact S
theorem forget_st {v u : Value} {j : Nat} (G : Gd (KK w.params) g mg mb) (hA : Ok (n + 3) A) (hI : InjX ps ps.length) (hk : k < ps.length) (hj : j < ps.length)
    (S : St g s₀ (PLx (FS ps X st hd) ps ++ cs) ts s) (hv : (v, pD ps k) ∈ ts) (hu : (u, pD ps j) ∈ ts) (hl : ∀ j ∈ st k, j < ps.length)
    (h : ∀ s', St g s₀ (PLx (FS ps X (del1 st k j) hd) ps ++ cs) ts s' → Q .none s') : wpAny (model prog w) A (call (.ref 61) [v, u]) Q NoE s :=
  forget_spec G hA hI hk hj (S.asUp k) hv hu hl fun s' S' => h s' (by rw [FS_st] at S'; exact S')
theorem del1_lt {N i j : Nat} (h : ∀ k, k < N → ∀ j ∈ st k, j < N) (hi : i < N) : ∀ k, k < N → ∀ x ∈ del1 st i j k, x < N := fun k hk x hx => by
  unfold del1 updN at hx
  by_cases e : k = i
  · subst e; rw [if_pos rfl] at hx; exact h k hk x (List.mem_filter.mp hx).1
  · rw [if_neg e] at hx; exact h k hk x hx
theorem delete_pair_spec {v u : Value} {i j : Nat} (G : Gd (KK w.params) g mg mb) (hA : Ok (n + 4) A) (hI : InjX ps ps.length) (hi : i < ps.length) (hj : j < ps.length)
    (S : St g s₀ (PLx (FS ps X st hd) ps ++ cs) ts s) (hv : (v, pD ps i) ∈ ts) (hu : (u, pD ps j) ∈ ts) (hl : ∀ k, k < ps.length → ∀ j ∈ st k, j < ps.length)
    (h : ∀ s', St g s₀ (PLx (FS ps X (del st i j) hd) ps ++ cs) ts s' → Q .none s') : wpAny (model prog w) A (call (.ref 28) [v, u]) Q NoE s := by
  have hne : PLx (FS ps X st hd) ps ++ cs ≠ [] := List.ne_nil_of_mem (PLx_mem hi)
  refine call_fn (fd := fdDel) (body := bdDel) (nms := ["player", "other"]) S G hA hne (hoDel _) (hcDel _) hbDel (haDel _ _) (ls := [("player", pD ps i), ("other", pD ps j)]) (.cons (by wtm_at "mem") (.cons (by wtm_at "mem") .nil)) (fun L s' S' => ?_)
  have hm := PLx_mem (cs := cs) (F := FS ps X st hd) hi
  have hm2 := PLx_mem (cs := cs) (F := FS ps X (del1 st i j) hd) hj
  show wpAny _ _ (execs (_ :: _) _) _ _ _
  wtm_at "go"
  rename_i S1
  refine forget_st (n := n) G (by wtm_at "ok") hI hi hj (St.front [_] S1) (by wtm_at "mem") (by wtm_at "mem") (hl i hi) (fun s2 S2 => ?_)
  have S3 := St.back [_] S2
  dsimp only [List.cons_append, List.nil_append] at S3
  wtm_at "go"
  rename_i S4
  refine forget_st (n := n) G (by wtm_at "ok") hI hj hi (St.front [_] S4) (by wtm_at "mem") (by wtm_at "mem") (del1_lt hl hi j hj) (fun s5 S5 => ?_)
  have S6 := St.back [_] S5
  wtm_at "go"
  exact h _ (((S6.csub (by wtm_at "sl"))).tsub (by wtm_at "sub"))
theorem match_spec {v u : Value} {j : Nat} (G : Gd (KK w.params) g mg mb) (hA : Ok (n + 2) A) (hk : k < ps.length)
    (S : St g s₀ (PLx (FS ps X st hd) ps ++ cs) ts s) (hv : (v, pD ps k) ∈ ts) (hu : (u, pD ps j) ∈ ts)
    (h : ∀ s', St g s₀ (PLx (FS ps X st (updN hd k (some j))) ps ++ cs) ts s' → Q .none s') : wpAny (model prog w) A (call (.ref 152) [v, u]) Q NoE s := by
  have hne : PLx (upF (FS ps X st hd) k (pF (pname k) (.list ((st k).map (pD ps))) (hD ps (hd k)) (X k).1 (X k).2)) ps ++ cs ≠ [] := List.ne_nil_of_mem (PLx_mem hk)
  refine call_fn (fd := fdMatch) (body := bdMatch) (nms := ["self", "other"]) (S.asUp k) G hA hne (hoMatch _) (hcMatch _) hbMatch (haMatch _ _) (ls := [("self", pD ps k), ("other", pD ps j)]) (.cons (by wtm_at "mem") (.cons (by wtm_at "mem") .nil)) (fun L s' S' => ?_)
  show wpAny _ _ (execs (_ :: _) _) _ _ _
  wtm_at "go"
  refine a_setP (by assumption) (by assumption) (by wtm_at "mem") (by wtm_at "mem") pF_matching (.tail (PLx_up hk)) rfl rfl (fun s1 S1 => ?_)
  rw [show pD ps j = hD ps (some j) from rfl, FS_hd] at S1
  wtm_at "go"
  exact h _ (((S1.csub (by wtm_at "sl"))).tsub (by wtm_at "sub"))
theorem unmatch_spec {v : Value} (G : Gd (KK w.params) g mg mb) (hA : Ok (n + 2) A) (hk : k < ps.length)
    (S : St g s₀ (PLx (FS ps X st hd) ps ++ cs) ts s) (hv : (v, pD ps k) ∈ ts)
    (h : ∀ s', St g s₀ (PLx (FS ps X st (updN hd k none)) ps ++ cs) ts s' → Q .none s') : wpAny (model prog w) A (call (.ref 159) [v]) Q NoE s := by
  have hne : PLx (upF (FS ps X st hd) k (pF (pname k) (.list ((st k).map (pD ps))) (hD ps (hd k)) (X k).1 (X k).2)) ps ++ cs ≠ [] := List.ne_nil_of_mem (PLx_mem hk)
  refine call_fn (fd := fdUnmatch) (body := bdUnmatch) (nms := ["self"]) (S.asUp k) G hA hne (hoUnmatch _) (hcUnmatch _) hbUnmatch (haUnmatch _) (ls := [("self", pD ps k)]) (.cons (by wtm_at "mem") .nil) (fun L s' S' => ?_)
  show wpAny _ _ (execs (_ :: _) _) _ _ _
  wtm_at "go"
  refine a_setP (by assumption) (by assumption) (by wtm_at "mem") (by wtm_at "mem") pF_matching (.tail (PLx_up hk)) rfl rfl (fun s1 S1 => ?_)
  rw [show D.val Value.none = hD ps none from rfl, FS_hd] at S1
  wtm_at "go"
  exact h _ (((S1.csub (by wtm_at "sl"))).tsub (by wtm_at "sub"))
theorem fav_spec {v : Value} {y : Nat} {r : List Nat} (G : Gd (KK w.params) g mg mb) (hA : Ok (n + 2) A) (hk : k < ps.length) (hy : st k = y :: r)
    (S : St g s₀ (PLx (FS ps X st hd) ps ++ cs) ts s) (hv : (v, pD ps k) ∈ ts)
    (h : ∀ v s', St g s₀ (PLx (FS ps X st hd) ps ++ cs) ((v, pD ps y) :: ts) s' → Q v s') : wpAny (model prog w) A (call (.ref 166) [v]) Q NoE s := by
  have hne : PLx (FS ps X st hd) ps ++ cs ≠ [] := List.ne_nil_of_mem (PLx_mem hk)
  refine call_fn (fd := fdFav) (body := bdFav) (nms := ["self"]) S G hA hne (hoFav _) (hcFav _) hbFav (haFav _) (ls := [("self", pD ps k)]) (.cons (by wtm_at "mem") .nil) (fun L s' S' => ?_)
  have hm := PLx_mem (cs := cs) (F := FS ps X st hd) hk
  have hmp : FS ps X st hd k "prefs" = some (.list ((st k).map (pD ps))) := gF_prefs
  show wpAny _ _ (execs (_ :: _) _) _ _ _
  wtm_at "go"
  · rw [hy]; exact Nat.succ_pos _
  · have hx := ‹(st k)[0]? = some _›
    rw [hy] at hx
    cases hx
    rename_i S1
    exact h _ _ (S1.leaveC (by wtm_at "sl") (.head _) (by wtm_at "sub"))
end
end
section
variable {g : Heap} {mg mb : Str → Option Value} {s₀ s : Shared} {cs cs' : List (Addr × OD)} {ts ts' : List (Value × D)} {prog : Program} {w : World} {A : Around} {n : Nat} {Q : Value → Shared → Prop}
section
variable {ps : List (Addr × Addr)} {X : Nat → D × D} {st : Nat → List Nat} {hd : Nat → Option Nat} {k : Nat}
theorem deq_P {N i j : Nat} (hI : InjX ps N) (hi : i < N) (hj : j < N) : deq (pD ps i) (pD ps j) = decide (i = j) := by
  show ((ps.getD i (0, 0)).1 == (ps.getD j (0, 0)).1) = _
  rw [Bool.eq_iff_iff, beq_iff_eq, decide_eq_true_iff]
  exact ⟨hI i j hi hj, fun e => by rw [e]⟩
theorem any_P {N : Nat} {l : List Nat} (hI : InjX ps N) (hl : ∀ j ∈ l, j < N) (hk : k < N) : ((l.map (pD ps)).any fun e => deq e (pD ps k)) = decide (k ∈ l) := by
  rw [Bool.eq_iff_iff]
  simp only [List.any_eq_true, List.mem_map, decide_eq_true_eq]
  constructor
  · rintro ⟨_, ⟨x, hx, rfl⟩, h⟩
    rw [deq_P hI (hl x hx) hk] at h
    exact of_decide_eq_true h ▸ hx
  · exact fun h => ⟨_, ⟨k, h, rfl⟩, by rw [deq_P hI hk hk]; simp⟩
theorem sk_P (l : List Nat) (k : Nat) : ∀ e ∈ l.map (pD ps), SK e (pD ps k) := fun e he => by
  obtain ⟨x, _, rfl⟩ := List.mem_map.mp he
  exact .obj _ _ _ _
theorem hc_P {N : Nat} {F : Fs} {l : List Nat} (H : ∀ k, k < N → (dxOf ps k, OD.attrs 5 (F k)) ∈ cs) (hl : ∀ j ∈ l, j < N) : ∀ e ∈ l.map (pD ps), HasC cs e := fun e he => by
  obtain ⟨x, hx, rfl⟩ := List.mem_map.mp he
  exact ⟨_, H x (hl x hx)⟩
theorem idx_P {N : Nat} {l : List Nat} (hI : InjX ps N) (hl : ∀ j ∈ l, j < N) (hk : k ∈ l) : FirstAt (l.map (pD ps)) (pD ps k) (l.idxOf k) := by
  have hlt : l.idxOf k < l.length := List.idxOf_lt_length_iff.mpr hk
  refine ⟨⟨pD ps k, ?_, by rw [deq_P hI (hl k hk) (hl k hk)]; simp⟩, fun m e hm he => ?_⟩
  · rw [List.getElem?_map, List.getElem?_eq_getElem hlt, List.getElem_idxOf hlt]; rfl
  · rw [List.getElem?_map] at he
    obtain ⟨x, hx, rfl⟩ := Option.map_eq_some_iff.mp he
    have hne : x ≠ k := fun e => by
      subst e
      obtain ⟨hml, hmx⟩ := List.getElem?_eq_some_iff.mp hx
      have := List.not_of_lt_findIdx (xs := l) (p := (· == x)) (by simpa [List.idxOf] using hm)
      simp [hmx] at this
    rw [deq_P hI (hl x (List.mem_of_getElem? hx)) (hl k hk)]
    exact decide_eq_false hne
theorem succ_spec {v : Value} {m : Nat} (G : Gd (KK w.params) g mg mb) (hA : Ok (n + 2) A) (hI : InjX ps ps.length) (hk : k < ps.length) (hh' : hd k = some m) (hm' : m ∈ st k) (hl : ∀ j ∈ st k, j < ps.length)
    (S : St g s₀ (PLx (FS ps X st hd) ps ++ cs) ts s) (hv : (v, pD ps k) ∈ ts)
    (h : ∀ v s', St g s₀ (PLx (FS ps X st hd) ps ++ cs) ((v, .list (((st k).drop ((st k).idxOf m + 1)).map (pD ps))) :: ts) s' → Q v s') : wpAny (model prog w) A (call (.ref 173) [v]) Q NoE s := by
  have hne : PLx (FS ps X st hd) ps ++ cs ≠ [] := List.ne_nil_of_mem (PLx_mem hk)
  refine call_fn (fd := fdSucc) (body := bdSucc) (nms := ["self"]) S G hA hne (hoSucc _) (hcSucc _) hbSucc (haSucc _) (ls := [("self", pD ps k)]) (.cons (by wtm_at "mem") .nil) (fun L s' S' => ?_)
  have hm := PLx_mem (cs := cs) (F := FS ps X st hd) hk
  have hmp : FS ps X st hd k "prefs" = some (.list ((st k).map (pD ps))) := gF_prefs
  have hmm : FS ps X st hd k "matching" = some (pD ps m) := by
    have : FS ps X st hd k "matching" = some (hD ps (hd k)) := gF_matching
    rw [this, hh']; rfl
  have H : ∀ j, j < ps.length → (dxOf ps j, OD.attrs 5 (FS ps X st hd j)) ∈ (L, OD.names [("self", pD ps k)]) :: (PLx (FS ps X st hd) ps ++ cs) := fun j hj => .tail _ (PLx_mem hj)
  show wpAny _ _ (execs (_ :: _) _) _ _ _
  wtm_at "go"
  rename_i v1 s1 S1
  refine w_index (g := g) (s₀ := s₀) (n := n) G (pcKK _) (by wtm_at "ok") ?_ (S1.isRef (.head _))
  wtm_at "go"
  rename_i S2
  refine ⟨_, _, _, _, _, S2, .tail _ (.tail _ (.head _)), .head _, sk_P _ _, hc_P H hl, ⟨_, H m (hl m hm')⟩, idx_P hI hl hm', fun v3 s3 S3 => ?_⟩
  wtm_at "go"
  exact h _ _ (St.leaveC (by assumption) (by wtm_at "sl") (.head _) (by wtm_at "sub"))
end
end
section
variable {g : Heap} {mg mb : Str → Option Value} {s₀ s : Shared} {cs cs' : List (Addr × OD)} {ts ts' : List (Value × D)} {prog : Program} {w : World} {A : Around} {n : Nat} {Q : Value → Shared → Prop}
/-! the program's round, as data -/
noncomputable def foldS (y : Nat) (p : List Nat × (Nat → List Nat)) (s : Nat) : List Nat × (Nat → List Nat) :=
  (if del p.2 s y s = [] ∧ s ∈ p.1 then p.1.erase s else p.1, del p.2 s y)
noncomputable def back1 (fr : List Nat) : Option Nat → List Nat
  | some z => fr ++ [z]
  | none => fr
noncomputable def succs (st : Nat → List Nat) (x y : Nat) : List Nat := (st y).drop ((st y).idxOf x + 1)
theorem updN_updN {α : Type} {f : Nat → α} {k : Nat} {a b : α} : updN (updN f k a) k b = updN f k b := by
  funext j; unfold updN; by_cases h : j = k
  · rw [if_pos h, if_pos h]
  · rw [if_neg h, if_neg h, if_neg h]
theorem updN_self {α : Type} {f : Nat → α} {k : Nat} {a : α} : updN f k a k = a := if_pos rfl
theorem St.cast (S : St g s₀ cs ts s) (h : cs' = cs) : St g s₀ cs' ts s := by rw [h]; exact S
theorem HasC.tail {p : Addr × OD} : ∀ {d : D}, HasC cs d → HasC (p :: cs) d
  | .obj _ _, ⟨o, h⟩ => ⟨o, .tail _ h⟩
  | .int _, _ => trivial
  | .str _, _ => trivial
  | .val _, _ => trivial
  | .list _, _ => trivial
  | .tup _, _ => trivial
  | .rng _, _ => trivial
theorem map_eraseIdx {α β : Type} {f : α → β} : ∀ {l : List α} {i : Nat}, (l.map f).eraseIdx i = (l.eraseIdx i).map f
  | [], _ => rfl
  | _ :: _, 0 => rfl
  | x :: r, i + 1 => by simp [map_eraseIdx (l := r) (i := i)]
structure FLoop (N : Nat) (Inv : List Nat → (Nat → List Nat) → (Nat → Option Nat) → Prop) (mu : List Nat → (Nat → List Nat) → (Nat → Option Nat) → Nat) : Prop where
  small : ∀ {fr st hd}, Inv fr st hd → fr.length ≤ 100
  ent : ∀ {fr st hd}, Inv fr st hd → ∀ k, k < N → ∀ j ∈ st k, j < N
  hdl : ∀ {fr st hd}, Inv fr st hd → ∀ k z, k < N → hd k = some z → z < N
  free : ∀ {fr st hd}, Inv fr st hd → ∀ x ∈ fr, x < N
  head : ∀ {fr x st hd}, Inv (fr ++ [x]) st hd → ∃ y r, st x = y :: r ∧ x ∈ st y
  step : ∀ {fr x st hd y r}, Inv (fr ++ [x]) st hd → st x = y :: r →
    Inv ((succs st x y).foldl (foldS y) (back1 fr (hd y), st)).1 ((succs st x y).foldl (foldS y) (back1 fr (hd y), st)).2 (updN hd y (some x)) ∧
    mu ((succs st x y).foldl (foldS y) (back1 fr (hd y), st)).1 ((succs st x y).foldl (foldS y) (back1 fr (hd y), st)).2 (updN hd y (some x)) < mu (fr ++ [x]) st hd
theorem ex_while {env : Env} {test : Expr} {body : List Stmt} {pos : Pos} {Q : Flow → Shared → Prop} (I : Nat → Shared → Prop) {n : Nat} (h0 : I n s)
    (turn : ∀ n s, I n s → wpAny (model prog w) A (isTrue test env (eval test env)) (fun b s₂ => if b = true then wpAny (model prog w) A (execs body env) (fun f s₃ => (f = .next ∨ f = .cont) ∧ ∃ m, m < n ∧ I m s₃) NoE s₂ else Q .next s₂) NoE s) :
    wpAny (model prog w) A (exec (.While test body [] pos) env) Q NoE s := by
  refine wpAny_While (codeAny_whileLoop I (fun n s hI => ?_) n h0)
  refine noE (wpAny_mono (turn n s hI) (fun b s₂ hb => ?_) fun _ _ q => q)
  cases b with
  | true =>
    rw [if_pos rfl] at hb
    show wpAny _ _ (execs body env) _ _ _
    refine noE (wpAny_mono hb (fun f s₃ hf => ?_) fun _ _ q => q)
    obtain ⟨hf, hm⟩ := hf
    rcases hf with rfl | rfl <;> exact hm
  | false =>
    rw [if_neg (by decide)] at hb
    exact ex_nil hb
section
variable {ps : List (Addr × Addr)} {X : Nat → D × D} {st : Nat → List Nat} {hd : Nat → Option Nat} {k : Nat}
theorem first_spec {v : Value} {pl : List Nat} {Inv : List Nat → (Nat → List Nat) → (Nat → Option Nat) → Prop} {mu : List Nat → (Nat → List Nat) → (Nat → Option Nat) → Nat} (T : FLoop ps.length Inv mu)
    (G : Gd (KK w.params) g mg mb) (hA : Ok (n + 8) A) (hI : InjX ps ps.length) (S : St g s₀ (PLx (FS ps X st hd) ps ++ cs) ts s) (hc : PLx (FS ps X st hd) ps ++ cs ≠ []) (hv : (v, .list (pl.map (pD ps))) ∈ ts) (hi : Inv pl st hd)
    (h : ∀ v s' st' hd', Inv [] st' hd' → St g s₀ (PLx (FS ps X st' hd') ps ++ cs) ((v, .list (pl.map (pD ps))) :: ts) s' → Q v s') : wpAny (model prog w) A (call (.ref 35) [v]) Q NoE s := by
  refine call_fn (fd := fdFirst) (body := bdFirst) (nms := ["players"]) S G hA hc (hoFirst _) (hcFirst _) hbFirst (haFirst _) (ls := [("players", .list (pl.map (pD ps)))]) (.cons (by wtm_at "mem") .nil) (fun L s' S' => ?_)
  have hh : (A.deeper (callEnv fdFirst L 35)).handled = none := hA.hd
  show wpAny _ _ (execs (_ :: _) _) _ _ _
  wtm_at "st"
  wtm_at "st"
  wtm_at "st"
  wtm_at "st"
  wtm_at "st"
  wtm_at "st"
  refine sl_allOL (by assumption) (List.cons_ne_nil _ _) (.head _) (fun a s1 S1 => ?_)
  have S2 := S1.tval (.ref a)
  wtm_at "st"
  wtm_at "st"
  rename_i s3 S3
  refine ex_while (fun n s => ∃ free st hd, Inv free st hd ∧ mu free st hd = n ∧ St g s₀ ((a, .list (free.map (pD ps))) :: (L, .names [("players", .list (pl.map (pD ps))), ("free_players", .val (.ref a))]) :: (PLx (FS ps X st hd) ps ++ cs)) ts s)
    (n := mu pl st hd) ⟨pl, st, hd, hi, rfl, S3.tsub (by wtm_at "sub")⟩ (fun m s hP => ?_)
  obtain ⟨free, st, hd, hi, hmu, S⟩ := hP
  wtm_at "st"
  wtm_at "st"
  wtm_at "st"
  rename_i s4 S4
  rcases List.eq_nil_or_concat free with hf | ⟨fr, x, hf⟩
  · subst hf
    refine ite_no Bool.false_ne_true ?_
    wtm_at "go"
    exact h _ _ _ _ hi (St.leaveC (by assumption) (by wtm_at "sl") (.head _) (by wtm_at "sub"))
  · rw [List.concat_eq_append] at hf
    subst hf
    refine ite_yes (by simp) ?_
    have hxN := T.free hi x (by simp)
    obtain ⟨y, r, hy, hxy⟩ := T.head hi
    have hyN : y < ps.length := T.ent hi x hxN y (by rw [hy]; exact .head _)
    have hmx := PLx_mem (cs := cs) (F := FS ps X st hd) hxN
    have hmy := PLx_mem (cs := cs) (F := FS ps X st hd) hyN
    rw [List.map_append] at S4
    have S4 : St g s₀ ((a, .list (fr.map (pD ps) ++ [pD ps x])) :: (L, .names [("players", .list (pl.map (pD ps))), ("free_players", .val (.ref a))]) :: (PLx (FS ps X st hd) ps ++ cs)) _ _ := S4
    wtm_at "go"
    rename_i S5
    refine fav_spec (n := n) G (by wtm_at "ok") hxN hy (St.front [_, _] S5) (.head _) (fun v6 s6 S6 => ?_)
    have S7 := St.back [_, _] S6
    dsimp only [List.cons_append, List.nil_append] at S7
    have hzN : ∀ z, hd y = some z → z < ps.length := fun z hz => T.hdl hi y z hyN hz
    have hsm : fr.length + 1 ≤ lim := by
      have h1 := T.small hi
      have h2 : lim = 4096 := rfl
      rw [List.length_append, List.length_singleton] at h1
      omega
    wtm_at "st"
    refine execs_two (fun s' => ∃ ts' d, St g s₀ ((a, .list ((back1 fr (hd y)).map (pD ps))) :: (L, .names [("players", .list (pl.map (pD ps))), ("free_players", .val (.ref a)), ("player", pD ps x), ("favourite", pD ps y), ("current", d)]) :: (PLx (FS ps X st (updN hd y none)) ps ++ cs)) ts' s' ∧ ∀ p ∈ ts, p ∈ ts') ?_ (fun s8 hC => ?_)
    · cases hhy : hd y with
      | none =>
        have hmm : FS ps X st hd y "matching" = some (.val .none) := by
          have : FS ps X st hd y "matching" = some (hD ps (hd y)) := gF_matching
          rw [this, hhy]; rfl
        have hup : updN hd y none = hd := by
          funext j; unfold updN
          by_cases hj : j = y
          · rw [if_pos hj, hj, hhy]
          · rw [if_neg hj]
        rw [hup]
        wtm_at "go"
        exact ⟨_, _, by assumption, by wtm_at "sub"⟩
      | some z =>
        have hmm : FS ps X st hd y "matching" = some (pD ps z) := by
          have : FS ps X st hd y "matching" = some (hD ps (hd y)) := gF_matching
          rw [this, hhy]; rfl
        wtm_at "go"
        rename_i S8
        refine unmatch_spec (n := n) G (by wtm_at "ok") hyN (St.front [_, _] S8) (by wtm_at "mem") (fun s9 S9 => ?_)
        have S10 := St.back [_, _] S9
        dsimp only [List.cons_append, List.nil_append] at S10
        wtm_at "go"
        rename_i S11
        exact ⟨_, pD ps z, St.cast S11 (by rw [back1, List.map_append]; rfl), by wtm_at "sub"⟩
    · obtain ⟨ts', d, S8, hsub⟩ := hC
      have hmx := PLx_mem (cs := cs) (F := FS ps X st (updN hd y none)) hxN
      have hmy := PLx_mem (cs := cs) (F := FS ps X st (updN hd y none)) hyN
      wtm_at "go"
      rename_i S9
      refine match_spec (n := n) G (by wtm_at "ok") hyN (St.front [_, _] S9) (by wtm_at "mem") (by wtm_at "mem") (fun s10 S10 => ?_)
      have S11 := St.back [_, _] S10
      dsimp only [List.cons_append, List.nil_append] at S11
      rw [updN_updN] at S11
      have hmy := PLx_mem (cs := cs) (F := FS ps X st (updN hd y (some x))) hyN
      wtm_at "go"
      rename_i S12
      refine succ_spec (n := n) (m := x) G (by wtm_at "ok") hI hyN updN_self hxy (T.ent hi y hyN) (St.front [_, _] S12) (by wtm_at "mem") (fun v13 s13 S13 => ?_)
      have S14 := St.back [_, _] S13
      dsimp only [List.cons_append, List.nil_append] at S14
      have hfr1 : ∀ z ∈ back1 fr (hd y), z < ps.length := fun q hq => by
        cases hhy : hd y with
        | none => rw [hhy] at hq; exact T.free hi q (by simp [show q ∈ fr from hq])
        | some z =>
          rw [hhy] at hq
          rcases List.mem_append.mp hq with hq | hq
          · exact T.free hi q (by simp [hq])
          · rw [List.mem_singleton.mp hq]; exact hzN z hhy
      have hss : ∀ j ∈ succs st x y, j < ps.length := fun j hj => T.ent hi y hyN j (List.mem_of_mem_drop hj)
      have S15 := S14.names (.tail .head) (ls' := [("players", .list (pl.map (pD ps))), ("free_players", .val (.ref a)), ("favourite", pD ps y)]) (by wtm_at "subl")
      refine for_list_code hh S15 (List.cons_ne_nil _ _) (.head _)
        (P := fun i cs' => ∃ free' st', (free', st') = ((succs st x y).take i).foldl (foldS y) (back1 fr (hd y), st) ∧ (∀ z ∈ free', z < ps.length) ∧ (∀ k, k < ps.length → ∀ j ∈ st' k, j < ps.length) ∧
          cs' = (a, .list (free'.map (pD ps))) :: (L, .names [("players", .list (pl.map (pD ps))), ("free_players", .val (.ref a)), ("favourite", pD ps y)]) :: (PLx (FS ps X st' (updN hd y (some x))) ps ++ cs))
        ⟨_, _, rfl, hfr1, T.ent hi, rfl⟩ (fun i d' v it od cs' s hd' hP S => ?_) (fun _ _ _ q => wpAny_pure q) (fun cs' s hP S => ?_)
      · obtain ⟨free', st', hfold, hf', he', hcs⟩ := hP
        subst hcs
        rw [List.getElem?_map] at hd'
        obtain ⟨sc, hsc, rfl⟩ := Option.map_eq_some_iff.mp hd'
        have hsN : sc < ps.length := hss sc (List.mem_of_getElem? hsc)
        have he2 : ∀ k, k < ps.length → ∀ j ∈ del st' sc y k, j < ps.length := del1_lt (del1_lt he' hsN) hyN
        have hfold2 : foldS y (free', st') sc = ((succs st x y).take (i + 1)).foldl (foldS y) (back1 fr (hd y), st) := by
          have e : (succs st x y).take (i + 1) = (succs st x y).take i ++ [sc] := by
            rw [List.take_add_one, show (succs st x y)[i]? = some sc from hsc]; rfl
          rw [e, List.foldl_append, ← hfold]; rfl
        have fin : ∀ {free'' : List Nat} {s : Shared} {ts'' : List (Value × D)} {ls : List (Str × D)} {base : List (Value × D)}, St g s₀ ((it, od) :: (a, .list (free''.map (pD ps))) :: (L, .names ls) :: (PLx (FS ps X (del st' sc y) (updN hd y (some x))) ps ++ cs)) ts'' s →
            (∀ p ∈ base, p ∈ ts'') → (∀ p ∈ ([("players", .list (pl.map (pD ps))), ("free_players", .val (.ref a)), ("favourite", pD ps y)] : List (Str × D)), p ∈ ls) → free'' = (foldS y (free', st') sc).1 → (∀ z ∈ free'', z < ps.length) →
            TurnTo g s₀ ((fun i cs' => ∃ free' st', (free', st') = ((succs st x y).take i).foldl (foldS y) (back1 fr (hd y), st) ∧ (∀ z ∈ free', z < ps.length) ∧ (∀ k, k < ps.length → ∀ j ∈ st' k, j < ps.length) ∧
              cs' = (a, .list (free'.map (pD ps))) :: (L, .names [("players", .list (pl.map (pD ps))), ("free_players", .val (.ref a)), ("favourite", pD ps y)]) :: (PLx (FS ps X st' (updN hd y (some x))) ps ++ cs)) (i + 1)) it od base .next s :=
          fun S hb hl he hz => TurnTo.nextN S (.tail .head) hl hb ⟨_, _, by rw [← hfold2, he]; rfl, hz, he2, rfl⟩
        wtm_at "go"
        rename_i S16
        refine delete_pair_spec (n := n) G (by wtm_at "ok") hI hsN hyN (St.front [_, _, _] S16) (by wtm_at "mem") (by wtm_at "mem") he' (fun s17 S17 => ?_)
        have S18 := St.back [_, _, _] S17
        dsimp only [List.cons_append, List.nil_append] at S18
        have hms := PLx_mem (cs := cs) (F := FS ps X (del st' sc y) (updN hd y (some x))) hsN
        have hmp : FS ps X (del st' sc y) (updN hd y (some x)) sc "prefs" = some (.list ((del st' sc y sc).map (pD ps))) := gF_prefs
        cases hemp : del st' sc y sc with
        | nil =>
          have hyes : (!(!(List.map (pD ps) (del st' sc y sc)).isEmpty)) = true := by rw [hemp]; rfl
          have H : ∀ j, j < ps.length → (dxOf ps j, OD.attrs 5 (FS ps X (del st' sc y) (updN hd y (some x)) j)) ∈ (PLx (FS ps X (del st' sc y) (updN hd y (some x))) ps ++ cs) := fun j hj => PLx_mem hj
          wtm_at "go"
          rename_i S20
          refine k_inO (n := n) S20 G (pcKK _) (by wtm_at "ok") (.tail _ (.head _)) (.head _) (sk_P _ _) (fun e he => (hc_P H hf' e he).tail.tail.tail) (.tail (.tail (.tail ⟨_, H sc hsN⟩))) ?_
          rw [any_P hI hf' hsN]
          by_cases hin : sc ∈ free'
          · have hy2 : decide (sc ∈ free') = true := decide_eq_true hin
            wtm_at "go"
            refine w_remove (g := g) (s₀ := s₀) (n := n) G (pcKK _) (by wtm_at "ok") ?_
            wtm_at "go"
            rename_i S21
            refine ⟨_, _, _, _, _, _, S21, .tail .head, .head _, sk_P _ _, (fun e he => (hc_P H hf' e he).tail.tail.tail), (.tail (.tail (.tail ⟨_, H sc hsN⟩))), idx_P hI hf' hin, fun s22 S22 => ?_⟩
            rw [map_eraseIdx, ← List.erase_eq_eraseIdx_of_idxOf rfl] at S22
            wtm_at "go"
            exact fin S22 (by wtm_at "sub") (by wtm_at "subl") (by unfold foldS; rw [if_pos ⟨hemp, hin⟩]) fun z hz => hf' z (List.mem_of_mem_erase hz)
          · have hy2 : ¬decide (sc ∈ free') = true := fun h => hin (of_decide_eq_true h)
            wtm_at "go"
            exact fin (by assumption) (by wtm_at "sub") (by wtm_at "subl") (by unfold foldS; rw [if_neg (fun h => hin h.2)]) hf'
        | cons q r' =>
          have hno : ¬(!(!(List.map (pD ps) (del st' sc y sc)).isEmpty)) = true := by rw [hemp]; exact Bool.false_ne_true
          wtm_at "go"
          exact fin (by assumption) (by wtm_at "sub") (by wtm_at "subl") (by unfold foldS; rw [if_neg (by rw [hemp]; exact fun h => nomatch h.1)]) hf'
      · obtain ⟨free', st', hfold, hf', he', hcs⟩ := hP
        subst hcs
        have hlen : (List.map (pD ps) (List.drop (List.idxOf x (st y) + 1) (st y))).length = (succs st x y).length := List.length_map _
        rw [hlen, List.take_length] at hfold
        obtain ⟨h1, h2⟩ := T.step hi hy
        rw [← hfold] at h1 h2
        refine ex_nil ⟨.inl rfl, _, by rw [← hmu]; exact h2, free', st', updN hd y (some x), h1, rfl, ?_⟩
        have S30 := S.names (.tail .head) (ls' := [("players", .list (pl.map (pD ps))), ("free_players", .val (.ref a))]) (by wtm_at "subl")
        exact S30.tsub fun p hp => .tail _ (.tail _ (.tail _ (.tail _ (hsub p hp))))
end
end
section
variable {g : Heap} {mg mb : Str → Option Value} {s₀ s : Shared} {cs cs' : List (Addr × OD)} {ts ts' : List (Value × D)} {prog : Program} {w : World} {A : Around} {n : Nat} {Q : Value → Shared → Prop}
noncomputable abbrev pairD (p : Nat × Nat) : D := .tup [dN p.1, dN p.2]
noncomputable abbrev rowD (r : List (Nat × Nat)) : D := .list (r.map pairD)
noncomputable def flat (r : List (Nat × Nat)) : List Nat := r.flatMap fun p => [p.1, p.2]
noncomputable def bd : Nat → Nat
  | 0 => 1
  | 1 => 0
  | n + 2 => (n + 1) * bd n
theorem flat_length (r : List (Nat × Nat)) : (flat r).length = 2 * r.length := by
  induction r with
  | nil => rfl
  | cons p r ih => unfold flat at ih ⊢; rw [List.flatMap_cons, List.length_append, ih]; simp; omega
theorem bd_small : ∀ n : Nat, n ≤ 6 → bd n ≤ 15 := by decide
theorem perm_pair {x o : Nat} {rest : List Nat} {row : List (Nat × Nat)} (hn : rest.Nodup) (ho : o ∈ rest) (h : (flat row).Perm (rest.filter fun one => decide (one ≠ o))) : (flat ((x, o) :: row)).Perm (x :: rest) := by
  have e : flat ((x, o) :: row) = x :: o :: flat row := rfl
  rw [e]
  refine List.Perm.cons x ((List.Perm.cons o h).trans ?_)
  have e2 : (rest.filter fun one => decide (one ≠ o)) = rest.erase o := by
    rw [hn.erase_eq_filter]
    refine List.filter_congr fun j _ => ?_
    rw [Bool.eq_iff_iff, decide_eq_true_iff, bne_iff_ne]
  rw [e2]
  exact (List.perm_cons_erase ho).symm
theorem filter_len {o : Nat} {rest : List Nat} (hn : rest.Nodup) (ho : o ∈ rest) : (rest.filter fun one => decide (one ≠ o)).length = rest.length - 1 := by
  have e2 : (rest.filter fun one => decide (one ≠ o)) = rest.erase o := by
    rw [hn.erase_eq_filter]
    refine List.filter_congr fun j _ => ?_
    rw [Bool.eq_iff_iff, decide_eq_true_iff, bne_iff_ne]
  rw [e2, List.length_erase_of_mem ho]
theorem bd_step {m k : Nat} (h : m + 1 = k) : m * bd (k - 2) = bd k := by
  subst h
  cases m with
  | zero => rw [Nat.zero_mul]; rfl
  | succ m => rfl
theorem pairings_spec : ∀ (k : Nat) {left : List Nat} {A : Around} {cs : List (Addr × OD)} {ts : List (Value × D)} {s : Shared} {v : Value} {n : Nat} {Q : Value → Shared → Prop} (G : Gd (KK w.params) g mg mb) (hA : Ok (n + 3 * k + 3) A) (S : St g s₀ cs ts s) (hc : cs ≠ [])
    (hk : left.length = k) (h6 : k ≤ 6) (hnd : left.Nodup) (hv : (v, dL left) ∈ ts)
    (h : ∀ v s' (rows : List (List (Nat × Nat))), (∀ row ∈ rows, (flat row).Perm left) → rows.length ≤ bd k → St g s₀ cs ((v, .list (rows.map rowD)) :: ts) s' → Q v s'), wpAny (model prog w) A (call (.ref 232) [v]) Q NoE s := by
  intro k
  induction k using Nat.strongRecOn with
  | _ k ih =>
  intro left A cs ts s v n Q G hA S hc hk h6 hnd hv h
  refine call_fnD (fd := fdPairings) (body := bdPairings) S G hA hc (hoPairings _) (hcPairings _) hbPairings (haPairings _) (ls := [("left", dL left)]) (cm := [])
    (cl := fun L => [("other", L + 1)]) (co := fun L => [(L + 1, .cell none)])
    (fun L c => List.forall_mem_cons.mpr ⟨⟨_, rfl, by wtm_at "mem"⟩, List.forall_mem_nil _⟩)
    (fun L c => List.forall_mem_nil _) (fun L => rfl) (fun L => rfl)
    (fun n => List.forall_mem_cons.mpr ⟨.inl rfl, List.forall_mem_nil _⟩) (fun L s' S' => ?_)
  have hh : (A.deeper (clEnv fdPairings L 232 [("other", L + 1)])).handled = none := hA.hd
  dsimp only [List.cons_append, List.nil_append] at S'
  show wpAny _ _ (execs (_ :: _) _) _ _ _
  cases left with
  | nil =>
    have hyes : ([] : List Nat).isEmpty = true := rfl
    wtm_at "go"
    have hb : bd k = 1 := by rw [← hk]; rfl
    exact h _ _ [[]] (fun row hrow => by rw [List.mem_singleton.mp hrow]; exact .refl _) (by rw [hb]; exact Nat.le_refl _) (St.leaveC (by assumption) (by wtm_at "sl") (.head _) (by wtm_at "sub"))
  | cons x rest =>
    have hno : ¬(x :: rest).isEmpty = true := Bool.false_ne_true
    wtm_at "go"
    refine e_nilO (by assumption) (List.cons_ne_nil _ _) (fun r s1 S1 => ?_)
    have S2 := S1.tval (.ref r)
    wtm_at "go"
    rename_i v3 s3 S3
    have hrl : rest.length + 1 = k := hk
    have hndr : rest.Nodup := (List.nodup_cons.mp hnd).2
    have hbd2 := bd_small (k - 2) (by omega)
    refine for_list_code hh S3 (List.cons_ne_nil _ _) (.head _)
      (P := fun i cs' => ∃ rows oc, cs' = (r, .list (rows.map rowD)) :: (L, .names [("left", dL (x :: rest)), ("rows", .val (.ref r))]) :: (L + 1, .cell oc) :: cs ∧ (∀ row ∈ rows, (flat row).Perm (x :: rest)) ∧ rows.length ≤ i * bd (k - 2))
      ⟨[], none, rfl, (fun row hrow => nomatch hrow), Nat.zero_le _⟩ (fun i d' v it od cs' s hd' hP S => ?_) (fun _ _ _ q => wpAny_pure q) (fun cs' s hP S => ?_)
    · obtain ⟨rows, oc, hcs, hrows, hlen⟩ := hP
      subst hcs
      rw [List.getElem?_map] at hd'
      obtain ⟨o, hor, rfl⟩ := Option.map_eq_some_iff.mp hd'
      have hor : rest[i]? = some o := hor
      have hoin : o ∈ rest := List.mem_of_getElem? hor
      have hil : i < rest.length := (List.getElem?_eq_some_iff.mp hor).1
      have hr75 : rows.length ≤ 5 * 15 := Nat.le_trans hlen (Nat.mul_le_mul (by omega) hbd2)
      wtm_at "go"
      rename_i v4 s4 S4
      refine cs_if hh S4 (List.cons_ne_nil _ _) (.list (l := rest) (.head _)) (fun one => decide (one ≠ o)) (fun j => j) dN (fun j hj v' Lc it' od' acc oda s5 S5 => ?_) (fun v5 s5 S5 => ?_)
      · wtm_at "go"
      · rw [List.map_id'] at S5
        refine ⟨_, _, S5, ?_⟩
        refine ih (k - 2) (by omega) (n := n) G (by wtm_at "ok") S5 (List.cons_ne_nil _ _) (by rw [filter_len hndr hoin]; omega) (by omega) (hndr.filter _) (.head _) (fun v6 s6 rws hrws hrl6 S6 => ?_)
        refine for_list_code hh S6 (List.cons_ne_nil _ _) (.head _)
          (P := fun i cs' => cs' = (it, od) :: (r, .list ((rows ++ (rws.take i).map fun row => (x, o) :: row).map rowD)) :: (L, .names [("left", dL (x :: rest)), ("rows", .val (.ref r))]) :: (L + 1, .cell (some (dN o))) :: cs)
          (by simp) (fun i2 d2 v it2 od2 cs' s hd2 hP2 S => ?_) (fun _ _ _ q => wpAny_pure q) (fun cs' s hP2 S => ?_)
        · subst hP2
          rw [List.getElem?_map] at hd2
          obtain ⟨row, hrow, rfl⟩ := Option.map_eq_some_iff.mp hd2
          have hrin : row ∈ rws := List.mem_of_getElem? hrow
          have hrow6 : row.length ≤ 6 := by
            have h1 := (hrws row hrin).length_eq
            rw [flat_length, filter_len hndr hoin] at h1
            omega
          have hi2 : i2 < rws.length := (List.getElem?_eq_some_iff.mp hrow).1
          wtm_at "go"
          · have hx := ‹(x :: rest)[0]? = some _›
            cases hx
            refine TurnTo.nextN (by assumption) (ls' := [("left", dL (x :: rest)), ("rows", .val (.ref r))]) (.tail (.tail .head)) (by wtm_at "subl") (by wtm_at "sub") ?_
            have e : rws.take (i2 + 1) = rws.take i2 ++ [row] := by rw [List.take_add_one, hrow]; rfl
            show _ = _
            have e5 : (rows ++ (rws.take i2 ++ [row]).map fun row => (x, o) :: row).map rowD = (rows ++ (rws.take i2).map fun row => (x, o) :: row).map rowD ++ [rowD ((x, o) :: row)] := by simp
            rw [e, e5]
            rfl
        · subst hP2
          refine ex_nil ?_
          rw [List.length_map, List.take_length] at S
          refine TurnTo.next S (by wtm_at "sub") ⟨_, _, rfl, fun row hrow => ?_, ?_⟩
          · rcases List.mem_append.mp hrow with hrow | hrow
            · exact hrows row hrow
            · obtain ⟨row', hrow', rfl⟩ := List.mem_map.mp hrow
              exact perm_pair hndr hoin (hrws row' hrow')
          · rw [List.length_append, List.length_map, Nat.add_mul, Nat.one_mul]
            exact Nat.add_le_add hlen hrl6
    · obtain ⟨rows, oc, hcs, hrows, hlen⟩ := hP
      subst hcs
      wtm_at "go"
      rw [List.length_map, show (List.drop 1 (x :: rest)) = rest from rfl, bd_step hrl] at hlen
      exact h _ _ rows hrows hlen (S.freezeList.leaveC (by wtm_at "sl") (.head _) (by wtm_at "sub"))
end
section
variable {g : Heap} {mg mb : Str → Option Value} {s₀ s : Shared} {cs cs' : List (Addr × OD)} {ts ts' : List (Value × D)} {prog : Program} {w : World} {A : Around} {n : Nat} {Q : Value → Shared → Prop}
noncomputable abbrev oD (N : Nat) (o : Nat → List Nat) : D := .list ((List.range N).map fun k => dL (o k))
section
variable {env : Env} {E : Value → Shared → Prop}
theorem a_pair {a b : Str} {pa pb tp : Pos} {k : Nat} {v : Value} {d1 d2 : D} {Q : Unit → Shared → Prop} (hh : A.handled = none) (S : St g s₀ cs ts s) (hv : (v, .tup [d1, d2]) ∈ ts)
    (h : ∀ v1 v2 s', St g s₀ cs ((v1, d1) :: (v2, d2) :: ts) s' → wpAny (model prog w) A (storeName env a v1) (fun _ s => wpAny (model prog w) A (storeName env b v2) Q E s) E s') :
    wpAny (model prog w) A (assign (.Tuple [.Name a pa, .Name b pb] k tp) env v) Q E s := by
  obtain ⟨t, vs, rfl, ht, hD, _⟩ := den_tup (S.den hv)
  obtain ⟨l⟩ := vs
  obtain ⟨x, y, rfl⟩ : ∃ x y, l = [x, y] := by
    have := hD.length
    match l, this with
    | [x, y], _ => exact ⟨x, y, rfl⟩
  have hx : Den s.heap.get? x d1 := by cases hD with | cons h _ => exact h
  have hy : Den s.heap.get? y d2 := by cases hD with | cons _ r => cases r with | cons h _ => exact h
  refine wpAny_assign_Tuple hh ht rfl rfl fun h₁ he₁ => ?_
  have up₁ : VLe s.heap.get? h₁.get? := fun c o e => he₁ c o (Nat.ne_of_lt (Heap.lt_size e)) e
  have S1 : St g s₀ cs ((x, d1) :: (y, d2) :: ts) s := by
    obtain ⟨l2, w2, e2, t2, _, _, u2, hu2, Sb⟩ := S.itemT (v := .none) (i := 1) hv (d := d2) rfl
    obtain ⟨l1, w1, e1, t1, _, _, u1, hu1, Sa⟩ := Sb.itemT (v := .none) (i := 0) (.tail _ hv) (d := d1) rfl
    cases e1
    cases e2
    obtain ⟨o0, g0, c0, n0, k0⟩ := ht
    obtain ⟨o1, g1, c1, n1, k1⟩ := t1
    obtain ⟨o2, g2, c2, n2, k2⟩ := t2
    rw [g0] at g1 g2
    cases g1
    cases g2
    rw [k0] at k1 k2
    cases k1
    cases k2
    cases hu1
    cases hu2
    exact Sa
  have S2 := S1.keep (h' := h₁) (t := s.toks) up₁
  show wpAny _ _ (assignInOrder [assign (.Name a pa) env, assign (.Name b pb) env] [x, y]) _ _ _
  refine wpAny_assignInOrder_more (PyProof.Rows.assign_Name (wpAny_mono (h x y _ S2) (fun _ s3 h3 => ?_) fun _ _ q => q))
  exact wpAny_assignInOrder_more (PyProof.Rows.assign_Name (wpAny_mono h3 (fun _ s4 h4 => wpAny_assignInOrder_none h4) fun _ _ q => q))
theorem b_repN {a b : Value} {x N : Nat} {Q : Value → Shared → Prop} (S : St g s₀ cs ts s) (hc : cs ≠ []) (ha : (a, .list [dN x]) ∈ ts) (hb : (b, dN N) ∈ ts) (hn : N ≤ lim)
    (h : ∀ l s', St g s₀ ((l, .list ((List.replicate N x).map dN)) :: cs) ((.ref l, .val (.ref l)) :: ts) s' → Q (.ref l) s') : wpAny (model prog w) A (binaryOp .Mult a b) Q E s :=
  b_rep S hc ha hb (by omega) (by omega) fun l s' S' => h l s' (by rw [List.map_replicate]; exact S'.tval _)
theorem s_itemN {l : Addr} {i v : Value} {m : List Nat} {k x : Nat} {Q : Unit → Shared → Prop} (S : St g s₀ cs ts s) (U : Upd l (.list (m.map dN)) (.list ((m.set k x).map dN)) cs cs') (hi : (i, dN k) ∈ ts) (hv : (v, dN x) ∈ ts)
    (hk : k < m.length) (h : ∀ s', St g s₀ cs' ts s' → Q () s') : wpAny (model prog w) A (setItem (.ref l) i v) Q E s :=
  s_item S (d := dN x) (k := k) (by rw [List.map_set] at U; exact U) hi hv (by omega) (by simpa using hk) h
end
theorem mapN_inj : ∀ {l m : List Nat}, l.map dN = m.map dN → l = m
  | [], [], _ => rfl
  | [], _ :: _, h => nomatch h
  | _ :: _, [], h => nomatch h
  | a :: l, b :: m, h => by
    rw [List.map_cons, List.map_cons, List.cons.injEq] at h
    obtain ⟨h1, h2⟩ := h
    injection h1 with h1
    rw [mapN_inj h2, show a = b by omega]
theorem dL_inj {l m : List Nat} (h : D.list (l.map dN) = D.list (m.map dN)) : l = m := by
  injection h with h
  exact mapN_inj h
theorem k_neLL {a b : Value} {l m : List Nat} {E : Value → Shared → Prop} {Q : Value → Shared → Prop} (S : St g s₀ cs ts s) (ha : (a, dL l) ∈ ts) (hb : (b, dL m) ∈ ts) (hu : A.units + 64 < cLine) (h : Q (.bool (decide (l ≠ m))) s) : wpAny (model prog w) A (compareOp .NotEq a b) Q E s :=
  k_neD S ha hb (pl_dL (n := 5) l) (pl_dL (n := 5) m) hu fun r hr => by
    have : (!r) = decide (l ≠ m) := by
      rw [Bool.eq_iff_iff, decide_eq_true_iff, Bool.not_eq_true', ← Bool.not_eq_true, hr]
      exact not_congr ⟨dL_inj, fun e => by rw [e]⟩
    rw [this]; exact h
theorem k_eqLL {a b : Value} {l m : List Nat} {E : Value → Shared → Prop} {Q : Value → Shared → Prop} (S : St g s₀ cs ts s) (ha : (a, dL l) ∈ ts) (hb : (b, dL m) ∈ ts) (hu : A.units + 64 < cLine) (h : Q (.bool (decide (l = m))) s) : wpAny (model prog w) A (compareOp .Eq a b) Q E s :=
  k_eqD S ha hb (pl_dL (n := 5) l) (pl_dL (n := 5) m) hu fun r hr => by
    have : r = decide (l = m) := by
      rw [Bool.eq_iff_iff, decide_eq_true_iff, hr]
      exact ⟨dL_inj, fun e => by rw [e]⟩
    rw [this]; exact h
theorem t_itemRO {f : Nat → D} {value slice : Expr} {a : Addr} {i : Value} {N k : Nat} {Q : Value → Shared → Prop} (S : St g s₀ cs ts s) (ho : (a, .list ((List.range N).map f)) ∈ cs) (hi : (i, dN k) ∈ ts) (hx : k < N)
    (h : ∀ v, St g s₀ cs ((v, f k) :: ts) s → Q v s)
    (hs : ∀ a k u, subscripted slice false (.ref a) (.int k u) = operate [.ref a, .int k u] (getItem (.ref a) (.int k u)) := by with_unfolding_all exact fun _ _ _ => rfl) :
    wpAny (model prog w) A (subscriptTail value slice (.ref a) i) Q NoE s := t_itemO S ho hi (by omega) (d := f k) (by simp [hx]) h (fun a u => hs a _ u)
theorem c_lenRO {f : Nat → D} {a : Addr} {N : Nat} {E : Value → Shared → Prop} {Q : Value → Shared → Prop} (S : St g s₀ cs ts s) (ho : (a, .list ((List.range N).map f)) ∈ cs) (h : ∀ v s', St g s₀ cs ((v, dN N) :: ts) s' → Q v s') : wpAny (model prog w) A (call (.builtin "len") [.ref a]) Q E s := c_lenO S ho (by simpa using h)
theorem range_set {f : Nat → D} {N k : Nat} {d : D} : ((List.range N).map f).set k d = (List.range N).map fun j => if j = k then d else f j := by
  refine List.ext_getElem (by simp) fun i h1 h2 => ?_
  rw [List.getElem_set]
  simp only [List.getElem_map, List.getElem_range]
  by_cases h : k = i
  · rw [if_pos h, if_pos h.symm]
  · rw [if_neg h, if_neg (fun e => h e.symm)]
theorem t_tup0 {value slice : Expr} {o i : Value} {d1 d2 : D} {Q : Value → Shared → Prop} (S : St g s₀ cs ts s) (ho : (o, .tup [d1, d2]) ∈ ts) (hi : (i, dN 0) ∈ ts) (h : ∀ v, St g s₀ cs ((v, d1) :: ts) s → Q v s)
    (hs : ∀ a k u, subscripted slice false (.ref a) (.int k u) = operate [.ref a, .int k u] (getItem (.ref a) (.int k u)) := by with_unfolding_all exact fun _ _ _ => rfl) : wpAny (model prog w) A (subscriptTail value slice o i) Q NoE s :=
  t_tup S ho hi (by omega) (d := d1) rfl h (fun a u => hs a _ u)
theorem t_tup1 {value slice : Expr} {o i : Value} {d1 d2 : D} {Q : Value → Shared → Prop} (S : St g s₀ cs ts s) (ho : (o, .tup [d1, d2]) ∈ ts) (hi : (i, dN 1) ∈ ts) (h : ∀ v, St g s₀ cs ((v, d2) :: ts) s → Q v s)
    (hs : ∀ a k u, subscripted slice false (.ref a) (.int k u) = operate [.ref a, .int k u] (getItem (.ref a) (.int k u)) := by with_unfolding_all exact fun _ _ _ => rfl) : wpAny (model prog w) A (subscriptTail value slice o i) Q NoE s :=
  t_tup S ho hi (by omega) (d := d2) rfl h (fun a u => hs a _ u)
/-! who is whose mate -/
noncomputable def setP (m : List Nat) (p : Nat × Nat) : List Nat := (m.set p.1 p.2).set p.2 p.1
noncomputable def matesL (N : Nat) (row : List (Nat × Nat)) : List Nat := row.foldl setP (List.replicate N 0)
theorem setP_len (m : List Nat) (p : Nat × Nat) : (setP m p).length = m.length := by unfold setP; simp
theorem foldP_len : ∀ (row : List (Nat × Nat)) (m : List Nat), (row.foldl setP m).length = m.length
  | [], _ => rfl
  | p :: r, m => by rw [List.foldl_cons, foldP_len r, setP_len]
theorem foldP_out : ∀ (row : List (Nat × Nat)) (m : List Nat) (i : Nat), i ∉ flat row → (row.foldl setP m)[i]? = m[i]?
  | [], _, _, _ => rfl
  | p :: r, m, i, h => by
    have e : flat (p :: r) = p.1 :: p.2 :: flat r := rfl
    rw [e] at h
    simp only [List.mem_cons, not_or] at h
    rw [List.foldl_cons, foldP_out r _ i h.2.2]
    unfold setP
    rw [List.getElem?_set_ne (Ne.symm h.2.1), List.getElem?_set_ne (Ne.symm h.1)]
theorem foldP_in : ∀ (row : List (Nat × Nat)) (m : List Nat), (flat row).Nodup → (∀ i ∈ flat row, i < m.length) → ∀ p ∈ row, (row.foldl setP m)[p.1]? = some p.2 ∧ (row.foldl setP m)[p.2]? = some p.1
  | [], _, _, _, p, hp => nomatch hp
  | q :: r, m, hn, hl, p, hp => by
    have e : flat (q :: r) = q.1 :: q.2 :: flat r := rfl
    rw [e, List.nodup_cons, List.nodup_cons] at hn
    rw [e] at hl
    rw [List.foldl_cons]
    have h1 : q.1 < m.length := hl _ (.head _)
    have h2 : q.2 < m.length := hl _ (.tail _ (.head _))
    have hne : q.1 ≠ q.2 := fun e => hn.1 (by rw [e]; exact .head _)
    rcases List.mem_cons.mp hp with rfl | hp
    · rw [foldP_out r _ _ (fun h => hn.1 (.tail _ h)), foldP_out r _ _ hn.2.1]
      unfold setP
      refine ⟨?_, ?_⟩
      · rw [List.getElem?_set_ne (Ne.symm hne), List.getElem?_set_self h1]
      · rw [List.getElem?_set_self (by simpa using h2)]
    · exact foldP_in r _ hn.2.2 (fun i hi => by rw [setP_len]; exact hl i (.tail _ (.tail _ hi))) p hp
theorem mem_flat {row : List (Nat × Nat)} {i : Nat} (h : i ∈ flat row) : ∃ p ∈ row, i = p.1 ∨ i = p.2 := by
  obtain ⟨p, hp, h⟩ := List.mem_flatMap.mp h
  refine ⟨p, hp, ?_⟩
  simpa using h
theorem pair_ne : ∀ {row : List (Nat × Nat)}, (flat row).Nodup → ∀ p ∈ row, p.1 ≠ p.2
  | [], _, p, hp => nomatch hp
  | q :: r, hn, p, hp => by
    have e : flat (q :: r) = q.1 :: q.2 :: flat r := rfl
    rw [e, List.nodup_cons, List.nodup_cons] at hn
    rcases List.mem_cons.mp hp with rfl | hp
    · exact fun e => hn.1 (by rw [e]; exact .head _)
    · exact pair_ne hn.2.2 p hp
theorem mates_ok {N : Nat} {row : List (Nat × Nat)} (h : (flat row).Perm (List.range N)) :
    (matesL N row).length = N ∧ (∀ p ∈ row, p.1 < N ∧ p.2 < N ∧ p.1 ≠ p.2 ∧ (matesL N row)[p.1]? = some p.2 ∧ (matesL N row)[p.2]? = some p.1) ∧ ∀ i, i < N → ∃ m, (matesL N row)[i]? = some m ∧ m < N ∧ m ≠ i ∧ (matesL N row)[m]? = some i := by
  have hn : (flat row).Nodup := h.nodup_iff.mpr List.nodup_range
  have hl : ∀ i ∈ flat row, i < N := fun i hi => List.mem_range.mp (h.mem_iff.mp hi)
  have hin := foldP_in row (List.replicate N 0) hn (fun i hi => by rw [List.length_replicate]; exact hl i hi)
  have hp : ∀ p ∈ row, p.1 < N ∧ p.2 < N ∧ p.1 ≠ p.2 ∧ (matesL N row)[p.1]? = some p.2 ∧ (matesL N row)[p.2]? = some p.1 := fun p hp =>
    ⟨hl _ (List.mem_flatMap.mpr ⟨p, hp, .head _⟩), hl _ (List.mem_flatMap.mpr ⟨p, hp, .tail _ (.head _)⟩), pair_ne hn p hp, hin p hp⟩
  refine ⟨by unfold matesL; rw [foldP_len, List.length_replicate], hp, fun i hi => ?_⟩
  obtain ⟨p, hpr, hpi⟩ := mem_flat (h.mem_iff.mpr (List.mem_range.mpr hi))
  obtain ⟨h1, h2, h3, h4, h5⟩ := hp p hpr
  rcases hpi with rfl | rfl
  · exact ⟨p.2, h4, h2, h3.symm, h5⟩
  · exact ⟨p.1, h5, h1, h3, h4⟩
end
local macro_rules | `(tactic| wtm_at "st") => `(tactic| first
  | ((with_reducible show wpAny _ _ (binaryOp Operator.Mult _ _) _ _ _); first | refine b_mulN (by assumption) (by wtm_at "mem") (by wtm_at "mem") ?_ (fun _ _ _ => ?_) | refine b_mul (by assumption) (by wtm_at "mem") (by wtm_at "mem") ?_ (fun _ _ _ => ?_) | refine b_repN (by assumption) (List.cons_ne_nil _ _) (by wtm_at "mem") (by wtm_at "mem") ?_ (fun _ _ _ => ?_))
  | ((with_reducible show wpAny _ _ (compareOp CmpOp.Eq _ _) _ _ _); first | refine k_eqN (by assumption) (by wtm_at "mem") (by wtm_at "mem") ?_ | refine k_eq (by assumption) (by wtm_at "mem") (by wtm_at "mem") ?_ | refine k_eqNil (n := 8) (by assumption) (by wtm_at "mem") (by wtm_at "mem") (by wtm_at "un") (fun _ _ => by wtm_at "pl") (by decide) ?_ | refine k_neLL (by assumption) (by wtm_at "mem") (by wtm_at "mem") (by wtm_at "un") ?_ | refine k_eqLL (by assumption) (by wtm_at "mem") (by wtm_at "mem") (by wtm_at "un") ?_)
  | ((with_reducible show wpAny _ _ (compareOp CmpOp.NotEq _ _) _ _ _); first | refine k_neN (by assumption) (by wtm_at "mem") (by wtm_at "mem") ?_ | refine k_ne (by assumption) (by wtm_at "mem") (by wtm_at "mem") ?_ | refine k_neNil (n := 8) (by assumption) (by wtm_at "mem") (by wtm_at "mem") (by wtm_at "un") (fun _ _ => by wtm_at "pl") (by decide) ?_ | refine k_neLL (by assumption) (by wtm_at "mem") (by wtm_at "mem") (by wtm_at "un") ?_ | refine k_eqLL (by assumption) (by wtm_at "mem") (by wtm_at "mem") (by wtm_at "un") ?_)
  | ((with_reducible show wpAny _ _ (call (Value.builtin "len") _) _ _ _); first | refine c_lenR (by assumption) (by wtm_at "mem") (fun _ _ _ => ?_) | refine c_lenL (by assumption) (by wtm_at "mem") (fun _ _ _ => ?_) | refine c_len (by assumption) (by wtm_at "mem") (fun _ _ _ => ?_) | refine c_lenRO (by assumption) (by wtm_at "fr") (fun _ _ _ => ?_) | refine c_lenLO (by assumption) (by wtm_at "fr") (fun _ _ _ => ?_) | refine c_lenO (by assumption) (by wtm_at "fr") (fun _ _ _ => ?_))
  | ((with_reducible show wpAny _ _ (subscriptTail _ _ _ _) _ _ _); first | refine t_itemR (by assumption) (by wtm_at "mem") (by wtm_at "mem") ?_ (fun _ _ => ?_) | refine t_itemL (by assumption) (by wtm_at "mem") (by wtm_at "mem") ?_ (fun _ _ _ _ => ?_) | refine t_itemRO (by assumption) (by wtm_at "fr") (by wtm_at "mem") ?_ (fun _ _ => ?_) | refine t_itemLO (by assumption) (by wtm_at "fr") (by wtm_at "mem") ?_ (fun _ _ _ _ => ?_) | refine t_tup0 (by assumption) (by wtm_at "mem") (by wtm_at "mem") (fun _ _ => ?_) | refine t_tup1 (by assumption) (by wtm_at "mem") (by wtm_at "mem") (fun _ _ => ?_))
  | ((with_reducible show wpAny _ _ (setItem _ _ _) _ _ _); refine s_itemN (by assumption) (by wtm_at "up") (by wtm_at "mem") (by wtm_at "mem") ?_ (fun _ _ => ?_))
  | ((with_reducible show wpAny _ _ (assign (Expr.Tuple [Expr.Name _ _, Expr.Name _ _] _ _) _ _) _ _ _); refine a_pair (by assumption) (by assumption) (by wtm_at "mem") (fun _ _ _ _ => ?_)))
section
variable {g : Heap} {mg mb : Str → Option Value} {s₀ s : Shared} {cs cs' : List (Addr × OD)} {ts ts' : List (Value × D)} {prog : Program} {w : World} {A : Around} {n : Nat} {Q : Value → Shared → Prop}
noncomputable def Good (N : Nat) (o : Nat → List Nat) (m : List Nat) : Prop := ∀ i, i < N → ∀ j ∈ (o i).take ((o i).idxOf (m.getD i 0)), ¬((o j).idxOf i < (o j).idxOf (m.getD j 0))
noncomputable def FullO (N : Nat) (o : Nat → List Nat) : Prop := ∀ k, k < N → ∀ j, j ∈ o k ↔ (j < N ∧ j ≠ k)
theorem law_stable_spec {v : Value} {N : Nat} {o : Nat → List Nat} (G : Gd (KK w.params) g mg mb) (hA : Ok (n + 30) A) (S : St g s₀ cs ts s) (hc : cs ≠ []) (hO : FullO N o) (hN : N ≤ 6) (hv : (v, oD N o) ∈ ts)
    (h : ∀ v s' (rows : List (List (Nat × Nat))), (∀ row ∈ rows, (flat row).Perm (List.range N) ∧ Good N o (matesL N row)) → rows.length ≤ 15 → St g s₀ cs ((v, .list (rows.map rowD)) :: ts) s' → Q v s') : wpAny (model prog w) A (call (.ref 239) [v]) Q NoE s := by
  refine call_fn (fd := fdStable) (body := bdStable) (nms := ["orders"]) S G hA hc (hoStable _) (hcStable _) hbStable (haStable _) (ls := [("orders", oD N o)]) (.cons (by wtm_at "mem") .nil) (fun L s' S' => ?_)
  have hh : (A.deeper (callEnv fdStable L 239)).handled = none := hA.hd
  show wpAny _ _ (execs (_ :: _) _) _ _ _
  wtm_at "st"
  wtm_at "st"
  refine e_nilO (by assumption) (List.cons_ne_nil _ _) (fun r s1 S1 => ?_)
  have S2 := S1.tval (.ref r)
  wtm_at "go"
  · refine h _ _ [] (fun row hrow => nomatch hrow) (Nat.zero_le _) (St.freezeList (ds := []) (by assumption) |>.leaveC (by wtm_at "sl") (.head _) (by wtm_at "sub"))
  · rename_i v3 s3 S3
    refine pairings_spec N (n := n) G (by wtm_at "ok") S3 (List.cons_ne_nil _ _) (by simp) hN List.nodup_range (.head _) (fun v4 s4 rws hrws hrl S4 => ?_)
    have hb15 := bd_small N hN
    refine for_list_code hh S4 (List.cons_ne_nil _ _) (.head _)
      (P := fun i cs' => ∃ rows', cs' = (r, .list (rows'.map rowD)) :: (L, .names [("orders", oD N o), ("found", .val (.ref r)), ("count", dN N)]) :: cs ∧ (∀ row ∈ rows', (flat row).Perm (List.range N) ∧ Good N o (matesL N row)) ∧ rows'.length ≤ i)
      ⟨[], rfl, (fun row hrow => nomatch hrow), Nat.zero_le _⟩ (fun i d' v it od cs' s hd' hP S => ?_) (fun _ _ _ q => wpAny_pure q) (fun cs' s hP S => ?_)
    · obtain ⟨rows, hcs, hrows, hlen⟩ := hP
      subst hcs
      rw [List.getElem?_map] at hd'
      obtain ⟨row, hrow, rfl⟩ := Option.map_eq_some_iff.mp hd'
      have hperm := hrws row (List.mem_of_getElem? hrow)
      obtain ⟨hml, hmp, hmi⟩ := mates_ok hperm
      have hil : i < rws.length := (List.getElem?_eq_some_iff.mp hrow).1
      wtm_at "go"
      rename_i ml _ _ _ _ v5 S5
      refine for_list_code hh S5 (List.cons_ne_nil _ _) (.head _)
        (P := fun k cs' => cs' = (ml, .list (((row.take k).foldl setP (List.replicate N 0)).map dN)) :: (it, od) :: (r, .list (rows.map rowD)) :: (L, .names [("orders", oD N o), ("found", .val (.ref r)), ("count", dN N), ("pairs", rowD row), ("mates", .val (.ref ml))]) :: cs)
        rfl (fun i2 d2 v it2 od2 cs' s hd2 hP2 S => ?_) (fun hd hden hit hq => ?_) (fun cs' s hP2 S => ?_)
      · subst hP2
        rw [List.getElem?_map] at hd2
        obtain ⟨⟨one, two⟩, hpr, rfl⟩ := Option.map_eq_some_iff.mp hd2
        obtain ⟨p1, p2, p3, p4, p5⟩ := hmp _ (List.mem_of_getElem? hpr)
        wtm_at "go"
        · rw [foldP_len, List.length_replicate]; exact p1
        · rw [List.length_set, foldP_len, List.length_replicate]; exact p2
        · refine TurnTo.nextN (by assumption) (ls' := [("orders", oD N o), ("found", .val (.ref r)), ("count", dN N), ("pairs", rowD row), ("mates", .val (.ref ml))]) (.tail (.tail (.tail .head))) (by wtm_at "subl") (by wtm_at "sub") ?_
          have e : row.take (i2 + 1) = row.take i2 ++ [(one, two)] := by rw [List.take_add_one, hpr]; rfl
          show _ = _
          rw [e, List.foldl_append]
          rfl
      · obtain ⟨p, hp, rfl⟩ := List.mem_map.mp hd
        cases hden
        exact wpAny_letOwnedTupleGo_listiter hit hq
      · subst hP2
        rw [List.length_map, List.take_length] at S
        have S : St g s₀ ((ml, .list ((matesL N row).map dN)) :: _) _ s := S
        have hmget : ∀ {i x}, (matesL N row)[i]? = some x → (matesL N row).getD i 0 = x := fun {i x} hx => by rw [List.getD_eq_getElem?_getD, hx]; rfl
        wtm_at "go"
        rename_i v6 s6 S6
        refine for_range_code hh S6 (List.cons_ne_nil _ _) (.head _) (fun p hp => hp) (by wtm_at "sd")
          (P := fun i cs' => ∃ b : Bool, cs' = (ml, .list ((matesL N row).map dN)) :: (it, od) :: (r, .list (rows.map rowD)) :: (L, .names [("orders", oD N o), ("found", .val (.ref r)), ("count", dN N), ("pairs", rowD row), ("mates", .val (.ref ml)), ("good", .val (.bool b))]) :: cs ∧
            (b = true → ∀ i', i' < i → ∀ j ∈ (o i').take ((o i').idxOf ((matesL N row).getD i' 0)), ¬((o j).idxOf i' < (o j).idxOf ((matesL N row).getD j 0))))
          ⟨true, rfl, fun _ i' h => absurd h (Nat.not_lt_zero _)⟩ (fun i3 v it3 od3 cs' s hi3 hP3 S => ?_) (fun cs' s hP3 S => ?_)
        · obtain ⟨b, hcs, hb⟩ := hP3
          subst hcs
          wtm_at "go"
          · have hx := ‹(matesL N row)[i3]? = some _›
            obtain ⟨m, hm, hmN, hne, hmm⟩ := hmi i3 hi3
            have hxm := Option.some.inj (hm.symm.trans hx)
            subst hxm
            exact (hO i3 hi3 m).mpr ⟨hmN, hne⟩
          · have hx := ‹(matesL N row)[i3]? = some _›
            obtain ⟨m, hm, hmN, hne, hmm⟩ := hmi i3 hi3
            have hxm := Option.some.inj (hm.symm.trans hx)
            subst hxm
            rename_i v7 s7 S7
            have hmg := hmget hm
            refine for_list_code hh S7 (List.cons_ne_nil _ _) (.head _)
              (P := fun k cs' => ∃ b : Bool, cs' = (it3, od3) :: (ml, .list ((matesL N row).map dN)) :: (it, od) :: (r, .list (rows.map rowD)) :: (L, .names [("orders", oD N o), ("found", .val (.ref r)), ("count", dN N), ("pairs", rowD row), ("mates", .val (.ref ml)), ("good", .val (.bool b)), ("i", dN i3)]) :: cs ∧
                (b = true → (∀ i', i' < i3 → ∀ j ∈ (o i').take ((o i').idxOf ((matesL N row).getD i' 0)), ¬((o j).idxOf i' < (o j).idxOf ((matesL N row).getD j 0))) ∧ ∀ j ∈ ((o i3).take ((o i3).idxOf m)).take k, ¬((o j).idxOf i3 < (o j).idxOf ((matesL N row).getD j 0))))
              ⟨b, rfl, fun hbt => ⟨hb hbt, fun j hj => nomatch hj⟩⟩ (fun i4 d4 v it4 od4 cs' s hd4 hP4 S => ?_) (fun _ _ _ q => wpAny_pure q) (fun cs' s hP4 S => ?_)
            · obtain ⟨b, hcs, hb⟩ := hP4
              subst hcs
              rw [List.getElem?_map] at hd4
              obtain ⟨j, hj, rfl⟩ := Option.map_eq_some_iff.mp hd4
              have hjin : j ∈ o i3 := List.mem_of_mem_take (List.mem_of_getElem? hj)
              obtain ⟨hjN, hji⟩ := (hO i3 hi3 j).mp hjin
              have e : ((o i3).take ((o i3).idxOf m)).take (i4 + 1) = ((o i3).take ((o i3).idxOf m)).take i4 ++ [j] := by rw [List.take_add_one, hj]; rfl
              have hoj : i3 ∈ o j := (hO j hjN i3).mpr ⟨hi3, Ne.symm hji⟩
              obtain ⟨m2, hm2, hm2N, hne2, hmm2⟩ := hmi j hjN
              have hmj : m2 ∈ o j := (hO j hjN m2).mpr ⟨hm2N, hne2⟩
              have hmg2 := hmget hm2
              wtm_at "go"
              · have hx := ‹(matesL N row)[j]? = some _›
                have hxm := Option.some.inj (hm2.symm.trans hx)
                subst hxm
                exact hmj
              · refine TurnTo.nextN (by assumption) (ls' := [("orders", oD N o), ("found", .val (.ref r)), ("count", dN N), ("pairs", rowD row), ("mates", .val (.ref ml)), ("good", .val (.bool false)), ("i", dN i3)]) (.tail (.tail (.tail (.tail .head)))) (by wtm_at "subl") (by wtm_at "sub") ⟨false, rfl, fun h => nomatch h⟩
              · have hx := ‹(matesL N row)[j]? = some _›
                have hxm := Option.some.inj (hm2.symm.trans hx)
                subst hxm
                have hnlt := ‹¬decide _ = true›
                refine TurnTo.nextN (by assumption) (ls' := [("orders", oD N o), ("found", .val (.ref r)), ("count", dN N), ("pairs", rowD row), ("mates", .val (.ref ml)), ("good", .val (.bool b)), ("i", dN i3)]) (.tail (.tail (.tail (.tail .head)))) (by wtm_at "subl") (by wtm_at "sub") ⟨b, rfl, fun hbt => ⟨(hb hbt).1, fun j' hj' => ?_⟩⟩
                rw [e] at hj'
                rcases List.mem_append.mp hj' with h1 | h1
                · exact (hb hbt).2 j' h1
                · rw [List.mem_singleton.mp h1, hmg2]
                  simpa using hnlt
            · obtain ⟨b, hcs, hb⟩ := hP4
              subst hcs
              refine ex_nil ?_
              rw [List.length_map, List.take_length] at hb
              refine TurnTo.nextN S (ls' := [("orders", oD N o), ("found", .val (.ref r)), ("count", dN N), ("pairs", rowD row), ("mates", .val (.ref ml)), ("good", .val (.bool b))]) (.tail (.tail (.tail .head))) (by wtm_at "subl") (by wtm_at "sub") ⟨b, rfl, fun hbt i' hi' => ?_⟩
              rcases Nat.lt_or_ge i' i3 with h3 | h3
              · exact (hb hbt).1 i' h3
              · have : i' = i3 := by omega
                subst this
                rw [hmg]
                exact (hb hbt).2
        · obtain ⟨b, hcs, hb⟩ := hP3
          subst hcs
          wtm_at "go"
          · have hbt := ‹b = true›
            rename_i S8
            refine TurnTo.nextN (S8.csub (List.sublist_cons_self _ _)) (ls' := [("orders", oD N o), ("found", .val (.ref r)), ("count", dN N)]) (.tail .head) (by wtm_at "subl") (by wtm_at "sub") ⟨rows ++ [row], by simp, fun row' hrow' => ?_, by simp; omega⟩
            rcases List.mem_append.mp hrow' with h1 | h1
            · exact hrows row' h1
            · rw [List.mem_singleton.mp h1]
              exact ⟨hperm, hb hbt⟩
          · refine TurnTo.nextN (S.csub (List.sublist_cons_self _ _)) (ls' := [("orders", oD N o), ("found", .val (.ref r)), ("count", dN N)]) (.tail .head) (by wtm_at "subl") (by wtm_at "sub") ⟨rows, rfl, hrows, by omega⟩
    · obtain ⟨rows, hcs, hrows, hlen⟩ := hP
      subst hcs
      rw [List.length_map] at hlen
      wtm_at "go"
      exact h _ _ rows hrows (by omega) (S.freezeList.leaveC (by wtm_at "sl") (.head _) (by wtm_at "sub"))
end
section
variable {g : Heap} {mg mb : Str → Option Value} {s₀ s : Shared} {cs cs' : List (Addr × OD)} {ts ts' : List (Value × D)} {prog : Program} {w : World} {A : Around} {n : Nat} {Q : Value → Shared → Prop}
noncomputable def within (st : Nat → List Nat) (row : List (Nat × Nat)) : Bool := decide ((row.filter fun p => decide (p.2 ∈ st p.1)).length = row.length)
theorem law_within_spec {v u : Value} {N : Nat} {st : Nat → List Nat} {rows : List (List (Nat × Nat))} (G : Gd (KK w.params) g mg mb) (hA : Ok (n + 6) A) (S : St g s₀ cs ts s) (hc : cs ≠ []) (hr : ∀ row ∈ rows, ∀ p ∈ row, p.1 < N)
    (hv : (v, .list (rows.map rowD)) ∈ ts) (hu : (u, oD N st) ∈ ts)
    (h : ∀ v s', St g s₀ cs ((v, .list ((rows.filter (within st)).map rowD)) :: ts) s' → Q v s') : wpAny (model prog w) A (call (.ref 244) [v, u]) Q NoE s := by
  refine call_fnD (fd := fdWithin) (body := bdWithin) S G hA hc (hoWithin _) (hcWithin _) hbWithin (haWithin _ _) (ls := [("stable", .list (rows.map rowD))]) (cm := [("lists", oD N st)])
    (cl := fun L => [("lists", L + 1)]) (co := fun L => [(L + 1, .cell (some (oD N st)))])
    (fun L c => List.forall_mem_cons.mpr ⟨⟨_, rfl, by wtm_at "mem"⟩, List.forall_mem_nil _⟩)
    (fun L c => List.forall_mem_cons.mpr ⟨⟨_, rfl, by wtm_at "mem"⟩, List.forall_mem_nil _⟩) (fun L => rfl) (fun L => rfl)
    (fun n => List.forall_mem_cons.mpr ⟨.inl rfl, List.forall_mem_cons.mpr ⟨.inr ⟨rfl, rfl⟩, List.forall_mem_nil _⟩⟩) (fun L s' S' => ?_)
  have hh : (A.deeper (clEnv fdWithin L 244 [("lists", L + 1)])).handled = none := hA.hd
  dsimp only [List.cons_append, List.nil_append] at S'
  show wpAny _ _ (execs (_ :: _) _) _ _ _
  wtm_at "go"
  rename_i v1 S1
  refine cs_if hh S1 (List.cons_ne_nil _ _) (.list (l := rows) (.head _)) (within st) (fun j => j) rowD (fun row hrow v' Lc it' od' acc oda s5 S5 => ?_) (fun v5 s5 S5 => ?_)
  · wtm_at "go"
    rename_i v6 S6
    refine cs_if hh S6 (List.cons_ne_nil _ _) (.list (l := row) (.head _)) (fun p => decide (p.2 ∈ st p.1)) (fun j => j) pairD (fun p hp v' Lc it' od' acc oda s7 S7 => ?_) (fun v7 s7 S7 => ?_)
    · have hp1 := hr row hrow p hp
      wtm_at "go"
    · rw [List.map_id'] at S7
      wtm_at "go"
  · rw [List.map_id'] at S5
    wtm_at "go"
    exact h _ _ (S5.leaveC (by wtm_at "sl") (.head _) (by wtm_at "sub"))
theorem law_mutual_spec {v u : Value} {N : Nat} {o st : Nat → List Nat} (G : Gd (KK w.params) g mg mb) (hA : Ok (n + 6) A) (S : St g s₀ cs ts s) (hc : cs ≠ []) (hN : N ≤ 6) (ho : ∀ k, k < N → ∀ j ∈ o k, j < N) (hl : ∀ k, k < N → (st k).length ≤ 100)
    (h1 : ∀ k, k < N → ((o k).filter fun j => decide (j ∈ st k)) = st k) (h2 : ∀ k, k < N → ∀ j ∈ st k, k ∈ st j)
    (hv : (v, oD N o) ∈ ts) (hu : (u, oD N st) ∈ ts) (h : ∀ s', St g s₀ cs ts s' → Q (.bool true) s') : wpAny (model prog w) A (call (.ref 249) [v, u]) Q NoE s := by
  refine call_fnD (fd := fdMutual) (body := bdMutual) S G hA hc (hoMutual _) (hcMutual _) hbMutual (haMutual _ _) (ls := [("orders", oD N o)]) (cm := [("lists", oD N st)])
    (cl := fun L => [("k", L + 2), ("lists", L + 1)]) (co := fun L => [(L + 2, .cell none), (L + 1, .cell (some (oD N st)))])
    (fun L c => List.forall_mem_cons.mpr ⟨⟨_, rfl, by wtm_at "mem"⟩, List.forall_mem_nil _⟩)
    (fun L c => List.forall_mem_cons.mpr ⟨⟨_, rfl, by wtm_at "mem"⟩, List.forall_mem_nil _⟩) (fun L => rfl) (fun L => rfl)
    (fun n => List.forall_mem_cons.mpr ⟨.inl rfl, List.forall_mem_cons.mpr ⟨.inr ⟨rfl, rfl⟩, List.forall_mem_nil _⟩⟩) (fun L s' S' => ?_)
  have hh : (A.deeper (clEnv fdMutual L 249 [("k", L + 2), ("lists", L + 1)])).handled = none := hA.hd
  dsimp only [List.cons_append, List.nil_append] at S'
  show wpAny _ _ (execs (_ :: _) _) _ _ _
  wtm_at "go"
  rename_i v1 s1 S1
  have hst : ∀ k, k < N → ∀ j ∈ st k, j < N := fun k hk j hj => by
    rw [← h1 k hk] at hj
    exact ho k hk j (List.mem_filter.mp hj).1
  refine for_range_code hh S1 (List.cons_ne_nil _ _) (.head _) (base := ts) (by wtm_at "sub") (by wtm_at "sd")
    (P := fun i cs' => ∃ c, cs' = (L, .names [("orders", oD N o)]) :: (L + 2, .cell c) :: (L + 1, .cell (some (oD N st))) :: cs)
    ⟨_, rfl⟩ (fun i v it od cs' s hi hP S => ?_) (fun cs' s hP S => ?_)
  · obtain ⟨c, hcs⟩ := hP
    subst hcs
    wtm_at "go"
    rename_i v2 S2
    refine cs_if hh S2 (List.cons_ne_nil _ _) (.list (l := o i) (.head _)) (fun j => decide (j ∈ st i)) (fun j => j) dN (fun j hj v' Lc it' od' acc oda s7 S7 => ?_) (fun v7 s7 S7 => ?_)
    · wtm_at "go"
    · rw [List.map_id', h1 i hi] at S7
      wtm_at "go"
      rename_i v8 s8 S8
      refine for_list_code hh S8 (List.cons_ne_nil _ _) (.head _)
        (P := fun _ cs' => cs' = (it, od) :: (L, .names [("orders", oD N o)]) :: (L + 2, .cell (some (dN i))) :: (L + 1, .cell (some (oD N st))) :: cs)
        rfl (fun i4 d4 v it4 od4 cs' s hd4 hP4 S => ?_) (fun _ _ _ q => wpAny_pure q) (fun cs' s hP4 S => ?_)
      · subst hP4
        rw [List.getElem?_map] at hd4
        obtain ⟨j, hj, rfl⟩ := Option.map_eq_some_iff.mp hd4
        have hji := List.mem_of_getElem? hj
        have hjN := hst i hi j hji
        have hk := h2 i hi j hji
        have hno : ¬decide (i ∉ st j) = true := by simpa using hk
        wtm_at "go"
        exact TurnTo.nextN (by assumption) (ls' := [("orders", oD N o)]) (.tail .head) (by wtm_at "subl") (by wtm_at "sub") rfl
      · subst hP4
        refine ex_nil ?_
        exact TurnTo.nextN S (ls' := [("orders", oD N o)]) .head (by wtm_at "subl") (by wtm_at "sub") ⟨_, rfl⟩
  · obtain ⟨c, hcs⟩ := hP
    subst hcs
    wtm_at "go"
    exact h _ ((S.csub (by wtm_at "sl")).tsub (by wtm_at "sub"))
end
section
variable {g : Heap} {mg mb : Str → Option Value} {s₀ s : Shared} {cs cs' : List (Addr × OD)} {ts ts' : List (Value × D)} {prog : Program} {w : World} {A : Around} {n : Nat} {Q : Value → Shared → Prop}
/-! the rounds, as data -/
noncomputable def askL (N : Nat) (st : Nat → List Nat) (one : Nat) : List Nat := (List.range N).filter fun x => decide ((st x).head? = some one)
noncomputable def bestOf (N : Nat) (st : Nat → List Nat) (one : Nat) : Nat := ((askL N st one).map fun x => (st one).idxOf x).min?.getD 0
noncomputable def goneS (one : Nat) (st : Nat → List Nat) (g : Nat) : Nat → List Nat := updN st g (fl (st g) one)
noncomputable def rstep (N : Nat) (st : Nat → List Nat) (one : Nat) : Nat → List Nat :=
  if askL N st one = [] then st else
    updN (((st one).drop (bestOf N st one + 1)).foldl (goneS one) st) one ((((st one).drop (bestOf N st one + 1)).foldl (goneS one) st one).take (bestOf N st one + 1))
noncomputable def sweep (N : Nat) (st : Nat → List Nat) : Nat → List Nat := (List.range N).foldl (rstep N) st
noncomputable def sweeps (N : Nat) : Nat → (Nat → List Nat) → Nat → List Nat
  | 0, st => st
  | m + 1, st => sweep N (sweeps N m st)
noncomputable abbrev oD' (N : Nat) (o : Nat → List Nat) : OD := .list ((List.range N).map fun k => dL (o k))
structure RLoop (N : Nat) (Inv : (Nat → List Nat) → Prop) : Prop where
  ent : ∀ {st}, Inv st → ∀ k, k < N → ∀ j ∈ st k, j < N
  len : ∀ {st}, Inv st → ∀ k, k < N → (st k).length ≤ 100
  head : ∀ {st}, Inv st → ∀ x one, x < N → one < N → (st x).head? = some one → x ∈ st one
  step : ∀ {st one}, Inv st → one < N → Inv (rstep N st one)
theorem s_itemSt {l : Addr} {i v : Value} {N k : Nat} {st : Nat → List Nat} {m : List Nat} {E : Value → Shared → Prop} {Q : Unit → Shared → Prop} (S : St g s₀ cs ts s) (U : Upd l (oD' N st) (oD' N (updN st k m)) cs cs') (hi : (i, dN k) ∈ ts) (hv : (v, dL m) ∈ ts)
    (hk : k < N) (h : ∀ s', St g s₀ cs' ts s' → Q () s') : wpAny (model prog w) A (setItem (.ref l) i v) Q E s :=
  s_item S (d := dL m) (k := k) (ds := (List.range N).map fun k => dL (st k)) (by
    have e : ((List.range N).map fun k => dL (st k)).set (Int.toNat (k : Int)) (dL m) = (List.range N).map fun j => dL (updN st k m j) := by
      rw [range_set]
      refine List.map_congr_left fun j _ => ?_
      unfold updN
      by_cases hj : j = k
      · rw [if_pos (by simpa using hj), if_pos hj]
      · rw [if_neg (by simpa using hj), if_neg hj]
    rw [e]; exact U) hi hv (by omega) (by simpa using hk) h
theorem c_minN {o : Value} {l : List Nat} {Q : Value → Shared → Prop} (S : St g s₀ cs ts s) (hh : A.handled = none) (ho : (o, .list (l.map dN)) ∈ ts) (hne : l ≠ [])
    (h : ∀ v s', St g s₀ cs ((v, dN (l.min?.getD 0)) :: ts) s' → Q v s') : wpAny (model prog w) A (call (.builtin "min") [o]) Q NoE s := by
  refine c_min S hh (ns := l.map fun (k : Nat) => (k : Int)) (by rw [List.map_map]; exact ho) (by simpa using hne) (fun v m s' hm hle S' => h v s' ?_)
  obtain ⟨k, hk, rfl⟩ := List.mem_map.mp hm
  have e : l.min? = some k := by
    rw [List.min?_eq_some_iff]
    exact ⟨hk, fun b hb => by have := hle _ (List.mem_map.mpr ⟨b, hb, rfl⟩); omega⟩
  rw [e]
  exact S'
theorem ask_mem {N one x : Nat} {st : Nat → List Nat} (h : x ∈ askL N st one) : x < N ∧ (st x).head? = some one := by
  have := List.mem_filter.mp h
  exact ⟨List.mem_range.mp this.1, of_decide_eq_true this.2⟩
theorem law_rounds_spec {v : Value} {N : Nat} {o : Nat → List Nat} {Inv : (Nat → List Nat) → Prop} (T : RLoop N Inv) (G : Gd (KK w.params) g mg mb) (hA : Ok (n + 6) A) (S : St g s₀ cs ts s) (hc : cs ≠ []) (hN : N ≤ 6) (hi0 : Inv o)
    (hv : (v, oD N o) ∈ ts) (h : ∀ v s', St g s₀ cs ((v, oD N (sweeps N (2 * N + 1) o)) :: ts) s' → Inv (sweeps N (2 * N + 1) o) → Q v s') : wpAny (model prog w) A (call (.ref 254) [v]) Q NoE s := by
  refine call_fnD (fd := fdRounds) (body := bdRounds) S G hA hc (hoRounds _) (hcRounds _) hbRounds (haRounds _) (ls := [("orders", oD N o)]) (cm := [])
    (cl := fun L => [("one", L + 2), ("lists", L + 1)]) (co := fun L => [(L + 2, .cell none), (L + 1, .cell none)])
    (fun L c => List.forall_mem_cons.mpr ⟨⟨_, rfl, by wtm_at "mem"⟩, List.forall_mem_nil _⟩)
    (fun L c => List.forall_mem_nil _) (fun L => rfl) (fun L => rfl)
    (fun n => List.forall_mem_cons.mpr ⟨.inl rfl, List.forall_mem_nil _⟩) (fun L s' S' => ?_)
  have hh : (A.deeper (clEnv fdRounds L 254 [("one", L + 2), ("lists", L + 1)])).handled = none := hA.hd
  dsimp only [List.cons_append, List.nil_append] at S'
  show wpAny _ _ (execs (_ :: _) _) _ _ _
  wtm_at "go"
  rename_i v1 S1
  refine cs_core hh S1 (List.cons_ne_nil _ _) (.list (l := List.range N) (f := fun k => dL (o k)) (.head _)) (one_all (φ := o) (gD := dL) fun k hk v' Lc it' od' acc oda s5 S5 => ?_) (fun lo s5 S5 => ?_)
  · wtm_at "go"
  · rw [fm_some, List.map_map] at S5
    have S6 : St g s₀ ((lo, oD' N o) :: _) _ s5 := S5
    have S7 := S6.tval (.ref lo)
    wtm_at "go"
    rename_i v8 s8 S8
    refine for_range_code hh S8 (List.cons_ne_nil _ _) (.head _) (fun p hp => hp) (by wtm_at "sd")
      (P := fun m cs' => ∃ c, cs' = (lo, oD' N (sweeps N m o)) :: (L, .names [("orders", oD N o)]) :: (L + 2, .cell c) :: (L + 1, .cell (some (.val (.ref lo)))) :: cs ∧ Inv (sweeps N m o))
      ⟨_, rfl, hi0⟩ (fun m v it od cs' s hm hP S => ?_) (fun cs' s hP S => ?_)
    · obtain ⟨c, hcs, hI⟩ := hP
      subst hcs
      wtm_at "go"
      rename_i v9 s9 S9
      have S9 := S9.names (.tail (.tail .head)) (ls' := [("orders", oD N o)]) (by wtm_at "subl")
      refine for_range_code hh S9 (List.cons_ne_nil _ _) (.head _) (fun p hp => hp) (by wtm_at "sd")
        (P := fun i cs' => ∃ c st, st = ((List.range N).take i).foldl (rstep N) (sweeps N m o) ∧ Inv st ∧ cs' = (it, od) :: (lo, oD' N st) :: (L, .names [("orders", oD N o)]) :: (L + 2, .cell c) :: (L + 1, .cell (some (.val (.ref lo)))) :: cs)
        ⟨c, _, rfl, hI, rfl⟩ (fun one v it2 od2 cs' s hone hP2 S => ?_) (fun cs' s hP2 S => ?_)
      · obtain ⟨c, st, hst, hI2, hcs⟩ := hP2
        subst hcs
        wtm_at "go"
        rename_i v10 s10 S10
        refine ca_if hh S10 (List.cons_ne_nil _ _) (.rng (by wtm_at "mem") (by wtm_at "sd")) (fun x => decide ((st x).head? = some one)) (fun j => j) dN (fun x hx v' Lc it' od' acc oda s7 S7 => ?_) (by wtm_at "up") (by wtm_at "setn") (fun v11 s11 S11 => ?_)
        · have hxN := List.mem_range.mp hx
          wtm_at "go"
          · exact List.length_pos_iff.mpr (by simpa using ‹(!(st x).isEmpty) = true›)
          · have h0 := ‹(st x)[0]? = some _›
            have h1 := of_decide_eq_true ‹decide (_ = one) = true›
            have h2 : (st x).head? = some one := by rw [List.head?_eq_getElem?, h0, h1]
            refine ⟨(decide_eq_true h2).symm, fun _ => ?_, fun h3 => absurd h2 (of_decide_eq_false h3)⟩
            wtm_at "go"
          · have h0 := ‹(st x)[0]? = some _›
            have h1 := ‹¬decide (_ = one) = true›
            have h2 : ¬(st x).head? = some one := fun e => h1 (decide_eq_true (by rw [List.head?_eq_getElem?, h0] at e; exact Option.some.inj e))
            exact ⟨(decide_eq_false h2).symm, fun h3 => absurd (of_decide_eq_true h3) h2, fun _ => ⟨_, by assumption, by wtm_at "sub"⟩⟩
          · have h1 := ‹¬(!(st x).isEmpty) = true›
            have h2 : ¬(st x).head? = some one := fun e => by
              cases hsx : st x with
              | nil => rw [hsx] at e; cases e
              | cons y r => rw [hsx] at h1; exact h1 rfl
            exact ⟨(decide_eq_false h2).symm, fun h3 => absurd (of_decide_eq_true h3) h2, fun _ => ⟨_, by assumption, by wtm_at "sub"⟩⟩
        · rw [List.map_id'] at S11
          have fin : ∀ {st' : Nat → List Nat} {s : Shared} {ts'' base : List (Value × D)} {ls : List (Str × D)}, St g s₀ ((it2, od2) :: (it, od) :: (lo, oD' N st') :: (L, .names ls) :: (L + 2, .cell (some (dN one))) :: (L + 1, .cell (some (.val (.ref lo)))) :: cs) ts'' s →
              (∀ p ∈ base, p ∈ ts'') → (∀ p ∈ ([("orders", oD N o)] : List (Str × D)), p ∈ ls) → st' = rstep N st one →
              TurnTo g s₀ ((fun i cs' => ∃ c st, st = ((List.range N).take i).foldl (rstep N) (sweeps N m o) ∧ Inv st ∧ cs' = (it, od) :: (lo, oD' N st) :: (L, .names [("orders", oD N o)]) :: (L + 2, .cell c) :: (L + 1, .cell (some (.val (.ref lo)))) :: cs) (one + 1)) it2 od2 base .next s :=
            fun S hb hl he => TurnTo.nextN S (.tail (.tail .head)) hl hb ⟨_, _, by
              rw [he]
              have e : (List.range N).take (one + 1) = (List.range N).take one ++ [one] := by
                rw [List.take_add_one]
                congr 1
                simp [hone]
              rw [e, List.foldl_append, ← hst]
              rfl, he ▸ T.step hI2 hone, rfl⟩
          have S12 : St g s₀ (_ :: _ :: _ :: (L, .names [("orders", oD N o), ("asking", dL (askL N st one))]) :: _) ((v11, dL (askL N st one)) :: _) s11 := S11
          cases hask : askL N st one with
          | nil =>
            have hno : ¬(!(askL N st one).isEmpty) = true := by rw [hask]; exact Bool.false_ne_true
            wtm_at "go"
            exact fin (by assumption) (by wtm_at "sub") (by wtm_at "subl") (by unfold rstep; rw [if_pos hask])
          | cons a0 ar =>
            have hyes : (!(askL N st one).isEmpty) = true := by rw [hask]; rfl
            wtm_at "go"
            rename_i v13 S13
            refine cs_all hh S13 (List.cons_ne_nil _ _) (.list (l := askL N st one) (.head _)) (fun x => (st one).idxOf x) dN (fun x hx v' Lc it' od' acc oda s14 S14 => ?_) (fun v14 s14 S14 => ?_)
            · obtain ⟨hxN, hxh⟩ := ask_mem hx
              have hxin := T.head hI2 x one hxN hone hxh
              wtm_at "go"
            · refine c_minN S14 hh (.head _) (by rw [hask]; exact List.cons_ne_nil _ _) (fun v15 s15 S15 => ?_)
              have S15 : St g s₀ _ ((v15, dN (bestOf N st one)) :: _) s15 := S15
              wtm_at "go"
              rename_i v16 s16 S16
              have S17 := S16.names (.tail (.tail (.tail .head))) (ls' := [("orders", oD N o), ("best", dN (bestOf N st one))]) (by wtm_at "subl")
              refine for_list_code hh S17 (List.cons_ne_nil _ _) (.head _)
                (P := fun k cs' => ∃ st', st' = (((st one).drop (bestOf N st one + 1)).take k).foldl (goneS one) st ∧ cs' = (it2, od2) :: (it, od) :: (lo, oD' N st') :: (L, .names [("orders", oD N o), ("best", dN (bestOf N st one))]) :: (L + 2, .cell (some (dN one))) :: (L + 1, .cell (some (.val (.ref lo)))) :: cs)
                ⟨_, rfl, rfl⟩ (fun i4 d4 v it4 od4 cs' s hd4 hP4 S => ?_) (fun _ _ _ q => wpAny_pure q) (fun cs' s hP4 S => ?_)
              · obtain ⟨st', hst', hcs⟩ := hP4
                subst hcs
                rw [List.getElem?_map] at hd4
                obtain ⟨gn, hgn, rfl⟩ := Option.map_eq_some_iff.mp hd4
                have hgN : gn < N := T.ent hI2 one hone gn (List.mem_of_mem_drop (List.mem_of_getElem? hgn))
                wtm_at "go"
                rename_i v17 S18
                refine cs_if hh S18 (List.cons_ne_nil _ _) (.list (l := st' gn) (.head _)) (fun j => decide (j ≠ one)) (fun j => j) dN (fun j hj v' Lc it' od' acc oda s19 S19 => ?_) (fun v19 s19 S19 => ?_)
                · wtm_at "go"
                · rw [List.map_id'] at S19
                  have S19 : St g s₀ _ ((v19, dL (fl (st' gn) one)) :: _) s19 := S19
                  wtm_at "go"
                  refine s_itemSt (st := st') (m := fl (st' gn) one) (by assumption) (.tail (.tail (.tail .head))) (by wtm_at "mem") (by wtm_at "mem") hgN (fun s20 S20 => ?_)
                  wtm_at "go"
                  refine TurnTo.nextN S20 (ls' := [("orders", oD N o), ("best", dN (bestOf N st one))]) (.tail (.tail (.tail .head))) (by wtm_at "subl") (by wtm_at "sub") ⟨_, ?_, rfl⟩
                  have e : ((st one).drop (bestOf N st one + 1)).take (i4 + 1) = ((st one).drop (bestOf N st one + 1)).take i4 ++ [gn] := by rw [List.take_add_one, hgn]; rfl
                  rw [e, List.foldl_append, ← hst']
                  rfl
              · obtain ⟨st', hst', hcs⟩ := hP4
                subst hcs
                rw [List.length_map, List.take_length] at hst'
                wtm_at "go"
                refine s_itemSt (st := st') (m := (st' one).take (bestOf N st one + 1)) (by assumption) (.tail (.tail .head)) (by wtm_at "mem") (by wtm_at "mem") hone (fun s20 S20 => ?_)
                wtm_at "go"
                exact fin S20 (by wtm_at "sub") (by wtm_at "subl") (by unfold rstep; rw [if_neg (by rw [hask]; exact List.cons_ne_nil _ _), ← hst'])
      · obtain ⟨c, st, hst, hI2, hcs⟩ := hP2
        subst hcs
        refine ex_nil ?_
        have e : st = sweeps N (m + 1) o := by
          rw [hst, List.take_of_length_le (by simp)]
          rfl
        subst e
        exact TurnTo.next S (by wtm_at "sub") ⟨_, rfl, hI2⟩
    · obtain ⟨c, hcs, hI⟩ := hP
      subst hcs
      wtm_at "go"
      exact h _ _ (S.freezeList.leaveC (by wtm_at "sl") (.head _) (by wtm_at "sub")) hI
end
section
variable {g : Heap} {mg mb : Str → Option Value} {s₀ s : Shared} {cs cs' : List (Addr × OD)} {ts ts' : List (Value × D)} {prog : Program} {w : World} {A : Around} {n : Nat} {Q : Value → Shared → Prop}
/-! the plain law -/
section
variable {N : Nat} {o : Nat → List Nat} {st T : Nat → List Nat}
theorem mem_updN {α : Type} {f : Nat → α} {k i : Nat} {a : α} : updN f k a i = if i = k then a else f i := rfl
theorem mem_fl {l : List Nat} {j x : Nat} : x ∈ fl l j ↔ x ∈ l ∧ x ≠ j := by unfold fl; rw [List.mem_filter, decide_eq_true_iff]
theorem mem_del1 {i j k x : Nat} : x ∈ del1 st i j k ↔ x ∈ st k ∧ ¬(k = i ∧ x = j) := by
  unfold del1 updN
  by_cases h : k = i
  · subst h; rw [if_pos rfl, mem_fl]; simp
  · rw [if_neg h]; simp [h]
theorem mem_del {i j k x : Nat} : x ∈ del st i j k ↔ x ∈ st k ∧ ¬(k = i ∧ x = j) ∧ ¬(k = j ∧ x = i) := by
  unfold del; rw [mem_del1, mem_del1, and_assoc]
theorem idx_ne {a x : Nat} {r : List Nat} (h : a ≠ x) : (a :: r).idxOf x = r.idxOf x + 1 := by
  rw [List.idxOf_cons]
  have : (a == x) = false := by simpa using h
  rw [this]; rfl
/-- in the order of o -/
noncomputable def Ord (o : Nat → List Nat) (k : Nat) (l : List Nat) : Prop := l = (o k).filter fun j => decide (j ∈ l)
theorem ord_filter {k : Nat} {l : List Nat} (h : Ord o k l) (p : Nat → Bool) : Ord o k (l.filter p) := by
  unfold Ord at h ⊢
  conv => lhs; rw [h]
  rw [List.filter_filter]
  refine List.filter_congr fun j hj => ?_
  rw [Bool.eq_iff_iff]
  simp only [Bool.and_eq_true, decide_eq_true_eq, List.mem_filter]
  exact ⟨fun ⟨a, b⟩ => ⟨b, a⟩, fun ⟨a, b⟩ => ⟨b, a⟩⟩
theorem ord_ext {k : Nat} {l m : List Nat} (h : Ord o k l) (h' : Ord o k m) (e : ∀ j, j ∈ l ↔ j ∈ m) : l = m := by
  unfold Ord at h h'
  rw [h, h']
  refine List.filter_congr fun j hj => ?_
  rw [Bool.eq_iff_iff, decide_eq_true_iff, decide_eq_true_iff]
  exact e j
theorem idx_pw : ∀ {l : List Nat}, l.Nodup → l.Pairwise fun a b => l.idxOf a < l.idxOf b
  | [], _ => .nil
  | x :: r, h => by
    rw [List.nodup_cons] at h
    refine List.Pairwise.cons (fun b hb => ?_) ?_
    · have hne : x ≠ b := fun e => h.1 (e ▸ hb)
      rw [List.idxOf_cons_self, idx_ne hne]
      exact Nat.succ_pos _
    · refine (idx_pw h.2).imp_of_mem fun {a b} ha hb hab => ?_
      have h1 : x ≠ a := fun e => h.1 (e ▸ ha)
      have h2 : x ≠ b := fun e => h.1 (e ▸ hb)
      rw [idx_ne h1, idx_ne h2]
      exact Nat.succ_lt_succ hab
theorem ord_pw {k : Nat} {l : List Nat} (hn : (o k).Nodup) (h : Ord o k l) : l.Pairwise fun a b => (o k).idxOf a < (o k).idxOf b := by
  unfold Ord at h
  rw [h]
  exact (idx_pw hn).sublist List.filter_sublist
theorem head_lt {k y : Nat} {l : List Nat} (hn : (o k).Nodup) (h : Ord o k l) (hy : l.head? = some y) : y ∈ l ∧ ∀ z ∈ l, z = y ∨ (o k).idxOf y < (o k).idxOf z := by
  have hp := ord_pw hn h
  cases l with
  | nil => cases hy
  | cons a r =>
    cases hy
    refine ⟨.head _, fun z hz => ?_⟩
    rcases List.mem_cons.mp hz with rfl | hz
    · exact .inl rfl
    · exact .inr ((List.pairwise_cons.mp hp).1 z hz)
theorem head_of {k y : Nat} {l : List Nat} (hn : (o k).Nodup) (h : Ord o k l) (hy : y ∈ l) (hz : ∀ z ∈ l, z = y ∨ (o k).idxOf y < (o k).idxOf z) : l.head? = some y := by
  have hp := ord_pw hn h
  cases l with
  | nil => cases hy
  | cons a r =>
    rcases List.mem_cons.mp hy with rfl | hy'
    · rfl
    · have h1 := (List.pairwise_cons.mp hp).1 y hy'
      rcases hz a (.head _) with e | h2
      · rw [e]; rfl
      · omega
theorem succ_mem {k x z : Nat} {l : List Nat} (hn : (o k).Nodup) (h : Ord o k l) (hx : x ∈ l) : z ∈ l.drop (l.idxOf x + 1) ↔ z ∈ l ∧ (o k).idxOf x < (o k).idxOf z := by
  have hp := ord_pw hn h
  clear h
  induction l with
  | nil => cases hx
  | cons a r ih =>
    have hp' := List.pairwise_cons.mp hp
    by_cases hax : a = x
    · subst hax
      rw [List.idxOf_cons_self]
      show z ∈ r ↔ _
      constructor
      · exact fun hz => ⟨.tail _ hz, hp'.1 z hz⟩
      · rintro ⟨hz, hlt⟩
        rcases List.mem_cons.mp hz with rfl | hz
        · omega
        · exact hz
    · rw [idx_ne hax]
      have hxr : x ∈ r := by
        rcases List.mem_cons.mp hx with e | e
        · exact absurd e.symm hax
        · exact e
      show z ∈ r.drop (r.idxOf x + 1) ↔ _
      refine (ih hxr hp'.2).trans ?_
      constructor
      · exact fun ⟨a1, a2⟩ => ⟨.tail _ a1, a2⟩
      · rintro ⟨hz, hlt⟩
        rcases List.mem_cons.mp hz with rfl | hz
        · have := hp'.1 x hxr; omega
        · exact ⟨hz, hlt⟩

/-- the lists stand well -/
structure PI (N : Nat) (o st : Nat → List Nat) : Prop where
  ord : ∀ k, k < N → Ord o k (st k)
  ent : ∀ k, k < N → ∀ j ∈ st k, j < N ∧ j ≠ k
  sym : ∀ k j, k < N → j ∈ st k → k ∈ st j
  bet : ∀ a b, a < N → b < N → a ≠ b → b ∉ st a → (∃ c, c < N ∧ (st c).head? = some a ∧ (o a).idxOf c < (o a).idxOf b) ∨ (∃ c, c < N ∧ (st c).head? = some b ∧ (o b).idxOf c < (o b).idxOf a)
structure OK (N : Nat) (o : Nat → List Nat) : Prop where
  nd : ∀ k, k < N → (o k).Nodup
  full : ∀ k, k < N → ∀ j, j ∈ o k ↔ (j < N ∧ j ≠ k)
  len : ∀ k, k < N → (o k).length = N - 1
theorem PI.start (O : OK N o) : PI N o o where
  ord k hk := by
    unfold Ord
    exact (List.filter_eq_self.mpr fun a ha => decide_eq_true ha).symm
  ent k hk j hj := (O.full k hk j).mp hj
  sym k j hk hj := by
    obtain ⟨h1, h2⟩ := (O.full k hk j).mp hj
    exact (O.full j h1 k).mpr ⟨hk, Ne.symm h2⟩
  bet a b ha hb hab hn := absurd ((O.full a ha b).mpr ⟨hb, Ne.symm hab⟩) hn
/-- a step: y's first asker x is before z -/
structure Elim (N : Nat) (o st : Nat → List Nat) (x y z : Nat) : Prop where
  hx : x < N
  hy : y < N
  hz : z < N
  head : (st x).head? = some y
  mem : z ∈ st y
  lt : (o y).idxOf x < (o y).idxOf z
theorem Elim.ne {x y z : Nat} (O : OK N o) (I : PI N o st) (E : Elim N o st x y z) : z ≠ x ∧ z ≠ y ∧ y ∈ st x ∧ x ∈ st y ∧ x ≠ y := by
  have h1 := head_lt (O.nd x E.hx) (I.ord x E.hx) E.head
  have h2 := I.ent x E.hx y h1.1
  refine ⟨fun e => ?_, (I.ent y E.hy z E.mem).2, h1.1, I.sym x y E.hx h1.1, h2.2.symm⟩
  have := E.lt
  rw [e] at this
  omega
theorem ord_del1 {i j c : Nat} (h : Ord o c (st c)) : Ord o c (del1 st i j c) := by
  unfold del1 updN fl
  by_cases e : c = i
  · subst e; rw [if_pos rfl]; exact ord_filter h _
  · rw [if_neg e]; exact h
theorem ord_del {i j c : Nat} (h : Ord o c (st c)) : Ord o c (del st i j c) := ord_del1 (ord_del1 h)
/-- heads stay where the pair is not the one that goes -/
theorem head_del {y z c a : Nat} (O : OK N o) (I : PI N o st) (hc : c < N) (ha : (st c).head? = some a) (h : ¬(c = z ∧ a = y) ∧ ¬(c = y ∧ a = z)) : (del st z y c).head? = some a := by
  have h1 := head_lt (O.nd c hc) (I.ord c hc) ha
  have ho : Ord o c (del st z y c) := ord_del (I.ord c hc)
  refine head_of (O.nd c hc) ho (mem_del.mpr ⟨h1.1, h⟩) fun w hw => h1.2 w (mem_del.mp hw).1
theorem PI.elim {x y z : Nat} (O : OK N o) (I : PI N o st) (E : Elim N o st x y z) : PI N o (del st z y) ∧ (del st z y x).head? = some y := by
  obtain ⟨h1, h2, h3, h4, h5⟩ := E.ne O I
  have hh : (del st z y x).head? = some y := head_del O I E.hx E.head ⟨fun e => h1 e.1.symm, fun e => h5 e.1⟩
  have keep : ∀ {c a b : Nat}, c < N → a < N → (st c).head? = some a → (o a).idxOf c < (o a).idxOf b → ∃ c', c' < N ∧ (del st z y c').head? = some a ∧ (o a).idxOf c' < (o a).idxOf b := by
    intro c a b hc ha hca hlt
    by_cases e1 : c = z ∧ a = y
    · obtain ⟨rfl, rfl⟩ := e1
      exact ⟨x, E.hx, hh, Nat.lt_trans E.lt hlt⟩
    · by_cases e2 : c = y ∧ a = z
      · obtain ⟨rfl, rfl⟩ := e2
        -- z's first would be y, yet y's list holds x before z: z is y's first
        have q := (head_lt (O.nd _ hc) (I.ord _ hc) hca).2 x h4
        have := E.lt
        rcases q with rfl | q <;> omega
      · exact ⟨c, hc, head_del O I hc hca ⟨e1, e2⟩, hlt⟩
  refine ⟨⟨fun k hk => ord_del (I.ord k hk), fun k hk j hj => I.ent k hk j (mem_del.mp hj).1, fun k j hk hj => ?_, fun a b ha hb hab hn => ?_⟩, hh⟩
  · obtain ⟨q1, q2, q3⟩ := mem_del.mp hj
    exact mem_del.mpr ⟨I.sym k j hk q1, fun e => q3 ⟨e.2, e.1⟩, fun e => q2 ⟨e.2, e.1⟩⟩
  · by_cases hin : b ∈ st a
    · have : (a = z ∧ b = y) ∨ (a = y ∧ b = z) := by
        by_cases e1 : a = z ∧ b = y
        · exact .inl e1
        · by_cases e2 : a = y ∧ b = z
          · exact .inr e2
          · exact absurd (mem_del.mpr ⟨hin, e1, e2⟩) hn
      rcases this with ⟨rfl, rfl⟩ | ⟨rfl, rfl⟩
      · exact .inr ⟨x, E.hx, hh, E.lt⟩
      · exact .inl ⟨x, E.hx, hh, E.lt⟩
    · rcases I.bet a b ha hb hab hin with ⟨c, hc, h6, h7⟩ | ⟨c, hc, h6, h7⟩
      · exact .inl (keep hc ha h6 h7)
      · exact .inr (keep hc hb h6 h7)
/-- nothing more to forget -/
noncomputable def Fix (N : Nat) (o st : Nat → List Nat) : Prop := ∀ x y, x < N → y < N → (st x).head? = some y → ∀ z ∈ st y, z = x ∨ (o y).idxOf z < (o y).idxOf x
noncomputable def Sub (N : Nat) (T st : Nat → List Nat) : Prop := ∀ k, k < N → ∀ j ∈ T k, j ∈ st k
theorem Sub.elim {x y z : Nat} (O : OK N o) (I : PI N o st) (E : Elim N o st x y z) (IT : PI N o T) (FT : Fix N o T) (h : Sub N T st) : Sub N T (del st z y) := by
  obtain ⟨h1, h2, h3, h4, h5⟩ := E.ne O I
  -- the pair is not in T
  have key : z ∉ T y := fun hzy => by
    have hhx := head_lt (O.nd x E.hx) (I.ord x E.hx) E.head
    have hyo : y ∈ o x := (O.full x E.hx y).mpr ⟨E.hy, h5.symm⟩
    by_cases hT : y ∈ T x
    · have hT' : (T x).head? = some y := head_of (O.nd x E.hx) (IT.ord x E.hx) hT fun w hw => hhx.2 w (h x E.hx w hw)
      rcases FT x y E.hx E.hy hT' z hzy with e | e
      · exact h1 e
      · have := E.lt; omega
    · rcases IT.bet x y E.hx E.hy h5 hT with ⟨c, hc, h6, h7⟩ | ⟨c, hc, h6, h7⟩
      · -- x has a better asker c in T: then c is in x's list, before y
        have hcx : x ∈ T c := (head_lt (O.nd c hc) (IT.ord c hc) h6).1
        have hxc : c ∈ st x := h x E.hx c (IT.sym c x hc hcx)
        rcases hhx.2 c hxc with e | e
        · rw [e] at h7; omega
        · omega
      · rcases FT c y hc E.hy h6 z hzy with e | e
        · rw [e] at hzy
          have := E.lt
          rw [e] at this
          omega
        · have := E.lt; omega
  intro k hk j hj
  refine mem_del.mpr ⟨h k hk j hj, fun e => ?_, fun e => ?_⟩
  · obtain ⟨rfl, rfl⟩ := e
    exact key (IT.sym _ _ hk hj)
  · obtain ⟨rfl, rfl⟩ := e
    exact key hj
end
end
section
variable {g : Heap} {mg mb : Str → Option Value} {s₀ s : Shared} {cs cs' : List (Addr × OD)} {ts ts' : List (Value × D)} {prog : Program} {w : World} {A : Around} {n : Nat} {Q : Value → Shared → Prop}
section
variable {N : Nat} {o : Nat → List Nat} {st T : Nat → List Nat}
/-- what must stay inside -/
structure Keeps (N : Nat) (o : Nat → List Nat) (M : Nat → Nat → Prop) : Prop where
  step : ∀ {st x y z}, PI N o st → (∀ a b, M a b → b ∈ st a) → Elim N o st x y z → ∀ a b, M a b → b ∈ del st z y a
/-- a stable pairing stays inside -/
theorem keeps_stable (O : OK N o) {m : Nat → Nat} (hm : ∀ i, i < N → m i < N ∧ m i ≠ i ∧ m (m i) = i)
    (hs : ∀ i, i < N → ∀ j ∈ (o i).take ((o i).idxOf (m i)), ¬((o j).idxOf i < (o j).idxOf (m j))) : Keeps N o fun a b => a < N ∧ b = m a := by
  refine ⟨fun {st x y z} I hin E a b hab => ?_⟩
  obtain ⟨ha, rfl⟩ := hab
  obtain ⟨h1, h2, h3, h4, h5⟩ := E.ne O I
  have key : m y ≠ z := fun e => by
    have hmx := hin x (m x) ⟨E.hx, rfl⟩
    have hne : m x ≠ y := fun q => by
      have := (hm x E.hx).2.2
      rw [q, e] at this
      exact h1 this
    rcases (head_lt (O.nd x E.hx) (I.ord x E.hx) E.head).2 _ hmx with q | q
    · exact hne q
    · -- x and y would leave their mates
      have hyo : y ∈ o x := (O.full x E.hx y).mpr ⟨E.hy, h5.symm⟩
      have hyt : y ∈ (o x).take ((o x).idxOf (m x)) := by
        have h6 : (o x).idxOf y < (o x).length := List.idxOf_lt_length_iff.mpr hyo
        rw [List.mem_take_iff_getElem]
        exact ⟨(o x).idxOf y, by omega, List.getElem_idxOf h6⟩
      exact hs x E.hx y hyt (by rw [e]; exact E.lt)
  refine mem_del.mpr ⟨hin a _ ⟨ha, rfl⟩, fun e => ?_, fun e => ?_⟩
  · obtain ⟨rfl, e⟩ := e
    have := (hm a ha).2.2
    rw [e] at this
    exact key this
  · obtain ⟨rfl, e⟩ := e
    exact key e
/-- a set of its own that stays inside -/
theorem keeps_sub (O : OK N o) (IT : PI N o T) (FT : Fix N o T) : Keeps N o fun a b => a < N ∧ b ∈ T a := by
  refine ⟨fun {st x y z} I hin E a b hab => ?_⟩
  exact Sub.elim O I E IT FT (fun k hk j hj => hin k j ⟨hk, hj⟩) a hab.1 b hab.2
/-- many steps with one asker -/
noncomputable def delAll (st : Nat → List Nat) (y : Nat) (gs : List Nat) : Nat → List Nat := gs.foldl (fun st g => del st g y) st
theorem mem_delAll {y : Nat} : ∀ {gs : List Nat} {st : Nat → List Nat} {k j : Nat}, j ∈ delAll st y gs k ↔ j ∈ st k ∧ ¬(k = y ∧ j ∈ gs) ∧ ¬(k ∈ gs ∧ j = y)
  | [], st, k, j => by simp [delAll]
  | g :: r, st, k, j => by
    show j ∈ delAll (del st g y) y r k ↔ _
    rw [mem_delAll (gs := r), mem_del]
    simp only [List.mem_cons]
    constructor
    · rintro ⟨⟨a, b, c⟩, d, e⟩
      refine ⟨a, ?_, ?_⟩
      · rintro ⟨rfl, rfl | h⟩
        · exact c ⟨rfl, rfl⟩
        · exact d ⟨rfl, h⟩
      · rintro ⟨rfl | h, rfl⟩
        · exact b ⟨rfl, rfl⟩
        · exact e ⟨h, rfl⟩
    · rintro ⟨a, b, c⟩
      exact ⟨⟨a, fun ⟨e1, e2⟩ => c ⟨.inl e1, e2⟩, fun ⟨e1, e2⟩ => b ⟨e1, .inl e2⟩⟩, fun ⟨e1, e2⟩ => b ⟨e1, .inr e2⟩, fun ⟨e1, e2⟩ => c ⟨.inr e1, e2⟩⟩
theorem PI.delAll (O : OK N o) {x y : Nat} (hx : x < N) (hy : y < N) : ∀ {gs : List Nat} {st : Nat → List Nat}, PI N o st → (st x).head? = some y → gs.Nodup → (∀ g ∈ gs, g ∈ st y ∧ (o y).idxOf x < (o y).idxOf g) →
    PI N o (Mine.delAll st y gs) ∧ (Mine.delAll st y gs x).head? = some y ∧ ∀ M, Keeps N o M → (∀ a b, M a b → b ∈ st a) → ∀ a b, M a b → b ∈ Mine.delAll st y gs a
  | [], st, I, hh, _, _ => ⟨I, hh, fun M _ h => h⟩
  | g :: r, st, I, hh, hn, hg => by
    obtain ⟨g1, g2⟩ := hg g (.head _)
    have E : Elim N o st x y g := ⟨hx, hy, (I.ent y hy g g1).1, hh, g1, g2⟩
    obtain ⟨I', hh'⟩ := I.elim O E
    rw [List.nodup_cons] at hn
    have hgy : g ≠ y := (I.ent y hy g g1).2
    obtain ⟨q1, q2, q3⟩ := PI.delAll O hx hy (gs := r) I' hh' hn.2 (fun w hw => by
      obtain ⟨w1, w2⟩ := hg w (.tail _ hw)
      exact ⟨mem_del.mpr ⟨w1, fun e => hgy e.1.symm, fun e => hn.1 (e.2 ▸ hw)⟩, w2⟩)
    exact ⟨q1, q2, fun M K h => q3 M K (K.step I h E)⟩
/-- at most one has nobody left -/
theorem one_empty (O : OK N o) (I : PI N o st) {a b : Nat} (ha : a < N) (hb : b < N) (h1 : st a = []) (h2 : st b = []) : a = b := by
  by_cases e : a = b
  · exact e
  · rcases I.bet a b ha hb e (by rw [h1]; exact List.not_mem_nil) with ⟨c, hc, h3, _⟩ | ⟨c, hc, h3, _⟩
    · have := I.sym c a hc (head_lt (O.nd c hc) (I.ord c hc) h3).1
      rw [h1] at this; cases this
    · have := I.sym c b hc (head_lt (O.nd c hc) (I.ord c hc) h3).1
      rw [h2] at this; cases this
/-- two ends are one -/
theorem same_end (O : OK N o) {T' : Nat → List Nat} (I : PI N o T) (I' : PI N o T') (h : Sub N T T') (h' : Sub N T' T) : ∀ k, k < N → T k = T' k := fun k hk =>
  ord_ext (I.ord k hk) (I'.ord k hk) fun j => ⟨h k hk j, h' k hk j⟩
end
end
section
variable {g : Heap} {mg mb : Str → Option Value} {s₀ s : Shared} {cs cs' : List (Addr × OD)} {ts ts' : List (Value × D)} {prog : Program} {w : World} {A : Around} {n : Nat} {Q : Value → Shared → Prop}
section
variable {N : Nat} {o : Nat → List Nat} {st T : Nat → List Nat}
theorem fl_fl {l : List Nat} {y : Nat} : fl (fl l y) y = fl l y := by
  unfold fl
  rw [List.filter_filter]
  exact List.filter_congr fun j _ => Bool.and_self _
theorem two_ifs {k g y : Nat} {r : List Nat} {l : List Nat} : (if k ∈ r then fl (if k = g then fl l y else l) y else if k = g then fl l y else l) = if k ∈ g :: r then fl l y else l := by
  by_cases q : k = g
  · have h : k ∈ g :: r := by rw [q]; exact List.mem_cons_self
    by_cases w : k ∈ r
    · rw [if_pos w, if_pos q, if_pos h, fl_fl]
    · rw [if_neg w, if_pos q, if_pos h]
  · by_cases w : k ∈ r
    · rw [if_pos w, if_neg q, if_pos (List.mem_cons_of_mem _ w)]
    · rw [if_neg w, if_neg q, if_neg (fun e => (List.mem_cons.mp e).elim q w)]
theorem delAll_eq {y k : Nat} : ∀ {gs : List Nat} {st : Nat → List Nat}, y ∉ gs → delAll st y gs k = if k = y then (st y).filter (fun j => decide (j ∉ gs)) else if k ∈ gs then fl (st k) y else st k
  | [], st, _ => by
    unfold delAll
    rw [List.foldl_nil]
    by_cases e : k = y
    · rw [if_pos e, e]
      exact (List.filter_eq_self.mpr fun a _ => by simp).symm
    · rw [if_neg e, if_neg (List.not_mem_nil)]
  | g :: r, st, h => by
    have hg : y ≠ g := fun e => h (e ▸ .head _)
    have hr : y ∉ r := fun e => h (.tail _ e)
    show delAll (del st g y) y r k = _
    rw [delAll_eq (gs := r) hr]
    have e1 : del st g y y = fl (st y) g := by
      unfold del del1 updN
      rw [if_pos rfl, if_neg hg]
    by_cases e : k = y
    · rw [if_pos e, if_pos e, e1]
      unfold fl
      rw [List.filter_filter]
      refine List.filter_congr fun j _ => ?_
      rw [Bool.eq_iff_iff]
      simp only [Bool.and_eq_true, decide_eq_true_eq, List.mem_cons, not_or]
      exact ⟨fun ⟨a, b⟩ => ⟨b, a⟩, fun ⟨a, b⟩ => ⟨b, a⟩⟩
    · rw [if_neg e, if_neg e]
      have e2 : del st g y k = if k = g then fl (st k) y else st k := by
        unfold del del1 updN
        rw [if_neg e]
        by_cases q : k = g
        · rw [if_pos q, if_pos q, q]
        · rw [if_neg q, if_neg q]
      rw [e2]
      exact two_ifs
theorem gone_eq {one k : Nat} : ∀ {gs : List Nat} {st : Nat → List Nat}, (gs.foldl (goneS one) st) k = if k ∈ gs then fl (st k) one else st k
  | [], st => by rw [List.foldl_nil, if_neg List.not_mem_nil]
  | g :: r, st => by
    rw [List.foldl_cons, gone_eq (gs := r)]
    unfold goneS updN
    have e : (if k = g then fl (st g) one else st k) = if k = g then fl (st k) one else st k := by
      by_cases q : k = g
      · rw [if_pos q, if_pos q, q]
      · rw [if_neg q, if_neg q]
    rw [e]
    exact two_ifs
theorem take_filter {l : List Nat} (hn : l.Nodup) (b : Nat) : l.take b = l.filter fun j => decide (j ∉ l.drop b) := by
  conv => rhs; rw [← List.take_append_drop b l]
  have hd : (l.take b ++ l.drop b).Nodup := by rw [List.take_append_drop]; exact hn
  have hdj := (List.nodup_append.mp hd).2.2
  rw [List.filter_append, List.take_append_drop]
  have e1 : (l.take b).filter (fun j => decide (j ∉ l.drop b)) = l.take b := List.filter_eq_self.mpr fun a ha => decide_eq_true fun h => hdj a ha a h rfl
  have e2 : (l.drop b).filter (fun j => decide (j ∉ l.drop b)) = [] := List.filter_eq_nil_iff.mpr fun a ha => by simpa using ha
  rw [e1, e2, List.append_nil]
theorem PI.nd (O : OK N o) (I : PI N o st) {k : Nat} (hk : k < N) : (st k).Nodup := by
  have h := I.ord k hk
  unfold Ord at h
  rw [h]
  exact (O.nd k hk).filter _
theorem ask_iff {one x : Nat} : x ∈ askL N st one ↔ x < N ∧ (st x).head? = some one := by
  unfold askL
  rw [List.mem_filter, List.mem_range, decide_eq_true_iff]
/-- the best asker -/
theorem best_ask {one : Nat} (h : askL N st one ≠ []) : ∃ x, x < N ∧ (st x).head? = some one ∧ (st one).idxOf x = bestOf N st one ∧ ∀ x', x' < N → (st x').head? = some one → bestOf N st one ≤ (st one).idxOf x' := by
  have hne : ((askL N st one).map fun x => (st one).idxOf x) ≠ [] := by simpa using h
  obtain ⟨m, hm⟩ : ∃ m, ((askL N st one).map fun x => (st one).idxOf x).min? = some m := by
    cases q : ((askL N st one).map fun x => (st one).idxOf x).min? with
    | none => exact absurd (List.min?_eq_none_iff.mp q) hne
    | some m => exact ⟨m, rfl⟩
  have hb : bestOf N st one = m := by unfold bestOf; rw [hm]; rfl
  obtain ⟨h1, h2⟩ := List.min?_eq_some_iff.mp hm
  obtain ⟨x, hx, hxm⟩ := List.mem_map.mp h1
  obtain ⟨hxN, hxh⟩ := ask_iff.mp hx
  refine ⟨x, hxN, hxh, by rw [hb]; exact hxm, fun x' hx' hh' => ?_⟩
  rw [hb]
  exact h2 _ (List.mem_map.mpr ⟨x', ask_iff.mpr ⟨hx', hh'⟩, rfl⟩)
/-- a look at one is a row of steps -/
theorem rstep_delAll (O : OK N o) (I : PI N o st) {one : Nat} (h1 : one < N) (h : askL N st one ≠ []) : rstep N st one = delAll st one ((st one).drop (bestOf N st one + 1)) := by
  have hno : one ∉ (st one).drop (bestOf N st one + 1) := fun e => (I.ent one h1 one (List.mem_of_mem_drop e)).2 rfl
  funext k
  unfold rstep
  rw [if_neg h, delAll_eq hno, gone_eq, if_neg hno]
  unfold updN
  by_cases e : k = one
  · rw [if_pos e, if_pos e]
    exact take_filter (I.nd O h1) _
  · rw [if_neg e, if_neg e, gone_eq]
/-- what was reached -/
noncomputable def Reach (N : Nat) (o st : Nat → List Nat) : Prop := PI N o st ∧ ∀ M, Keeps N o M → (∀ a b, M a b → b ∈ o a) → ∀ a b, M a b → b ∈ st a
theorem Reach.start (O : OK N o) : Reach N o o := ⟨PI.start O, fun _ _ h => h⟩
theorem Reach.all (O : OK N o) (R : Reach N o st) {x y : Nat} (hx : x < N) (hy : y < N) (hh : (st x).head? = some y) :
    Reach N o (delAll st y ((st y).drop ((st y).idxOf x + 1))) ∧ (delAll st y ((st y).drop ((st y).idxOf x + 1)) x).head? = some y := by
  have I := R.1
  have hxy : x ∈ st y := I.sym x y hx (head_lt (O.nd x hx) (I.ord x hx) hh).1
  obtain ⟨q1, q2, q3⟩ := PI.delAll O hx hy (gs := (st y).drop ((st y).idxOf x + 1)) I hh ((I.nd O hy).sublist (List.drop_sublist _ _)) fun g hg => (succ_mem (O.nd y hy) (I.ord y hy) hxy).mp hg
  exact ⟨⟨q1, fun M K h => q3 M K (R.2 M K h)⟩, q2⟩
theorem Reach.rstep (O : OK N o) (R : Reach N o st) {one : Nat} (h1 : one < N) : Reach N o (rstep N st one) := by
  by_cases h : askL N st one = []
  · unfold Mine.rstep; rw [if_pos h]; exact R
  · obtain ⟨x, hx, hh, hb, _⟩ := best_ask h
    rw [rstep_delAll O R.1 h1 h, ← hb]
    exact (R.all O hx h1 hh).1
theorem rloop (O : OK N o) (hN : N ≤ 100) : RLoop N (Reach N o) where
  ent R k hk j hj := (R.1.ent k hk j hj).1
  len {st} R k hk := by
    have h := R.1.ord k hk
    unfold Ord at h
    have h2 : (st k).length ≤ (o k).length := by
      conv => lhs; rw [h]
      exact List.length_filter_le _ _
    have := O.len k hk
    omega
  head R x one hx h1 hh := R.1.sym x one hx (head_lt (O.nd x hx) (R.1.ord x hx) hh).1
  step R h1 := R.rstep O h1
end
end
section
variable {g : Heap} {mg mb : Str → Option Value} {s₀ s : Shared} {cs cs' : List (Addr × OD)} {ts ts' : List (Value × D)} {prog : Program} {w : World} {A : Around} {n : Nat} {Q : Value → Shared → Prop}
section
variable {N : Nat} {o : Nat → List Nat} {st T : Nat → List Nat}
noncomputable def tl (N : Nat) (st : Nat → List Nat) : Nat := ((List.range N).map fun k => (st k).length).sum
theorem sum_le {l : List Nat} {f f' : Nat → Nat} (h : ∀ k ∈ l, f' k ≤ f k) : (l.map f').sum ≤ (l.map f).sum := by
  induction l with
  | nil => exact Nat.le_refl _
  | cons a r ih =>
    simp only [List.map_cons, List.sum_cons]
    exact Nat.add_le_add (h a (.head _)) (ih fun k hk => h k (.tail _ hk))
theorem sum_lt1 {l : List Nat} {f f' : Nat → Nat} (h : ∀ k ∈ l, f' k ≤ f k) {a : Nat} (ha : a ∈ l) (h1 : f' a + 1 ≤ f a) : (l.map f').sum + 1 ≤ (l.map f).sum := by
  induction l with
  | nil => cases ha
  | cons x r ih =>
    simp only [List.map_cons, List.sum_cons]
    have hx := h x (.head _)
    have hr := sum_le (fun k hk => h k (.tail _ hk) : ∀ k ∈ r, f' k ≤ f k)
    rcases List.mem_cons.mp ha with rfl | ha
    · omega
    · have := ih (fun k hk => h k (.tail _ hk)) ha
      omega
theorem sum_lt2 {l : List Nat} {f f' : Nat → Nat} (h : ∀ k ∈ l, f' k ≤ f k) {a b : Nat} (hab : a ≠ b) (ha : a ∈ l) (hb : b ∈ l) (h1 : f' a + 1 ≤ f a) (h2 : f' b + 1 ≤ f b) : (l.map f').sum + 2 ≤ (l.map f).sum := by
  induction l with
  | nil => cases ha
  | cons x r ih =>
    simp only [List.map_cons, List.sum_cons]
    have hx := h x (.head _)
    have hr := (fun k hk => h k (.tail _ hk) : ∀ k ∈ r, f' k ≤ f k)
    rcases List.mem_cons.mp ha with rfl | ha'
    · rcases List.mem_cons.mp hb with e | hb'
      · exact absurd e.symm hab
      · have := sum_lt1 hr hb' h2; omega
    · rcases List.mem_cons.mp hb with rfl | hb'
      · have := sum_lt1 hr ha' h1; omega
      · have := ih hr ha' hb'; omega
theorem sum_pos {f : Nat → Nat} : ∀ {n : Nat}, (∀ k, k < n → 1 ≤ f k) → n ≤ ((List.range n).map f).sum
  | 0, _ => Nat.zero_le _
  | n + 1, h => by
    rw [List.range_succ, List.map_append, List.sum_append]
    have := sum_pos (n := n) fun k hk => h k (by omega)
    have := h n (by omega)
    simp only [List.map_cons, List.map_nil, List.sum_cons, List.sum_nil]
    omega
theorem sum_one {f : Nat → Nat} : ∀ {n : Nat}, (∀ a b, a < n → b < n → f a = 0 → f b = 0 → a = b) → n ≤ ((List.range n).map f).sum + 1
  | 0, _ => Nat.zero_le _
  | n + 1, h => by
    rw [List.range_succ, List.map_append, List.sum_append]
    simp only [List.map_cons, List.map_nil, List.sum_cons, List.sum_nil]
    by_cases e : f n = 0
    · have := sum_pos (f := f) (n := n) fun k hk => by
        rcases Nat.eq_zero_or_pos (f k) with q | q
        · have := h k n (by omega) (by omega) q e; omega
        · exact q
      omega
    · have := sum_one (f := f) (n := n) fun a b ha hb => h a b (by omega) (by omega)
      omega
theorem delAll_le {y : Nat} {gs : List Nat} (hy : y ∉ gs) (k : Nat) : (delAll st y gs k).length ≤ (st k).length := by
  rw [delAll_eq hy]
  by_cases e : k = y
  · rw [if_pos e, e]; exact List.length_filter_le _ _
  · rw [if_neg e]
    by_cases q : k ∈ gs
    · rw [if_pos q]; unfold fl; exact List.length_filter_le _ _
    · rw [if_neg q]; exact Nat.le_refl _
theorem filter_lt {l : List Nat} {p : Nat → Bool} {a : Nat} (ha : a ∈ l) (hp : p a = false) : (l.filter p).length + 1 ≤ l.length := by
  have : (l.filter p).length < l.length := List.length_filter_lt_length_iff_exists.mpr ⟨a, ha, by simp [hp]⟩
  exact this
/-- what goes shortens two lists -/
theorem delAll_drop {y : Nat} {gs : List Nat} (I : PI N o st) (hyN : y < N) (hy : y ∉ gs) (hg : ∀ g ∈ gs, g ∈ st y) (hne : gs ≠ []) : tl N (delAll st y gs) + 2 ≤ tl N st := by
  obtain ⟨g, r, rfl⟩ : ∃ g r, gs = g :: r := by cases gs with | nil => exact absurd rfl hne | cons g r => exact ⟨g, r, rfl⟩
  have hgy := hg g (.head _)
  have hgN := I.ent y hyN g hgy
  refine sum_lt2 (fun k _ => delAll_le hy k) hgN.2.symm (List.mem_range.mpr hyN) (List.mem_range.mpr hgN.1) ?_ ?_
  · rw [delAll_eq hy, if_pos rfl]
    exact filter_lt hgy (by simp)
  · rw [delAll_eq hy, if_neg hgN.2, if_pos (.head _)]
    unfold fl
    exact filter_lt (I.sym y g hyN hgy) (by simp)
/-- nothing to do at one -/
noncomputable def Triv (N : Nat) (st : Nat → List Nat) (one : Nat) : Prop := askL N st one = [] ∨ (st one).drop (bestOf N st one + 1) = []
theorem triv_same {one : Nat} (h : Triv N st one) : rstep N st one = st := by
  unfold rstep
  by_cases e : askL N st one = []
  · rw [if_pos e]
  · rw [if_neg e]
    have hd := h.resolve_left e
    rw [hd, List.foldl_nil]
    funext k
    unfold updN
    by_cases q : k = one
    · rw [if_pos q, q]
      have := List.take_append_drop (bestOf N st one + 1) (st one)
      rw [hd, List.append_nil] at this
      exact this
    · rw [if_neg q]
theorem step_drop (O : OK N o) (I : PI N o st) {one : Nat} (h1 : one < N) (h : ¬Triv N st one) : tl N (rstep N st one) + 2 ≤ tl N st := by
  have ha : askL N st one ≠ [] := fun e => h (.inl e)
  rw [rstep_delAll O I h1 ha]
  exact delAll_drop I h1 (fun e => (I.ent one h1 one (List.mem_of_mem_drop e)).2 rfl) (fun g hg => List.mem_of_mem_drop hg) fun e => h (.inr e)
theorem fix_of_triv (O : OK N o) (I : PI N o st) (h : ∀ one, one < N → Triv N st one) : Fix N o st := by
  intro x y hx hy hh z hz
  have hxy : x ∈ st y := I.sym x y hx (head_lt (O.nd x hx) (I.ord x hx) hh).1
  have ha : askL N st y ≠ [] := List.ne_nil_of_mem (ask_iff.mpr ⟨hx, hh⟩)
  obtain ⟨b, hb, hbh, hbb, hbm⟩ := best_ask ha
  have hd := (h y hy).resolve_left ha
  have hle := hbm x hx hh
  have hby : b ∈ st y := I.sym b y hb (head_lt (O.nd b hb) (I.ord b hb) hbh).1
  have hlast : ∀ w ∈ st y, (o y).idxOf w ≤ (o y).idxOf b := fun w hw => by
    rcases Nat.lt_or_ge ((o y).idxOf b) ((o y).idxOf w) with q | q
    · have := (succ_mem (O.nd y hy) (I.ord y hy) hby).mpr ⟨hw, q⟩
      rw [hbb, hd] at this
      cases this
    · exact q
  have hxb : x = b := by
    by_cases e : x = b
    · exact e
    · have hp := ord_pw (O.nd y hy) (I.ord y hy)
      have i1 : (st y).idxOf x < (st y).length := List.idxOf_lt_length_iff.mpr hxy
      have i2 : (st y).idxOf b < (st y).length := List.idxOf_lt_length_iff.mpr hby
      have hne : (st y).idxOf b ≠ (st y).idxOf x := fun q => e (by
        have h1 := List.getElem_idxOf i1
        have h2 := List.getElem_idxOf i2
        rw [← h1, ← h2]
        congr 1
        exact q.symm)
      have hlt : (st y).idxOf b < (st y).idxOf x := by omega
      have := List.pairwise_iff_getElem.mp hp _ _ i2 i1 hlt
      rw [List.getElem_idxOf i2, List.getElem_idxOf i1] at this
      have := hlast x hxy
      omega
  by_cases e : z = x
  · exact .inl e
  · refine .inr ?_
    have h3 := hlast z hz
    rw [← hxb] at h3
    rcases Nat.lt_or_ge ((o y).idxOf z) ((o y).idxOf x) with q | q
    · exact q
    · have hzo : z ∈ o y := (O.full y hy z).mpr (I.ent y hy z hz)
      have hxo : x ∈ o y := (O.full y hy x).mpr (I.ent y hy x hxy)
      have heq : (o y).idxOf z = (o y).idxOf x := by omega
      have i1 : (o y).idxOf x < (o y).length := List.idxOf_lt_length_iff.mpr hxo
      have i2 : (o y).idxOf z < (o y).length := List.idxOf_lt_length_iff.mpr hzo
      exact absurd (by
        have h1 := List.getElem_idxOf i1
        have h2 := List.getElem_idxOf i2
        rw [← h1, ← h2]
        congr 1) e
theorem sweep_or (O : OK N o) : ∀ {l : List Nat} {st : Nat → List Nat}, Reach N o st → (∀ a ∈ l, a < N) → Reach N o (l.foldl (rstep N) st) ∧ (((∀ a ∈ l, Triv N st a) ∧ l.foldl (rstep N) st = st) ∨ tl N (l.foldl (rstep N) st) + 2 ≤ tl N st)
  | [], st, R, _ => ⟨R, .inl ⟨(fun _ h => nomatch h), rfl⟩⟩
  | a :: r, st, R, h => by
    have ha := h a (.head _)
    have hr := fun b hb => h b (.tail _ hb)
    rw [List.foldl_cons]
    by_cases t : Triv N st a
    · rw [triv_same t]
      obtain ⟨q1, q2⟩ := sweep_or O (l := r) R hr
      refine ⟨q1, q2.imp (fun ⟨w1, w2⟩ => ⟨fun b hb => ?_, w2⟩) id⟩
      rcases List.mem_cons.mp hb with rfl | hb
      · exact t
      · exact w1 b hb
    · have hd := step_drop O R.1 ha t
      obtain ⟨q1, q2⟩ := sweep_or O (l := r) (R.rstep O ha) hr
      refine ⟨q1, .inr ?_⟩
      rcases q2 with ⟨_, w⟩ | w
      · rw [w]; exact hd
      · omega
theorem fold_triv : ∀ {l : List Nat} {st : Nat → List Nat}, (∀ a ∈ l, Triv N st a) → l.foldl (rstep N) st = st
  | [], _, _ => rfl
  | a :: r, st, h => by
    rw [List.foldl_cons, triv_same (h a (.head _))]
    exact fold_triv fun b hb => h b (.tail _ hb)
theorem sweeps_or (O : OK N o) : ∀ m, Reach N o (sweeps N m o) ∧ ((∀ one, one < N → Triv N (sweeps N m o) one) ∨ tl N (sweeps N m o) + 2 * m ≤ tl N o)
  | 0 => ⟨Reach.start O, .inr (Nat.le_refl _)⟩
  | m + 1 => by
    obtain ⟨R, h⟩ := sweeps_or O m
    obtain ⟨q1, q2⟩ := sweep_or O (l := List.range N) R fun a ha => List.mem_range.mp ha
    refine ⟨q1, ?_⟩
    show (∀ one, one < N → Triv N ((List.range N).foldl (rstep N) (sweeps N m o)) one) ∨ tl N ((List.range N).foldl (rstep N) (sweeps N m o)) + 2 * (m + 1) ≤ _
    rcases h with h | h
    · rw [fold_triv fun a ha => h a (List.mem_range.mp ha)]
      exact .inl h
    · rcases q2 with ⟨w1, w2⟩ | w
      · rw [w2]
        exact .inl fun one h1 => w1 one (List.mem_range.mpr h1)
      · exact .inr (by omega)
theorem tl_start (O : OK N o) : tl N o = N * (N - 1) := by
  unfold tl
  rw [List.map_congr_left (g := fun _ => N - 1) fun k hk => O.len k (List.mem_range.mp hk)]
  rw [List.map_const', List.length_range, List.sum_replicate_nat]
theorem tl_low (O : OK N o) (I : PI N o st) : N ≤ tl N st + 1 := sum_one fun a b ha hb h1 h2 => one_empty O I ha hb (List.length_eq_zero_iff.mp h1) (List.length_eq_zero_iff.mp h2)
theorem rounds_fix (O : OK N o) (h6 : N ≤ 6) : Reach N o (sweeps N (2 * N + 1) o) ∧ Fix N o (sweeps N (2 * N + 1) o) := by
  obtain ⟨R, h⟩ := sweeps_or O (2 * N + 1)
  refine ⟨R, fix_of_triv O R.1 (h.resolve_right fun q => ?_)⟩
  have h1 := tl_low O R.1
  rw [tl_start O] at q
  have : N = 0 ∨ N = 1 ∨ N = 2 ∨ N = 3 ∨ N = 4 ∨ N = 5 ∨ N = 6 := by omega
  rcases this with rfl | rfl | rfl | rfl | rfl | rfl | rfl <;> omega
end
end
section
variable {g : Heap} {mg mb : Str → Option Value} {s₀ s : Shared} {cs cs' : List (Addr × OD)} {ts ts' : List (Value × D)} {prog : Program} {w : World} {A : Around} {n : Nat} {Q : Value → Shared → Prop}
section
variable {N : Nat} {o : Nat → List Nat} {st T : Nat → List Nat}
theorem nodup_len : ∀ {N : Nat} {l : List Nat}, l.Nodup → (∀ x ∈ l, x < N) → l.length ≤ N
  | 0, l, _, h => by
    cases l with
    | nil => exact Nat.le_refl _
    | cons a r => exact absurd (h a (.head _)) (Nat.not_lt_zero _)
  | N + 1, l, hn, h => by
    by_cases e : N ∈ l
    · have := nodup_len (N := N) (l := l.erase N) (hn.erase N) fun x hx => by
        have h1 := h x (List.mem_of_mem_erase hx)
        have h2 : x ≠ N := fun q => by
          subst q
          exact absurd hx (by rw [hn.mem_erase_iff]; exact fun w => w.1 rfl)
        omega
      rw [List.length_erase_of_mem e] at this
      omega
    · have := nodup_len (N := N) hn fun x hx => by
        have h1 := h x hx
        have h2 : x ≠ N := fun q => e (q ▸ hx)
        omega
      omega
theorem fold_snd {y : Nat} : ∀ {gs : List Nat} {p : List Nat × (Nat → List Nat)}, (gs.foldl (foldS y) p).2 = delAll p.2 y gs
  | [], _ => rfl
  | g :: r, p => by
    rw [List.foldl_cons, fold_snd (gs := r)]
    rfl
theorem fold_fst {y : Nat} : ∀ {gs : List Nat} {fr : List Nat} {st : Nat → List Nat}, fr.Nodup → gs.Nodup → y ∉ gs →
    (gs.foldl (foldS y) (fr, st)).1.Sublist fr ∧ (∀ w ∈ (gs.foldl (foldS y) (fr, st)).1, w ∈ gs → delAll st y gs w ≠ []) ∧ ∀ w ∈ fr, delAll st y gs w ≠ [] → w ∈ (gs.foldl (foldS y) (fr, st)).1
  | [], fr, st, _, _, _ => ⟨List.Sublist.refl _, (fun _ _ h => nomatch h), fun _ h _ => h⟩
  | g :: r, fr, st, hn, hg, hy => by
    rw [List.nodup_cons] at hg
    have hgy : g ≠ y := fun e => hy (e ▸ .head _)
    have hyr : y ∉ r := fun e => hy (.tail _ e)
    rw [List.foldl_cons]
    have hst : delAll st y (g :: r) = delAll (del st g y) y r := rfl
    have hsg : delAll (del st g y) y r g = del st g y g := by rw [delAll_eq hyr, if_neg hgy, if_neg hg.1]
    rw [hst]
    unfold foldS
    dsimp only
    by_cases e : del st g y g = [] ∧ g ∈ fr
    · rw [if_pos e]
      obtain ⟨q1, q2, q3⟩ := fold_fst (y := y) (gs := r) (fr := fr.erase g) (st := del st g y) (hn.erase g) hg.2 hyr
      refine ⟨q1.trans List.erase_sublist, fun w hw hwg => ?_, fun w hw hne => q3 w ?_ hne⟩
      · rcases List.mem_cons.mp hwg with rfl | hwr
        · exact absurd (q1.subset hw) (by rw [hn.mem_erase_iff]; exact fun q => q.1 rfl)
        · exact q2 w hw hwr
      · rw [hn.mem_erase_iff]
        refine ⟨fun q => hne ?_, hw⟩
        rw [q, hsg]; exact e.1
    · rw [if_neg e]
      obtain ⟨q1, q2, q3⟩ := fold_fst (y := y) (gs := r) (fr := fr) (st := del st g y) hn hg.2 hyr
      refine ⟨q1, fun w hw hwg => ?_, q3⟩
      rcases List.mem_cons.mp hwg with rfl | hwr
      · rw [hsg]; exact fun q => e ⟨q, q1.subset hw⟩
      · exact q2 w hw hwr
/-- what holds while they ask -/
structure FI (N : Nat) (o : Nat → List Nat) (fr : List Nat) (st : Nat → List Nat) (hd : Nat → Option Nat) : Prop where
  R : Reach N o st
  nd : fr.Nodup
  fre : ∀ x ∈ fr, x < N ∧ st x ≠ []
  hold : ∀ y x, y < N → hd y = some x → x < N ∧ (st x).head? = some y ∧ ∀ z ∈ st y, z = x ∨ (o y).idxOf z < (o y).idxOf x
  held : ∀ x, x < N → st x ≠ [] → x ∈ fr ∨ ∃ y, y < N ∧ hd y = some x
  dis : ∀ x ∈ fr, ∀ y, y < N → hd y ≠ some x
theorem idx_inj {k a b : Nat} (ha : a ∈ o k) (hb : b ∈ o k) (h : (o k).idxOf a = (o k).idxOf b) : a = b := by
  have i1 := List.idxOf_lt_length_iff.mpr ha
  have i2 := List.idxOf_lt_length_iff.mpr hb
  rw [← List.getElem_idxOf i1, ← List.getElem_idxOf i2]
  congr 1
theorem FI.step (O : OK N o) {fr : List Nat} {hd : Nat → Option Nat} {x y : Nat} {r : List Nat} (I : FI N o (fr ++ [x]) st hd) (hy : st x = y :: r) :
    FI N o ((succs st x y).foldl (foldS y) (back1 fr (hd y), st)).1 ((succs st x y).foldl (foldS y) (back1 fr (hd y), st)).2 (updN hd y (some x)) ∧
    tl N ((succs st x y).foldl (foldS y) (back1 fr (hd y), st)).2 + ((succs st x y).foldl (foldS y) (back1 fr (hd y), st)).1.length < tl N st + (fr ++ [x]).length := by
  have P := I.R.1
  have hx := (I.fre x (by simp)).1
  have hh : (st x).head? = some y := by rw [hy]; rfl
  have hyx : y ∈ st x := by rw [hy]; exact .head _
  have hyN := (P.ent x hx y hyx).1
  have hxy : x ∈ st y := P.sym x y hx hyx
  have hgs : ∀ g, g ∈ succs st x y ↔ g ∈ st y ∧ (o y).idxOf x < (o y).idxOf g := fun g => succ_mem (O.nd y hyN) (P.ord y hyN) hxy
  have hgn : (succs st x y).Nodup := (P.nd O hyN).sublist (List.drop_sublist _ _)
  have hygs : y ∉ succs st x y := fun e => (P.ent y hyN y ((hgs y).mp e).1).2 rfl
  obtain ⟨R', hh'⟩ := I.R.all O hx hyN hh
  have hnd0 := I.nd
  rw [List.nodup_append] at hnd0
  obtain ⟨hndf, _, hxf⟩ := hnd0
  have hxfr : x ∉ fr := fun e => hxf x e x (by simp) rfl
  have hzf : ∀ z, hd y = some z → z ∉ fr ∧ z ≠ x ∧ z < N ∧ (st z).head? = some y ∧ z ∈ succs st x y := fun z hz => by
    obtain ⟨h1, h2, h3⟩ := I.hold y z hyN hz
    have hzx : z ≠ x := fun e => I.dis x (by simp) y hyN (by rw [hz, e])
    refine ⟨fun e => I.dis z (by simp [e]) y hyN hz, hzx, h1, h2, (hgs z).mpr ⟨P.sym z y h1 (head_lt (O.nd z h1) (P.ord z h1) h2).1, ?_⟩⟩
    exact (h3 x hxy).resolve_left (Ne.symm hzx)
  have hnd1 : (back1 fr (hd y)).Nodup := by
    cases hhy : hd y with
    | none => exact hndf
    | some z =>
      show (fr ++ [z]).Nodup
      rw [List.nodup_append]
      exact ⟨hndf, by simp, fun a ha b hb => by rw [List.mem_singleton.mp hb]; exact fun e => (hzf z hhy).1 (e ▸ ha)⟩
  have hmem1 : ∀ w, w ∈ back1 fr (hd y) ↔ w ∈ fr ∨ hd y = some w := fun w => by
    cases hhy : hd y with
    | none => simp [back1]
    | some z =>
      show w ∈ fr ++ [z] ↔ _
      rw [List.mem_append, List.mem_singleton]
      simp [eq_comm]
  rw [fold_snd]
  obtain ⟨q1, q2, q3⟩ := fold_fst (y := y) (gs := succs st x y) (fr := back1 fr (hd y)) (st := st) hnd1 hgn hygs
  have hstx : ∀ w, w ∈ delAll st y (succs st x y) y ↔ w ∈ st y ∧ w ∉ succs st x y := fun w => by
    rw [mem_delAll]
    exact ⟨fun ⟨a, b, c⟩ => ⟨a, fun e => b ⟨rfl, e⟩⟩, fun ⟨a, b⟩ => ⟨a, fun e => b e.2, fun e => hygs e.1⟩⟩
  have hxin : x ∈ delAll st y (succs st x y) y := (hstx x).mpr ⟨hxy, fun e => by have := ((hgs x).mp e).2; omega⟩
  have hsub : ∀ k w, w ∈ delAll st y (succs st x y) k → w ∈ st k := fun k w h => (mem_delAll.mp h).1
  refine ⟨⟨R', q1.nodup hnd1, fun w hw => ?_, fun y' x' hy' hx' => ?_, fun w hwN hne => ?_, fun w hw y' hy' => ?_⟩, ?_⟩
  · have hw1 := q1.subset hw
    have hwN : w < N ∧ st w ≠ [] := by
      rcases (hmem1 w).mp hw1 with h | h
      · exact I.fre w (by simp [h])
      · obtain ⟨_, _, h3, h4, _⟩ := hzf w h
        exact ⟨h3, fun e => by rw [e] at h4; cases h4⟩
    refine ⟨hwN.1, ?_⟩
    by_cases hg : w ∈ succs st x y
    · exact q2 w hw hg
    · by_cases e : w = y
      · rw [e]; exact List.ne_nil_of_mem hxin
      · rw [delAll_eq hygs, if_neg e, if_neg hg]; exact hwN.2
  · unfold updN at hx'
    by_cases e : y' = y
    · subst e
      rw [if_pos rfl] at hx'
      cases hx'
      refine ⟨hx, hh', fun z hz => ?_⟩
      obtain ⟨h1, h2⟩ := (hstx z).mp hz
      by_cases q : z = x
      · exact .inl q
      · refine .inr ?_
        have hzo : z ∈ o y' := (O.full y' hyN z).mpr (P.ent y' hyN z h1)
        have hxo : x ∈ o y' := (O.full y' hyN x).mpr (P.ent y' hyN x hxy)
        have h3 : ¬(o y').idxOf x < (o y').idxOf z := fun w => h2 ((hgs z).mpr ⟨h1, w⟩)
        have h4 : (o y').idxOf z ≠ (o y').idxOf x := fun w => q (idx_inj hzo hxo w)
        omega
    · rw [if_neg e] at hx'
      obtain ⟨h1, h2, h3⟩ := I.hold y' x' hy' hx'
      have hl := head_lt (O.nd x' h1) (P.ord x' h1) h2
      refine ⟨h1, head_of (O.nd x' h1) (R'.1.ord x' h1) (mem_delAll.mpr ⟨hl.1, fun ⟨e1, e2⟩ => ?_, fun w => e w.2⟩) fun z hz => hl.2 z (hsub x' z hz), fun z hz => h3 z (hsub y' z hz)⟩
      subst e1
      have h5 := ((hgs y').mp e2).2
      rcases hl.2 x hxy with w | w
      · rw [w] at h5; omega
      · omega
  · have hne0 : st w ≠ [] := fun e => hne (by
      have : ∀ j, j ∉ delAll st y (succs st x y) w := fun j hj => by
        have := hsub w j hj
        rw [e] at this; cases this
      exact List.eq_nil_iff_forall_not_mem.mpr this)
    rcases I.held w hwN hne0 with h | ⟨y', hy', h⟩
    · rcases List.mem_append.mp h with h | h
      · exact .inl (q3 w ((hmem1 w).mpr (.inl h)) hne)
      · rw [List.mem_singleton.mp h]
        exact .inr ⟨y, hyN, by unfold updN; rw [if_pos rfl]⟩
    · by_cases e : y' = y
      · subst e
        exact .inl (q3 w ((hmem1 w).mpr (.inr h)) hne)
      · exact .inr ⟨y', hy', by unfold updN; rw [if_neg e]; exact h⟩
  · have hw1 := q1.subset hw
    unfold updN
    intro hcon
    by_cases e : y' = y
    · rw [if_pos e] at hcon
      cases hcon
      rcases (hmem1 x).mp hw1 with h | h
      · exact hxfr h
      · exact (hzf x h).2.1 rfl
    · rw [if_neg e] at hcon
      rcases (hmem1 w).mp hw1 with h | h
      · exact I.dis w (by simp [h]) y' hy' hcon
      · have h1 := (I.hold y w hyN h).2.1
        have h2 := (I.hold y' w hy' hcon).2.1
        rw [h1] at h2
        cases h2
        exact e rfl
  · have hlen := q1.length_le
    have htl : tl N (delAll st y (succs st x y)) ≤ tl N st := sum_le fun k _ => delAll_le hygs k
    rw [List.length_append, List.length_singleton]
    generalize ((succs st x y).foldl (foldS y) (back1 fr (hd y), st)).1.length = Lf at hlen ⊢
    show tl N (delAll st y (succs st x y)) + Lf < tl N st + (fr.length + 1)
    cases hhy : hd y with
    | none =>
      rw [hhy] at hlen
      have : (back1 fr none).length = fr.length := rfl
      omega
    | some z =>
      rw [hhy] at hlen
      have h1 : (back1 fr (some z)).length = fr.length + 1 := by show (fr ++ [z]).length = _; simp
      have h2 := delAll_drop P hyN hygs (fun g hg => ((hgs g).mp hg).1) (List.ne_nil_of_mem (hzf z hhy).2.2.2.2)
      omega
theorem floop (O : OK N o) (hN : N ≤ 100) : FLoop N (FI N o) fun fr st _ => tl N st + fr.length where
  small I := Nat.le_trans (nodup_len I.nd fun x hx => (I.fre x hx).1) hN
  ent I k hk j hj := (I.R.1.ent k hk j hj).1
  hdl I k z hk hz := (I.hold k z hk hz).1
  free I x hx := (I.fre x hx).1
  head {fr x st hd} I := by
    obtain ⟨hx, hne⟩ := I.fre x (by simp)
    cases hs : st x with
    | nil => exact absurd hs hne
    | cons y r => exact ⟨y, r, rfl, I.R.1.sym x y hx (by rw [hs]; exact .head _)⟩
  step I hy := I.step O hy
theorem FI.start (O : OK N o) {fr : List Nat} (h2 : 2 ≤ N) (hp : fr.Perm (List.range N)) : FI N o fr o fun _ => none where
  R := Reach.start O
  nd := hp.nodup_iff.mpr List.nodup_range
  fre x hx := by
    have hxN := List.mem_range.mp (hp.mem_iff.mp hx)
    refine ⟨hxN, fun e => ?_⟩
    have := O.len x hxN
    rw [e] at this
    simp at this
    omega
  hold y x _ h := nomatch h
  held x hx _ := .inl (hp.mem_iff.mpr (List.mem_range.mpr hx))
  dis x _ y _ h := nomatch h
theorem FI.fix (O : OK N o) {hd : Nat → Option Nat} (I : FI N o [] st hd) : Fix N o st := by
  intro x y hx hy hh z hz
  have hne : st x ≠ [] := fun e => by rw [e] at hh; cases hh
  rcases I.held x hx hne with h | ⟨y', hy', h⟩
  · cases h
  · obtain ⟨_, h2, h3⟩ := I.hold y' x hy' h
    rw [hh] at h2
    cases h2
    exact h3 z hz
end
end
section
variable {g : Heap} {mg mb : Str → Option Value} {s₀ s : Shared} {cs cs' : List (Addr × OD)} {ts ts' : List (Value × D)} {prog : Program} {w : World} {A : Around} {n : Nat} {Q : Value → Shared → Prop}
section
variable {N : Nat} {o : Nat → List Nat} {st T : Nat → List Nat}
theorem reach_sub (O : OK N o) (R : Reach N o st) (IT : PI N o T) (FT : Fix N o T) : Sub N T st := fun k hk j hj =>
  R.2 (fun a b => a < N ∧ b ∈ T a) (keeps_sub O IT FT) (fun a b h => (O.full a h.1 b).mpr (IT.ent a h.1 b h.2)) k j ⟨hk, hj⟩
theorem ends_same (O : OK N o) (R : Reach N o st) (F : Fix N o st) (R' : Reach N o T) (F' : Fix N o T) : ∀ k, k < N → st k = T k :=
  same_end O R.1 R'.1 (reach_sub O R' R.1 F) (reach_sub O R R'.1 F')
theorem last_is (O : OK N o) (I : PI N o st) (F : Fix N o st) {k y : Nat} {r : List Nat} (hk : k < N) (hs : st k = y :: r) : y < N ∧ st y ≠ [] ∧ (st y)[(st y).length - 1]? = some k := by
  have hh : (st k).head? = some y := by rw [hs]; rfl
  have hy := (head_lt (O.nd k hk) (I.ord k hk) hh).1
  have hyN := (I.ent k hk y hy).1
  have hky := I.sym k y hk hy
  refine ⟨hyN, List.ne_nil_of_mem hky, ?_⟩
  obtain ⟨i, hi, hik⟩ := List.mem_iff_getElem.mp hky
  have hl : (st y).length - 1 < (st y).length := by omega
  rw [List.getElem?_eq_getElem hl]
  congr 1
  by_cases e : i = (st y).length - 1
  · subst e; exact hik
  · have hlt : i < (st y).length - 1 := by omega
    have hp := List.pairwise_iff_getElem.mp (ord_pw (O.nd y hyN) (I.ord y hyN)) i _ hi hl hlt
    rw [hik] at hp
    rcases F k y hk hyN hh _ (List.getElem_mem hl) with q | q
    · exact q
    · omega
theorem FI.held0 (O : OK N o) {hd : Nat → Option Nat} (I : FI N o [] st hd) : ∀ k, k < N → st k = [] → hd k = none := fun k hk hs => by
  cases h : hd k with
  | none => rfl
  | some x =>
    obtain ⟨h1, h2, _⟩ := I.hold k x hk h
    have := I.R.1.sym x k h1 (head_lt (O.nd x h1) (I.R.1.ord x h1) h2).1
    rw [hs] at this
    cases this
theorem FI.held1 (O : OK N o) {hd : Nat → Option Nat} (I : FI N o [] st hd) : ∀ k y r, k < N → st k = y :: r → y < N ∧ hd y = some k := fun k y r hk hs => by
  rcases I.held k hk (by rw [hs]; exact List.cons_ne_nil _ _) with h | ⟨y', hy', h⟩
  · cases h
  · have := (I.hold y' k hy' h).2.1
    rw [hs] at this
    cases this
    exact ⟨hy', h⟩
theorem within_all (O : OK N o) (R : Reach N o st) {row : List (Nat × Nat)} (hp : (flat row).Perm (List.range N)) (hg : Good N o (matesL N row)) : within st row = true := by
  obtain ⟨hl, hpr, hmi⟩ := mates_ok hp
  have get : ∀ {i x : Nat}, (matesL N row)[i]? = some x → (matesL N row).getD i 0 = x := fun {i x} h => by rw [List.getD_eq_getElem?_getD, h]; rfl
  have hm : ∀ i, i < N → (matesL N row).getD i 0 < N ∧ (matesL N row).getD i 0 ≠ i ∧ (matesL N row).getD ((matesL N row).getD i 0) 0 = i := fun i hi => by
    obtain ⟨m, h1, h2, h3, h4⟩ := hmi i hi
    rw [get h1]
    exact ⟨h2, h3, get h4⟩
  have K := keeps_stable O hm hg
  have hin := R.2 _ K fun a b h => by
    obtain ⟨h1, h2, _⟩ := hm a h.1
    rw [h.2]
    exact (O.full a h.1 _).mpr ⟨h1, h2⟩
  unfold within
  refine decide_eq_true ?_
  rw [List.filter_eq_self.mpr fun p hp' => ?_]
  obtain ⟨h1, _, _, h4, _⟩ := hpr p hp'
  refine decide_eq_true (hin p.1 p.2 ⟨h1, ?_⟩)
  exact (get h4).symm
theorem ok_of {os : List (List Nat)} (h : IsOrders os.length os) : OK os.length fun k => os.getD k [] := by
  have hk : ∀ k, k < os.length → (os.getD k []).Perm ((List.range os.length).filter fun j => decide (j ≠ k)) := fun k hk => h.2 k _ (by
    rw [List.getD_eq_getElem?_getD, List.getElem?_eq_getElem hk]; rfl)
  refine ⟨fun k h1 => (hk k h1).nodup_iff.mpr (List.nodup_range.filter _), fun k h1 j => ?_, fun k h1 => ?_⟩
  · rw [(hk k h1).mem_iff, List.mem_filter, List.mem_range, decide_eq_true_iff]
  · rw [(hk k h1).length_eq, others_len h1]
theorem os_range (os : List (List Nat)) : os.map dL = (List.range os.length).map fun k => dL (os.getD k []) := by
  refine List.ext_getElem (by simp) fun i h1 h2 => ?_
  simp only [List.getElem_map, List.getElem_range]
  rw [List.getD_eq_getElem?_getD, List.getElem?_eq_getElem (by simpa using h1)]
  rfl
end
end
section
variable {g : Heap} {mg mb : Str → Option Value} {s₀ s : Shared} {cs cs' : List (Addr × OD)} {ts ts' : List (Value × D)} {prog : Program} {w : World} {A : Around} {n : Nat} {Q : Value → Shared → Prop}
/-! the law's own walk -/
noncomputable def cdLaw : DefRec := (fun {d : DefRec} {kwd : List (Str × Expr)} (_ : defOf vw PySem.Challenge.rw_jz0001_01.row.name = some (d, kwd)) => d) rfl
noncomputable def lEnv (L fa : Addr) (c : Value) : Env :=
  { scope := cdLaw.scope, locals := L, globals := mainGlobals, cells := [("turned", L + 2), ("count", L + 1)], qual := cdLaw.name ++ ".<locals>.", func := some fa, code := c, frame := some L, builtins := builtinsNs }
section
variable {E : Value → Shared → Prop}
theorem u_neg {v : Value} {k : Nat} {Q : Value → Shared → Prop} (S : St g s₀ cs ts s) (hv : (v, dN k) ∈ ts) (h : ∀ v s', St g s₀ cs ((v, .int (-(k : Int))) :: ts) s' → Q v s') : wpAny (model prog w) A (unaryOp .USub v) Q E s := by
  obtain ⟨t, rfl⟩ := den_int (S.den hv)
  exact PyProof.Rows.neg_int (h _ _ (S.toks.tint _ _))
theorem t_itemLast {value slice : Expr} {o i : Value} {l : List Nat} {x j : Nat} {Q : Value → Shared → Prop} (S : St g s₀ cs ts s) (ho : (o, dL l) ∈ ts) (hi : (i, .int (-(j : Int))) ∈ ts) (hj : j = 1) (hx : l[l.length - 1]? = some x)
    (h : ∀ v, St g s₀ cs ((v, dN x) :: ts) s → Q v s)
    (hs : ∀ a k u, subscripted slice false (.ref a) (.int k u) = operate [.ref a, .int k u] (getItem (.ref a) (.int k u)) := by with_unfolding_all exact fun _ _ _ => rfl) :
    wpAny (model prog w) A (subscriptTail value slice o i) Q E s := by
  subst hj
  obtain ⟨u, rfl⟩ := den_int (S.den hi)
  obtain ⟨l', vs, rfl, hl, hz, hlim, v, hv, S'⟩ := S.item (v := .none) ho (i := l.length - 1) (d := dN x) (by rw [List.getElem?_map, hx]; rfl)
  have hpos : 0 < l.length := by
    have := (List.getElem?_eq_some_iff.mp hx).1
    omega
  rw [List.length_map] at hz
  refine tail_any hl.isList.typeIs slot_list_getitem.lookup (wpAny_getItem_list_neg hl.isList (by decide) (by rw [hz]; simp; omega) (by decide) (by
    rw [hz]
    have : ((-((1 : Nat) : Int)) + (l.length : Int)).toNat = l.length - 1 := by omega
    rw [this]; exact hv) (h v S')) (hs _ _ _)
theorem pl_oD {N : Nat} {o : Nat → List Nat} : Pl 8 (oD N o) := .list (plA_map fun k _ => pl_dL _)
theorem pl_row (row : List (Nat × Nat)) : Pl 7 (rowD row) := .list (plA_map fun p _ => .tup (.cons (pl_dN _) (.cons (pl_dN _) .nil)))
theorem k_eqSame {a b : Value} {d : D} {m : Nat} {Q : Value → Shared → Prop} (S : St g s₀ cs ts s) (ha : (a, d) ∈ ts) (hb : (b, d) ∈ ts) (pd : Pl m d) (hu : A.units + 64 < cLine) (h : Q (.bool true) s) (hm : m < 60 := by decide) : wpAny (model prog w) A (compareOp .Eq a b) Q E s :=
  k_eqD S ha hb pd pd hu (fun r hr => by rw [hr.mpr rfl]; exact h) hm hm
theorem k_neSame {a b : Value} {d : D} {m : Nat} {Q : Value → Shared → Prop} (S : St g s₀ cs ts s) (ha : (a, d) ∈ ts) (hb : (b, d) ∈ ts) (pd : Pl m d) (hu : A.units + 64 < cLine) (h : Q (.bool false) s) (hm : m < 60 := by decide) : wpAny (model prog w) A (compareOp .NotEq a b) Q E s :=
  k_neD S ha hb pd pd hu (fun r hr => by rw [hr.mpr rfl]; exact h) hm hm
end
end
section
variable {g : Heap} {mg mb : Str → Option Value} {s₀ s : Shared} {cs cs' : List (Addr × OD)} {ts ts' : List (Value × D)} {prog : Program} {w : World} {A : Around} {n : Nat} {Q : Value → Shared → Prop}
local macro_rules | `(tactic| wtm_at "ev") => `(tactic| ((with_reducible show wpAny _ _ (eval (Expr.UnaryOp UnaryOp.USub _ _) _) _ _ _); refine wpAny_UnaryOp ?_))
local macro_rules | `(tactic| wtm_at "st") => `(tactic| ((with_reducible show wpAny _ _ (unaryOp UnaryOp.USub _) _ _ _); refine u_neg (by assumption) (by wtm_at "mem") (fun _ _ _ => ?_)))
local macro_rules | `(tactic| wtm_at "st") => `(tactic| ((with_reducible show wpAny _ _ (call (Value.builtin "isinstance") _) _ _ _); refine c_isList (by assumption) (by wtm_at "mem") ?_))

section
variable {N : Nat} {o due st1 st2 : Nat → List Nat} {hd1 hd2 : Nat → Option Nat} {ps ps2 : List (Addr × Addr)} {X X2 : Nat → D × D}
theorem law_tail {L fa : Addr} {c : Value} {Q : Flow → Shared → Prop} (G : Gd (KK w.params) g mg mb) (hA : Ok (n + 40) A)
    (O : OK N o) (hN : N ≤ 6) (hps : ps.length = N) (hps2 : ps2.length = N) (F1 : FI N o [] st1 hd1) (F2 : FI N o [] st2 hd2) (R : Reach N o due) (Fx : Fix N o due)
    (S : St g s₀ ((L, .names [("orders", oD N o), ("due", oD N due), ("players", .list ((List.range N).map (pD ps))), ("told", .list ((List.range N).map (pD ps)))]) :: (L + 2, .cell (some (.list ((List.range N).map (pD ps2))))) :: (L + 1, .cell (some (dN N))) ::
      (PLx (FS ps2 X2 st2 hd2) ps2 ++ (PLx (FS ps X st1 hd1) ps ++ []))) ts s)
    (h : ∀ cs ts s', St g s₀ cs ts s' → Q (.ret (.bool true)) s') : wpAny (model prog w) A (execs (cdLaw.body.drop 7) (lEnv L fa c)) Q NoE s := by
  have hh : A.handled = none := hA.hd
  have I1 := F1.R.1
  have e1 : ∀ k, k < N → st1 k = due k := ends_same O F1.R (F1.fix O) R Fx
  have e2 : ∀ k, k < N → st2 k = due k := ends_same O F2.R (F2.fix O) R Fx
  have d1 : oD N st1 = oD N due := by
    unfold oD; congr 1; exact List.map_congr_left fun k hk => by rw [e1 k (List.mem_range.mp hk)]
  have d2 : oD N st2 = oD N due := by
    unfold oD; congr 1; exact List.map_congr_left fun k hk => by rw [e2 k (List.mem_range.mp hk)]
  have H1 : ∀ k, k < N → (dxOf ps k, OD.attrs 5 (FS ps X st1 hd1 k)) ∈ (L + 2, OD.cell (some (.list ((List.range N).map (pD ps2))))) :: (L + 1, .cell (some (dN N))) :: (PLx (FS ps2 X2 st2 hd2) ps2 ++ (PLx (FS ps X st1 hd1) ps ++ [])) := fun k hk =>
    .tail _ (.tail _ (List.mem_append_right _ (PLx_mem (by omega))))
  have H2 : ∀ k, k < N → (dxOf ps2 k, OD.attrs 5 (FS ps2 X2 st2 hd2 k)) ∈ (L + 2, OD.cell (some (.list ((List.range N).map (pD ps2))))) :: (L + 1, .cell (some (dN N))) :: (PLx (FS ps2 X2 st2 hd2) ps2 ++ (PLx (FS ps X st1 hd1) ps ++ [])) := fun k hk =>
    .tail _ (.tail _ (PLx_mem (by omega)))
  have lo : ∀ {l : List (Nat → List Nat)} {st : Nat → List Nat}, D.list (((List.range N).map st).map dL) = oD N st := fun {_ st} => by unfold oD; rw [List.map_map]; rfl
  show wpAny _ _ (execs (_ :: _) _) _ _ _
  wtm_at "go"
  rename_i S2
  refine law_lists_spec (n := n) G (by wtm_at "ok") S2 (List.cons_ne_nil _ _) hN (fun k hk => .tail _ (H1 k hk)) (fun k _ => gF_prefs) (fun k _ => gF_name) (fun k hk j hj => (I1.ent k hk j hj).1) (by wtm_at "mem") (fun v3 s3 S3 => ?_)
  rw [List.map_map] at S3
  have S3 : St g s₀ _ ((v3, oD N st1) :: _) s3 := S3
  wtm_at "go"
  rename_i S4
  refine law_stable_spec (n := n) G (by wtm_at "ok") S4 (List.cons_ne_nil _ _) O.full hN (by wtm_at "mem") (fun v5 s5 rows hrows hrl S5 => ?_)
  wtm_at "go"
  rename_i S6
  refine law_mutual_spec (n := n) (o := o) (st := st1) G (by wtm_at "ok") S6 (List.cons_ne_nil _ _) hN (fun k hk j hj => ((O.full k hk j).mp hj).1) (fun k hk => ?_) (fun k hk => (I1.ord k hk).symm) (fun k hk j hj => I1.sym k j hk hj) (by wtm_at "mem") (by wtm_at "mem") (fun s7 S7 => ?_)
  · exact (rloop O (by omega)).len F1.R k hk
  wtm_at "go"
  refine law_within_spec (n := n) (N := N) (rows := rows) (st := st1) G (by wtm_at "ok") (by assumption) (List.cons_ne_nil _ _) (fun row hrow p hp => ((mates_ok (hrows row hrow).1).2.1 p hp).1) (by wtm_at "mem") (by wtm_at "mem") (fun v8 s8 S8 => ?_)
  rw [List.filter_eq_self.mpr (fun row hrow => within_all O F1.R (hrows row hrow).1 (hrows row hrow).2)] at S8
  have S8 : St g s₀ _ ((v8, .list (rows.map rowD)) :: _) s8 := S8
  wtm_at "go"
  refine k_neSame (by assumption) (by wtm_at "mem") (by wtm_at "mem") (.list (plA_map fun row _ => pl_row row)) (by wtm_at "un") ?_
  wtm_at "go"
  rename_i v9 s9 S9
  have S10 := S9.names .head (ls' := [("due", oD N due), ("players", .list ((List.range N).map (pD ps))), ("told", .list ((List.range N).map (pD ps))), ("lists", oD N st1)]) (by wtm_at "subl")
  refine for_range_code hh S10 (List.cons_ne_nil _ _) (.head _) (base := ts) (by wtm_at "sub") (by wtm_at "sd")
    (P := fun i cs' => cs' = (L, .names [("due", oD N due), ("players", .list ((List.range N).map (pD ps))), ("told", .list ((List.range N).map (pD ps))), ("lists", oD N st1)]) :: (L + 2, .cell (some (.list ((List.range N).map (pD ps2))))) :: (L + 1, .cell (some (dN N))) :: (PLx (FS ps2 X2 st2 hd2) ps2 ++ (PLx (FS ps X st1 hd1) ps ++ [])))
    rfl (fun i v it od cs' s hi hP S => ?_) (fun cs' s hP S => ?_)
  · subst hP
    have fin : ∀ {ls : List (Str × D)} {s : Shared} {ts' : List (Value × D)}, St g s₀ ((it, od) :: (L, .names ls) :: (L + 2, .cell (some (.list ((List.range N).map (pD ps2))))) :: (L + 1, .cell (some (dN N))) :: (PLx (FS ps2 X2 st2 hd2) ps2 ++ (PLx (FS ps X st1 hd1) ps ++ []))) ts' s → (∀ p ∈ ts, p ∈ ts') → (∀ p ∈ ([("due", oD N due), ("players", .list ((List.range N).map (pD ps))), ("told", .list ((List.range N).map (pD ps))), ("lists", oD N st1)] : List (Str × D)), p ∈ ls) →
        TurnTo g s₀ ((fun i cs' => cs' = (L, .names [("due", oD N due), ("players", .list ((List.range N).map (pD ps))), ("told", .list ((List.range N).map (pD ps))), ("lists", oD N st1)]) :: (L + 2, .cell (some (.list ((List.range N).map (pD ps2))))) :: (L + 1, .cell (some (dN N))) :: (PLx (FS ps2 X2 st2 hd2) ps2 ++ (PLx (FS ps X st1 hd1) ps ++ []))) (i + 1)) it od ts .next s :=
      fun S hb hl => TurnTo.nextN S .head hl hb rfl
    cases hst : st1 i with
    | nil =>
      have he' : ¬(!(st1 i).isEmpty) = true := by rw [hst]; decide
      wtm_at "go"
      exact fin (by assumption) (by wtm_at "sub") (by wtm_at "subl")
    | cons y r =>
      have he' : (!(st1 i).isEmpty) = true := by rw [hst]; rfl
      obtain ⟨hy, hne, hlast⟩ := last_is O I1 (F1.fix O) hi hst
      have hne' : ¬(st1 y).isEmpty = true := by simpa using hne
      have hpos : 0 < (st1 i).length := by rw [hst]; exact Nat.succ_pos _
      have h0y : ∀ {x : Nat}, (st1 i)[0]? = some x → x = y := fun {x} hx => by rw [hst] at hx; exact (Option.some.inj hx).symm
      wtm_at "go"
      · have hx := h0y ‹(st1 i)[0]? = some _›
        omega
      · have hx := h0y ‹(st1 i)[0]? = some _›
        have hem := ‹(st1 _).isEmpty = true›
        rw [hx] at hem
        exact absurd hem hne'
      · have hx := h0y ‹(st1 i)[0]? = some _›
        omega
      · have hx := h0y ‹(st1 i)[0]? = some _›
        subst hx
        refine t_itemLast (by assumption) (by wtm_at "mem") (by wtm_at "mem") rfl hlast (fun _ _ => ?_)
        wtm_at "go"
        exact fin (by assumption) (by wtm_at "sub") (by wtm_at "subl")
  · subst hP
    wtm_at "go"
    rename_i S11
    refine law_held_spec (n := n) (st := st1) (hd := hd1) G (by wtm_at "ok") S11 (List.cons_ne_nil _ _) hN (fun k hk => .tail _ (H1 k hk)) (fun k _ => gF_matching) (fun k _ => gF_name) (F1.held0 O) (F1.held1 O) (by wtm_at "mem") (by wtm_at "mem") (fun s12 S12 => ?_)
    wtm_at "go"
    rename_i S13
    refine law_lists_spec (n := n) G (by wtm_at "ok") S13 (List.cons_ne_nil _ _) hN (fun k hk => .tail _ (H2 k hk)) (fun k _ => gF_prefs) (fun k _ => gF_name) (fun k hk j hj => (F2.R.1.ent k hk j hj).1) (by wtm_at "mem") (fun v14 s14 S14 => ?_)
    rw [List.map_map] at S14
    have S14 : St g s₀ _ ((v14, oD N st2) :: _) s14 := S14
    wtm_at "go"
    refine law_held_spec (n := n) (st := st2) (hd := hd2) G (by wtm_at "ok") (by assumption) (List.cons_ne_nil _ _) hN (fun k hk => .tail _ (H2 k hk)) (fun k _ => gF_matching) (fun k _ => gF_name) (F2.held0 O) (F2.held1 O) (by wtm_at "mem") (by wtm_at "mem") (fun s15 S15 => ?_)
    wtm_at "go"
    refine nm_builtin (by assumption) G (gn_list _) bb_list ?_
    wtm_at "go"
    rename_i v16 S16
    refine cs_all hh S16 (List.cons_ne_nil _ _) (.list (l := List.range N) (.head _)) (fun j => j) dN (fun j hj v' Lc it od acc oda s17 S17 => ?_) (fun v17 s17 S17 => ?_)
    · have hjN := List.mem_range.mp hj
      wtm_at "go"
      refine law_number_spec (n := n) G (by wtm_at "ok") (by assumption) (.tail _ (.tail _ (.tail _ (.tail _ (H1 j hjN))))) gF_name (by omega) (by wtm_at "mem") (fun v19 s19 S19 => ?_)
      wtm_at "go"
    · rw [List.map_id'] at S17
      have S17 : St g s₀ _ ((v17, dL (List.range N)) :: _) s17 := S17
      wtm_at "go"
      refine PyProof.Rows.BoolOp_and ?_
      wtm_at "go"
      rename_i S20
      rw [d1] at S20
      refine k_eqSame S20 (by wtm_at "mem") (by wtm_at "mem") pl_oD (by wtm_at "un") ?_
      wtm_at "go"
      refine PyProof.Rows.BoolOp_one ?_
      wtm_at "go"
      refine law_lists_spec (n := n) (st := st2) G (by wtm_at "ok") (by assumption) (List.cons_ne_nil _ _) hN (fun k hk => .tail _ (H2 k hk)) (fun k _ => gF_prefs) (fun k _ => gF_name) (fun k hk j hj => (F2.R.1.ent k hk j hj).1) (by wtm_at "mem") (fun v21 s21 S21 => ?_)
      rw [List.map_map] at S21
      have S21 : St g s₀ _ ((v21, oD N st2) :: _) s21 := S21
      rw [d2] at S21
      wtm_at "go"
      refine k_eqSame (by assumption) (by wtm_at "mem") (by wtm_at "mem") pl_oD (by wtm_at "un") ?_
      wtm_at "go"
      exact h _ _ _ (by assumption)
end
end
section
variable {g : Heap} {mg mb : Str → Option Value} {s₀ s : Shared} {cs cs' : List (Addr × OD)} {ts ts' : List (Value × D)} {prog : Program} {w : World} {A : Around} {n : Nat} {Q : Value → Shared → Prop}
local macro_rules | `(tactic| wtm_at "ev") => `(tactic| ((with_reducible show wpAny _ _ (eval (Expr.UnaryOp UnaryOp.USub _ _) _) _ _ _); refine wpAny_UnaryOp ?_))
local macro_rules | `(tactic| wtm_at "st") => `(tactic| ((with_reducible show wpAny _ _ (unaryOp UnaryOp.USub _) _ _ _); refine u_neg (by assumption) (by wtm_at "mem") (fun _ _ _ => ?_)))
local macro_rules | `(tactic| wtm_at "st") => `(tactic| ((with_reducible show wpAny _ _ (call (Value.builtin "isinstance") _) _ _ _); refine c_isList (by assumption) (by wtm_at "mem") ?_))

theorem turn_perm (N : Nat) : ((List.range N).map fun k => N - 1 - k).Perm (List.range N) := by
  have e : ((List.range N).map fun k => N - 1 - k) = (List.range N).reverse := by
    refine List.ext_getElem (by simp) fun i h1 h2 => ?_
    simp
  rw [e]
  exact List.reverse_perm _
theorem law_code {a L fa : Addr} {c : Value} {vs : List Value} {ns : List Int} {Q : Flow → Shared → Prop} (PP : PO prog) (G : Gd (KK w.params) g mg mb) (hA : Ok (n + 40) A)
    (hl0 : g.IsList a vs.toArray) (hi0 : IntsAre vs ns) (hlen : ns.length ≤ 63)
    (S : St g s₀ [(L, .names [("script", .val (.ref a))]), (L + 2, .cell none), (L + 1, .cell none)] [(.ref a, .val (.ref a))] s)
    (h : ∀ cs ts s', St g s₀ cs ts s' → Q (.ret (.bool true)) s') : wpAny (model prog w) A (execs cdLaw.body (lEnv L fa c)) Q NoE s := by
  have hh : A.handled = none := hA.hd
  show wpAny _ _ (execs (_ :: _) _) _ _ _
  wtm_at "go"
  rename_i v1 s1 S1
  refine law_cell_spec G (by wtm_at "ok") (by assumption) (List.cons_ne_nil _ _) hl0 hi0 hlen (k := 0) (by omega) (by wtm_at "mem") (fun v2 s2 S2 => ?_)
  wtm_at "go"
  rename_i S3
  have hN2 : 2 ≤ 2 + cellN ns 0 % 5 := by omega
  have hN6 : 2 + cellN ns 0 % 5 ≤ 6 := by omega
  have S3 : St g s₀ [(L, .names [("script", .val (.ref a))]), (L + 2, .cell none), (L + 1, .cell (some (dN (2 + cellN ns 0 % 5))))] ((_, dN (2 + cellN ns 0 % 5)) :: _) _ := S3
  refine law_orders_spec G (n := n) (by wtm_at "ok") S3 (List.cons_ne_nil _ _) hl0 hi0 hlen hN6 hN2 (.head _) (fun v4 s4 os hos S4 => ?_)
  have S4 := S4.tsub (ts' := [(v4, .list (os.map dL))]) (List.forall_mem_cons.mpr ⟨.head _, List.forall_mem_nil _⟩)
  generalize 2 + cellN ns 0 % 5 = N at hN2 hN6 S4 hos
  obtain ⟨hosl, hosp⟩ := hos
  subst hosl
  have hIs : IsOrders os.length os := ⟨rfl, hosp⟩
  have O := ok_of hIs
  have hoD := os_range os
  obtain ⟨o, ho⟩ : ∃ o, o = fun k => os.getD k [] := ⟨_, rfl⟩
  have hoD : D.list (os.map dL) = oD os.length o := by rw [hoD, ho]
  rw [← ho] at O
  rw [hoD] at S4
  have hFull : FullO os.length o := O.full
  obtain ⟨hRr, hFx⟩ := rounds_fix O hN6
  wtm_at "go"
  refine law_rounds_spec (n := n) (rloop O (by omega)) G (by wtm_at "ok") (by assumption) (List.cons_ne_nil _ _) hN6 (Reach.start O) (by wtm_at "mem") (fun v5 s5 S5 _ => ?_)
  generalize sweeps os.length (2 * os.length + 1) o = due at hRr hFx S5
  wtm_at "go"
  refine law_players_spec (n := n) PP G (by wtm_at "ok") (by assumption) (List.cons_ne_nil _ _) hIs hN6 (by rw [hoD]; wtm_at "mem") (fun v6 s6 ps X hps S6 => ?_)
  rw [← ho] at S6
  have hJ := S6.injX (by rw [hps]; exact .head _)
  have S7 := St.back [(_, _), (_, _), (_, _)] (r := []) S6
  dsimp only [List.cons_append, List.nil_append] at S7
  wtm_at "go"
  have T1 : FLoop ps.length (FI os.length o) (fun fr st _ => tl os.length st + fr.length) := by rw [hps]; exact floop O (by omega)
  refine first_spec (n := n) (pl := List.range os.length) T1 G (by wtm_at "ok") hJ (St.front [_, _, _] (by assumption)) (fun e => by have := congrArg List.length e; simp at this) (by wtm_at "mem") (FI.start O hN2 (List.Perm.refl _)) (fun v8 s8 st1 hd1 F1 S8 => ?_)
  have S9 := St.back [_, _, _] S8
  dsimp only [List.cons_append, List.nil_append] at S9
  wtm_at "go"
  refine law_players_spec (n := n) PP G (by wtm_at "ok") (by assumption) (List.cons_ne_nil _ _) hIs hN6 (by rw [hoD]; wtm_at "mem") (fun v10 s10 ps2 X2 hps2 S10 => ?_)
  rw [← ho] at S10
  have hJ2 := S10.injX (by rw [hps2]; exact .head _)
  have S11 := St.back [_, _, _] S10
  dsimp only [List.cons_append, List.nil_append] at S11
  wtm_at "go"
  rename_i v12 s12 S12
  refine cs_all hh S12 (List.cons_ne_nil _ _) (.rng (n := os.length) (by wtm_at "mem") (by wtm_at "sd")) (fun k => os.length - 1 - k) (pD ps2) (fun k hk v' Lc it od acc oda s13 S13 => ?_) (fun v13 s13 S13 => ?_)
  · have hkN := List.mem_range.mp hk
    wtm_at "go"
  · have S13 := S13.names .head (ls' := [("orders", oD os.length o), ("due", oD os.length due), ("players", .list ((List.range os.length).map (pD ps))), ("told", .list ((List.range os.length).map (pD ps)))]) (by wtm_at "subl")
    have T2 : FLoop ps2.length (FI os.length o) (fun fr st _ => tl os.length st + fr.length) := by rw [hps2]; exact floop O (by omega)
    refine ⟨_, _, S13, ?_⟩
    refine first_spec (n := n) (pl := (List.range os.length).map fun k => os.length - 1 - k) T2 G (by wtm_at "ok") hJ2 (St.front [_, _, _] S13) (fun e => by have := congrArg List.length e; simp at this) (by wtm_at "mem") (FI.start O hN2 (turn_perm _)) (fun v14 s14 st2 hd2 F2 S14 => ?_)
    have S15 := St.back [_, _, _] S14
    dsimp only [List.cons_append, List.nil_append] at S15
    show wpAny _ _ (execs _ _) _ _ _
    exact law_tail (n := n) (X := X) (X2 := X2) G hA O hN6 hps hps2 F1 F2 hRr hFx (S15.names .head (by wtm_at "subl")) h
end
section
variable {g : Heap} {mg mb : Str → Option Value} {s₀ s : Shared} {cs cs' : List (Addr × OD)} {ts ts' : List (Value × D)} {prog : Program} {w : World} {A : Around} {n : Nat} {Q : Value → Shared → Prop}
theorem law_good {c : ClaimW} {cl : Str → Option Addr} {mean : ExcName → Option Value} {args : List WData} {s₁ s' : Shared} (S : St s₁.heap s₁ cs ts s') (hg : s₁.gens = #[]) (hr : ∀ cls, c.raises args cls = false)
    (hp : c.post args (.bool true) args = true) : GoodW c cl mean args s₁ (.ok (.ret (.bool true))) s' :=
  ⟨.inl ⟨_, _, [], rfl, hr, ReadsW.bool true, hp, fun _ => ⟨List.nodup_nil, fun _ hm => (nomatch hm)⟩⟩, S.ground, (by rw [S.rest]), (by rw [S.rest]; exact hg)⟩
theorem gd_of {p : Program} {loose : List Str} {mean : ExcName → Option Value} {K : Frag} {h : Heap} (T : Top p loose mean mg mb h) (k : K.In h) : Gd K h mg mb :=
  ⟨k, T.g, T.b, T.builtins, T.nolimit⟩
theorem law_st {s₁ : Shared} {h₁ : Heap} {tk : Nat} {a : Addr} {m : Str → Option Value} {o1 o2 : Obj} {c1 c2 : Option Value} (F : Fr s₁.heap s₁.heap.objs.size h₁ m) (hm : m "script" = some (.ref a))
    (N0 : News s₁.heap s₁.heap.objs.size h₁ [(s₁.heap.objs.size + 1 + 1, o1), (s₁.heap.objs.size + 1, o2)]) (h1 : o1.data = .cell c1) (h2 : o2.data = .cell c2) :
    St s₁.heap s₁ [(s₁.heap.objs.size, .names [("script", .val (.ref a))]), (s₁.heap.objs.size + 2, .cell none), (s₁.heap.objs.size + 1, .cell none)] [(.ref a, .val (.ref a))] { s₁ with heap := h₁, toks := tk } := by
  have hn : ∀ k, s₁.heap.get? (s₁.heap.objs.size + k) = none := fun k => by
    cases hq : s₁.heap.get? (s₁.heap.objs.size + k) with
    | none => rfl
    | some o => exact absurd (Heap.lt_size hq) (Nat.not_lt.mpr (Nat.le_add_right _ _))
  refine ⟨s₁.heap.get?, fun _ _ q => q, F.keep, fun p hp => ?_, ?_, fun p hp => ?_, rfl⟩
  · rcases List.mem_cons.mp hp with rfl | hp
    · exact ⟨hn 0, Nat.le_refl _, m, F.ns, fun q hq => by rw [List.mem_singleton.mp hq]; exact ⟨_, hm, .val _⟩⟩
    · rcases List.mem_cons.mp hp with rfl | hp
      · exact ⟨hn 2, Nat.le_add_right _ _, c1, o1, (N0 _ (.head _)).1, h1⟩
      · rw [List.mem_singleton.mp hp]
        exact ⟨hn 1, Nat.le_add_right _ _, c2, o2, (N0 _ (.tail _ (.head _))).1, h2⟩
  · simp
  · rw [List.mem_singleton.mp hp]; exact .val _
theorem ok_env (env : Env) : Ok (n := 45) (callerA.deeper env) := by
  refine ⟨rfl, ?_, ?_⟩
  · show callerA.depth + 1 + 45 < recursionLimit
    decide
  · show callerA.units + 3 + 8 * 45 + 80 < cLine
    decide
theorem po_row : PO PySem.Challenge.rw_jz0001_01.row.prog := ⟨rfl, rfl⟩
end
end Mine
open PySem PySem.W PyProof.Rows PySem.Calls
set_option maxHeartbeats 8000000 in
theorem PySem.Challenge.cw_jz0001_01_holds : PySem.Challenge.rw_jz0001_01.Holds :=
  Mine.hd rfl rfl rfl (by
  intro w s₀ s₁ mg mb G Y fa o pm cd doc dV kV ho hd hcd hD hmg hg args vals as hpre hlay hrd hwl hlo
  have KX := kIn_of Y
  refine Ground.open G ?_
  intro T B D TE TW
  refine guard_noD D (by decide +kernel) ?_
  clear D
  have TA := at_of_top T
  obtain ⟨_, _, he, B0⟩ := based_of_top T rfl hmg ho hd
  have he' : cd = _ := he
  subst he'
  clear he hmg
  wrow_args hpre hlay hrd hwl hlo
  refine enter_call ?_
  w_top on
  try refine codeAny_mono ?_ (fun _ _ g => GoodW.toG g)
  have K0 := below_caller (Top.heap T)
  w_call any ho hd hcd hD T F
  refine Mine.noE (Mine.law_code (n := 5) Mine.po_row (Mine.gd_of (by assumption) (by assumption)) (Mine.ok_env _) (by assumption) (by assumption) (by omega) (Mine.law_st (by assumption) rfl (by assumption) (by assumption) (by assumption)) (fun cs ts s' S => ?_))
  exact Mine.law_good S (by assumption) (fun _ => rfl) (by first | kernel_rfl | wrow_post))

