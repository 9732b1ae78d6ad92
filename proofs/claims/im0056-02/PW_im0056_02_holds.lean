import PyProof.Rows.All
import Wide.All
import OpenK.AllK
import Wide.FinOn
import PySem.Challenge.RW_im0056_02
set_option Elab.async false
set_option maxRecDepth 100000
set_option maxHeartbeats 8000000
set_option linter.all false
set_option genSizeOf false
set_option compiler.extract_closed false
noncomputable section
open PySem PySem.W PySem.Calls PyProof.Rows
namespace Mine

/- ## abstract objects, chunks, the state -/

abbrev Fields := List (Str × Option Value)

inductive AO where
  | list (vs : List Value)
  | tup (vs : List Value)
  | ns (m : Fields)
  | obj (m : Fields)
  | inst (C d : Addr)
  | bm (f self : Addr)
  | pred (P : Obj → Prop)

abbrev Chunk := Addr × AO

noncomputable def nv : Value → Value
  | .int i _ => .int i 0
  | .float x _ => .float x 0
  | .str s _ => .str s 0
  | .bytes b _ => .bytes b 0
  | v => v

theorem nv_int {v : Value} {i : Int} {u : Tok} (h : nv v = .int i u) : u = 0 ∧ ∃ t, v = .int i t := by
  cases v <;> simp [nv] at h
  obtain ⟨rfl, rfl⟩ := h; exact ⟨rfl, _, rfl⟩
theorem nv_str {v : Value} {x : Str} {u : Tok} (h : nv v = .str x u) : u = 0 ∧ ∃ t, v = .str x t := by
  cases v <;> simp [nv] at h
  obtain ⟨rfl, rfl⟩ := h; exact ⟨rfl, _, rfl⟩
theorem nv_ref {v : Value} {a : Addr} (h : nv v = .ref a) : v = .ref a := by cases v <;> simp [nv] at h; rw [h]
theorem nv_none {v : Value} (h : nv v = .none) : v = .none := by cases v <;> simp [nv] at h; rfl
theorem nv_bool {v : Value} {b : Bool} (h : nv v = .bool b) : v = .bool b := by cases v <;> simp [nv] at h; rw [h]
theorem nv_builtin {v : Value} {b : String} (h : nv v = .builtin b) : v = .builtin b := by cases v <;> simp [nv] at h; rw [h]
theorem nv_type {v : Value} {b : String} (h : nv v = .type b) : v = .type b := by cases v <;> simp [nv] at h; rw [h]

theorem map_one {as : List Value} {v : Value} (h : as.map nv = [v]) : ∃ a, as = [a] ∧ nv a = v := by
  cases as with
  | nil => cases h
  | cons a r => cases r with
    | nil => exact ⟨a, rfl, by simpa using h⟩
    | cons _ _ => simp at h
theorem map_two {as : List Value} {v w : Value} (h : as.map nv = [v, w]) : ∃ a b, as = [a, b] ∧ nv a = v ∧ nv b = w := by
  cases as with
  | nil => cases h
  | cons a r =>
    simp only [List.map_cons, List.cons.injEq] at h
    obtain ⟨b, rfl, e⟩ := map_one h.2
    exact ⟨a, b, rfl, h.1, e⟩
theorem map_three {as : List Value} {v w x : Value} (h : as.map nv = [v, w, x]) : ∃ a b d, as = [a, b, d] ∧ nv a = v ∧ nv b = w ∧ nv d = x := by
  cases as with
  | nil => cases h
  | cons a r =>
    simp only [List.map_cons, List.cons.injEq] at h
    obtain ⟨b, d, rfl, e⟩ := map_two h.2
    exact ⟨a, b, d, rfl, h.1, e⟩
theorem map_four {as : List Value} {v w x y : Value} (h : as.map nv = [v, w, x, y]) : ∃ a b d e, as = [a, b, d, e] ∧ nv a = v ∧ nv b = w ∧ nv d = x ∧ nv e = y := by
  cases as with
  | nil => cases h
  | cons a r =>
    simp only [List.map_cons, List.cons.injEq] at h
    obtain ⟨b, d, e, rfl, q⟩ := map_three h.2
    exact ⟨a, b, d, e, rfl, h.1, q⟩

noncomputable def bound (m : Fields) : Nat := (m.filter (fun p => p.2.isSome)).length

noncomputable def OIs (o : Obj) : AO → Prop
  | .list vs => ∃ its n, o = { cls := .type "list", data := .seq its n } ∧ its.toList.map nv = vs
  | .tup vs => ∃ its n, o = { cls := .type "tuple", data := .seq its n } ∧ its.toList.map nv = vs
  | .ns m => ∃ es ep, o.data = .dict es ep ∧ StrKeys es ∧ (m.map Prod.fst).Nodup ∧ ∀ p ∈ m, (nsFind es p.1).map nv = p.2
  | .obj m => ∃ es ep, o.data = .dict es ep ∧ StrKeys es ∧ (m.map Prod.fst).Nodup ∧ (∀ p ∈ m, (nsFind es p.1).map nv = p.2) ∧ es.size ≤ bound m
  | .inst C d => o = instObj C d
  | .bm f self => o = methodObj (.ref f) (.ref self)
  | .pred P => P o

noncomputable def Own (base : Heap) (cs : List Chunk) (h : Heap) : Prop :=
  (∀ b o, base.get? b = some o → h.get? b = some o) ∧ (cs.map Prod.fst).Nodup ∧
  ∀ p ∈ cs, base.objs.size ≤ p.1 ∧ ∃ o, h.get? p.1 = some o ∧ OIs o p.2

structure Cx where
  prog : Program
  w : World
  base : Heap
  os : OsState
  K : Frag
  p : Program
  loose : List Str
  mg : Str → Option Value
  mb : Str → Option Value
  inK : K.In base
  top : TopRead p loose mg mb base

noncomputable def St (c : Cx) (cs : List Chunk) (s : Shared) : Prop := 0 < s.toks ∧ s.gens = #[] ∧ s.os = c.os ∧ Own c.base cs s.heap

/- ## lists of pairs: a place turned, a place taken -/

noncomputable def Upd {α β : Type} (l : List (α × β)) (a : α) (b : β) (l' : List (α × β)) : Prop :=
  ∃ pre u post, l = pre ++ (a, u) :: post ∧ l' = pre ++ (a, b) :: post
theorem Upd.head {α β : Type} {a : α} {b u : β} {r : List (α × β)} : Upd ((a, u) :: r) a b ((a, b) :: r) := ⟨[], u, r, rfl, rfl⟩
theorem Upd.tail {α β : Type} {a : α} {b : β} {p : α × β} {r r' : List (α × β)} (h : Upd r a b r') : Upd (p :: r) a b (p :: r') := by
  obtain ⟨pre, u, post, rfl, rfl⟩ := h; exact ⟨p :: pre, u, post, rfl, rfl⟩
theorem Upd.keys {α β : Type} {a : α} {b : β} {l l' : List (α × β)} (h : Upd l a b l') : l'.map Prod.fst = l.map Prod.fst := by
  obtain ⟨pre, u, post, rfl, rfl⟩ := h; simp
theorem Upd.append {α β : Type} {a : α} {b : β} {l l' : List (α × β)} (h : Upd l a b l') (R : List (α × β)) : Upd (l ++ R) a b (l' ++ R) := by
  obtain ⟨pre, u, post, rfl, rfl⟩ := h; exact ⟨pre, u, post ++ R, by simp, by simp⟩
theorem Upd.mem {α β : Type} {a : α} {b : β} {l l' : List (α × β)} (h : Upd l a b l') {p : α × β} (hn : (l.map Prod.fst).Nodup) (hp : p ∈ l') : p = (a, b) ∨ (p.1 ≠ a ∧ p ∈ l) := by
  obtain ⟨pre, u, post, rfl, rfl⟩ := h
  simp only [List.map_append, List.map_cons, List.nodup_append, List.nodup_cons] at hn
  obtain ⟨h1, ⟨h2, h3⟩, h4⟩ := hn
  rcases List.mem_append.mp hp with hp | hp
  · exact .inr ⟨fun e => h4 p.1 (List.mem_map_of_mem hp) a (by simp) e, List.mem_append_left _ hp⟩
  · rcases List.mem_cons.mp hp with rfl | hp
    · exact .inl rfl
    · exact .inr ⟨fun e => h2 (e ▸ List.mem_map_of_mem hp), List.mem_append_right _ (List.mem_cons_of_mem _ hp)⟩

noncomputable def Pick (l : List Chunk) (x : Chunk) (l' : List Chunk) : Prop := ∃ pre post, l = pre ++ x :: post ∧ l' = pre ++ post
theorem Pick.head {x : Chunk} {r : List Chunk} : Pick (x :: r) x r := ⟨[], r, rfl, rfl⟩
theorem Pick.tail {x p : Chunk} {r r' : List Chunk} (h : Pick r x r') : Pick (p :: r) x (p :: r') := by
  obtain ⟨pre, post, rfl, rfl⟩ := h; exact ⟨p :: pre, post, rfl, rfl⟩
theorem Pick.perm {l l' : List Chunk} {x : Chunk} (h : Pick l x l') : l.Perm (x :: l') := by
  obtain ⟨pre, post, rfl, rfl⟩ := h; exact List.perm_middle

noncomputable def Take (l F R : List Chunk) : Prop := l.Perm (F ++ R)
theorem Take.nil {l : List Chunk} : Take l [] l := List.Perm.refl _
theorem Take.cons {l l' F R : List Chunk} {x : Chunk} (h : Pick l x l') (t : Take l' F R) : Take l (x :: F) R := h.perm.trans (List.Perm.cons x t)
theorem Take.all {l : List Chunk} : Take l l [] := by unfold Take; simp

/- ## the state's own laws -/

theorem Own.perm {base : Heap} {cs cs' : List Chunk} {h : Heap} (o : Own base cs h) (p : cs.Perm cs') : Own base cs' h :=
  ⟨o.1, (p.map Prod.fst).nodup_iff.mp o.2.1, fun x hx => o.2.2 x (p.mem_iff.mpr hx)⟩
theorem Own.ext {base : Heap} {cs : List Chunk} {h h' : Heap} (o : Own base cs h) (k : ∀ b x, h.get? b = some x → h'.get? b = some x) : Own base cs h' :=
  ⟨fun b x e => k b x (o.1 b x e), o.2.1, fun p hp => let ⟨a, x, e, r⟩ := o.2.2 p hp; ⟨a, x, k _ _ e, r⟩⟩
theorem Own.sub {base : Heap} {cs cs' : List Chunk} {h : Heap} (o : Own base cs h) (s : cs'.Sublist cs) : Own base cs' h :=
  ⟨o.1, (s.map Prod.fst).nodup o.2.1, fun p hp => o.2.2 p (s.subset hp)⟩

theorem Own.upd {base : Heap} {cs cs' : List Chunk} {h h' : Heap} {a : Addr} {ao : AO} {x : Obj} (o : Own base cs h) (U : Upd cs a ao cs')
    (k : ∀ b y, b ≠ a → h.get? b = some y → h'.get? b = some y) (e : h'.get? a = some x) (i : OIs x ao) : Own base cs' h' := by
  have ha : base.objs.size ≤ a := by
    obtain ⟨pre, u, post, rfl, rfl⟩ := U
    exact (o.2.2 (a, u) (by simp)).1
  refine ⟨fun b y q => k b y (fun z => ?_) (o.1 b y q), by rw [U.keys]; exact o.2.1, fun p hp => ?_⟩
  · subst z; exact absurd (Heap.lt_size q) (Nat.not_lt.mpr ha)
  · rcases U.mem o.2.1 hp with rfl | ⟨hne, hp⟩
    · exact ⟨ha, x, e, i⟩
    · obtain ⟨q1, y, q2, q3⟩ := o.2.2 p hp
      exact ⟨q1, y, k _ _ hne q2, q3⟩

theorem Own.new {base : Heap} {cs : List Chunk} {h h' : Heap} {a : Addr} {ao : AO} {x : Obj} (o : Own base cs h) (ha : h.get? a = none) (hb : base.objs.size ≤ a)
    (k : ∀ b y, h.get? b = some y → h'.get? b = some y) (e : h'.get? a = some x) (i : OIs x ao) : Own base ((a, ao) :: cs) h' := by
  refine ⟨fun b y q => k b y (o.1 b y q), ?_, fun p hp => ?_⟩
  · simp only [List.map_cons, List.nodup_cons]
    refine ⟨fun q => ?_, o.2.1⟩
    obtain ⟨p, hp, rfl⟩ := List.mem_map.mp q
    obtain ⟨-, y, e', -⟩ := o.2.2 p hp
    rw [ha] at e'; cases e'
  · rcases List.mem_cons.mp hp with rfl | hp
    · exact ⟨hb, x, e, i⟩
    · obtain ⟨q1, y, q2, q3⟩ := o.2.2 p hp
      exact ⟨q1, y, k _ _ q2, q3⟩

theorem heap_size_none (h : Heap) {a : Addr} (ha : h.objs.size ≤ a) : h.get? a = none := by
  cases q : h.get? a with
  | none => rfl
  | some o => exact absurd (Heap.lt_size q) (Nat.not_lt.mpr ha)
theorem Own.size {base : Heap} {cs : List Chunk} {h : Heap} (o : Own base cs h) (hne : cs ≠ []) : base.objs.size ≤ h.objs.size := by
  cases cs with
  | nil => exact absurd rfl hne
  | cons p r => obtain ⟨a, x, e, -⟩ := o.2.2 p (by simp); exact Nat.le_trans a (Nat.le_of_lt (Heap.lt_size e))
theorem Own.push {base : Heap} {cs : List Chunk} {h : Heap} {ao : AO} {x : Obj} (o : Own base cs h) (hs : base.objs.size ≤ h.objs.size) (hf : x.isFreed = false) (i : OIs x ao) :
    Own base ((h.objs.size, ao) :: cs) (h.push x) :=
  o.new (heap_size_none h (Nat.le_refl _)) hs (fun _ _ e => Heap.get?_push_of_some _ e) (Heap.get?_push_size _ hf) i

section
variable {c : Cx} {cs cs' : List Chunk} {s s' : Shared}
theorem St.own (x : St c cs s) : Own c.base cs s.heap := x.2.2.2
theorem St.perm (x : St c cs s) (p : cs.Perm cs') : St c cs' s := ⟨x.1, x.2.1, x.2.2.1, x.own.perm p⟩
theorem St.sub (x : St c cs s) (p : cs'.Sublist cs) : St c cs' s := ⟨x.1, x.2.1, x.2.2.1, x.own.sub p⟩
theorem St.toks (x : St c cs s) {n : Nat} (hn : 0 < n) : St c cs { s with toks := n } := ⟨hn, x.2.1, x.2.2.1, x.own⟩
theorem St.to {h' : Heap} {tk : Nat} (x : St c cs s) (ht : 0 < tk) (k : Own c.base cs' h') : St c cs' { s with heap := h', toks := tk } := ⟨ht, x.2.1, x.2.2.1, k⟩
theorem St.ext {h' : Heap} {tk : Nat} (x : St c cs s) (ht : 0 < tk) (k : ∀ b y, s.heap.get? b = some y → h'.get? b = some y) : St c cs { s with heap := h', toks := tk } :=
  x.to ht (x.own.ext k)
theorem St.at {a : Addr} {ao : AO} (x : St c cs s) (h : (a, ao) ∈ cs) : ∃ o, s.heap.get? a = some o ∧ OIs o ao := (x.own.2.2 _ h).2
theorem St.low {a : Addr} {ao : AO} (x : St c cs s) (h : (a, ao) ∈ cs) : c.base.objs.size ≤ a := (x.own.2.2 _ h).1
theorem St.keep (x : St c cs s) : ∀ b o, c.base.get? b = some o → s.heap.get? b = some o := x.own.1
theorem St.inK (x : St c cs s) : c.K.In s.heap := c.inK.keeps x.keep
theorem St.nolimit (x : St c cs s) : s.heap.NoLimit := c.top.nolimit.keeps x.keep
theorem St.pos (x : St c cs s) : 0 < s.toks := x.1
end

/- ## tokens never go back -/

theorem runs_toks {M : Model} {Γ : Ctx} {p : Pos} {t : Sem Fin} {fs : List Frame} {s s' : Shared} {e : End} (h : Runs M Γ p t fs s e s') : s.toks ≤ s'.toks := by
  induction h <;> first | exact Nat.le_refl _ | assumption | omega | ((try dsimp only [Shared.setGen] at *); omega)

theorem wp_toks {α : Type} {M : Model} {Γ : Ctx} {E : Value → Pos → Shared → Prop} (t : Sem α) : ∀ {Q : α → Pos → Shared → Prop} {p : Pos} {s : Shared}, Sem.wp M Γ t Q E p s →
    Sem.wp M Γ t (fun a p' s' => Q a p' s' ∧ s.toks ≤ s'.toks) E p s := by
  induction t with
  | pure a => intro Q p s h; exact ⟨h, Nat.le_refl _⟩
  | raise e => intro Q p s h; exact h
  | «unsupported» w => intro Q p s h; exact h
  | finish e => intro Q p s h; exact h
  | rule _ k ih => intro Q p s h; exact ih () h
  | «at» _ k ih => intro Q p s h; exact ih () h
  | load a _ k ih => intro Q p s h; obtain ⟨o, ho, h⟩ := h; exact ⟨o, ho, ih o h⟩
  | update a _ f k ih => intro Q p s h; exact ⟨h.1, ih () h.2⟩
  | loadIfAlive a k ih => intro Q p s h; exact ih _ h
  | point _ k ih => intro Q p s h; exact ih () h
  | register _ _ => intro Q p s h; exact h
  | alloc o k ih => intro Q p s h; exact ih _ h
  | fresh k ih => intro Q p s h; exact Sem.wp_mono M Γ _ (fun a p' s' x => ⟨x.1, Nat.le_trans (Nat.le_succ _) x.2⟩) (fun _ _ _ x => x) _ _ (ih _ (s := { s with toks := s.toks + 1 }) h)
  | ask k ih => intro Q p s h; exact ih _ h
  | choose _ _ k ih => intro Q p s h; exact ⟨h.1, ih _ h.2⟩
  | os _ _ k ih => intro Q p s h; exact ih _ h
  | call c hh g l k ih =>
    intro Q p s h
    obtain ⟨r, s₁, hr, h⟩ := h
    exact ⟨r, s₁, hr, Sem.wp_mono M Γ _ (fun a p' s' x => ⟨x.1, Nat.le_trans (runs_toks hr) x.2⟩) (fun _ _ _ x => x) _ _ (ih r h)⟩
  | handled _ k ih => intro Q p s h; exact ih _ h
  | genState g k ih => intro Q p s h; obtain ⟨o, ho, h⟩ := h; exact ⟨o, ho, ih _ h⟩
  | newGen c k ih => intro Q p s h; exact ih _ h
  | resume g r l k ih =>
    intro Q p s h
    obtain ⟨res, s₁, hr, h⟩ := h
    refine ⟨res, s₁, hr, Sem.wp_mono M Γ _ (fun a p' s' x => ⟨x.1, Nat.le_trans ?_ x.2⟩) (fun _ _ _ x => x) _ _ (ih res h)⟩
    unfold Wakes at hr
    split at hr
    · exact hr.elim
    · split at hr
      · obtain ⟨e₁, s₂, h1, h2, h3, rfl⟩ := hr; have := runs_toks h1; simpa only [Shared.setGen] using this
      · obtain ⟨-, rfl⟩ := hr; exact Nat.le_refl _
      · obtain ⟨-, rfl⟩ := hr; exact Nat.le_refl _
    · obtain ⟨e₁, s₂, h1, h2, h3, rfl⟩ := hr; have := runs_toks h1; simpa only [Shared.setGen] using this
    · obtain ⟨-, rfl⟩ := hr; exact Nat.le_refl _
    · obtain ⟨-, rfl⟩ := hr; exact Nat.le_refl _
  | yield _ _ _ _ => intro Q p s h; exact h
  | stack k ih => intro Q p s h; exact ih _ h
  | fork _ _ => intro Q p s h; exact h
  | thread k ih => intro Q p s h; exact ih _ h
  | await _ _ _ _ _ => intro Q p s h; exact h

theorem wpAny_toks {α : Type} {M : Model} {A : Around} {E : Value → Shared → Prop} {t : Sem α} {Q : α → Shared → Prop} {s : Shared} (h : wpAny M A t Q E s) :
    wpAny M A t (fun a s' => Q a s' ∧ s.toks ≤ s'.toks) E s := fun Γ p hΓ => wp_toks t (h Γ p hΓ)

/- ## the frame -/

structure Fi where
  A : Around
  env : Env
  L : Addr
noncomputable def EnvOk (e : Env) (L : Addr) : Prop := e.scope.kind = .function ∧ e.locals = L ∧ e.globals = mainGlobals ∧ e.builtins = builtinsNs

noncomputable def AOk (A : Around) (k : Nat) : Prop := A.handled = none ∧ A.depth + 10 * k ≤ 900 ∧ A.units + 40 * k ≤ 9000
theorem AOk.mono {A : Around} {k j : Nat} (h : AOk A k) (hj : j ≤ k) : AOk A j := ⟨h.1, by have := h.2.1; omega, by have := h.2.2; omega⟩

noncomputable def FOk (i : Fi) (k : Nat) (m : Fields) : Prop :=
  EnvOk i.env i.L ∧ (∀ p ∈ m, i.env.kindOf p.1 = some .local) ∧ AOk i.A k
noncomputable def GOk (i : Fi) (gl : List Str) : Prop := ∀ x ∈ gl, i.env.kindOf x = some .globalImplicit
noncomputable def SameKeys (m m' : Fields) : Prop := m'.map Prod.fst = m.map Prod.fst
theorem SameKeys.refl (m : Fields) : SameKeys m m := rfl
theorem SameKeys.trans {m₁ m₂ m₃ : Fields} (x : SameKeys m₁ m₂) (y : SameKeys m₂ m₃) : SameKeys m₁ m₃ := Eq.trans y x
theorem FOk.keys {i : Fi} {k : Nat} {m m' : Fields} (h : FOk i k m) (e : SameKeys m m') : FOk i k m' :=
  ⟨h.1, fun p hp => by
    have : p.1 ∈ m.map Prod.fst := e ▸ List.mem_map_of_mem hp
    obtain ⟨q, hq, e'⟩ := List.mem_map.mp this
    rw [← e']; exact h.2.1 q hq, h.2.2⟩

/-- the frame's locals as the library's Fr -/
theorem frame {c : Cx} {L : Addr} {m : Fields} {cs : List Chunk} {s : Shared} (x : St c ((L, .ns m) :: cs) s) :
    ∃ m', Fr c.base L s.heap m' ∧ (m.map Prod.fst).Nodup ∧ ∀ p ∈ m, (m' p.1).map nv = p.2 := by
  obtain ⟨o, ho, es, ep, hd, hk, hn, hm⟩ := x.at (List.mem_cons_self)
  exact ⟨fun y => nsFind es y, ⟨⟨o, es, ep, ho, hd, hk, fun _ => rfl⟩, x.keep, x.low List.mem_cons_self⟩, hn, hm⟩

/-- a namespace turned at one name -/
theorem ns_upd {h' : Heap} {L : Addr} {m m' : Fields} {f : Str → Option Value} {x : Str} {v : Value} (hn : (m.map Prod.fst).Nodup) (hm : ∀ p ∈ m, (f p.1).map nv = p.2)
    (N : h'.Ns L (fun y => if y = x then some v else f y)) (U : Upd m x (some (nv v)) m') : ∃ o, h'.get? L = some o ∧ OIs o (.ns m') := by
  obtain ⟨o, es, ep, ho, hd, hk, hf⟩ := N
  refine ⟨o, ho, es, ep, hd, hk, by rw [U.keys]; exact hn, fun p hp => ?_⟩
  rw [hf]
  rcases U.mem hn hp with rfl | ⟨hne, hp⟩
  · simp
  · show (if p.1 = x then some v else f p.1).map nv = p.2
    rw [if_neg hne]; exact hm p hp

end Mine
end
noncomputable section
open PySem PySem.W PySem.Calls PyProof.Rows
namespace Mine

/- ## judgements -/

abbrev NoE : Value → Shared → Prop := fun _ _ => False
section
variable (c : Cx) (i : Fi) (k : Nat) (m : Fields) (cs : List Chunk)
noncomputable def EV (e : Expr) (Q : Value → List Chunk → Prop) : Prop :=
  FOk i k m → ∀ R s, St c ((i.L, .ns m) :: (cs ++ R)) s →
    wpAny (model c.prog c.w) i.A (eval e i.env) (fun v s' => ∃ cs', St c ((i.L, .ns m) :: (cs' ++ R)) s' ∧ Q (nv v) cs') NoE s
noncomputable def TV (e : Expr) (Q : Bool → List Chunk → Prop) : Prop :=
  FOk i k m → ∀ R s, St c ((i.L, .ns m) :: (cs ++ R)) s →
    wpAny (model c.prog c.w) i.A (isTrue e i.env (eval e i.env)) (fun v s' => ∃ cs', St c ((i.L, .ns m) :: (cs' ++ R)) s' ∧ Q v cs') NoE s
noncomputable def EVs (es : List Expr) (Q : List Value → List Chunk → Prop) : Prop :=
  FOk i k m → ∀ R s pos, St c ((i.L, .ns m) :: (cs ++ R)) s →
    wpAny (model c.prog c.w) i.A (spliced (backTo pos (starEach es i.env))) (fun v s' => ∃ cs', St c ((i.L, .ns m) :: (cs' ++ R)) s' ∧ Q (v.map nv) cs') NoE s
noncomputable def nf : Flow → Flow
  | .ret v => .ret (nv v)
  | f => f
noncomputable def EX (st : Stmt) (Q : Flow → Fields → List Chunk → Prop) : Prop :=
  FOk i k m → ∀ R s, St c ((i.L, .ns m) :: (cs ++ R)) s →
    wpAny (model c.prog c.w) i.A (exec st i.env) (fun f s' => ∃ m' cs', SameKeys m m' ∧ St c ((i.L, .ns m') :: (cs' ++ R)) s' ∧ Q (nf f) m' cs') NoE s
noncomputable def EXS (st : List Stmt) (Q : Flow → Fields → List Chunk → Prop) : Prop :=
  FOk i k m → ∀ R s, St c ((i.L, .ns m) :: (cs ++ R)) s →
    wpAny (model c.prog c.w) i.A (execs st i.env) (fun f s' => ∃ m' cs', SameKeys m m' ∧ St c ((i.L, .ns m') :: (cs' ++ R)) s' ∧ Q (nf f) m' cs') NoE s
/-- an assignment to one target -/
noncomputable def AS (t : Expr) (v : Value) (Q : Fields → List Chunk → Prop) : Prop :=
  FOk i k m → ∀ R s v', nv v' = v → St c ((i.L, .ns m) :: (cs ++ R)) s →
    wpAny (model c.prog c.w) i.A (assign t i.env v') (fun _ s' => ∃ m' cs', SameKeys m m' ∧ St c ((i.L, .ns m') :: (cs' ++ R)) s' ∧ Q m' cs') NoE s
noncomputable def PE (e : Expr) (v : Value) : Prop := EV c i k m cs e (fun v' cs' => v' = v ∧ cs' = cs)
noncomputable def PT (e : Expr) (b : Bool) : Prop := TV c i k m cs e (fun b' cs' => b' = b ∧ cs' = cs)
end
section
variable {α β : Type} (c : Cx) (A : Around) (k : Nat) (cs : List Chunk)
noncomputable def Op1 (t : Value → Sem α) (a : Value) (n : α → β) (Q : β → List Chunk → Prop) : Prop :=
  AOk A k → ∀ R s a', nv a' = a → St c (cs ++ R) s → wpAny (model c.prog c.w) A (t a') (fun v s' => ∃ cs', St c (cs' ++ R) s' ∧ Q (n v) cs') NoE s
noncomputable def Op2 (t : Value → Value → Sem α) (a b : Value) (n : α → β) (Q : β → List Chunk → Prop) : Prop :=
  AOk A k → ∀ R s a' b', nv a' = a → nv b' = b → St c (cs ++ R) s → wpAny (model c.prog c.w) A (t a' b') (fun v s' => ∃ cs', St c (cs' ++ R) s' ∧ Q (n v) cs') NoE s
noncomputable def Op3 (t : Value → Value → Value → Sem α) (a b d : Value) (n : α → β) (Q : β → List Chunk → Prop) : Prop :=
  AOk A k → ∀ R s a' b' d', nv a' = a → nv b' = b → nv d' = d → St c (cs ++ R) s → wpAny (model c.prog c.w) A (t a' b' d') (fun v s' => ∃ cs', St c (cs' ++ R) s' ∧ Q (n v) cs') NoE s
noncomputable def CallV (f : Value) (args : List Value) (Q : Value → List Chunk → Prop) : Prop :=
  AOk A k → ∀ R s args', args'.map nv = args → St c (cs ++ R) s → wpAny (model c.prog c.w) A (call f args') (fun v s' => ∃ cs', St c (cs' ++ R) s' ∧ Q (nv v) cs') NoE s
noncomputable def GetM (o : Value) (name : Str) (Q : Value → List Value → List Chunk → Prop) : Prop :=
  AOk A k → ∀ R s o' pl, nv o' = o → St c (cs ++ R) s → wpAny (model c.prog c.w) A (getMethod o' name pl) (fun fx s' => ∃ cs', St c (cs' ++ R) s' ∧ Q fx.1 (fx.2.map nv) cs') NoE s
end
abbrev Is {β : Type} (cs : List Chunk) (r : β) : β → List Chunk → Prop := fun v cs' => v = r ∧ cs' = cs

theorem noE {α : Type} {M : Model} {A : Around} {t : Sem α} {Q Q' : α → Shared → Prop} {s : Shared} (h : wpAny M A t Q NoE s) (k : ∀ a s', Q a s' → Q' a s') : wpAny M A t Q' NoE s :=
  wpAny_mono h k fun _ _ x => x
theorem noE' {α : Type} {M : Model} {A : Around} {t : Sem α} {Q Q' : α → Shared → Prop} {E : Value → Shared → Prop} {s : Shared} (h : wpAny M A t Q NoE s) (k : ∀ a s', Q a s' → Q' a s') : wpAny M A t Q' E s :=
  wpAny_mono h k fun _ _ x => x.elim

theorem mid {p : Chunk} {cs R : List Chunk} : (p :: (cs ++ R)).Perm (cs ++ p :: R) := List.perm_middle.symm
theorem dim {p : Chunk} {cs R : List Chunk} : (cs ++ p :: R).Perm (p :: (cs ++ R)) := List.perm_middle

section
variable {c : Cx} {i : Fi} {k : Nat} {m : Fields} {cs : List Chunk}

theorem EV.mono {e : Expr} {Q Q' : Value → List Chunk → Prop} (h : EV c i k m cs e Q) (q : ∀ v cs', Q v cs' → Q' v cs') : EV c i k m cs e Q' :=
  fun hF R s hs => noE (h hF R s hs) fun _ _ ⟨cs', a, b⟩ => ⟨cs', a, q _ _ b⟩
theorem TV.mono {e : Expr} {Q Q' : Bool → List Chunk → Prop} (h : TV c i k m cs e Q) (q : ∀ v cs', Q v cs' → Q' v cs') : TV c i k m cs e Q' :=
  fun hF R s hs => noE (h hF R s hs) fun _ _ ⟨cs', a, b⟩ => ⟨cs', a, q _ _ b⟩
theorem EX.mono {e : Stmt} {Q Q' : Flow → Fields → List Chunk → Prop} (h : EX c i k m cs e Q) (q : ∀ f m' cs', Q f m' cs' → Q' f m' cs') : EX c i k m cs e Q' :=
  fun hF R s hs => noE (h hF R s hs) fun _ _ ⟨m', cs', z, a, b⟩ => ⟨m', cs', z, a, q _ _ _ b⟩
theorem EVs.mono {e : List Expr} {Q Q' : List Value → List Chunk → Prop} (h : EVs c i k m cs e Q) (q : ∀ v cs', Q v cs' → Q' v cs') : EVs c i k m cs e Q' :=
  fun hF R s pos hs => noE (h hF R s pos hs) fun _ _ ⟨cs', a, b⟩ => ⟨cs', a, q _ _ b⟩
theorem PE.ev {e : Expr} {v : Value} {Q : Value → List Chunk → Prop} (h : PE c i k m cs e v) (q : Q v cs) : EV c i k m cs e Q :=
  EV.mono h fun _ _ ⟨a, b⟩ => by subst a b; exact q
theorem PT.tv {e : Expr} {v : Bool} {Q : Bool → List Chunk → Prop} (h : PT c i k m cs e v) (q : Q v cs) : TV c i k m cs e Q :=
  TV.mono h fun _ _ ⟨a, b⟩ => by subst a b; exact q

/- the chunks may be put in another order -/
theorem EXS.perm {cs₁ : List Chunk} {e : List Stmt} {Q : Flow → Fields → List Chunk → Prop} (p : cs.Perm cs₁) (h : EXS c i k m cs₁ e Q) : EXS c i k m cs e Q :=
  fun hF R s hs => h hF R s (hs.perm ((p.append_right R).cons _))

/- ## leaves -/
theorem PE_int {n : Int} {u : Nat} {pos : Pos} : PE c i k m cs (.Constant (.int n) u pos) (.int n 0) :=
  fun _ _ s hs => wpAny_Constant_int ⟨cs, hs.toks (Nat.succ_pos _), rfl, rfl⟩
theorem PE_str {x : Str} {u : Nat} {pos : Pos} {l : List Nat} (hx : x = ⟨l.toArray⟩) : PE c i k m cs (.Constant (.str x) u pos) (.str ⟨l.toArray⟩ 0) :=
  fun _ _ s hs => Calls.Constant_str ⟨cs, hs.toks (Nat.succ_pos _), by rw [hx]; rfl, rfl⟩
theorem PE_none {u : Nat} {pos : Pos} : PE c i k m cs (.Constant .none u pos) .none := fun _ _ _ hs => wpAny_pure ⟨cs, hs, rfl, rfl⟩
theorem PE_bool {b : Bool} {u : Nat} {pos : Pos} : PE c i k m cs (.Constant (.bool b) u pos) (.bool b) := fun _ _ _ hs => wpAny_pure ⟨cs, hs, rfl, rfl⟩

theorem PE_loc {x : Str} {v : Value} {pos : Pos} (h : (x, some v) ∈ m) (hd : (x == ("__debug__" : Str)) = false := by decide) : PE c i k m cs (.Name x pos) v := by
  intro hF R s hs
  obtain ⟨m', F, hn, hm⟩ := frame hs
  have e := hm _ h
  cases q : m' x with
  | none => simp only [q] at e; cases e
  | some v' =>
    simp only [q, Option.map_some, Option.some.injEq] at e
    exact wpAny_Name (wpAny_loadName_local hF.1.1 (hF.2.1 _ h) (by rw [hF.1.2.1]; exact F.ns) q ⟨cs, hs, e, rfl⟩) hd
theorem PE_glob {x : Str} {v : Value} {pos : Pos} {gl : List Str} (hg : GOk i gl) (hx : x ∈ gl) (e : nsIn c.K mainGlobals x = some (some v)) (hd : (x == ("__debug__" : Str)) = false := by decide) :
    PE c i k m cs (.Name x pos) (nv v) := by
  intro hF R s hs
  obtain ⟨m', F, hn, hm⟩ := frame hs
  exact Calls.Name_function_global hF.1.1 (hg x hx) (Calls.loadGlobal_global (env := i.env) (by rw [hF.1.2.2.1]; exact c.top.g.keeps F.keep) (mg_of c.inK c.top.g e) ⟨cs, hs, rfl, rfl⟩) hd
theorem PE_bi {x : Str} {v : Value} {pos : Pos} {gl : List Str} (hg : GOk i gl) (hx : x ∈ gl) (e : nsIn c.K mainGlobals x = some none) (hv : bootBuiltins x = some v) (hn : x ≠ "__name__") (hd : (x == ("__debug__" : Str)) = false := by decide) :
    PE c i k m cs (.Name x pos) (nv v) := by
  intro hF R s hs
  obtain ⟨m', F, _, hm⟩ := frame hs
  exact Calls.Name_function_global hF.1.1 (hg x hx) (Calls.loadGlobal_builtin (env := i.env) (by rw [hF.1.2.2.1]; exact c.top.g.keeps F.keep) (mg_none_of c.inK c.top.g e) (by rw [hF.1.2.2.2]; exact c.top.b.keeps F.keep) ((c.top.builtins x hn).trans hv) ⟨cs, hs, rfl, rfl⟩) hd

/- ## composition of expressions -/
theorem EV_bin {l r : Expr} {op : Operator} {pos : Pos} {Q : Value → List Chunk → Prop}
    (h : EV c i k m cs l (fun a cs1 => EV c i k m cs1 r (fun b cs2 => Op2 c i.A k cs2 (binaryOp op) a b nv Q))) : EV c i k m cs (.BinOp l op r pos) Q := by
  intro hF R s hs
  refine wpAny_BinOp (noE (h hF R s hs) ?_)
  rintro a s1 ⟨cs1, h1, q1⟩
  refine noE (q1 hF R s1 h1) ?_
  rintro b s2 ⟨cs2, h2, q2⟩
  refine noE (q2 hF.2.2 _ s2 a b rfl rfl (h2.perm mid)) ?_
  rintro v s3 ⟨cs3, h3, q3⟩
  exact ⟨cs3, h3.perm dim, q3⟩
theorem EV_cmp {l r : Expr} {op : CmpOp} {pos : Pos} {Q : Value → List Chunk → Prop}
    (h : EV c i k m cs l (fun a cs1 => EV c i k m cs1 r (fun b cs2 => Op2 c i.A k cs2 (compareOp op) a b nv Q)))
    (hm : behindInMarks op r = false := by with_unfolding_all rfl) : EV c i k m cs (.Compare l [op] [r] pos) Q := by
  intro hF R s hs
  refine wpAny_Compare1 (noE (h hF R s hs) ?_) hm
  rintro a s1 ⟨cs1, h1, q1⟩
  refine noE (q1 hF R s1 h1) ?_
  rintro b s2 ⟨cs2, h2, q2⟩
  refine noE (q2 hF.2.2 _ s2 a b rfl rfl (h2.perm mid)) ?_
  rintro v s3 ⟨cs3, h3, q3⟩
  exact ⟨cs3, h3.perm dim, q3⟩
theorem TV_cmp {l r : Expr} {op : CmpOp} {pos : Pos} {Q : Bool → List Chunk → Prop}
    (h : EV c i k m cs l (fun a cs1 => EV c i k m cs1 r (fun b cs2 => Op2 c i.A k cs2 (compareOp op) a b nv (fun v cs3 => Op1 c i.A k cs3 truthy v id Q))))
    (hm : behindInMarks op r = false := by with_unfolding_all rfl) : TV c i k m cs (.Compare l [op] [r] pos) Q := by
  intro hF R s hs
  refine wpAny_isTrue_Compare1 (noE (h hF R s hs) ?_) hm
  rintro a s1 ⟨cs1, h1, q1⟩
  refine noE (q1 hF R s1 h1) ?_
  rintro b s2 ⟨cs2, h2, q2⟩
  refine noE (q2 hF.2.2 _ s2 a b rfl rfl (h2.perm mid)) ?_
  rintro v s3 ⟨cs3, h3, q3⟩
  refine noE (q3 hF.2.2 _ s3 v rfl h3) ?_
  rintro v s4 ⟨cs4, h4, q4⟩
  exact ⟨cs4, h4.perm dim, q4⟩
theorem EV_ifexp {test body orelse : Expr} {pos : Pos} {Q : Value → List Chunk → Prop}
    (h : TV c i k m cs test (fun b cs1 => (b = true → EV c i k m cs1 body Q) ∧ (b = false → EV c i k m cs1 orelse Q))) : EV c i k m cs (.IfExp test body orelse pos) Q := by
  intro hF R s hs
  refine IfExp_ (noE (h hF R s hs) ?_)
  rintro b s1 ⟨cs1, h1, q1⟩
  cases b with
  | true => exact q1.1 rfl hF R s1 h1
  | false => exact q1.2 rfl hF R s1 h1
theorem TV_not {e : Expr} {pos : Pos} {Q : Bool → List Chunk → Prop} (h : TV c i k m cs e (fun b => Q (!b))) : TV c i k m cs (.UnaryOp .Not e pos) Q :=
  fun hF R s hs => isTrue_not (h hF R s hs)
theorem TV_plain {e : Expr} {Q : Bool → List Chunk → Prop} (h : EV c i k m cs e (fun v cs1 => Op1 c i.A k cs1 truthy v id Q))
    (he : ∀ env whole, isTrue e env whole = (do let v ← whole; standAt e.pos; holding [v] (truthy v)) := by intro _ _; rfl) : TV c i k m cs e Q := by
  intro hF R s hs
  refine isTrue_plain (noE (h hF R s hs) ?_) (he _ _)
  rintro v s1 ⟨cs1, h1, q1⟩
  refine noE (q1 hF.2.2 _ s1 v rfl (h1.perm mid)) ?_
  rintro v s4 ⟨cs4, h4, q4⟩
  exact ⟨cs4, h4.perm dim, q4⟩
theorem TV_or {x : Expr} {rest : List Expr} {pos : Pos} {Q : Bool → List Chunk → Prop} (h : TV c i k m cs x (fun b cs1 => (b = true → Q true cs1) ∧ (b = false → TV c i k m cs1 (.BoolOp .Or rest pos) Q))) :
    TV c i k m cs (.BoolOp .Or (x :: rest) pos) Q := by
  intro hF R s hs
  refine isTrue_or (noE (h hF R s hs) ?_)
  rintro b s1 ⟨cs1, h1, q1⟩
  cases b with
  | true => exact ⟨cs1, h1, q1.1 rfl⟩
  | false => exact q1.2 rfl hF R s1 h1
theorem TV_or_nil {pos : Pos} {Q : Bool → List Chunk → Prop} (h : Q false cs) : TV c i k m cs (.BoolOp .Or [] pos) Q := fun _ _ _ hs => isTrue_or_nil ⟨cs, hs, h⟩
theorem TV_and {x : Expr} {rest : List Expr} {pos : Pos} {Q : Bool → List Chunk → Prop} (h : TV c i k m cs x (fun b cs1 => (b = true → TV c i k m cs1 (.BoolOp .And rest pos) Q) ∧ (b = false → Q false cs1))) :
    TV c i k m cs (.BoolOp .And (x :: rest) pos) Q := by
  intro hF R s hs
  refine isTrue_and (noE (h hF R s hs) ?_)
  rintro b s1 ⟨cs1, h1, q1⟩
  cases b with
  | true => exact q1.1 rfl hF R s1 h1
  | false => exact ⟨cs1, h1, q1.2 rfl⟩
theorem TV_and_nil {pos : Pos} {Q : Bool → List Chunk → Prop} (h : Q true cs) : TV c i k m cs (.BoolOp .And [] pos) Q := fun _ _ _ hs => isTrue_and_nil ⟨cs, hs, h⟩
theorem EV_boolop_one {op : BoolOp} {e : Expr} {pos : Pos} {Q : Value → List Chunk → Prop} (h : EV c i k m cs e Q) : EV c i k m cs (.BoolOp op [e] pos) Q := fun hF R s hs => BoolOp_one (h hF R s hs)
theorem EV_or {x y : Expr} {rest : List Expr} {pos : Pos} {Q : Value → List Chunk → Prop}
    (h : EV c i k m cs x (fun v cs1 => Op1 c i.A k cs1 truthy v id (fun b cs2 => (b = true → Q v cs2) ∧ (b = false → EV c i k m cs2 (.BoolOp .Or (y :: rest) pos) Q)))) :
    EV c i k m cs (.BoolOp .Or (x :: y :: rest) pos) Q := by
  intro hF R s hs
  refine BoolOp_or (noE (h hF R s hs) ?_)
  rintro v s1 ⟨cs1, h1, q1⟩
  refine noE (q1 hF.2.2 _ s1 v rfl (h1.perm mid)) ?_
  rintro b s2 ⟨cs2, h2, q2⟩
  cases b with
  | true => exact ⟨cs2, h2.perm dim, q2.1 rfl⟩
  | false => exact q2.2 rfl hF R s2 (h2.perm dim)
theorem EV_and {x y : Expr} {rest : List Expr} {pos : Pos} {Q : Value → List Chunk → Prop}
    (h : EV c i k m cs x (fun v cs1 => Op1 c i.A k cs1 truthy v id (fun b cs2 => (b = true → EV c i k m cs2 (.BoolOp .And (y :: rest) pos) Q) ∧ (b = false → Q v cs2)))) :
    EV c i k m cs (.BoolOp .And (x :: y :: rest) pos) Q := by
  intro hF R s hs
  refine BoolOp_and (noE (h hF R s hs) ?_)
  rintro v s1 ⟨cs1, h1, q1⟩
  refine noE (q1 hF.2.2 _ s1 v rfl (h1.perm mid)) ?_
  rintro b s2 ⟨cs2, h2, q2⟩
  cases b with
  | true => exact q2.1 rfl hF R s2 (h2.perm dim)
  | false => exact ⟨cs2, h2.perm dim, q2.2 rfl⟩

theorem EVs_nil {Q : List Value → List Chunk → Prop} (h : Q [] cs) : EVs c i k m cs [] Q := fun _ _ _ _ hs => spliced_nil ⟨cs, hs, h⟩
theorem EVs_cons {e : Expr} {rest : List Expr} {Q : List Value → List Chunk → Prop} (h : EV c i k m cs e (fun v cs1 => EVs c i k m cs1 rest (fun vs => Q (v :: vs))))
    (he : ∀ env, starEach (e :: rest) env = (false, eval e env) :: starEach rest env := by intro _; rfl) : EVs c i k m cs (e :: rest) Q := by
  intro hF R s pos hs
  rw [he]
  refine spliced_cons (x := eval e i.env) (noE (h hF R s hs) ?_)
  rintro v s1 ⟨cs1, h1, q1⟩
  refine noE (q1 hF R s1 pos h1) ?_
  rintro vs s2 ⟨cs2, h2, q2⟩
  exact ⟨cs2, h2, q2⟩

theorem EV_attr {e : Expr} {attr : Str} {pos : Pos} {Q : Value → List Chunk → Prop} (h : EV c i k m cs e (fun o cs1 => Op1 c i.A k cs1 (fun v => getAttr v attr true) o nv Q))
    (he : ∀ env, eval (.Attribute e attr pos) env = (do
          let o ← eval e env
          standAt pos.atName
          let r ← holding [o] (getAttr o attr true)
          letTemporaryGo e o r
          pure r) := by intro _; rfl) : EV c i k m cs (.Attribute e attr pos) Q := by
  intro hF R s hs
  refine Attribute_any_ (noE (h hF R s hs) ?_) (he _)
  rintro v s1 ⟨cs1, h1, q1⟩
  refine noE (q1 hF.2.2 _ s1 v rfl (h1.perm mid)) ?_
  rintro b s2 ⟨cs2, h2, q2⟩
  exact ⟨cs2, h2.perm dim, q2⟩
theorem EV_sub {e sl : Expr} {pos : Pos} {Q : Value → List Chunk → Prop} (h : EV c i k m cs e (fun o cs1 => EV c i k m cs1 sl (fun j cs2 => Op2 c i.A k cs2 (subscriptTail e sl) o j nv Q))) : EV c i k m cs (.Subscript e sl pos) Q := by
  intro hF R s hs
  refine Subscript_ (noE (h hF R s hs) ?_)
  rintro a s1 ⟨cs1, h1, q1⟩
  refine noE (q1 hF R s1 h1) ?_
  rintro b s2 ⟨cs2, h2, q2⟩
  refine noE (q2 hF.2.2 _ s2 a b rfl rfl (h2.perm mid)) ?_
  rintro v s3 ⟨cs3, h3, q3⟩
  exact ⟨cs3, h3.perm dim, q3⟩

/- ## calls -/
theorem EV_callK {func e : Expr} {rest : List Expr} {pos : Pos} {f : Addr} {Q : Value → List Chunk → Prop} (hf : PE c i k m cs func (.ref f)) (hk : keepIn c.K (.ref f) = true)
    (h : EVs c i k m cs (e :: rest) (fun vs cs1 => CallV c i.A k cs1 (.ref f) vs Q))
    (hc : ∀ env, eval (.Call func (e :: rest) [] pos) env = (do let f ← eval func env; callWith pos f [] (backTo pos (starEach (e :: rest) env)) (backToKw pos (keywordEach [] env))) := by intro _; rfl)
    (he : ∀ env, starEach (e :: rest) env = (false, eval e env) :: starEach rest env := by intro _; rfl)
    (hp : ∀ pos env, (backTo pos (starEach rest env)).any (·.1) = false := by intro _ _; rfl) : EV c i k m cs (.Call func (e :: rest) [] pos) Q := by
  intro hF R s hs
  refine Call_ (noE (hf hF R s hs) ?_) (hc _)
  rintro v s1 ⟨cs1, h1, q1, rfl⟩
  rw [nv_ref q1]
  refine callWith_K h1.inK hk (noE (h hF R s1 pos h1) ?_) (he _) (hp _ _)
  rintro vs s2 ⟨cs2, h2, q2⟩
  refine ⟨h2.inK, noE (q2 hF.2.2 _ s2 vs rfl (h2.perm mid)) ?_⟩
  rintro v s3 ⟨cs3, h3, q3⟩
  exact ⟨cs3, h3.perm dim, q3⟩
theorem EV_callK0 {func : Expr} {pos : Pos} {f : Addr} {Q : Value → List Chunk → Prop} (hf : PE c i k m cs func (.ref f)) (hk : keepIn c.K (.ref f) = true)
    (h : CallV c i.A k cs (.ref f) [] Q)
    (hc : ∀ env, eval (.Call func [] [] pos) env = (do let f ← eval func env; callWith pos f [] (backTo pos (starEach [] env)) (backToKw pos (keywordEach [] env))) := by intro _; rfl) : EV c i k m cs (.Call func [] [] pos) Q := by
  intro hF R s hs
  refine Call_ (noE (hf hF R s hs) ?_) (hc _)
  rintro v s1 ⟨cs1, h1, q1, rfl⟩
  rw [nv_ref q1]
  refine callWith_K0 h1.inK hk ?_
  refine noE (h hF.2.2 _ s1 [] rfl (h1.perm mid)) ?_
  rintro v s3 ⟨cs3, h3, q3⟩
  exact ⟨cs3, h3.perm dim, q3⟩
theorem EV_callB {func e : Expr} {rest : List Expr} {pos : Pos} {f : String} {Q : Value → List Chunk → Prop} (hf : PE c i k m cs func (.builtin f))
    (h : EVs c i k m cs (e :: rest) (fun vs cs1 => CallV c i.A k cs1 (.builtin f) vs Q))
    (hc : ∀ env, eval (.Call func (e :: rest) [] pos) env = (do let f ← eval func env; callWith pos f [] (backTo pos (starEach (e :: rest) env)) (backToKw pos (keywordEach [] env))) := by intro _; rfl)
    (he : ∀ env, starEach (e :: rest) env = (false, eval e env) :: starEach rest env := by intro _; rfl)
    (hp : ∀ pos env, (backTo pos (starEach rest env)).any (·.1) = false := by intro _ _; rfl) : EV c i k m cs (.Call func (e :: rest) [] pos) Q := by
  intro hF R s hs
  refine Call_ (noE (hf hF R s hs) ?_) (hc _)
  rintro v s1 ⟨cs1, h1, q1, rfl⟩
  rw [nv_builtin q1]
  have hh := h hF R s1 pos h1
  rw [he] at hh ⊢
  refine Calls.callWith_builtin (by show (false || (backTo pos (starEach rest i.env)).any (·.1)) = false; rw [hp]; rfl) (Calls.evalArgs_plain (noE hh ?_))
  rintro vs s2 ⟨cs2, h2, q2⟩
  refine noE (q2 hF.2.2 _ s2 vs rfl (h2.perm mid)) ?_
  rintro v s3 ⟨cs3, h3, q3⟩
  exact ⟨cs3, h3.perm dim, q3⟩
theorem EV_callT {func e : Expr} {rest : List Expr} {pos : Pos} {f : String} {Q : Value → List Chunk → Prop} (hf : PE c i k m cs func (.type f))
    (h : EVs c i k m cs (e :: rest) (fun vs cs1 => CallV c i.A k cs1 (.type f) vs Q))
    (hc : ∀ env, eval (.Call func (e :: rest) [] pos) env = (do let f ← eval func env; callWith pos f [] (backTo pos (starEach (e :: rest) env)) (backToKw pos (keywordEach [] env))) := by intro _; rfl)
    (he : ∀ env, starEach (e :: rest) env = (false, eval e env) :: starEach rest env := by intro _; rfl)
    (hp : ∀ pos env, (backTo pos (starEach rest env)).any (·.1) = false := by intro _ _; rfl) : EV c i k m cs (.Call func (e :: rest) [] pos) Q := by
  intro hF R s hs
  refine Call_ (noE (hf hF R s hs) ?_) (hc _)
  rintro v s1 ⟨cs1, h1, q1, rfl⟩
  rw [nv_type q1]
  have hh := h hF R s1 pos h1
  rw [he] at hh ⊢
  refine PySem.callWith_type (by show (false || (backTo pos (starEach rest i.env)).any (·.1)) = false; rw [hp]; rfl) (Calls.evalArgs_plain (noE hh ?_))
  rintro vs s2 ⟨cs2, h2, q2⟩
  refine noE (q2 hF.2.2 _ s2 vs rfl (h2.perm mid)) ?_
  rintro v s3 ⟨cs3, h3, q3⟩
  exact ⟨cs3, h3.perm dim, q3⟩

/-- how a method's form of a call opens -/
noncomputable def MCall (o : Expr) (name : Str) (args : List Expr) (apos pos : Pos) : Prop :=
  ∀ env, ∃ pl, eval (.Call (.Attribute o name apos) args [] pos) env = (do
      let ov ← eval o env
      standAt apos.atName
      let (f, first) ← holding [ov] (getMethod ov name pl)
      callWith pos f first (backTo pos (starEach args env)) (backToKw pos (keywordEach [] env)))
/-- the callee of a method call, and its arguments -/
theorem EV_meth {o e : Expr} {rest : List Expr} {name : Str} {apos pos : Pos} {Q : Value → List Chunk → Prop}
    (h : EV c i k m cs o (fun ov cs1 => GetM c i.A k cs1 ov name (fun f first cs2 => ((∃ b, f = .builtin b) ∨ (∃ a, f = .ref a ∧ keepIn c.K f = true)) ∧
      EVs c i k m cs2 (e :: rest) (fun vs cs3 => CallV c i.A k cs3 f (first ++ vs) Q))))
    (hc : MCall o name (e :: rest) apos pos := by intro _; exact ⟨_, rfl⟩)
    (he : ∀ env, starEach (e :: rest) env = (false, eval e env) :: starEach rest env := by intro _; rfl)
    (hp : ∀ pos env, (backTo pos (starEach rest env)).any (·.1) = false := by intro _ _; rfl) : EV c i k m cs (.Call (.Attribute o name apos) (e :: rest) [] pos) Q := by
  intro hF R s hs
  obtain ⟨pl, hc⟩ := hc i.env
  refine methodCall_KW (pl := pl) (noE (h hF R s hs) ?_) hc
  rintro ov s1 ⟨cs1, h1, q1⟩
  refine noE (q1 hF.2.2 _ s1 ov pl rfl (h1.perm mid)) ?_
  rintro ⟨f, first⟩ s2 ⟨cs2, h2, hf, q2⟩
  dsimp only at hf q2 ⊢
  have h2 := h2.perm dim
  have hh := q2 hF R s2 pos h2
  have tail : ∀ vs s', (∃ cs', St c ((i.L, .ns m) :: (cs' ++ R)) s' ∧ CallV c i.A k cs' f (first.map nv ++ vs.map nv) Q) →
      wpAny (model c.prog c.w) i.A (call f (first ++ vs)) (fun v s' => ∃ cs', St c ((i.L, .ns m) :: (cs' ++ R)) s' ∧ Q (nv v) cs') NoE s' := by
    rintro vs s3 ⟨cs3, h3, q3⟩
    refine noE (q3 hF.2.2 _ s3 (first ++ vs) (by rw [List.map_append]) (h3.perm mid)) ?_
    rintro v s4 ⟨cs4, h4, q4⟩
    exact ⟨cs4, h4.perm dim, q4⟩
  rcases hf with ⟨b, rfl⟩ | ⟨a, rfl, hk⟩
  · rw [he] at hh ⊢
    refine Calls.callWith_builtin (by show (false || (backTo pos (starEach rest i.env)).any (·.1)) = false; rw [hp]; rfl) (Calls.evalArgs_plain (noE hh ?_))
    exact tail
  · refine callWith_K h2.inK hk (noE hh ?_) (he _) (hp _ _)
    intro vs s3 h3
    obtain ⟨cs3, h3', q3⟩ := h3
    exact ⟨h3'.inK, tail vs s3 ⟨cs3, h3', q3⟩⟩
theorem EV_meth0 {o : Expr} {name : Str} {apos pos : Pos} {Q : Value → List Chunk → Prop}
    (h : EV c i k m cs o (fun ov cs1 => GetM c i.A k cs1 ov name (fun f first cs2 => ((∃ b, f = .builtin b) ∨ (∃ a, f = .ref a ∧ keepIn c.K f = true)) ∧ CallV c i.A k cs2 f first Q)))
    (hc : MCall o name [] apos pos := by intro _; exact ⟨_, rfl⟩) : EV c i k m cs (.Call (.Attribute o name apos) [] [] pos) Q := by
  intro hF R s hs
  obtain ⟨pl, hc⟩ := hc i.env
  refine methodCall_KW (pl := pl) (noE (h hF R s hs) ?_) hc
  rintro ov s1 ⟨cs1, h1, q1⟩
  refine noE (q1 hF.2.2 _ s1 ov pl rfl (h1.perm mid)) ?_
  rintro ⟨f, first⟩ s2 ⟨cs2, h2, hf, q2⟩
  dsimp only at hf q2 ⊢
  have tail : wpAny (model c.prog c.w) i.A (call f (first ++ [])) (fun v s' => ∃ cs', St c ((i.L, .ns m) :: (cs' ++ R)) s' ∧ Q (nv v) cs') NoE s2 := by
    refine noE (q2 hF.2.2 _ s2 (first ++ []) (by simp) h2) ?_
    rintro v s4 ⟨cs4, h4, q4⟩
    exact ⟨cs4, h4.perm dim, q4⟩
  rcases hf with ⟨b, rfl⟩ | ⟨a, rfl, hk⟩
  · exact Calls.callWith_builtin rfl (evalArgs_nil3 tail)
  · exact callWith_K0 (h2.perm dim).inK hk tail
end

section
variable {α β : Type} {c : Cx} {A : Around} {k : Nat} {cs : List Chunk}
theorem CallV.mono {f : Value} {args : List Value} {Q Q' : Value → List Chunk → Prop} (h : CallV c A k cs f args Q) (q : ∀ v cs', Q v cs' → Q' v cs') : CallV c A k cs f args Q' :=
  fun hA R s a ha hs => noE (h hA R s a ha hs) fun _ _ ⟨cs', a, b⟩ => ⟨cs', a, q _ _ b⟩
theorem Op1.mono {t : Value → Sem α} {a : Value} {n : α → β} {Q Q' : β → List Chunk → Prop} (h : Op1 c A k cs t a n Q) (q : ∀ v cs', Q v cs' → Q' v cs') : Op1 c A k cs t a n Q' :=
  fun hA R s a ha hs => noE (h hA R s a ha hs) fun _ _ ⟨cs', a, b⟩ => ⟨cs', a, q _ _ b⟩
theorem Op2.mono {t : Value → Value → Sem α} {a b : Value} {n : α → β} {Q Q' : β → List Chunk → Prop} (h : Op2 c A k cs t a b n Q) (q : ∀ v cs', Q v cs' → Q' v cs') : Op2 c A k cs t a b n Q' :=
  fun hA R s a b ha hb hs => noE (h hA R s a b ha hb hs) fun _ _ ⟨cs', a, b⟩ => ⟨cs', a, q _ _ b⟩
theorem Op1.is {t : Value → Sem α} {a : Value} {n : α → β} {r : β} {Q : β → List Chunk → Prop} (h : Op1 c A k cs t a n (Is cs r)) (q : Q r cs) : Op1 c A k cs t a n Q :=
  h.mono fun _ _ ⟨x, y⟩ => by subst x y; exact q
theorem Op2.is {t : Value → Value → Sem α} {a b : Value} {n : α → β} {r : β} {Q : β → List Chunk → Prop} (h : Op2 c A k cs t a b n (Is cs r)) (q : Q r cs) : Op2 c A k cs t a b n Q :=
  h.mono fun _ _ ⟨x, y⟩ => by subst x y; exact q
theorem CallV.is {f : Value} {args : List Value} {r : Value} {Q : Value → List Chunk → Prop} (h : CallV c A k cs f args (Is cs r)) (q : Q r cs) : CallV c A k cs f args Q :=
  h.mono fun _ _ ⟨x, y⟩ => by subst x y; exact q
end

end Mine
end
noncomputable section
open PySem PySem.W PySem.Calls PyProof.Rows
namespace Mine

section
variable {c : Cx} {i : Fi} {k : Nat} {m : Fields} {cs : List Chunk}

theorem scopeF (h : i.env.scope.kind = .function) : (i.env.scope.kind == .class || (i.env.scope.kind == .module && i.env.locals != i.env.globals)) = false := by
  show (i.env.scope.kind == .class || (i.env.scope.kind == .module && _)) = false
  rw [h]; rfl

/- ## statements in a row -/
theorem EXS_nil {Q : Flow → Fields → List Chunk → Prop} (h : Q .next m cs) : EXS c i k m cs [] Q :=
  fun _ _ _ hs => wpAny_execs_nil ⟨m, cs, .refl m, hs, h⟩
noncomputable def Then (c : Cx) (i : Fi) (k : Nat) (rest : List Stmt) (Q : Flow → Fields → List Chunk → Prop) (f : Flow) (m : Fields) (cs : List Chunk) : Prop :=
  match f with
  | .next => EXS c i k m cs rest Q
  | f => Q f m cs
theorem EXS_cons {st : Stmt} {rest : List Stmt} {Q : Flow → Fields → List Chunk → Prop} (h : EX c i k m cs st (Then c i k rest Q)) : EXS c i k m cs (st :: rest) Q := by
  intro hF R s hs
  refine wpAny_execs_cons (noE (h hF R s hs) ?_)
  rintro f s1 ⟨m1, cs1, z, h1, q1⟩
  cases f with
  | next => exact noE (q1 (hF.keys z) R s1 h1) fun f s2 ⟨m2, cs2, z2, h2, q2⟩ => ⟨m2, cs2, z.trans z2, h2, q2⟩
  | brk => exact ⟨m1, cs1, z, h1, q1⟩
  | cont => exact ⟨m1, cs1, z, h1, q1⟩
  | ret v => exact ⟨m1, cs1, z, h1, q1⟩

/- ## targets -/
theorem AS_name {x : Str} {pos : Pos} {v : Value} {m' : Fields} {Q : Fields → List Chunk → Prop} (U : Upd m x (some v) m') (h : Q m' cs) : AS c i k m cs (.Name x pos) v Q := by
  intro hF R s v' hv hs
  subst hv
  obtain ⟨m₀, F, hn, hm⟩ := frame hs
  have hx : i.env.kindOf x = some .local := by
    obtain ⟨pre, u, post, rfl, rfl⟩ := U
    exact hF.2.1 (x, u) (by simp)
  refine wpAny_assign_Name (wpAny_storeName_local hx (by rw [hF.1.2.1]; exact F.ns) (fun h' N sb => ?_) (scopeF hF.1.1))
  rw [hF.1.2.1] at N sb
  refine ⟨m', cs, U.keys, ?_, h⟩
  obtain ⟨o, ho, hi⟩ := ns_upd hn hm N U
  exact hs.to (Nat.succ_pos _) (hs.own.upd Upd.head (fun b y hb e => (sb.2 b hb).trans e) ho hi)
theorem AS_attr {o : Expr} {attr : Str} {pos : Pos} {v : Value} {Q : Fields → List Chunk → Prop}
    (h : EV c i k m cs o (fun ov cs1 => Op2 c i.A k cs1 (fun a b => setAttr a attr b) ov v (fun _ => ()) (fun _ cs2 => Q m cs2))) : AS c i k m cs (.Attribute o attr pos) v Q := by
  intro hF R s v' hv hs
  show wpAny _ _ (holding [v'] (eval o i.env) >>= fun ov => standAt pos.atName >>= fun _ => holding [v', ov] (setAttr ov attr v') >>= fun _ => release [v', ov] []) _ _ _
  refine wpAny_bind (wpAny_holding (noE (h hF R s hs) ?_))
  rintro ov s1 ⟨cs1, h1, q1⟩
  refine wpAny_bind (wpAny_standAt (wpAny_bind (wpAny_holding (noE (q1 hF.2.2 _ s1 ov v' rfl hv (h1.perm mid)) ?_))))
  rintro _ s2 ⟨cs2, h2, q2⟩
  intro Γ p hΓ
  rw [Sem.wp_release]
  exact ⟨m, cs2, .refl m, h2.perm dim, q2⟩
theorem assign_sub_eq (o j : Expr) (pos : Pos) (env : Env) (v' : Value) : assign (.Subscript o j pos) env v' = (holding [v'] (eval o env) >>= fun ov => holding [v', ov] (eval j env) >>= fun iv => standAt pos >>= fun _ => holding [v', ov, iv] (setItem ov iv v') >>= fun _ =>
    release (match j with | .Slice _ _ none _ => [iv, v', ov] | _ => [v', ov, iv]) []) := rfl
theorem AS_sub {o j : Expr} {pos : Pos} {v : Value} {Q : Fields → List Chunk → Prop}
    (h : EV c i k m cs o (fun ov cs1 => EV c i k m cs1 j (fun jv cs2 => Op3 c i.A k cs2 (fun a b d => setItem a b d) ov jv v (fun _ => ()) (fun _ cs3 => Q m cs3)))) : AS c i k m cs (.Subscript o j pos) v Q := by
  intro hF R s v' hv hs
  rw [assign_sub_eq]
  refine wpAny_bind (wpAny_holding (noE (h hF R s hs) ?_))
  rintro ov s1 ⟨cs1, h1, q1⟩
  refine wpAny_bind (wpAny_holding (noE (q1 hF R s1 h1) ?_))
  rintro jv s2 ⟨cs2, h2, q2⟩
  refine wpAny_bind (wpAny_standAt (wpAny_bind (wpAny_holding (noE (q2 hF.2.2 _ s2 ov jv v' rfl rfl hv (h2.perm mid)) ?_))))
  rintro _ s3 ⟨cs3, h3, q3⟩
  intro Γ p hΓ
  rw [Sem.wp_release]
  exact ⟨m, cs3, .refl m, h3.perm dim, q3⟩

/-- several targets, one after the other -/
noncomputable def ASs (c : Cx) (i : Fi) (k : Nat) (m : Fields) (cs : List Chunk) (ts : List Expr) (vs : List Value) (Q : Fields → List Chunk → Prop) : Prop :=
  FOk i k m → ∀ R s vs', vs'.map nv = vs → St c ((i.L, .ns m) :: (cs ++ R)) s →
    wpAny (model c.prog c.w) i.A (assignInOrder ((assignEach ts i.env).map (·.2)) vs') (fun _ s' => ∃ m' cs', SameKeys m m' ∧ St c ((i.L, .ns m') :: (cs' ++ R)) s' ∧ Q m' cs') NoE s
theorem ASs_nil {Q : Fields → List Chunk → Prop} (h : Q m cs) : ASs c i k m cs [] [] Q := by
  intro hF R s vs' hv hs
  have : vs' = [] := by simpa using hv
  subst this
  exact wpAny_pure ⟨m, cs, .refl m, hs, h⟩
theorem ASs_cons {t : Expr} {ts : List Expr} {v : Value} {vs : List Value} {Q : Fields → List Chunk → Prop} (h : AS c i k m cs t v (fun m1 cs1 => ASs c i k m1 cs1 ts vs Q))
    (he : ∀ env, assignEach (t :: ts) env = (false, assign t env) :: assignEach ts env := by intro _; rfl) : ASs c i k m cs (t :: ts) (v :: vs) Q := by
  intro hF R s vs' hv hs
  cases vs' with
  | nil => simp at hv
  | cons v' r =>
    simp only [List.map_cons, List.cons.injEq] at hv
    rw [he]
    refine assignInOrder_cons (noE (h hF R s v' hv.1 hs) ?_)
    rintro _ s1 ⟨m1, cs1, z, h1, q1⟩
    exact noE (q1 (hF.keys z) R s1 r hv.2 h1) fun _ s2 ⟨m2, cs2, z2, h2, q2⟩ => ⟨m2, cs2, z.trans z2, h2, q2⟩
theorem AS_tuple {ts : List Expr} {u : Nat} {pos : Pos} {t : Addr} {vs : List Value} {Q : Fields → List Chunk → Prop} (ht : (t, .tup vs) ∈ cs) (h : ASs c i k m cs ts vs Q)
    (hl : ∀ env, (assignEach ts env).length = vs.length := by intro _; rfl) (hf : ∀ env, (assignEach ts env).findIdx? (·.1) = none := by intro _; rfl) : AS c i k m cs (.Tuple ts u pos) (.ref t) Q := by
  intro hF R s v' hv hs
  rw [nv_ref hv]
  obtain ⟨o, ho, its, n, rfl, hi⟩ := hs.at (List.mem_cons_of_mem _ (List.mem_append_left R ht))
  refine wpAny_assign_Tuple hF.2.2.1 ⟨_, ho, rfl, n, rfl⟩ (by rw [hl, ← hi]; simp) (hf _) fun h' hk => ?_
  exact h hF R _ its.toList hi (hs.ext hs.pos fun b y e => hk b y (Nat.ne_of_lt (Heap.lt_size e)) e)

/- ## statements -/
theorem EX_assign {t value : Expr} {pos : Pos} {Q : Flow → Fields → List Chunk → Prop} (h : EV c i k m cs value (fun v cs1 => AS c i k m cs1 t v (fun m' cs' => Q .next m' cs')))
    (hsw : ∀ env, swapsWithSole [t] value pos.line env = pure false := by intro _; rfl) (hst : ∀ env, swappedStores [t] value env = pure none := by intro _; rfl)
    (ha : ∀ env, (assignEach [t] env).map (·.2) = [assign t env] := by intro _; rfl) : EX c i k m cs (.Assign [t] value pos) Q := by
  intro hF R s hs
  refine wpAny_Assign_stores (noE (h hF R s hs) ?_) (hsw _) (hst _)
  rintro v s1 ⟨cs1, h1, q1⟩
  rw [ha]
  exact noE (q1 hF R s1 v rfl h1) fun _ s2 x => x
theorem EX_expr {e : Expr} {pos : Pos} {Q : Flow → Fields → List Chunk → Prop} (h : EV c i k m cs e (fun _ cs' => Q .next m cs')) (hsw : ∀ env, swapsWith e none pos.line env = pure false := by intro _; rfl) :
    EX c i k m cs (.Expr e pos) Q := by
  intro hF R s hs
  have hi : interactive i.env = false := by
    show (i.env.scope.kind == .module && _) = false
    rw [hF.1.1]; rfl
  refine wpAny_Expr_any (noE (h hF R s hs) ?_) hi (hsw _)
  rintro v s1 ⟨cs1, h1, q1⟩
  exact ⟨m, cs1, .refl m, h1, q1⟩
theorem EX_return {e : Expr} {pos : Pos} {Q : Flow → Fields → List Chunk → Prop} (h : EV c i k m cs e (fun v cs' => Q (.ret v) m cs')) : EX c i k m cs (.Return (some e) pos) Q := by
  intro hF R s hs
  refine wpAny_Return_some (noE (h hF R s hs) ?_)
  rintro v s1 ⟨cs1, h1, q1⟩
  exact ⟨m, cs1, .refl m, h1, q1⟩
theorem EX_break {pos : Pos} {Q : Flow → Fields → List Chunk → Prop} (h : Q .brk m cs) : EX c i k m cs (.Break pos) Q := fun _ _ _ hs => wpAny_Break ⟨m, cs, .refl m, hs, h⟩
theorem EX_if {test : Expr} {body orelse : List Stmt} {pos : Pos} {Q : Flow → Fields → List Chunk → Prop}
    (h : TV c i k m cs test (fun b cs1 => (b = true → EXS c i k m cs1 body Q) ∧ (b = false → EXS c i k m cs1 orelse Q))) : EX c i k m cs (.If test body orelse pos) Q := by
  intro hF R s hs
  refine wpAny_If (noE (h hF R s hs) ?_)
  rintro b s1 ⟨cs1, h1, q1⟩
  cases b with
  | true => exact q1.1 rfl hF R s1 h1
  | false => exact q1.2 rfl hF R s1 h1
theorem EX_assert {test : Expr} {pos : Pos} {msg : Option Expr} {Q : Flow → Fields → List Chunk → Prop} (h : TV c i k m cs test (fun b cs1 => b = true ∧ Q .next m cs1)) : EX c i k m cs (.Assert test msg pos) Q := by
  intro hF R s hs
  refine wpAny_Assert_holds (noE (h hF R s hs) ?_)
  rintro b s1 ⟨cs1, h1, q1, q2⟩
  exact ⟨q1, m, cs1, .refl m, h1, q2⟩
theorem EX_aug_name {x : Str} {px pos : Pos} {op : Operator} {value : Expr} {old : Value} {Q : Flow → Fields → List Chunk → Prop} (hx : (x, some old) ∈ m)
    (h : EV c i k m cs value (fun v cs1 => Op2 c i.A k cs1 (inplaceOp op) old v nv (fun r cs2 => ∃ m', Upd m x (some r) m' ∧ Q .next m' cs2))) : EX c i k m cs (.AugAssign (.Name x px) op value pos) Q := by
  intro hF R s hs
  obtain ⟨m₀, F, hn, hm⟩ := frame hs
  have e := hm _ hx
  cases q : m₀ x with
  | none => simp only [q] at e; cases e
  | some v' =>
    simp only [q, Option.map_some, Option.some.injEq] at e
    refine wpAny_AugAssign_Name (wpAny_loadName_local hF.1.1 (hF.2.1 _ hx) (by rw [hF.1.2.1]; exact F.ns) q (noE (h hF R s hs) ?_))
    rintro v s1 ⟨cs1, h1, q1⟩
    refine noE (q1 hF.2.2 _ s1 v' v e rfl (h1.perm mid)) ?_
    rintro r s2 ⟨cs2, h2, m', U, q2⟩
    have h2 := h2.perm dim
    obtain ⟨m₁, F1, hn1, hm1⟩ := frame h2
    refine wpAny_storeName_local (hF.2.1 _ hx) (by rw [hF.1.2.1]; exact F1.ns) (fun h' N sb => ?_) (scopeF hF.1.1)
    rw [hF.1.2.1] at N sb
    refine ⟨m', cs2, U.keys, ?_, q2⟩
    obtain ⟨o, ho, hi⟩ := ns_upd hn1 hm1 N U
    exact h2.to (Nat.succ_pos _) (h2.own.upd Upd.head (fun b y hb e => (sb.2 b hb).trans e) ho hi)
theorem EX_aug_attr {o value : Expr} {attr : Str} {tpos pos : Pos} {op : Operator} {Q : Flow → Fields → List Chunk → Prop}
    (h : EV c i k m cs o (fun ov cs1 => Op1 c i.A k cs1 (fun v => getAttr v attr true) ov nv (fun old cs2 => EV c i k m cs2 value (fun v cs3 => Op2 c i.A k cs3 (inplaceOp op) old v nv (fun r cs4 =>
      Op2 c i.A k cs4 (fun a b => setAttr a attr b) ov r (fun _ => ()) (fun _ cs5 => Q .next m cs5)))))) : EX c i k m cs (.AugAssign (.Attribute o attr tpos) op value pos) Q := by
  intro hF R s hs
  refine wpAny_AugAssign_AttributeAny (noE (h hF R s hs) ?_)
  rintro ov s1 ⟨cs1, h1, q1⟩
  refine noE (q1 hF.2.2 _ s1 ov rfl (h1.perm mid)) ?_
  rintro old s2 ⟨cs2, h2, q2⟩
  refine noE (q2 hF R s2 (h2.perm dim)) ?_
  rintro v s3 ⟨cs3, h3, q3⟩
  refine noE (q3 hF.2.2 _ s3 old v rfl rfl (h3.perm mid)) ?_
  rintro r s4 ⟨cs4, h4, q4⟩
  refine noE (q4 hF.2.2 _ s4 ov r rfl rfl h4) ?_
  rintro _ s5 ⟨cs5, h5, q5⟩
  exact ⟨m, cs5, .refl m, h5.perm dim, q5⟩
theorem EX_aug_sub {o j value : Expr} {tpos pos : Pos} {op : Operator} {Q : Flow → Fields → List Chunk → Prop}
    (h : EV c i k m cs o (fun ov cs1 => EV c i k m cs1 j (fun jv cs2 => Op2 c i.A k cs2 getItem ov jv nv (fun old cs3 => EV c i k m cs3 value (fun v cs4 => Op2 c i.A k cs4 (inplaceOp op) old v nv (fun r cs5 =>
      Op3 c i.A k cs5 (fun a b d => setItem a b d) ov jv r (fun _ => ()) (fun _ cs6 => Q .next m cs6)))))))
    (hs' : ∀ ov iv new, augStore j ov iv new = (do
            holding [new, ov, iv] (setItem ov iv new)
            release [new, ov, iv] []
            pure Flow.next) := by intro _ _ _; rfl) : EX c i k m cs (.AugAssign (.Subscript o j tpos) op value pos) Q := by
  intro hF R s hs
  refine wpAny_AugAssign_SubscriptAny (noE (h hF R s hs) ?_) hs'
  rintro ov s1 ⟨cs1, h1, q1⟩
  refine noE (q1 hF R s1 h1) ?_
  rintro jv s2 ⟨cs2, h2, q2⟩
  refine noE (q2 hF.2.2 _ s2 ov jv rfl rfl (h2.perm mid)) ?_
  rintro old s3 ⟨cs3, h3, q3⟩
  refine noE (q3 hF R s3 (h3.perm dim)) ?_
  rintro v s4 ⟨cs4, h4, q4⟩
  refine noE (q4 hF.2.2 _ s4 old v rfl rfl (h4.perm mid)) ?_
  rintro r s5 ⟨cs5, h5, q5⟩
  refine noE (q5 hF.2.2 _ s5 ov jv r rfl rfl rfl h5) ?_
  rintro _ s6 ⟨cs6, h6, q6⟩
  exact ⟨m, cs6, .refl m, h6.perm dim, q6⟩

/- ## loops -/
noncomputable def Turn (J : Fields → List Chunk → Prop) (Q : Flow → Fields → List Chunk → Prop) (f : Flow) (m : Fields) (cs : List Chunk) : Prop :=
  match f with
  | .next => J m cs
  | .cont => J m cs
  | .brk => Q .next m cs
  | .ret v => Q (.ret v) m cs
theorem EX_while {test : Expr} {body : List Stmt} {pos : Pos} {Q : Flow → Fields → List Chunk → Prop} (I : Nat → Fields → List Chunk → Prop) {n : Nat} (h0 : I n m cs)
    (turn : ∀ n m1 cs1, SameKeys m m1 → I n m1 cs1 → TV c i k m1 cs1 test (fun b cs2 => (b = true → EXS c i k m1 cs2 body (Turn (fun m' cs' => ∃ j, j < n ∧ I j m' cs') Q)) ∧ (b = false → Q .next m1 cs2))) :
    EX c i k m cs (.While test body [] pos) Q := by
  intro hF R s hs
  refine wpAny_While (codeAny_whileLoop (fun n s' => ∃ m1 cs1, SameKeys m m1 ∧ St c ((i.L, .ns m1) :: (cs1 ++ R)) s' ∧ I n m1 cs1) ?_ n ⟨m, cs, .refl m, hs, h0⟩)
  rintro n s1 ⟨m1, cs1, z, h1, hI⟩
  refine noE' (turn n m1 cs1 z hI (hF.keys z) R s1 h1) ?_
  rintro b s2 ⟨cs2, h2, q2⟩
  cases b with
  | true =>
    refine noE' (q2.1 rfl (hF.keys z) R s2 h2) ?_
    rintro f s3 ⟨m3, cs3, z3, h3, q3⟩
    cases f with
    | next => obtain ⟨j, hj, q⟩ := q3; exact ⟨j, hj, m3, cs3, z.trans z3, h3, q⟩
    | cont => obtain ⟨j, hj, q⟩ := q3; exact ⟨j, hj, m3, cs3, z.trans z3, h3, q⟩
    | brk => exact ⟨m3, cs3, z.trans z3, h3, q3⟩
    | ret v => exact ⟨m3, cs3, z.trans z3, h3, q3⟩
  | false => exact wpAny_execs_nil ⟨m1, cs2, z, h2, q2.2 rfl⟩

noncomputable def FORL (c : Cx) (i : Fi) (k : Nat) (m : Fields) (cs : List Chunk) (t : Expr) (it : Value) (body : List Stmt) (Q : Flow → Fields → List Chunk → Prop) : Prop :=
  FOk i k m → ∀ R s it', nv it' = it → St c ((i.L, .ns m) :: (cs ++ R)) s →
    codeAny (model c.prog c.w) i.A (.forLoop t it' body [] i.env) (fun r s' => match r with
      | .ok f => ∃ m' cs', SameKeys m m' ∧ St c ((i.L, .ns m') :: (cs' ++ R)) s' ∧ Q (nf f) m' cs'
      | .error _ => False) s
theorem EX_for {t iter : Expr} {body : List Stmt} {pos : Pos} {Q : Flow → Fields → List Chunk → Prop}
    (h : EV c i k m cs iter (fun v cs1 => Op1 c i.A k cs1 pyIter v nv (fun it cs2 => FORL c i k m cs2 t it body Q)))
    (hf : ∀ env x, foldedSetIterable iter env x = pure x := by intro _ _; rfl) : EX c i k m cs (.For t iter body [] pos) Q := by
  intro hF R s hs
  refine wpAny_For (noE (h hF R s hs) ?_) (hf _)
  rintro v s1 ⟨cs1, h1, q1⟩
  refine noE (q1 hF.2.2 _ s1 v rfl (h1.perm mid)) ?_
  rintro it s2 ⟨cs2, h2, q2⟩
  refine codeAny_mono (q2 hF R s2 it rfl (h2.perm dim)) ?_
  intro r s3 h3
  cases r with
  | ok f => exact h3
  | error e => exact h3.elim

noncomputable def NextV (c : Cx) (A : Around) (k : Nat) (cs : List Chunk) (it : Value) (Q : Option Value → List Chunk → Prop) : Prop :=
  AOk A k → ∀ R s it', nv it' = it → St c (cs ++ R) s → wpAny (model c.prog c.w) A (pyNext it') (fun r s' => ∃ cs', St c (cs' ++ R) s' ∧ Q (r.map nv) cs') NoE s

noncomputable def tupIters : List String := ["enumerate", "zip", "dict_itemiterator", "dict_reverseitemiterator", "odict_iterator", "itertools.zip_longest", "itertools.pairwise"]
theorem letOwned_plain {M : Model} {A : Around} {t : Expr} {it : Addr} {v : Value} {o : Obj} {ty : String} {Q : Unit → Shared → Prop} {s : Shared} (ho : s.heap.get? it = some o) (hc : o.cls = .type ty) (ht : tupIters.contains ty = false) (q : Q () s) :
    wpAny M A (letOwnedTupleGo t (.ref it) v) Q NoE s := by
  have body : wpAny M A (do
      let (.ref r, .ref a) := (Value.ref it, v) | return
      let o ← load r
      match o.cls, o.data with
      | .type n, .fields vs =>
        if ["enumerate", "zip", "dict_itemiterator", "dict_reverseitemiterator", "odict_iterator", "itertools.zip_longest", "itertools.pairwise"].contains n && vs[0]? == some (rawInt a) then
          rule "for.unpacks-the-owned-tuple"
          updateField r 0 .none
      | _, _ => pure ()) Q NoE s := by
    cases v with
    | ref a =>
      refine wpAny_bind (wpAny_load ho ?_)
      rw [hc]
      cases o.data with
      | fields vs =>
        dsimp only
        rw [show (["enumerate", "zip", "dict_itemiterator", "dict_reverseitemiterator", "odict_iterator", "itertools.zip_longest", "itertools.pairwise"].contains ty) = false from ht]
        exact wpAny_pure q
      | _ => exact wpAny_pure q
    | _ => exact wpAny_pure q
  unfold letOwnedTupleGo
  split
  · exact body
  · exact body
  · exact wpAny_pure q

theorem FOR_any {t : Expr} {it : Addr} {body : List Stmt} {Q : Flow → Fields → List Chunk → Prop} (P : Nat → AO) (n : Nat) (X : Nat → Value) (I : Nat → Fields → List Chunk → Prop)
    (plain : ∀ j o, OIs o (P j) → ∃ ty, o.cls = .type ty ∧ tupIters.contains ty = false)
    (next : ∀ j m1 cs1, j ≤ n → I j m1 cs1 → NextV c i.A k ((it, P j) :: cs1) (.ref it) (fun r cs2 => match r with | none => j = n ∧ cs2 = cs1 | some v => j < n ∧ v = X j ∧ cs2 = (it, P (j + 1)) :: cs1))
    (turn : ∀ j m1 cs1, j < n → SameKeys m m1 → I j m1 cs1 → AS c i k m1 cs1 t (X j) (fun m2 cs2 => EXS c i k m2 cs2 body (Turn (I (j + 1)) Q)))
    (fin : ∀ m1 cs1, SameKeys m m1 → I n m1 cs1 → Q .next m1 cs1) (h0 : I 0 m cs) : FORL c i k m ((it, P 0) :: cs) t (.ref it) body Q := by
  intro hF R s it' hit hs
  rw [nv_ref hit]
  refine codeAny_forLoop_any (fun u s' => ∃ j m1 cs1, u = n - j ∧ j ≤ n ∧ SameKeys m m1 ∧ St c ((i.L, .ns m1) :: (((it, P j) :: cs1) ++ R)) s' ∧ I j m1 cs1) ?_ n ⟨0, m, cs, by omega, by omega, .refl m, hs, h0⟩
  rintro u s1 ⟨j, m1, cs1, rfl, hj, z, h1, hI⟩
  have hF1 := hF.keys z
  refine noE' (next j m1 cs1 hj hI hF.2.2 _ s1 (.ref it) rfl (h1.perm mid)) ?_
  rintro r s2 ⟨cs2, h2, q2⟩
  cases r with
  | none =>
    obtain ⟨rfl, rfl⟩ := q2
    exact wpAny_execs_nil ⟨m1, cs2, z, h2.perm dim, fin m1 cs2 z hI⟩
  | some v =>
    obtain ⟨hlt, hv, rfl⟩ := q2
    dsimp only at hv ⊢
    have h2 := h2.perm dim
    obtain ⟨o, ho, hoi⟩ := h2.at (a := it) (ao := P (j + 1)) (by simp)
    obtain ⟨ty, hty, hb⟩ := plain _ _ hoi
    refine noE' (letOwned_plain (Q := fun _ s' => s' = s2) ho hty hb rfl) ?_
    rintro _ s2' e2
    rw [e2]
    have pm : ((i.L, AO.ns m1) :: (((it, P (j + 1)) :: cs1) ++ R)).Perm ((i.L, AO.ns m1) :: (cs1 ++ ((it, P (j + 1)) :: R))) := List.Perm.cons _ mid
    refine noE' (turn j m1 cs1 hlt z hI hF1 ((it, P (j + 1)) :: R) s2 v hv (h2.perm pm)) ?_
    rintro _ s3 ⟨m3, cs3, z3, h3, q3⟩
    refine noE' (q3 (hF1.keys z3) _ s3 h3) ?_
    rintro f s4 ⟨m4, cs4, z4, h4, q4⟩
    have z' := z.trans (z3.trans z4)
    have h4' : St c ((i.L, .ns m4) :: (((it, P (j + 1)) :: cs4) ++ R)) s4 := h4.perm (List.Perm.cons _ dim)
    have h4'' : St c ((i.L, .ns m4) :: (cs4 ++ R)) s4 := h4'.sub (.cons_cons _ (.cons _ (List.Sublist.refl _)))
    cases f with
    | next => exact ⟨n - (j + 1), by omega, j + 1, m4, cs4, rfl, hlt, z', h4', q4⟩
    | cont => exact ⟨n - (j + 1), by omega, j + 1, m4, cs4, rfl, hlt, z', h4', q4⟩
    | brk => exact ⟨m4, cs4, z', h4'', q4⟩
    | ret v => exact ⟨m4, cs4, z', h4'', q4⟩

end
end Mine
end
noncomputable section
open PySem PySem.W PySem.Calls PyProof.Rows
namespace Mine

theorem toks_fin {c : Cx} {A : Around} {cs R : List Chunk} {s : Shared} {t : Sem Value} {v : Value} (hs : St c (cs ++ R) s)
    (h : wpAny (model c.prog c.w) A t (fun v' s' => nv v' = v ∧ ∃ tk, s' = { s with toks := tk }) NoE s) :
    wpAny (model c.prog c.w) A t (fun v' s' => ∃ cs', St c (cs' ++ R) s' ∧ Is cs v (nv v') cs') NoE s :=
  noE (wpAny_toks h) fun v' s' ⟨⟨e, tk, e2⟩, le⟩ => by
    subst e2
    exact ⟨cs, hs.toks (Nat.lt_of_lt_of_le hs.pos le), e, rfl⟩

section
variable {c : Cx} {A : Around} {k : Nat} {cs : List Chunk}

/- ## ints -/
theorem B_add {a b : Int} : Op2 c A k cs (binaryOp .Add) (.int a 0) (.int b 0) nv (Is cs (.int (a + b) 0)) := by
  intro _ R s a' b' ha hb hs
  obtain ⟨-, t, rfl⟩ := nv_int ha; obtain ⟨-, u, rfl⟩ := nv_int hb
  exact PyProof.Rows.add_int ⟨cs, hs.toks (Nat.succ_pos _), rfl, rfl⟩
theorem B_sub {a b : Int} : Op2 c A k cs (binaryOp .Sub) (.int a 0) (.int b 0) nv (Is cs (.int (a - b) 0)) := by
  intro _ R s a' b' ha hb hs
  obtain ⟨-, t, rfl⟩ := nv_int ha; obtain ⟨-, u, rfl⟩ := nv_int hb
  exact PyProof.Rows.sub_int ⟨cs, hs.toks (Nat.succ_pos _), rfl, rfl⟩
theorem B_mod {a b : Int} (h : b ≠ 0) : Op2 c A k cs (binaryOp .Mod) (.int a 0) (.int b 0) nv (Is cs (.int (a.fmod b) 0)) := by
  intro _ R s a' b' ha hb hs
  obtain ⟨-, t, rfl⟩ := nv_int ha; obtain ⟨-, u, rfl⟩ := nv_int hb
  exact PyProof.Rows.mod_int' h ⟨cs, hs.toks (Nat.succ_pos _), rfl, rfl⟩
theorem I_add {a b : Int} : Op2 c A k cs (inplaceOp .Add) (.int a 0) (.int b 0) nv (Is cs (.int (a + b) 0)) := by
  intro _ R s a' b' ha hb hs
  obtain ⟨-, t, rfl⟩ := nv_int ha; obtain ⟨-, u, rfl⟩ := nv_int hb
  exact PyProof.Rows.iadd_int ⟨cs, hs.toks (Nat.succ_pos _), rfl, rfl⟩
theorem I_sub {a b : Int} : Op2 c A k cs (inplaceOp .Sub) (.int a 0) (.int b 0) nv (Is cs (.int (a - b) 0)) := by
  intro _ R s a' b' ha hb hs
  obtain ⟨-, t, rfl⟩ := nv_int ha; obtain ⟨-, u, rfl⟩ := nv_int hb
  exact PyProof.Rows.isub_int ⟨cs, hs.toks (Nat.succ_pos _), rfl, rfl⟩
theorem C_eq {a b : Int} : Op2 c A k cs (compareOp .Eq) (.int a 0) (.int b 0) nv (Is cs (.bool (a == b))) := by
  intro _ R s a' b' ha hb hs
  obtain ⟨-, t, rfl⟩ := nv_int ha; obtain ⟨-, u, rfl⟩ := nv_int hb
  exact PyProof.Rows.eq_int ⟨cs, hs, rfl, rfl⟩
theorem C_ne {a b : Int} : Op2 c A k cs (compareOp .NotEq) (.int a 0) (.int b 0) nv (Is cs (.bool (a != b))) := by
  intro _ R s a' b' ha hb hs
  obtain ⟨-, t, rfl⟩ := nv_int ha; obtain ⟨-, u, rfl⟩ := nv_int hb
  exact PyProof.Rows.ne_int ⟨cs, hs, rfl, rfl⟩
theorem C_lt {a b : Int} : Op2 c A k cs (compareOp .Lt) (.int a 0) (.int b 0) nv (Is cs (.bool (decide (a < b)))) := by
  intro _ R s a' b' ha hb hs
  obtain ⟨-, t, rfl⟩ := nv_int ha; obtain ⟨-, u, rfl⟩ := nv_int hb
  exact PyProof.Rows.lt_int ⟨cs, hs, rfl, rfl⟩
theorem C_le {a b : Int} : Op2 c A k cs (compareOp .LtE) (.int a 0) (.int b 0) nv (Is cs (.bool (decide (a ≤ b)))) := by
  intro _ R s a' b' ha hb hs
  obtain ⟨-, t, rfl⟩ := nv_int ha; obtain ⟨-, u, rfl⟩ := nv_int hb
  exact PyProof.Rows.le_int ⟨cs, hs, rfl, rfl⟩
theorem C_gt {a b : Int} : Op2 c A k cs (compareOp .Gt) (.int a 0) (.int b 0) nv (Is cs (.bool (decide (b < a)))) := by
  intro _ R s a' b' ha hb hs
  obtain ⟨-, t, rfl⟩ := nv_int ha; obtain ⟨-, u, rfl⟩ := nv_int hb
  exact PyProof.Rows.gt_int ⟨cs, hs, rfl, rfl⟩
theorem C_ge {a b : Int} : Op2 c A k cs (compareOp .GtE) (.int a 0) (.int b 0) nv (Is cs (.bool (decide (b ≤ a)))) := by
  intro _ R s a' b' ha hb hs
  obtain ⟨-, t, rfl⟩ := nv_int ha; obtain ⟨-, u, rfl⟩ := nv_int hb
  exact PyProof.Rows.ge_int ⟨cs, hs, rfl, rfl⟩
theorem C_eqb {a b : Bool} : Op2 c A k cs (compareOp .Eq) (.bool a) (.bool b) nv (Is cs (.bool (a == b))) := by
  intro _ R s a' b' ha hb hs
  rw [nv_bool ha, nv_bool hb]
  exact PyProof.Rows.eq_bool ⟨cs, hs, rfl, rfl⟩
theorem C_neb {a b : Bool} : Op2 c A k cs (compareOp .NotEq) (.bool a) (.bool b) nv (Is cs (.bool (a != b))) := by
  intro _ R s a' b' ha hb hs
  rw [nv_bool ha, nv_bool hb]
  exact PyProof.Rows.ne_bool ⟨cs, hs, rfl, rfl⟩
theorem C_is {a : Value} : Op2 c A k cs (compareOp .Is) a .none nv (Is cs (.bool (a == .none))) := by
  intro _ R s a' b' ha hb hs
  rw [nv_none hb]
  refine is_none ⟨cs, hs, ?_, rfl⟩
  subst ha
  cases a' <;> rfl
theorem C_isnot {a : Value} : Op2 c A k cs (compareOp .IsNot) a .none nv (Is cs (.bool (!(a == .none)))) := by
  intro _ R s a' b' ha hb hs
  rw [nv_none hb]
  refine isNot_none ⟨cs, hs, ?_, rfl⟩
  subst ha
  cases a' <;> rfl

/- ## truth -/
theorem T_bool {b : Bool} : Op1 c A k cs truthy (.bool b) id (Is cs b) := by
  intro _ R s a' ha hs
  rw [nv_bool ha]
  exact wpAny_truthy_bool ⟨cs, hs, rfl, rfl⟩
theorem T_none : Op1 c A k cs truthy .none id (Is cs false) := by
  intro _ R s a' ha hs
  rw [nv_none ha]
  exact wpAny_pure ⟨cs, hs, rfl, rfl⟩
theorem T_str {l : List Nat} (hl : l.length ≤ 1000000) : Op1 c A k cs truthy (.str ⟨l.toArray⟩ 0) id (Is cs (!l.isEmpty)) := by
  intro _ R s a' ha hs
  obtain ⟨-, t, rfl⟩ := nv_str ha
  refine PySem.P.truthy_str ?_ ⟨cs, hs.toks (Nat.succ_pos _), ?_, rfl⟩
  · show ¬ ((l.toArray.size : Int) ≥ 2 ^ 63)
    rw [List.size_toArray]; omega
  · show ((l.toArray.size : Int) != 0) = _
    cases l with
    | nil => rfl
    | cons a r => simp; omega

/- ## strs -/
theorem str_app (a b : List Nat) : (⟨a.toArray⟩ : Str) ++ (⟨b.toArray⟩ : Str) = ⟨(a ++ b).toArray⟩ := by
  show (⟨a.toArray ++ b.toArray⟩ : Str) = _
  simp
theorem str_len (a : List Nat) : (⟨a.toArray⟩ : Str).length = a.length := by show a.toArray.size = _; simp
theorem B_adds {a b : List Nat} (h : a.length + b.length ≤ 1000000) : Op2 c A k cs (binaryOp .Add) (.str ⟨a.toArray⟩ 0) (.str ⟨b.toArray⟩ 0) nv (Is cs (.str ⟨(a ++ b).toArray⟩ 0)) := by
  intro _ R s a' b' ha hb hs
  obtain ⟨-, t, rfl⟩ := nv_str ha; obtain ⟨-, u, rfl⟩ := nv_str hb
  exact toks_fin hs (PyProof.Rows.SBL.add (fun t' n _ => ⟨by rw [str_app]; rfl, n, rfl⟩) (by rw [str_len, str_len, sizeLine_eq]; omega))
theorem I_adds {a b : List Nat} (h : a.length + b.length ≤ 1000000) : Op2 c A k cs (inplaceOp .Add) (.str ⟨a.toArray⟩ 0) (.str ⟨b.toArray⟩ 0) nv (Is cs (.str ⟨(a ++ b).toArray⟩ 0)) := by
  intro _ R s a' b' ha hb hs
  obtain ⟨-, t, rfl⟩ := nv_str ha; obtain ⟨-, u, rfl⟩ := nv_str hb
  exact toks_fin hs (PyProof.Rows.iadd_str (fun t' n => ⟨by rw [str_app]; rfl, n, rfl⟩) (by rw [str_len, str_len, sizeLine_eq]; omega))
theorem C_eqs {a b : List Nat} : Op2 c A k cs (compareOp .Eq) (.str ⟨a.toArray⟩ 0) (.str ⟨b.toArray⟩ 0) nv (Is cs (.bool (a == b))) := by
  intro _ R s a' b' ha hb hs
  obtain ⟨-, t, rfl⟩ := nv_str ha; obtain ⟨-, u, rfl⟩ := nv_str hb
  exact PySem.P.eq_str ⟨cs, hs, rfl, rfl⟩
theorem C_nes {a b : List Nat} : Op2 c A k cs (compareOp .NotEq) (.str ⟨a.toArray⟩ 0) (.str ⟨b.toArray⟩ 0) nv (Is cs (.bool (a != b))) := by
  intro _ R s a' b' ha hb hs
  obtain ⟨-, t, rfl⟩ := nv_str ha; obtain ⟨-, u, rfl⟩ := nv_str hb
  exact PySem.P.ne_str ⟨cs, hs, rfl, rfl⟩
theorem C_ne_nn : Op2 c A k cs (compareOp .NotEq) .none .none nv (Is cs (.bool false)) := by
  intro _ R s a' b' ha hb hs
  rw [nv_none ha, nv_none hb]
  exact PySem.EqNone.ne_none_none ⟨cs, hs, rfl, rfl⟩
theorem K_len_str {l : List Nat} (hl : l.length ≤ 1000000) : CallV c A k cs (.builtin "len") [.str ⟨l.toArray⟩ 0] (Is cs (.int l.length 0)) := by
  intro _ R s as ha hs
  obtain ⟨a', rfl, hv⟩ := map_one ha
  obtain ⟨-, t, rfl⟩ := nv_str hv
  refine PyProof.Rows.SBL.len (by rw [str_len]; omega) ⟨cs, hs.toks (Nat.succ_pos _), ?_, rfl⟩
  rw [str_len]; rfl
theorem K_ord {n : Nat} : CallV c A k cs (.builtin "ord") [.str ⟨[n].toArray⟩ 0] (Is cs (.int n 0)) := by
  intro _ R s as ha hs
  obtain ⟨a', rfl, hv⟩ := map_one ha
  obtain ⟨-, t, rfl⟩ := nv_str hv
  exact PySem.P.ord_of_char ⟨cs, hs.toks (Nat.succ_pos _), rfl, rfl⟩
theorem K_chr {n : Int} (h0 : 0 ≤ n) (h1 : n ≤ 0x10FFFF) : CallV c A k cs (.builtin "chr") [.int n 0] (Is cs (.str ⟨[n.toNat].toArray⟩ 0)) := by
  intro _ R s as ha hs
  obtain ⟨a', rfl, hv⟩ := map_one ha
  obtain ⟨-, t, rfl⟩ := nv_int hv
  exact PySem.P.chr_of_int (by simp; omega) ⟨cs, hs.toks (Nat.succ_pos _), rfl, rfl⟩

end
end Mine
end
noncomputable section
open PySem PySem.W PySem.Calls PyProof.Rows
namespace Mine

/- ## slices, as take and drop -/
noncomputable def cl (n : Nat) (i : Int) : Nat := if i < 0 then (i + n).toNat else min i.toNat n
noncomputable def lo0 (n : Nat) : Option Int → Nat
  | none => 0
  | some i => cl n i
noncomputable def hi0 (n : Nat) : Option Int → Nat
  | none => n
  | some i => cl n i
noncomputable def sl {α : Type} (l : List α) (lo hi : Option Int) : List α := (l.drop (lo0 l.length lo)).take (hi0 l.length hi - lo0 l.length lo)

theorem clip_eq (n : Nat) (i : Int) : max 0 (min (if i < 0 then i + (n : Int) else i) (n : Int)) = (cl n i : Int) := by
  unfold cl
  split <;> omega
theorem bounds_eq (lo hi : Option Int) (n : Nat) : sliceBounds lo hi none n = ((lo0 n lo : Int), (hi0 n hi : Int), 1) := by
  unfold sliceBounds
  simp only [Option.getD_none, show (1 : Int) > 0 from by decide, if_true]
  congr 1
  · cases lo with
    | none => rfl
    | some i => exact clip_eq n i
  · congr 1
    cases hi with
    | none => rfl
    | some i => exact clip_eq n i
theorem pick_eq (its : Array Value) (lo hi : Option Int) : slicePick its lo hi none = (sl its.toList lo hi).toArray := by
  unfold slicePick
  rw [bounds_eq]
  dsimp only
  rw [sliceRange_one, pick_run]
  unfold sl
  rw [Array.length_toList]
theorem sl_map {α β : Type} (f : α → β) (l : List α) (lo hi : Option Int) : (sl l lo hi).map f = sl (l.map f) lo hi := by
  unfold sl
  rw [List.map_take, List.map_drop, List.length_map]
theorem strIdx_eq (lo hi : Option Int) (n : Nat) : Builtin.Str.strSliceIndices lo hi 1 n = sliceRange (lo0 n lo) (hi0 n hi) 1 := by
  unfold Builtin.Str.strSliceIndices
  simp only [show (1 : Int) > 0 from by decide, if_true]
  congr 1
  · cases lo with
    | none => rfl
    | some i => exact clip_eq n i
  · cases hi with
    | none => rfl
    | some i => exact clip_eq n i
theorem sl_length {α : Type} (l : List α) (lo hi : Option Int) : (sl l lo hi).length ≤ l.length := by
  unfold sl
  simp only [List.length_take, List.length_drop]
  omega

theorem strSl_eq (l : List Nat) (lo hi : Option Int) : (Builtin.Str.strSliceIndices lo hi 1 (⟨l.toArray⟩ : Str).length).filterMap ((⟨l.toArray⟩ : Str).cps[·]?) = sl l lo hi := by
  rw [str_len, strIdx_eq, sliceRange_one, pick_run]
  rfl
theorem hi0_le (n : Nat) (hi : Option Int) : hi0 n hi ≤ n := by
  cases hi with
  | none => exact Nat.le_refl _
  | some i =>
    show (if i < 0 then (i + n).toNat else min i.toNat n) ≤ n
    split <;> omega
theorem idx_len (lo hi : Option Int) (n : Nat) : (Builtin.Str.strSliceIndices lo hi 1 n).length = hi0 n hi - lo0 n lo := by
  rw [strIdx_eq, sliceRange_one, List.length_map, List.length_range]
theorem sl_len {α : Type} (l : List α) (lo hi : Option Int) : (sl l lo hi).length = min (hi0 l.length hi - lo0 l.length lo) (l.length - lo0 l.length lo) := by
  unfold sl
  rw [List.length_take, List.length_drop]
theorem sl_full {α : Type} (l : List α) (lo hi : Option Int) (h : (sl l lo hi).length = l.length) : sl l lo hi = l := by
  unfold sl at h ⊢
  simp only [List.length_take, List.length_drop] at h
  have hh := hi0_le l.length hi
  by_cases h0 : l.length = 0
  · rw [List.length_eq_zero_iff.mp h0]; simp
  · have e1 : lo0 l.length lo = 0 := by omega
    have e2 : hi0 l.length hi = l.length := by omega
    rw [e1, e2]; simp

section
variable {c : Cx} {i : Fi} {k : Nat} {m : Fields} {cs : List Chunk}

/-- a part of a slice that may lack -/
noncomputable def PO (c : Cx) (i : Fi) (k : Nat) (m : Fields) (cs : List Chunk) (e : Option Expr) (v : Option Int) : Prop :=
  match e, v with
  | none, none => True
  | some e, some n => PE c i k m cs e (.int n 0)
  | _, _ => False
theorem PO.no : PO c i k m cs none none := trivial
theorem PO.yes {e : Expr} {n : Int} (h : PE c i k m cs e (.int n 0)) : PO c i k m cs (some e) (some n) := h
theorem PO.run {e : Option Expr} {v : Option Int} (h : PO c i k m cs e v) (hF : FOk i k m) {R : List Chunk} {s : Shared} (hs : St c ((i.L, .ns m) :: (cs ++ R)) s) {Q : Value → Shared → Prop}
    (q : ∀ (p : Option (Int × Tok)) s', (p.map fun (x : Int × Tok) => x.1) = v → St c ((i.L, .ns m) :: (cs ++ R)) s' → Q (partValue p) s') : wpAny (model c.prog c.w) i.A (evalPart e i.env) Q NoE s := by
  cases e with
  | none =>
    cases v with
    | none => exact wpAny_pure (q none s rfl hs)
    | some _ => exact h.elim
  | some e =>
    cases v with
    | none => exact h.elim
    | some n =>
      rw [evalPart_some]
      refine noE (h hF R s hs) ?_
      rintro v s1 ⟨cs1, h1, e1, rfl⟩
      obtain ⟨-, t, rfl⟩ := nv_int e1
      exact q (some (n, t)) s1 rfl h1

theorem PE_slice {e : Expr} {lower upper : Option Expr} {p pos : Pos} {l : List Nat} {lo hi : Option Int} (h : PE c i k m cs e (.str ⟨l.toArray⟩ 0)) (hl : PO c i k m cs lower lo) (hu : PO c i k m cs upper hi)
    (hz : l.length ≤ 1000000) : PE c i k m cs (.Subscript e (.Slice lower upper none p) pos) (.str ⟨(sl l lo hi).toArray⟩ 0) := by
  intro hF R s hs
  refine Subscript_ (noE (h hF R s hs) ?_)
  rintro o s1 ⟨cs1, h1, e1, rfl⟩
  obtain ⟨-, t, rfl⟩ := nv_str e1
  refine wpAny_Slice (hl.run hF h1 ?_)
  rintro p1 s2 rfl h2
  refine hu.run hF h2 ?_
  rintro p2 s3 rfl h3
  rw [evalPart_none]
  refine wpAny_pure ?_
  have ext : ∀ b y, s3.heap.get? b = some y → (s3.heap.push { cls := .type "slice", data := .fields #[partValue p1, partValue p2, .none] }).get? b = some y := fun b y e => Heap.get?_push_of_some _ e
  have h4 := h3.ext (tk := s3.toks) h3.pos ext
  refine tail_any (ops := [.ref s3.heap.objs.size, .str ⟨l.toArray⟩ t]) (typeIs_str _ _ _) F.slot_str_getitem.lookup ?_ (by with_unfolding_all rfl)
  refine noE (wpAny_toks (wpAny_getItem_str_slice (l := p1) (u := p2) (st := none) ⟨_, Heap.get?_push_size _ rfl, rfl, rfl⟩ rfl
    (show (sliceMade ⟨l.toArray⟩ t p1 p2 none).post (fun v s' => nv v = .str ⟨(sl l (p1.map fun (x : Int × Tok) => x.1) (p2.map fun (x : Int × Tok) => x.1)).toArray⟩ 0 ∧ ∃ tk, s' = { s3 with heap := s3.heap.push { cls := .type "slice", data := .fields #[partValue p1, partValue p2, .none] }, toks := tk }) _ from ?_))) ?_
  · unfold sliceMade slicePicked
    simp only [Option.map_none, Option.getD_none]
    rw [← strSl_eq]
    split
    · rename_i hc
      refine ⟨?_, _, rfl⟩
      simp only [beq_self_eq_true, Bool.true_and, beq_iff_eq] at hc
      rw [strSl_eq]
      rw [str_len, idx_len] at hc
      have hh := hi0_le l.length (p2.map fun (x : Int × Tok) => x.1)
      rw [sl_full l _ _ (by rw [sl_len]; omega)]
      rfl
    · refine ⟨?_, rfl, _, rfl⟩
      show _ ≤ _
      rw [strSl_eq, str_len, sizeLine_eq]
      have := sl_length l (p1.map fun (x : Int × Tok) => x.1) (p2.map fun (x : Int × Tok) => x.1)
      omega
  · rintro v s4 ⟨⟨e4, tk, rfl⟩, le⟩
    exact ⟨cs1, h4.toks (Nat.lt_of_lt_of_le h3.pos le), e4, rfl⟩

theorem EV_slice_list {e : Expr} {lower upper : Option Expr} {p pos : Pos} {a : Addr} {vs : List Value} {lo hi : Option Int} {Q : Value → List Chunk → Prop} (h : PE c i k m cs e (.ref a)) (ha : (a, .list vs) ∈ cs)
    (hl : PO c i k m cs lower lo) (hu : PO c i k m cs upper hi) (hz : vs.length ≤ 1000000) (q : ∀ b, Q (.ref b) ((b, .list (sl vs lo hi)) :: cs)) :
    EV c i k m cs (.Subscript e (.Slice lower upper none p) pos) Q := by
  intro hF R s hs
  refine Subscript_ (noE (h hF R s hs) ?_)
  rintro o s1 ⟨cs1, h1, e1, rfl⟩
  rw [nv_ref e1]
  refine wpAny_Slice (hl.run hF h1 ?_)
  rintro p1 s2 rfl h2
  refine hu.run hF h2 ?_
  rintro p2 s3 rfl h3
  rw [evalPart_none]
  refine wpAny_pure ?_
  obtain ⟨ob, ho, its, n, rfl, hi⟩ := h3.at (List.mem_cons_of_mem _ (List.mem_append_left R ha))
  have ext : ∀ b y, s3.heap.get? b = some y → (s3.heap.push { cls := .type "slice", data := .fields #[partValue p1, partValue p2, .none] }).get? b = some y := fun b y e => Heap.get?_push_of_some _ e
  have h4 := h3.ext (tk := s3.toks) h3.pos ext
  have hL : (s3.heap.push { cls := .type "slice", data := .fields #[partValue p1, partValue p2, .none] }).IsList a its := ⟨_, ext _ _ ho, rfl, n, rfl⟩
  have part : ∀ q : Option (Int × Tok), IsPart (partValue q) (q.map (·.1)) := fun q => match q with
    | none => .none
    | some (j, t) => .int j t
  have hsz : its.size ≤ sizeLine := by
    have : its.toList.length = vs.length := by rw [← hi, List.length_map]
    rw [Array.length_toList] at this
    rw [sizeLine_eq]; omega
  refine tail_any (ops := [.ref s3.heap.objs.size, .ref a]) hL.typeIs slot_list_getitem.lookup ?_ (by with_unfolding_all rfl)
  refine wpAny_getItem_list_slice hL (Heap.IsSliceOf.new ..) (part p1) (part p2) .none (by simp) ?_ hsz
  refine ⟨(_, .list (sl vs (p1.map fun (x : Int × Tok) => x.1) (p2.map fun (x : Int × Tok) => x.1))) :: cs1, ?_, q _⟩
  rw [pick_eq]
  have h5 := h4.own.push (ao := .list (sl vs (p1.map fun (x : Int × Tok) => x.1) (p2.map fun (x : Int × Tok) => x.1))) (x := { cls := .type "list", data := .seq (sl its.toList (p1.map fun (x : Int × Tok) => x.1) (p2.map fun (x : Int × Tok) => x.1)).toArray })
    (h4.own.size (by simp)) rfl ⟨_, _, rfl, by simp only [List.toList_toArray]; rw [sl_map, hi]⟩
  exact St.perm (h4.to h4.pos h5) (List.Perm.swap ..)

/- ## displays -/
theorem EV_list {es : List Expr} {pos : Pos} {Q : Value → List Chunk → Prop} (h : EVs c i k m cs es (fun vs cs1 => vs.length ≤ 1000000 ∧ ∀ a, Q (.ref a) ((a, .list vs) :: cs1))) : EV c i k m cs (.List es pos) Q := by
  intro hF R s hs
  refine List_ (noE (h hF R s pos hs) ?_)
  rintro vs s1 ⟨cs1, h1, hz, q1⟩
  refine wpAny_newList ⟨(_, .list (vs.map nv)) :: cs1, ?_, q1 _⟩ (by rw [List.length_map] at hz; rw [sizeLine_eq]; omega)
  exact St.perm (h1.to h1.pos (h1.own.push (ao := .list (vs.map nv)) (h1.own.size (by simp)) rfl ⟨_, _, rfl, by simp⟩)) (List.Perm.swap ..)
theorem EV_tuple {es : List Expr} {u : Nat} {pos : Pos} {Q : Value → List Chunk → Prop} (h : EVs c i k m cs es (fun vs cs1 => vs.length ≤ 1000000 ∧ ∀ a, Q (.ref a) ((a, .tup vs) :: cs1))) : EV c i k m cs (.Tuple es u pos) Q := by
  intro hF R s hs
  refine Tuple_ (noE (h hF R s pos hs) ?_)
  rintro vs s1 ⟨cs1, h1, hz, q1⟩
  refine wpAny_newTuple ⟨(_, .tup (vs.map nv)) :: cs1, ?_, q1 _⟩ (by rw [List.length_map] at hz; rw [sizeLine_eq]; omega)
  exact St.perm (h1.to h1.pos (h1.own.push (ao := .tup (vs.map nv)) (h1.own.size (by simp)) rfl ⟨_, _, rfl, by simp⟩)) (List.Perm.swap ..)
end
end Mine
end
noncomputable section
open PySem PySem.W PySem.Calls PyProof.Rows
namespace Mine

theorem map_eraseIdx' {α β : Type} (f : α → β) : ∀ (l : List α) (j : Nat), (l.eraseIdx j).map f = (l.map f).eraseIdx j
  | [], _ => rfl
  | _ :: _, 0 => rfl
  | x :: r, j + 1 => by simp [List.eraseIdx_cons_succ, map_eraseIdx' f r j]
theorem seqIdx {j : Int} {n : Nat} (h0 : 0 ≤ j) (h1 : j.toNat < n) : seqIndex? j n = some j.toNat := by
  have a : ¬ j < 0 := by omega
  have b : 0 ≤ j ∧ j < n := by omega
  simp [seqIndex?, a, b]
theorem len_its {its : Array Value} {vs : List Value} (h : its.toList.map nv = vs) : its.size = vs.length := by
  rw [← h, List.length_map, Array.length_toList]
theorem at_its {its : Array Value} {vs : List Value} (h : its.toList.map nv = vs) {j : Nat} {v : Value} (e : vs[j]? = some v) : ∃ v', its[j]? = some v' ∧ nv v' = v := by
  rw [← h, List.getElem?_map] at e
  rw [← Array.getElem?_toList]
  cases q : its.toList[j]? with
  | none => rw [q] at e; cases e
  | some v' => rw [q] at e; exact ⟨v', rfl, by simpa using e⟩

section
variable {c : Cx} {A : Around} {k : Nat} {cs cs' : List Chunk}

/- ## lists -/
theorem K_len_list {a : Addr} {vs : List Value} (h : (a, .list vs) ∈ cs) (hz : vs.length ≤ 1000000) : CallV c A k cs (.builtin "len") [.ref a] (Is cs (.int vs.length 0)) := by
  intro _ R s as ha hs
  obtain ⟨a', rfl, hv⟩ := map_one ha
  rw [nv_ref hv]
  obtain ⟨o, ho, its, n, rfl, hi⟩ := hs.at (List.mem_append_left R h)
  have hl := len_its hi
  refine len_list ⟨_, ho, rfl, n, rfl⟩ (by omega) ⟨cs, hs.toks (Nat.succ_pos _), ?_, rfl⟩
  rw [hl]; rfl
theorem T_list {a : Addr} {vs : List Value} (h : (a, .list vs) ∈ cs) (hz : vs.length ≤ 1000000) : Op1 c A k cs truthy (.ref a) id (Is cs (!vs.isEmpty)) := by
  intro _ R s a' ha hs
  rw [nv_ref ha]
  obtain ⟨o, ho, its, n, rfl, hi⟩ := hs.at (List.mem_append_left R h)
  have hl := len_its hi
  refine wpAny_truthy_list ⟨_, ho, rfl, n, rfl⟩ (by omega) ⟨cs, hs.toks (Nat.succ_pos _), ?_, rfl⟩
  show (!its.isEmpty) = _
  cases vs with
  | nil => simp at hl; simp [hl]
  | cons x r => simp at hl; simp [Array.isEmpty, hl]
theorem G_list {a : Addr} {vs : List Value} {n : Int} {v : Value} (h : (a, .list vs) ∈ cs) (h0 : 0 ≤ n) (hz : vs.length ≤ 1000000) (e : vs[n.toNat]? = some v) : Op2 c A k cs getItem (.ref a) (.int n 0) nv (Is cs v) := by
  intro _ R s a' b' ha hb hs
  rw [nv_ref ha]
  obtain ⟨-, t, rfl⟩ := nv_int hb
  obtain ⟨o, ho, its, u, rfl, hi⟩ := hs.at (List.mem_append_left R h)
  obtain ⟨v', q1, q2⟩ := at_its hi e
  have hlt : n.toNat < vs.length := (List.getElem?_eq_some_iff.mp e).1
  exact wpAny_getItem_list ⟨_, ho, rfl, u, rfl⟩ h0 (by omega) q1 ⟨cs, hs, q2, rfl⟩
theorem S_list {e sl' : Expr} {a : Addr} {vs : List Value} {n : Int} {v : Value} (h : (a, .list vs) ∈ cs) (h0 : 0 ≤ n) (hz : vs.length ≤ 1000000) (he : vs[n.toNat]? = some v)
    (hs' : ∀ t, subscripted sl' false (.ref a) (.int n t) = operate [.ref a, .int n t] (getItem (.ref a) (.int n t)) := by intro _; with_unfolding_all rfl) : Op2 c A k cs (subscriptTail e sl') (.ref a) (.int n 0) nv (Is cs v) := by
  intro hA R s a' b' ha hb hs
  rw [nv_ref ha]
  obtain ⟨-, t, rfl⟩ := nv_int hb
  obtain ⟨o, ho, its, u, rfl, hi⟩ := hs.at (List.mem_append_left R h)
  have hL : s.heap.IsList a its := ⟨_, ho, rfl, u, rfl⟩
  exact tail_any (ops := [.ref a, .int n t]) hL.typeIs slot_list_getitem.lookup (G_list h h0 hz he hA R s _ _ rfl rfl hs) (hs' t)
theorem G_list_last {a : Addr} {vs : List Value} {v : Value} (h : (a, .list (vs ++ [v])) ∈ cs) (hz : vs.length ≤ 1000000) : Op2 c A k cs getItem (.ref a) (.int (-1) 0) nv (Is cs v) := by
  intro _ R s a' b' ha hb hs
  rw [nv_ref ha]
  obtain ⟨-, t, rfl⟩ := nv_int hb
  obtain ⟨o, ho, its, u, rfl, hi⟩ := hs.at (List.mem_append_left R h)
  have hl := len_its hi
  simp only [List.length_append, List.length_cons, List.length_nil] at hl
  obtain ⟨v', q1, q2⟩ := at_its (j := vs.length) (v := v) hi (by simp)
  exact wpAny_getItem_list_neg ⟨_, ho, rfl, u, rfl⟩ (by omega) (by omega) (by omega) (x := v') (by rw [show ((-1 : Int) + its.size).toNat = vs.length by omega]; exact q1) ⟨cs, hs, q2, rfl⟩
theorem S_list_last {e sl' : Expr} {a : Addr} {vs : List Value} {v : Value} (h : (a, .list (vs ++ [v])) ∈ cs) (hz : vs.length ≤ 1000000)
    (hs' : ∀ t, subscripted sl' false (.ref a) (.int (-1) t) = operate [.ref a, .int (-1) t] (getItem (.ref a) (.int (-1) t)) := by intro _; with_unfolding_all rfl) : Op2 c A k cs (subscriptTail e sl') (.ref a) (.int (-1) 0) nv (Is cs v) := by
  intro hA R s a' b' ha hb hs
  rw [nv_ref ha]
  obtain ⟨-, t, rfl⟩ := nv_int hb
  obtain ⟨o, ho, its, u, rfl, hi⟩ := hs.at (List.mem_append_left R h)
  have hL : s.heap.IsList a its := ⟨_, ho, rfl, u, rfl⟩
  exact tail_any (ops := [.ref a, .int (-1) t]) hL.typeIs slot_list_getitem.lookup (G_list_last h hz hA R s _ _ rfl rfl hs) (hs' t)

theorem own_seq {base : Heap} {R : List Chunk} {h : Heap} {a : Addr} {its : Array Value} {n : Nat} {vs' : List Value} {f : Array Value → Array Value} (o : Own base (cs ++ R) h) (U : Upd cs a (.list vs') cs')
    (ho : h.get? a = some { cls := .type "list", data := .seq its n }) (hf : (f its).toList.map nv = vs') : Own base (cs' ++ R) (h.update a (Obj.mapSeq f)) :=
  o.upd (U.append R) (fun b y hb e => (Heap.get?_update_other _ _ (Ne.symm hb)).trans e) (Heap.get?_update_self _ ho rfl)
    ⟨f its, (if (f its).size == its.size then n else n + 1), rfl, hf⟩

theorem K_append {a : Addr} {vs : List Value} {v : Value} {Q : Value → List Chunk → Prop} (h : (a, .list vs) ∈ cs) (U : Upd cs a (.list (vs ++ [v])) cs') (hz : vs.length ≤ 1000000) (q : Q .none cs') :
    CallV c A k cs (.builtin "list.append") [.ref a, v] Q := by
  intro _ R s as ha hs
  obtain ⟨a', v', rfl, hv, hw⟩ := map_two ha
  rw [nv_ref hv]
  obtain ⟨o, ho, its, n, rfl, hi⟩ := hs.at (List.mem_append_left R h)
  have hl := len_its hi
  refine call_meets F.slot_list_append ⟨_, ho, rfl⟩ F.entry_list_append (F.args_list_append_2 _ _) (list_append a its n v' (by rw [sizeLine_eq]; omega)) ⟨ho, ?_⟩
  exact ⟨cs', hs.to hs.pos (own_seq hs.own U ho (by simp [hi, hw])), q⟩
theorem K_pop {a : Addr} {vs : List Value} {v : Value} {Q : Value → List Chunk → Prop} (h : (a, .list (vs ++ [v])) ∈ cs) (U : Upd cs a (.list vs) cs') (hz : vs.length ≤ 1000000) (q : Q v cs') :
    CallV c A k cs (.builtin "list.pop") [.ref a] Q := by
  intro _ R s as ha hs
  obtain ⟨a', rfl, hv⟩ := map_one ha
  rw [nv_ref hv]
  obtain ⟨o, ho, its, n, rfl, hi⟩ := hs.at (List.mem_append_left R h)
  have hl := len_its hi
  simp only [List.length_append, List.length_cons, List.length_nil] at hl
  obtain ⟨v', q1, q2⟩ := at_its (j := vs.length) (v := v) hi (by simp)
  have e : its.size - 1 = vs.length := by omega
  refine call_meets F.slot_list_pop ⟨_, ho, rfl⟩ F.entry_list_pop (F.args_list_pop_1 _) (PySem.MeetsSeq.list_pop_last a its n v' (by rw [e]; exact q1) (by rw [sizeLine_eq]; omega)) ⟨ho, ?_⟩
  refine ⟨cs', hs.to hs.pos (own_seq hs.own U ho ?_), by rw [q2]; exact q⟩
  rw [e]
  rw [Array.toList_eraseIdxIfInBounds, map_eraseIdx', hi]
  simp [List.eraseIdx_append_of_length_le]
theorem K_pop0 {a : Addr} {vs : List Value} {v : Value} {Q : Value → List Chunk → Prop} (h : (a, .list (v :: vs)) ∈ cs) (U : Upd cs a (.list vs) cs') (hz : vs.length ≤ 1000000) (q : Q v cs') :
    CallV c A k cs (.builtin "list.pop") [.ref a, .int 0 0] Q := by
  intro _ R s as ha hs
  obtain ⟨a', b', rfl, hv, hb⟩ := map_two ha
  rw [nv_ref hv]
  obtain ⟨-, t, rfl⟩ := nv_int hb
  obtain ⟨o, ho, its, n, rfl, hi⟩ := hs.at (List.mem_append_left R h)
  have hl := len_its hi
  simp only [List.length_cons] at hl
  obtain ⟨v', q1, q2⟩ := at_its (j := 0) (v := v) hi (by simp)
  refine call_meets F.slot_list_pop ⟨_, ho, rfl⟩ F.entry_list_pop (F.args_list_pop_2 _ _) (PySem.MeetsSeq.list_pop_at a its n 0 t 0 v' (by decide) ?_ q1 (by rw [sizeLine_eq]; omega)) ⟨ho, ?_⟩
  · exact seqIdx (by omega) (by simp; omega)
  refine ⟨cs', hs.to hs.pos (own_seq hs.own U ho ?_), by rw [q2]; exact q⟩
  rw [Array.toList_eraseIdxIfInBounds, map_eraseIdx', hi]
  rfl
theorem K_pop_at {a : Addr} {vs : List Value} {v : Value} {j : Int} {Q : Value → List Chunk → Prop} (h : (a, .list vs) ∈ cs) (hj : 0 ≤ j) (he : vs[j.toNat]? = some v) (U : Upd cs a (.list (vs.eraseIdx j.toNat)) cs') (hz : vs.length ≤ 1000000) (q : Q v cs') :
    CallV c A k cs (.builtin "list.pop") [.ref a, .int j 0] Q := by
  intro _ R s as ha hs
  obtain ⟨a', b', rfl, hv, hb⟩ := map_two ha
  rw [nv_ref hv]
  obtain ⟨-, t, rfl⟩ := nv_int hb
  obtain ⟨o, ho, its, n, rfl, hi⟩ := hs.at (List.mem_append_left R h)
  have hl := len_its hi
  have hlt : j.toNat < vs.length := (List.getElem?_eq_some_iff.mp he).1
  obtain ⟨v', q1, q2⟩ := at_its hi he
  refine call_meets F.slot_list_pop ⟨_, ho, rfl⟩ F.entry_list_pop (F.args_list_pop_2 _ _) (PySem.MeetsSeq.list_pop_at a its n j t j.toNat v' (by simp [Builtin.List.listFitsIndex]; omega) ?_ q1 (by rw [sizeLine_eq]; omega)) ⟨ho, ?_⟩
  · exact seqIdx hj (by omega)
  refine ⟨cs', hs.to hs.pos (own_seq hs.own U ho ?_), by rw [q2]; exact q⟩
  rw [Array.toList_eraseIdxIfInBounds, map_eraseIdx', hi]
theorem K_insert0 {a : Addr} {vs : List Value} {v : Value} {Q : Value → List Chunk → Prop} (h : (a, .list vs) ∈ cs) (U : Upd cs a (.list (v :: vs)) cs') (hz : vs.length ≤ 1000000) (q : Q .none cs') :
    CallV c A k cs (.builtin "list.insert") [.ref a, .int 0 0, v] Q := by
  intro _ R s as ha hs
  obtain ⟨a', b', d', rfl, hv, hb, hd⟩ := map_three ha
  rw [nv_ref hv]
  obtain ⟨-, t, rfl⟩ := nv_int hb
  obtain ⟨o, ho, its, n, rfl, hi⟩ := hs.at (List.mem_append_left R h)
  have hl := len_its hi
  refine call_meets F.slot_list_insert ⟨_, ho, rfl⟩ F.entry_list_insert (F.args_list_insert_3 _ _ _) (PySem.AutoSeq1.list_insert_list_int_val_1 a its n 0 t d' (by decide) (by rw [sizeLine_eq]; omega)) ⟨ho, ?_⟩
  refine ⟨cs', hs.to hs.pos (own_seq hs.own U ho ?_), q⟩
  simp [hi, hd]
end
end Mine
end
noncomputable section
open PySem PySem.W PySem.Calls PyProof.Rows Builtin Builtin.ObjectAttr
namespace Mine

/- ## instances: an object, and a dict of its own (`AO.obj`) -/
theorem lookIn_ns {o : Obj} {es : Array DictEntry} {ep : Nat} {name : Str} (hd : o.data = .dict es ep) (hk : StrKeys es) : lookIn name o = some (nsFind es name) := by
  unfold lookIn
  rw [hd]
  dsimp only
  unfold nsFind findBy
  rw [← Array.find?_toList]
  split
  · rename_i e q; rw [q]; rfl
  · rename_i q
    have hany : es.toList.any (·.refKey) = false := by
      rw [List.any_eq_false]
      intro e he
      obtain ⟨n, t, h⟩ := hk e (Array.mem_toList_iff.mp he)
      simp [DictEntry.refKey, h]
    rw [hany, q]; rfl

/-- a name laid into a dict whose keys are strs -/
theorem wpAny_put {M : Model} {A : Around} {E : Value → Shared → Prop} {s : Shared} {a : Addr} {o : Obj} {es : Array DictEntry} {ep : Nat} {name : Str} {v : Value} {Q : Unit → Shared → Prop} (ho : s.heap.get? a = some o) (hd : o.data = .dict es ep) (hk : StrKeys es)
    (h : ∀ h' o' es' ep', h'.get? a = some o' → o'.data = .dict es' ep' → StrKeys es' → (∀ x, nsFind es' x = if x = name then some v else nsFind es x) →
      (es'.size = es.size ∧ nsFind es name ≠ none ∨ es'.size = es.size + 1 ∧ nsFind es name = none) → Heap.SameBut a s.heap h' → Q () { s with heap := h', toks := s.toks + 1 }) :
    wpAny M A (nsSet a name v) Q E s := by
  intro Γ p _
  simp only [nsSet, strHash, Sem.wp_bind', Sem.wp_cmd_ask, Sem.wp_pure', Sem.wp_cmd_mkText]
  rw [Sem.wp_loadPart_of M Γ _ p { s with toks := s.toks + 1 } (o := o) _ ho]
  have hany : es.any (·.refKey) = false := by
    rw [Array.any_eq_false']; intro e he; obtain ⟨n, t, h⟩ := hk e he; simp [DictEntry.refKey, h]
  simp only [hd, aRefKeyMayBeTheName_eq, aRefKeyMayBeTheNameByArray, hany, Bool.and_false, Bool.false_eq_true, if_false, Sem.wp_cmd_updatePart]
  refine ⟨by rw [ho]; rfl, ?_⟩
  obtain ⟨cl, d, dt, sl⟩ := o
  subst hd
  cases hi : es.findIdx? (·.key.isStr name) with
  | some i =>
    refine h _ _ _ ep (Heap.get?_update_self _ ho (by simp only [Obj.putName_eq, Obj.putNameByArray, hi]; rfl)) (by simp only [Obj.putName_eq, Obj.putNameByArray, hi]; try rfl) (hk.modify _ _)
      (fun x => findBy_modify (fun n v => v.isStr n) Value.isStr_inj es name x v i hi) (.inl ⟨by simp, ?_⟩) (Heap.SameBut.update ..)
    unfold nsFind
    rw [findBy_of_findIdx?, hi]
    have := (Array.findIdx?_eq_some_iff_findIdx_eq.mp hi).1
    simp [Array.getElem?_eq_getElem this]
  | none =>
    refine h _ _ _ (ep + 1) (Heap.get?_update_self _ ho (by simp only [Obj.putName_eq, Obj.putNameByArray, hi]; rfl)) (by simp only [Obj.putName_eq, Obj.putNameByArray, hi]; rfl) (hk.push _ _ _ _)
      (fun x => findBy_push (fun n v => v.isStr n) es name x _ _ v (fun y => by
        show (name == y) = decide (y = name)
        by_cases h : y = name
        · subst h; simp
        · have : ¬ name = y := fun e => h e.symm
          simp [h, this]) hi) (.inr ⟨by simp, ?_⟩) (Heap.SameBut.update ..)
    unfold nsFind
    rw [findBy_of_findIdx?, hi]

theorem bound_upd {m m' : Fields} {x : Str} {v : Value} (U : Upd m x (some v) m') : ∃ u, (x, u) ∈ m ∧ bound m' = if u.isSome then bound m else bound m + 1 := by
  obtain ⟨pre, u, post, rfl, rfl⟩ := U
  refine ⟨u, by simp, ?_⟩
  unfold bound
  cases u <;> simp [List.filter_append, List.filter_cons] <;> omega

section
variable {c : Cx} {A : Around} {k : Nat} {cs cs' : List Chunk} {x C d : Addr}

/-- what a chunk of an own object and one of its dict say in the heap -/
theorem inst_at {R : List Chunk} {s : Shared} {m : Fields} (hs : St c (cs ++ R) s) (hx : (x, .inst C d) ∈ cs) (hd : (d, .obj m) ∈ cs) :
    ∃ o es ep, InstAt s.heap x (instObj C d) C (some o) ∧ s.heap.get? d = some o ∧ o.data = .dict es ep ∧ StrKeys es ∧ (m.map Prod.fst).Nodup ∧ (∀ p ∈ m, (nsFind es p.1).map nv = p.2) ∧ es.size ≤ bound m := by
  obtain ⟨o, ho, rfl⟩ := hs.at (List.mem_append_left R hx)
  obtain ⟨o2, ho2, es, ep, h1, h2, h3, h4, h5⟩ := hs.at (List.mem_append_left R hd)
  exact ⟨o2, es, ep, ⟨ho, rfl, rfl, ho2⟩, ho2, h1, h2, h3, h4, h5⟩
theorem field_at {m : Fields} {es : Array DictEntry} {name : Str} {v : Value} (hm : ∀ p ∈ m, (nsFind es p.1).map nv = p.2) (h : (name, some v) ∈ m) : ∃ v', nsFind es name = some v' ∧ nv v' = v := by
  have e := hm _ h
  cases q : nsFind es name with
  | none => simp only [q] at e; cases e
  | some v' => simp only [q, Option.map_some, Option.some.injEq] at e; exact ⟨v', rfl, e⟩
theorem handed_nv (v : Value) : handedIn v = handedIn (nv v) := by cases v <;> rfl

theorem A_own {m : Fields} {name : Str} {v : Value} {attr : Option Value} (hx : (x, .inst C d) ∈ cs) (hd : (d, .obj m) ∈ cs) (hv : (name, some v) ∈ m) (hg : plainGet c.K C name = true) (hh : hasDictIn c.K C = true)
    (ha : findIn c.K (.ref C) name = some attr) (hn : noGet c.K attr = true) (hho : handedIn v = true) : Op1 c A k cs (fun v => getAttr v name true) (.ref x) nv (Is cs v) := by
  intro _ R s a' ha' hs
  rw [nv_ref ha']
  obtain ⟨o, es, ep, I, ho, h1, h2, h3, h4, h5⟩ := inst_at hs hx hd
  obtain ⟨v', q1, q2⟩ := field_at h4 hv
  exact get_value hs.inK I (plainGet_of hg).1 (findObj_own hh ha hn (by rw [lookIn_ns h1 h2, q1])) (by rw [handed_nv, q2]; exact hho) ⟨cs, hs.toks (Nat.succ_pos _), q2, rfl⟩
theorem A_bound {m : Fields} {name : Str} {f : Addr} {Q : Value → List Chunk → Prop} (hx : (x, .inst C d) ∈ cs) (hd : (d, .obj m) ∈ cs) (hv : (name, none) ∈ m) (hg : plainGet c.K C name = true) (hh : hasDictIn c.K C = true)
    (ha : findIn c.K (.ref C) name = some (some (.ref f))) (hf : isFn c.K (.ref f) = true) (hgf : specialIn c.K (.ref f) "__get__" = some (some (.builtin "function.__get__"))) (ht : takesIn c.K (.ref f) = some false)
    (hc : copiedNames.contains name = false) (q : ∀ b, Q (.ref b) ((b, .bm f x) :: cs)) : Op1 c A k cs (fun v => getAttr v name true) (.ref x) nv Q := by
  intro _ R s a' ha' hs
  rw [nv_ref ha']
  obtain ⟨o, es, ep, I, ho, h1, h2, h3, h4, h5⟩ := inst_at hs hx hd
  have e := h4 _ hv
  have q0 : nsFind es name = none := by simpa using e
  refine get_bind hs.inK I (plainGet_of hg).1 (findObj_fn hh ha hgf ht hc (by rw [lookIn_ns h1 h2, q0])) (plainGet_of hg).2
    (wpAny_call (fn_get (s := { s with toks := s.toks + 1 }) hs.inK (beq_iff_eq.mp hf) (handed_on rfl ?_)))
  refine ⟨(_, .bm f x) :: cs, ?_, q _⟩
  exact (hs.toks (Nat.succ_pos _)).to (Nat.succ_pos _) (hs.own.push (ao := .bm f x) (hs.own.size (by intro h; rw [List.append_eq_nil_iff] at h; rw [h.1] at hx; cases hx)) rfl rfl)

theorem M_fn {m : Fields} {name : Str} {f : Addr} {Q : Value → List Value → List Chunk → Prop} (hx : (x, .inst C d) ∈ cs) (hd : (d, .obj m) ∈ cs) (hv : (name, none) ∈ m) (hg : plainGet c.K C name = true)
    (ha : findIn c.K (.ref C) name = some (some (.ref f))) (hf : isFn c.K (.ref f) = true) (q : Q (.ref f) [.ref x] cs) : GetM c A k cs (.ref x) name Q := by
  intro _ R s a' pl ha' hs
  rw [nv_ref ha']
  obtain ⟨o, es, ep, I, ho, h1, h2, h3, h4, h5⟩ := inst_at hs hx hd
  have e := h4 _ hv
  have q0 : nsFind es name = none := by simpa using e
  exact method_fn hs.inK I (plainGet_of hg).1 (plainGet_of hg).2 ha (beq_iff_eq.mp hf) (by show (lookIn name o).map _ = _; rw [lookIn_ns h1 h2, q0]; rfl) ⟨cs, hs, q⟩
theorem M_own {m : Fields} {name : Str} {v : Value} {attr : Option Value} {Q : Value → List Value → List Chunk → Prop} (hx : (x, .inst C d) ∈ cs) (hd : (d, .obj m) ∈ cs) (hv : (name, some v) ∈ m) (hg : plainGet c.K C name = true) (hh : hasDictIn c.K C = true)
    (ha : findIn c.K (.ref C) name = some attr) (hn : noGet c.K attr = true) (hho : handedIn v = true)
    (ht : attr.all (fun a => (typeIn c.K a).any fun t => t != .type "function" && t != .type "method_descriptor" && t != .type "wrapper_descriptor") = true) (hr : ∃ a, v = .ref a) (q : Q v [] cs) : GetM c A k cs (.ref x) name Q := by
  intro _ R s a' pl ha' hs
  rw [nv_ref ha']
  obtain ⟨o, es, ep, I, ho, h1, h2, h3, h4, h5⟩ := inst_at hs hx hd
  obtain ⟨v', q1, q2⟩ := field_at h4 hv
  obtain ⟨a, rfl⟩ := hr
  have := nv_ref q2
  subst this
  refine method_usual hs.inK I (plainGet_of hg).1 (plainGet_of hg).2 ha ht ?_
  exact get_value hs.inK I (plainGet_of hg).1 (findObj_own hh ha hn (by rw [lookIn_ns h1 h2, q1])) rfl ⟨cs, hs.toks (Nat.succ_pos _), q⟩

theorem A_set {m m' : Fields} {name : Str} {v : Value} (hx : (x, .inst C d) ∈ cs) (hd : (d, .obj m) ∈ cs) (U : Upd m name (some v) m') (U2 : Upd cs d (.obj m') cs') (hz : m.length ≤ 1000)
    (hsa : findIn c.K (.ref C) "__setattr__" = some (some (.builtin "object.__setattr__"))) (hp : plainOver c.K C = true) (ht : takerIn c.K C name = some none) (hh : hasDictIn c.K C = true)
    {Q : Unit → List Chunk → Prop} (q : Q () cs') : Op2 c A k cs (fun a b => setAttr a name b) (.ref x) v (fun _ => ()) Q := by
  intro _ R s a' v' ha' hv hs
  rw [nv_ref ha']
  subst hv
  obtain ⟨o, es, ep, I, ho, h1, h2, h3, h4, h5⟩ := inst_at hs hx hd
  obtain ⟨cd, hcd, hdc⟩ := any_some hh
  refine set_plain hs.inK I hsa (osa_open (s := { s with toks := s.toks + 1 }) hs.inK I hp ht fun b => ?_)
  refine wpAny_bind (wpAny_pure (wpAny_bind (wpAny_bind (wpAny_loadPart I.at_ (wpAny_bind ((looks_clsIn hs.inK hcd _ _ _ _ (fun _ _ e => e) ?_)))))))
  rw [hdc]
  refine wpAny_pure (a := some d) (wpAny_bind (wpAny_pure (wpAny_bind ?_)))
  refine wpAny_put (s := { s with toks := s.toks + 1 }) ho h1 h2 fun h' o' es' ep' ho' hd' hk' hf' hsz' sb => ?_
  obtain ⟨u, hu, hb⟩ := bound_upd U
  have hu2 : (nsFind es name).map nv = u := h4 _ hu
  have hle : bound m' ≤ m.length := by
    have : m'.length = m.length := by have := congrArg List.length U.keys; simpa using this
    rw [← this]
    exact List.length_filter_le _ _
  have hes : es'.size ≤ bound m' := by
    rcases hsz' with ⟨e, hne⟩ | ⟨e, hne⟩
    · rw [e, hb]; split <;> omega
    · rw [hne] at hu2
      rw [← hu2] at hb
      rw [e, hb]
      simp; omega
  refine wpAny_bind (wpAny_lookBehind ho' (by rw [hd']; exact pastItsLine_dict (by rw [sizeLine_eq]; omega)) ?_)
  refine wpAny_pure ⟨cs', ?_, q⟩
  refine hs.to (Nat.succ_pos _) (hs.own.upd (U2.append R) (fun b y hb e => (sb.2 b hb).trans e) ho' ⟨es', ep', hd', hk', by rw [U.keys]; exact h3, fun p hp => ?_, hes⟩)
  rw [hf']
  rcases U.mem h3 hp with rfl | ⟨hne, hp⟩
  · simp
  · rw [if_neg hne]; exact h4 p hp
end
end Mine
end
noncomputable section
open PySem PySem.W PySem.Calls PyProof.Rows
namespace Mine

theorem lookup_of_mem {l : List (Str × Value)} {x : Str} {v : Value} (hn : (l.map Prod.fst).Nodup) (h : (x, v) ∈ l) : l.lookup x = some v := by
  induction l with
  | nil => cases h
  | cons p r ih =>
    obtain ⟨y, u⟩ := p
    simp only [List.map_cons, List.nodup_cons] at hn
    rcases List.mem_cons.mp h with e | e
    · obtain ⟨rfl, rfl⟩ := Prod.mk.inj e; simp [List.lookup_cons]
    · have : x ≠ y := fun q => hn.1 (q ▸ List.mem_map_of_mem e)
      rw [List.lookup_cons, beq_eq_false_iff_ne.mpr this]
      exact ih hn.2 e
theorem lookup_none {l : List (Str × Value)} {x : Str} (h : x ∉ l.map Prod.fst) : l.lookup x = none := by
  induction l with
  | nil => rfl
  | cons p r ih =>
    obtain ⟨y, u⟩ := p
    simp only [List.map_cons, List.mem_cons, not_or] at h
    rw [List.lookup_cons, beq_eq_false_iff_ne.mpr h.1]
    exact ih h.2

/-- the locals at a call's start -/
noncomputable def locals0 (ps rest : List Str) (args : List Value) : Fields := ps.zip (args.map some) ++ rest.map (fun x => (x, none))

theorem locals0_at {ps rest : List Str} {ws args : List Value} (hw : ws.map nv = args) (hl : ps.length = args.length) (hn : (ps ++ rest).Nodup) :
    ((locals0 ps rest args).map Prod.fst).Nodup ∧ ∀ p ∈ locals0 ps rest args, (((ps.zip ws).reverse).lookup p.1).map nv = p.2 := by
  have hl2 : ws.length = ps.length := by rw [hl, ← hw, List.length_map]
  have k1 : (ps.zip ws).map Prod.fst = ps := List.map_fst_zip (by omega)
  have k2 : (locals0 ps rest args).map Prod.fst = ps ++ rest := by
    unfold locals0
    rw [List.map_append, List.map_fst_zip (by simp; omega), List.map_map]
    congr 1
    exact List.map_id' _
  refine ⟨by rw [k2]; exact hn, fun p hp => ?_⟩
  have hps : ps.Nodup := (List.nodup_append.mp hn).1
  have hr : (((ps.zip ws).reverse).map Prod.fst).Nodup := by rw [List.map_reverse, k1]; exact (List.reverse_perm ps).nodup_iff.mpr hps
  rcases List.mem_append.mp hp with hp | hp
  · obtain ⟨x, o⟩ := p
    rw [← hw, List.map_map, List.zip_map_right] at hp
    obtain ⟨q, hq, e⟩ := List.mem_map.mp hp
    obtain ⟨y, w⟩ := q
    simp only [Prod.map_apply, id_eq, Function.comp_apply, Prod.mk.injEq] at e
    obtain ⟨rfl, rfl⟩ := e
    rw [lookup_of_mem hr (List.mem_reverse.mpr hq)]
    rfl
  · obtain ⟨x, hx, rfl⟩ := List.mem_map.mp hp
    rw [lookup_none]
    · rfl
    · rw [List.map_reverse, List.mem_reverse, k1]
      exact fun q => (List.nodup_append.mp hn).2.2 x q x hx rfl

theorem AOk.deeper {A : Around} {k : Nat} {env : Env} (h : AOk A (k + 1)) : AOk (A.deeper env) k := by
  obtain ⟨h1, h2, h3⟩ := h
  refine ⟨h1, ?_, ?_⟩
  · show A.depth + 1 + 10 * k ≤ 900; omega
  · show A.units + 3 + 40 * k ≤ 9000; omega

noncomputable def retv : Flow → Value
  | .ret v => v
  | _ => .none

/-- a call by its code -/
noncomputable def CodeV (c : Cx) (A : Around) (k : Nat) (cs : List Chunk) (f : Value) (args : List Value) (Q : Value → List Chunk → Prop) : Prop :=
  AOk A k → ∀ R s args', args'.map nv = args → St c (cs ++ R) s → codeAny (model c.prog c.w) A (.call f ⟨args', []⟩) (fun r s' => match r with
    | .ok (.ret v) => ∃ cs', St c (cs' ++ R) s' ∧ Q (nv v) cs'
    | _ => False) s

section
variable {c : Cx} {A : Around} {k : Nat} {cs cs' : List Chunk}

theorem CodeV.call {f : Value} {args : List Value} {Q : Value → List Chunk → Prop} (h : CodeV c A k cs f args Q) : CallV c A k cs f args Q := by
  intro hA R s vs hvs hs
  refine wpAny_call (codeAny_mono (h hA R s vs hvs hs) ?_)
  intro r s' q
  rcases r with e | (v | _ | _ | _) <;> first | exact q | exact q.elim
theorem CodeV.mono {f : Value} {args : List Value} {Q Q' : Value → List Chunk → Prop} (h : CodeV c A k cs f args Q) (q : ∀ v cs', Q v cs' → Q' v cs') : CodeV c A k cs f args Q' := by
  intro hA R s vs hvs hs
  refine codeAny_mono (h hA R s vs hvs hs) ?_
  intro r s' z
  rcases r with e | (v | _ | _ | _) <;> first | exact z.elim | (obtain ⟨a, b, d⟩ := z; exact ⟨a, b, q _ _ d⟩)
theorem CodeV.level {j : Nat} {f : Value} {args : List Value} {Q : Value → List Chunk → Prop} (h : CodeV c A j cs f args Q) (hj : j ≤ k) : CodeV c A k cs f args Q :=
  fun hA => h (hA.mono hj)
/-- by the footprint -/
theorem CodeV.by {F R₀ : List Chunk} {j : Nat} {f : Value} {args : List Value} {Q Q' : Value → List Chunk → Prop} (h : CodeV c A j F f args Q') (t : Take cs F R₀) (hj : j ≤ k) (q : ∀ v F', Q' v F' → Q v (F' ++ R₀)) : CodeV c A k cs f args Q := by
  intro hA R s vs hvs hs
  refine codeAny_mono (h (hA.mono hj) (R₀ ++ R) s vs hvs (hs.perm ((t.append_right R).trans (by rw [List.append_assoc])))) ?_
  intro r s' z
  rcases r with e | (v | _ | _ | _) <;> first | exact z.elim | (obtain ⟨F', b, d⟩ := z; exact ⟨F' ++ R₀, by rw [List.append_assoc]; exact b, q _ _ d⟩)

theorem K_fn {fa : Addr} {oc : Value} {od : Option Addr} {name qual : Str} {params : Arguments} {body : List Stmt} {scope : Scope} {dV kV doc pm cdv ct : Value} {an : Option Addr} {osl : Array (Option Value)} {args : List Value}
    (ho : c.K.lookup fa = some ⟨oc, od, .func (fnOf name qual params body scope dV kV doc pm an cdv ct), osl⟩) (hcd : codeIn c.K cdv qual = true) (ps rest gl : List Str) (dfl : List Value)
    (hb : ∀ (s : Shared) vs, c.K.In s.heap → vs.length = args.length → BindsTo s (fnOf name qual params body scope dV kV doc pm an cdv ct) ⟨vs, []⟩ (ps.zip (vs ++ dfl)))
    (hl : ps.length = args.length + dfl.length) (hn : (ps ++ rest).Nodup) (hloc : ∀ x ∈ ps ++ rest, scope.names.lookup x = some .local) (hgl : ∀ x ∈ gl, scope.names.lookup x = some .globalImplicit)
    (hcell : ∀ x ∈ scope.names, x.2 ≠ .cell) (hco : scope.isCoroutine = false) (hgen : scope.isGenerator = false) (hk : scope.kind = .function) (hne : cs ≠ [])
    {Q : Value → List Chunk → Prop} (h : ∀ i : Fi, GOk i gl → EXS c i k (locals0 ps rest (args ++ dfl.map nv)) cs body (fun fl _ cs' => Q (retv fl) cs')) : CodeV c A (k + 1) cs (.ref fa) args Q := by
  intro hA R s vs hvs hs
  have hlen : vs.length = args.length := by rw [← hvs, List.length_map]
  have hwl : (vs ++ dfl).map nv = args ++ dfl.map nv := by rw [List.map_append, hvs]
  have hpl : ps.length = (args ++ dfl.map nv).length := by rw [List.length_append, List.length_map, hl]
  have hk1 : (ps.zip (vs ++ dfl)).map Prod.fst = ps := List.map_fst_zip (by rw [List.length_append]; omega)
  refine codeAny_call_def (fd := fnOf name qual params body scope dV kV doc pm an cdv ct) (body := body) (binds := ps.zip (vs ++ dfl)) (by have := hA.2.1; unfold recursionLimit; omega)
    (hs.inK _ _ ho) rfl hs.nolimit (codeRec_of hs.inK hcd) rfl (hb s vs hs.inK hlen) hcell (fun x hx => hloc _ (List.mem_append_left _ (by rw [← hk1]; exact List.mem_map_of_mem hx))) (fun h₀ N hk₀ => ?_) hco hgen hk
  obtain ⟨z1, z2⟩ := locals0_at hwl hpl hn
  have F : FOk ⟨A.deeper (envOf qual scope s.heap.objs.size fa cdv), envOf qual scope s.heap.objs.size fa cdv, s.heap.objs.size⟩ k (locals0 ps rest (args ++ dfl.map nv)) := by
    refine ⟨⟨hk, rfl, rfl, rfl⟩, fun p hp => hloc _ ?_, hA.deeper⟩
    have : p.1 ∈ (locals0 ps rest (args ++ dfl.map nv)).map Prod.fst := List.mem_map_of_mem hp
    unfold locals0 at this
    rw [List.map_append, List.map_fst_zip (by simp only [List.length_map, List.length_append] at hpl ⊢; omega), List.map_map] at this
    rcases List.mem_append.mp this with q | q
    · exact List.mem_append_left _ q
    · refine List.mem_append_right _ ?_
      obtain ⟨y, hy, e⟩ := List.mem_map.mp q
      rw [← e]; exact hy
  obtain ⟨o, es, ep, hoL, hd, hsk, hf⟩ := N
  have hb0 : c.base.objs.size ≤ s.heap.objs.size := hs.own.size (by intro e; rw [List.append_eq_nil_iff] at e; exact hne e.1)
  have h1 : St c ((s.heap.objs.size, .ns (locals0 ps rest (args ++ dfl.map nv))) :: (cs ++ R)) { s with heap := h₀, toks := s.toks + (ps.zip (vs ++ dfl)).length } :=
    hs.to (by have := hs.pos; omega) (hs.own.new (heap_size_none _ (Nat.le_refl _)) hb0 hk₀ hoL ⟨es, ep, hd, hsk, z1, fun p hp => by rw [hf]; exact z2 p hp⟩)
  refine noE' (h ⟨A.deeper (envOf qual scope s.heap.objs.size fa cdv), envOf qual scope s.heap.objs.size fa cdv, s.heap.objs.size⟩ (fun x hx => hgl x hx) F R _ h1) ?_
  rintro fl s' ⟨m', cs1, z, h2, q⟩
  refine ⟨cs1, h2.sub (.cons _ (List.Sublist.refl _)), ?_⟩
  cases fl <;> exact q

/-- a bound method that stands in the heap -/
theorem K_bm {b f x : Addr} {args : List Value} {Q : Value → List Chunk → Prop} (hb : (b, .bm f x) ∈ cs) (h : CodeV c A k cs (.ref f) (.ref x :: args) Q) : CodeV c A k cs (.ref b) args Q := by
  intro hA R s vs hvs hs
  obtain ⟨o, ho, rfl⟩ := hs.at (List.mem_append_left R hb)
  exact method_call ho (h hA R s (.ref x :: vs) (by rw [List.map_cons, hvs]; rfl) hs)

theorem AOk.make {C : Addr} {rest : List Value} (h : AOk A (k + 1)) : AOk (A.under (.builtin "type.__call__" ⟨.ref C :: rest, []⟩)) k := by
  obtain ⟨h1, h2, h3⟩ := h
  refine ⟨h1, ?_, ?_⟩
  · show A.depth + Code.weight (.builtin "type.__call__" ⟨.ref C :: rest, []⟩) + 10 * k ≤ 900
    have : Code.weight (.builtin "type.__call__" ⟨.ref C :: rest, []⟩) = 1 := by simp [Code.weight, Code.isCreation, Code.isGuard, Code.isCaller, guardIds]; rfl
    omega
  · show A.units + Code.cUnits (.builtin "type.__call__" ⟨.ref C :: rest, []⟩) + 40 * k ≤ 9000
    have : Code.cUnits (.builtin "type.__call__" ⟨.ref C :: rest, []⟩) = 1 := rfl
    omega

/-- an own object made: itself, its empty dict, and its __init__ -/
theorem K_new {C fI : Addr} {args : List Value} {names : List Str} {Q : Value → List Chunk → Prop} (hm : makesIn c.K C = true) (hi : findIn c.K (.ref C) "__init__" = some (some (.ref fI))) (hf : typeIn c.K (.ref fI) = some (.type "function"))
    (hn : names.Nodup) (hne : cs ≠ []) (h : ∀ A x d, CodeV c A k ((x, .inst C d) :: (d, .obj (names.map fun n => (n, none))) :: cs) (.ref fI) (.ref x :: args) (fun v cs' => v = .none ∧ Q (.ref x) cs')) :
    CodeV c A (k + 1) cs (.ref C) args Q := by
  intro hA R s vs hvs hs
  obtain ⟨hh, g, d, t, os⟩ := s
  have hb0 : c.base.objs.size ≤ hh.objs.size := hs.own.size (by intro e; rw [List.append_eq_nil_iff] at e; exact hne e.1)
  refine make_core (makes_of hs.inK hm) (looks_findIn hs.inK hi) (fun self => bind_fn hs.inK self hf) (.inl rfl) ?_
  have o1 : Own c.base ((hh.objs.size, .obj (names.map fun n => (n, none))) :: (cs ++ R)) (hh.push emptyDict) :=
    hs.own.push hb0 rfl ⟨#[], 0, rfl, fun _ h => by simp at h, by simpa [List.map_map, Function.comp_def] using hn, fun p hp => by
      obtain ⟨n, _, rfl⟩ := List.mem_map.mp hp; rfl, Nat.zero_le _⟩
  have o2 : Own c.base ((hh.objs.size + 1, .inst C hh.objs.size) :: (hh.objs.size, .obj (names.map fun n => (n, none))) :: (cs ++ R)) ((hh.push emptyDict).push (instObj C hh.objs.size)) := by
    have := o1.push (ao := .inst C hh.objs.size) (x := instObj C hh.objs.size) (by rw [Heap.size_push]; omega) rfl rfl
    rwa [Heap.size_push] at this
  refine codeAny_mono (h _ (hh.objs.size + 1) hh.objs.size hA.make R _ (.ref (hh.objs.size + 1) :: vs) (by rw [List.map_cons, hvs]; rfl) ⟨hs.pos, hs.2.1, hs.2.2.1, o2⟩) ?_
  intro r s' z
  rcases r with e | (v | _ | _ | _) <;> first | exact z.elim | skip
  obtain ⟨cs', b, rv, q⟩ := z
  exact ⟨nv_none rv, cs', b, q⟩
end
end Mine
end
noncomputable section
open PySem PySem.W PySem.Calls PyProof.Rows
namespace Mine

section
variable {c : Cx} {i : Fi} {k : Nat} {m : Fields} {cs cs' : List Chunk}

/- ## pure expressions, by their parts -/
theorem PE_bin {l r : Expr} {op : Operator} {pos : Pos} {a b v : Value} (hl : PE c i k m cs l a) (hr : PE c i k m cs r b) (h : Op2 c i.A k cs (binaryOp op) a b nv (Is cs v)) : PE c i k m cs (.BinOp l op r pos) v :=
  EV_bin (hl.ev (hr.ev h))
theorem PE_cmp {l r : Expr} {op : CmpOp} {pos : Pos} {a b v : Value} (hl : PE c i k m cs l a) (hr : PE c i k m cs r b) (h : Op2 c i.A k cs (compareOp op) a b nv (Is cs v))
    (hm : behindInMarks op r = false := by with_unfolding_all rfl) : PE c i k m cs (.Compare l [op] [r] pos) v :=
  EV_cmp (hl.ev (hr.ev h)) hm
theorem PT_cmp {l r : Expr} {op : CmpOp} {pos : Pos} {a b : Value} {t : Bool} (hl : PE c i k m cs l a) (hr : PE c i k m cs r b) (h : Op2 c i.A k cs (compareOp op) a b nv (Is cs (.bool t)))
    (hm : behindInMarks op r = false := by with_unfolding_all rfl) : PT c i k m cs (.Compare l [op] [r] pos) t :=
  TV_cmp (hl.ev (hr.ev (h.is T_bool))) hm
theorem PT_not {e : Expr} {pos : Pos} {t : Bool} (h : PT c i k m cs e t) : PT c i k m cs (.UnaryOp .Not e pos) (!t) :=
  TV_not (h.mono fun _ _ ⟨a, b⟩ => ⟨by rw [a], b⟩)
theorem PT_plain {e : Expr} {v : Value} {t : Bool} (h : PE c i k m cs e v) (ht : Op1 c i.A k cs truthy v id (Is cs t))
    (he : ∀ env whole, isTrue e env whole = (do let v ← whole; standAt e.pos; holding [v] (truthy v)) := by intro _ _; rfl) : PT c i k m cs e t :=
  TV_plain (h.ev ht) he
theorem PT_or {x : Expr} {rest : List Expr} {pos : Pos} {p q : Bool} (h : PT c i k m cs x p) (h2 : p = false → PT c i k m cs (.BoolOp .Or rest pos) q) : PT c i k m cs (.BoolOp .Or (x :: rest) pos) (p || q) := by
  refine TV_or (h.tv ⟨fun e => ⟨by rw [e]; rfl, rfl⟩, fun e => ?_⟩)
  exact (h2 e).mono fun _ _ ⟨a, b⟩ => ⟨by rw [a, e]; rfl, b⟩
theorem PT_or_nil {pos : Pos} : PT c i k m cs (.BoolOp .Or [] pos) false := TV_or_nil ⟨rfl, rfl⟩
theorem PT_and {x : Expr} {rest : List Expr} {pos : Pos} {p q : Bool} (h : PT c i k m cs x p) (h2 : p = true → PT c i k m cs (.BoolOp .And rest pos) q) : PT c i k m cs (.BoolOp .And (x :: rest) pos) (p && q) := by
  refine TV_and (h.tv ⟨fun e => ?_, fun e => ⟨by rw [e]; rfl, rfl⟩⟩)
  exact (h2 e).mono fun _ _ ⟨a, b⟩ => ⟨by rw [a, e]; rfl, b⟩
theorem PT_and_nil {pos : Pos} : PT c i k m cs (.BoolOp .And [] pos) true := TV_and_nil ⟨rfl, rfl⟩
theorem PE_one {op : BoolOp} {e : Expr} {pos : Pos} {v : Value} (h : PE c i k m cs e v) : PE c i k m cs (.BoolOp op [e] pos) v := EV_boolop_one h
theorem PE_or {x y : Expr} {rest : List Expr} {pos : Pos} {p q : Bool} (h : PE c i k m cs x (.bool p)) (h2 : p = false → PE c i k m cs (.BoolOp .Or (y :: rest) pos) (.bool q)) : PE c i k m cs (.BoolOp .Or (x :: y :: rest) pos) (.bool (p || q)) := by
  refine EV_or (h.ev (T_bool.mono fun b cs1 ⟨e1, e2⟩ => ?_))
  subst e1 e2
  exact ⟨fun e => ⟨by rw [e]; rfl, rfl⟩, fun e => (h2 e).mono fun _ _ ⟨a, b⟩ => ⟨by rw [a, e]; rfl, b⟩⟩
theorem PE_and {x y : Expr} {rest : List Expr} {pos : Pos} {p q : Bool} (h : PE c i k m cs x (.bool p)) (h2 : p = true → PE c i k m cs (.BoolOp .And (y :: rest) pos) (.bool q)) : PE c i k m cs (.BoolOp .And (x :: y :: rest) pos) (.bool (p && q)) := by
  refine EV_and (h.ev (T_bool.mono fun b cs1 ⟨e1, e2⟩ => ?_))
  subst e1 e2
  exact ⟨fun e => (h2 e).mono fun _ _ ⟨a, b⟩ => ⟨by rw [a, e]; rfl, b⟩, fun e => ⟨by rw [e]; rfl, rfl⟩⟩
theorem PE_ifexp {test body orelse : Expr} {pos : Pos} {b : Bool} {v1 v2 : Value} (ht : PT c i k m cs test b) (h1 : b = true → PE c i k m cs body v1) (h2 : b = false → PE c i k m cs orelse v2) :
    PE c i k m cs (.IfExp test body orelse pos) (if b = true then v1 else v2) := by
  refine EV_ifexp (ht.tv ⟨fun e => ?_, fun e => ?_⟩)
  · exact (h1 e).mono fun _ _ ⟨a, b⟩ => ⟨by rw [a, if_pos e], b⟩
  · exact (h2 e).mono fun _ _ ⟨a, b⟩ => ⟨by rw [a, if_neg (by rw [e]; simp)], b⟩
theorem PE_chain {l r₁ r₂ : Expr} {op₁ op₂ : CmpOp} {pos : Pos} {a b d : Value} {p q : Bool} (hl : PE c i k m cs l a) (h1 : PE c i k m cs r₁ b) (o1 : Op2 c i.A k cs (compareOp op₁) a b nv (Is cs (.bool p)))
    (h2 : PE c i k m cs r₂ d) (o2 : Op2 c i.A k cs (compareOp op₂) b d nv (Is cs (.bool q)))
    (hm : lastMarks [op₁, op₂] [r₁, r₂] = false := by with_unfolding_all rfl) : PE c i k m cs (.Compare l [op₁, op₂] [r₁, r₂] pos) (.bool (p && q)) := by
  intro hF R s hs
  refine Compare_chain (rs := []) (noE (hl hF R s hs) ?_) hm
  rintro v1 s1 ⟨cs1, g1, e1, rfl⟩
  refine chain_link (noE (h1 hF R s1 g1) ?_)
  rintro v2 s2 ⟨cs2, g2, e2, rfl⟩
  refine noE (o1 hF.2.2 _ s2 v1 v2 e1 e2 (g2.perm mid)) ?_
  rintro v3 s3 ⟨cs3, g3, e3, rfl⟩
  rw [nv_bool e3]
  refine wpAny_truthy_bool ?_
  cases p with
  | false => exact ⟨cs3, g3.perm dim, rfl, rfl⟩
  | true =>
    simp only [if_true]
    refine chain_last (noE (h2 hF R s3 (g3.perm dim)) ?_)
    rintro v4 s4 ⟨cs4, g4, e4, rfl⟩
    refine noE (o2 hF.2.2 _ s4 v2 v4 e2 e4 (g4.perm mid)) ?_
    rintro v5 s5 ⟨cs5, g5, e5, rfl⟩
    exact ⟨cs5, g5.perm dim, e5, rfl⟩
theorem PT_chain {l r₁ r₂ : Expr} {op₁ op₂ : CmpOp} {pos : Pos} {a b d : Value} {p q : Bool} (hl : PE c i k m cs l a) (h1 : PE c i k m cs r₁ b) (o1 : Op2 c i.A k cs (compareOp op₁) a b nv (Is cs (.bool p)))
    (h2 : PE c i k m cs r₂ d) (o2 : Op2 c i.A k cs (compareOp op₂) b d nv (Is cs (.bool q)))
    (hm : lastMarks [op₁, op₂] [r₁, r₂] = false := by with_unfolding_all rfl) : PT c i k m cs (.Compare l [op₁, op₂] [r₁, r₂] pos) (p && q) := by
  intro hF R s hs
  refine isTrue_chain (rs := []) (noE (hl hF R s hs) ?_) hm
  rintro v1 s1 ⟨cs1, g1, e1, rfl⟩
  refine test_link (noE (h1 hF R s1 g1) ?_)
  rintro v2 s2 ⟨cs2, g2, e2, rfl⟩
  refine noE (o1 hF.2.2 _ s2 v1 v2 e1 e2 (g2.perm mid)) ?_
  rintro v3 s3 ⟨cs3, g3, e3, rfl⟩
  rw [nv_bool e3]
  refine wpAny_truthy_bool ?_
  cases p with
  | false => exact ⟨cs3, g3.perm dim, rfl, rfl⟩
  | true =>
    simp only [if_true]
    refine test_last (noE (h2 hF R s3 (g3.perm dim)) ?_)
    rintro v4 s4 ⟨cs4, g4, e4, rfl⟩
    refine noE (o2 hF.2.2 _ s4 v2 v4 e2 e4 (g4.perm mid)) ?_
    rintro v5 s5 ⟨cs5, g5, e5, rfl⟩
    rw [nv_bool e5]
    exact wpAny_truthy_bool ⟨cs5, g5.perm dim, rfl, rfl⟩
theorem PE_attr {e : Expr} {attr : Str} {pos : Pos} {o v : Value} (h : PE c i k m cs e o) (ha : Op1 c i.A k cs (fun v => getAttr v attr true) o nv (Is cs v))
    (he : ∀ env, eval (.Attribute e attr pos) env = (do
          let o ← eval e env
          standAt pos.atName
          let r ← holding [o] (getAttr o attr true)
          letTemporaryGo e o r
          pure r) := by intro _; rfl) : PE c i k m cs (.Attribute e attr pos) v := EV_attr (h.ev ha) he
theorem PE_sub {e j : Expr} {pos : Pos} {o n v : Value} (h : PE c i k m cs e o) (hj : PE c i k m cs j n) (ha : Op2 c i.A k cs (subscriptTail e j) o n nv (Is cs v)) : PE c i k m cs (.Subscript e j pos) v := EV_sub (h.ev (hj.ev ha))
theorem PE_neg {n : Int} {u : Nat} {p pos : Pos} : PE c i k m cs (.UnaryOp .USub (.Constant (.int n) u p) pos) (.int (-n) 0) := by
  intro hF R s hs
  refine UnaryOp_ (noE (PE_int (cs := cs) hF R s hs) ?_)
  rintro v s1 ⟨cs1, h1, e1, rfl⟩
  obtain ⟨-, t, rfl⟩ := nv_int e1
  exact neg_int ⟨cs1, h1.toks (Nat.succ_pos _), rfl, rfl⟩

/- calls of built-ins, of pure arguments -/
noncomputable def PEs (c : Cx) (i : Fi) (k : Nat) (m : Fields) (cs : List Chunk) (es : List Expr) (vs : List Value) : Prop := EVs c i k m cs es (fun vs' cs' => vs' = vs ∧ cs' = cs)
theorem PEs_nil : PEs c i k m cs [] [] := EVs_nil ⟨rfl, rfl⟩
theorem PEs_cons {e : Expr} {rest : List Expr} {v : Value} {vs : List Value} (h : PE c i k m cs e v) (h2 : PEs c i k m cs rest vs)
    (he : ∀ env, starEach (e :: rest) env = (false, eval e env) :: starEach rest env := by intro _; rfl) : PEs c i k m cs (e :: rest) (v :: vs) :=
  EVs_cons (h.ev (EVs.mono h2 fun _ _ ⟨a, b⟩ => ⟨by rw [a], b⟩)) he
theorem PEs.evs {es : List Expr} {vs : List Value} {Q : List Value → List Chunk → Prop} (h : PEs c i k m cs es vs) (q : Q vs cs) : EVs c i k m cs es Q :=
  EVs.mono h fun _ _ ⟨a, b⟩ => by subst a b; exact q
theorem EV_callB' {func e : Expr} {rest : List Expr} {pos : Pos} {f : String} {vs : List Value} {Q : Value → List Chunk → Prop} (hf : PE c i k m cs func (.builtin f)) (ha : PEs c i k m cs (e :: rest) vs) (h : CallV c i.A k cs (.builtin f) vs Q)
    (hc : ∀ env, eval (.Call func (e :: rest) [] pos) env = (do let f ← eval func env; callWith pos f [] (backTo pos (starEach (e :: rest) env)) (backToKw pos (keywordEach [] env))) := by intro _; rfl)
    (he : ∀ env, starEach (e :: rest) env = (false, eval e env) :: starEach rest env := by intro _; rfl)
    (hp : ∀ pos env, (backTo pos (starEach rest env)).any (·.1) = false := by intro _ _; rfl) : EV c i k m cs (.Call func (e :: rest) [] pos) Q := EV_callB hf (ha.evs h) hc he hp
theorem EV_callK' {func e : Expr} {rest : List Expr} {pos : Pos} {f : Addr} {vs : List Value} {Q : Value → List Chunk → Prop} (hf : PE c i k m cs func (.ref f)) (hk : keepIn c.K (.ref f) = true) (ha : PEs c i k m cs (e :: rest) vs) (h : CodeV c i.A k cs (.ref f) vs Q)
    (hc : ∀ env, eval (.Call func (e :: rest) [] pos) env = (do let f ← eval func env; callWith pos f [] (backTo pos (starEach (e :: rest) env)) (backToKw pos (keywordEach [] env))) := by intro _; rfl)
    (he : ∀ env, starEach (e :: rest) env = (false, eval e env) :: starEach rest env := by intro _; rfl)
    (hp : ∀ pos env, (backTo pos (starEach rest env)).any (·.1) = false := by intro _ _; rfl) : EV c i k m cs (.Call func (e :: rest) [] pos) Q := EV_callK hf hk (ha.evs h.call) hc he hp

/- methods of built-in kinds -/
theorem M_str {A : Around} {x : List Nat} {name : Str} {id : String} {Q : Value → List Value → List Chunk → Prop} (slot : Slot "str" name id) (hty : typeOf (.builtin id) = pure (.type "method_descriptor"))
    (q : Q (.builtin id) [.str ⟨x.toArray⟩ 0] cs) : GetM c A k cs (.str ⟨x.toArray⟩ 0) name Q := by
  intro _ R s a' pl ha hs
  obtain ⟨-, t, rfl⟩ := nv_str ha
  exact getMethod_builtin (typeIs_str _ _ _) F.plainAttrs_str slot hty (fun a e => by cases e) ⟨cs, hs, q⟩
theorem M_list {A : Around} {a : Addr} {vs : List Value} {name : Str} {id : String} {Q : Value → List Value → List Chunk → Prop} (h : (a, .list vs) ∈ cs) (slot : Slot "list" name id) (hty : typeOf (.builtin id) = pure (.type "method_descriptor"))
    (q : Q (.builtin id) [.ref a] cs) : GetM c A k cs (.ref a) name Q := by
  intro _ R s a' pl ha hs
  rw [nv_ref ha]
  obtain ⟨o, ho, its, n, rfl, hi⟩ := hs.at (List.mem_append_left R h)
  exact getMethod_builtin ⟨_, ho, rfl⟩ F.plainAttrs_list slot hty (fun b e => by cases e; exact ⟨_, ho, rfl⟩) ⟨cs, hs, q⟩

/-- a method call, the receiver and the arguments pure -/
theorem EV_methP {o e : Expr} {rest : List Expr} {name : Str} {apos pos : Pos} {ov : Value} {vs : List Value} {Q : Value → List Chunk → Prop} (ho : PE c i k m cs o ov) (ha : PEs c i k m cs (e :: rest) vs)
    (h : GetM c i.A k cs ov name (fun f first cs2 => cs2 = cs ∧ ((∃ b, f = .builtin b) ∨ (∃ a, f = .ref a ∧ keepIn c.K f = true)) ∧ CallV c i.A k cs f (first ++ vs) Q))
    (hc : MCall o name (e :: rest) apos pos := by intro _; exact ⟨_, rfl⟩)
    (he : ∀ env, starEach (e :: rest) env = (false, eval e env) :: starEach rest env := by intro _; rfl)
    (hp : ∀ pos env, (backTo pos (starEach rest env)).any (·.1) = false := by intro _ _; rfl) : EV c i k m cs (.Call (.Attribute o name apos) (e :: rest) [] pos) Q := by
  refine EV_meth (ho.ev ?_) hc he hp
  intro hA R s a' pl e1 hs
  refine noE (h hA R s a' pl e1 hs) ?_
  rintro fx s1 ⟨cs1, h1, rfl, h2, h3⟩
  exact ⟨cs1, h1, h2, ha.evs h3⟩
theorem EV_methP0 {o : Expr} {name : Str} {apos pos : Pos} {ov : Value} {Q : Value → List Chunk → Prop} (ho : PE c i k m cs o ov)
    (h : GetM c i.A k cs ov name (fun f first cs2 => cs2 = cs ∧ ((∃ b, f = .builtin b) ∨ (∃ a, f = .ref a ∧ keepIn c.K f = true)) ∧ CallV c i.A k cs f first Q))
    (hc : MCall o name [] apos pos := by intro _; exact ⟨_, rfl⟩) : EV c i k m cs (.Call (.Attribute o name apos) [] [] pos) Q := by
  refine EV_meth0 (ho.ev ?_) hc
  intro hA R s a' pl e1 hs
  refine noE (h hA R s a' pl e1 hs) ?_
  rintro fx s1 ⟨cs1, h1, rfl, h2, h3⟩
  exact ⟨cs1, h1, h2, h3⟩

/-- a method of an own object, called with pure arguments -/
theorem EV_instM {o e : Expr} {rest : List Expr} {name : Str} {apos pos : Pos} {x C d f : Addr} {fm : Fields} {vs : List Value} {Q : Value → List Chunk → Prop} (ho : PE c i k m cs o (.ref x)) (ha : PEs c i k m cs (e :: rest) vs)
    (hx : (x, .inst C d) ∈ cs) (hd : (d, .obj fm) ∈ cs) (hv : (name, none) ∈ fm) (hg : plainGet c.K C name = true) (hf : findIn c.K (.ref C) name = some (some (.ref f))) (hfn : isFn c.K (.ref f) = true) (hk : keepIn c.K (.ref f) = true)
    (h : CodeV c i.A k cs (.ref f) (.ref x :: vs) Q)
    (hc : MCall o name (e :: rest) apos pos := by intro _; exact ⟨_, rfl⟩)
    (he : ∀ env, starEach (e :: rest) env = (false, eval e env) :: starEach rest env := by intro _; rfl)
    (hp : ∀ pos env, (backTo pos (starEach rest env)).any (·.1) = false := by intro _ _; rfl) : EV c i k m cs (.Call (.Attribute o name apos) (e :: rest) [] pos) Q :=
  EV_methP ho ha (M_fn hx hd hv hg hf hfn ⟨rfl, .inr ⟨f, rfl, hk⟩, h.call⟩) hc he hp
theorem EV_instM0 {o : Expr} {name : Str} {apos pos : Pos} {x C d f : Addr} {fm : Fields} {Q : Value → List Chunk → Prop} (ho : PE c i k m cs o (.ref x))
    (hx : (x, .inst C d) ∈ cs) (hd : (d, .obj fm) ∈ cs) (hv : (name, none) ∈ fm) (hg : plainGet c.K C name = true) (hf : findIn c.K (.ref C) name = some (some (.ref f))) (hfn : isFn c.K (.ref f) = true) (hk : keepIn c.K (.ref f) = true)
    (h : CodeV c i.A k cs (.ref f) [.ref x] Q)
    (hc : MCall o name [] apos pos := by intro _; exact ⟨_, rfl⟩) : EV c i k m cs (.Call (.Attribute o name apos) [] [] pos) Q :=
  EV_methP0 ho (M_fn hx hd hv hg hf hfn ⟨rfl, .inr ⟨f, rfl, hk⟩, h.call⟩) hc

/-- a bound method kept in an own dict, called -/
theorem EV_ownM {o e : Expr} {rest : List Expr} {name : Str} {apos pos : Pos} {x C d f b : Addr} {fm : Fields} {vs : List Value} {attr : Option Value} {Q : Value → List Chunk → Prop} (ho : PE c i k m cs o (.ref x)) (ha : PEs c i k m cs (e :: rest) vs)
    (hx : (x, .inst C d) ∈ cs) (hd : (d, .obj fm) ∈ cs) (hv : (name, some (.ref b)) ∈ fm) (hb : (b, .bm f x) ∈ cs) (hg : plainGet c.K C name = true) (hh : hasDictIn c.K C = true) (hf : findIn c.K (.ref C) name = some attr) (hn : noGet c.K attr = true)
    (ht : attr.all (fun a => (typeIn c.K a).any fun t => t != .type "function" && t != .type "method_descriptor" && t != .type "wrapper_descriptor") = true) (hfn : fnIn c.K f = true)
    (h : CodeV c i.A k cs (.ref f) (.ref x :: vs) Q)
    (hc : MCall o name (e :: rest) apos pos := by intro _; exact ⟨_, rfl⟩)
    (he : ∀ env, starEach (e :: rest) env = (false, eval e env) :: starEach rest env := by intro _; rfl)
    (hp : ∀ pos env, (backTo pos (starEach rest env)).any (·.1) = false := by intro _ _; rfl) : EV c i k m cs (.Call (.Attribute o name apos) (e :: rest) [] pos) Q := by
  intro hF R s hs
  obtain ⟨pl, hc⟩ := hc i.env
  refine methodCall_KW (pl := pl) (noE (ho hF R s hs) ?_) hc
  rintro ov s1 ⟨cs1, h1, e1, rfl⟩
  refine noE (M_own (Q := fun f first cs2 => f = .ref b ∧ first = [] ∧ cs2 = cs1) hx hd hv hg hh hf hn rfl ht ⟨b, rfl⟩ ⟨rfl, rfl, rfl⟩ hF.2.2 _ s1 ov pl e1 (h1.perm mid)) ?_
  rintro ⟨f', first⟩ s2 ⟨cs2, h2, rfl, hfi, rfl⟩
  have h2 := h2.perm dim
  have hfi : first = [] := List.map_eq_nil_iff.mp hfi
  subst hfi
  have hh := ha hF R s2 pos h2
  rw [he] at hh
  show wpAny _ _ (callWith pos (.ref b) [] (backTo pos (starEach (e :: rest) i.env)) []) _ _ _
  rw [he]
  refine callWith_of (P := fun h => MethP c.K b f (.ref x) h) (by show ((false || (backTo pos (starEach rest i.env)).any (·.1)) || false) = false; rw [hp]; rfl) (keeps_M hfn) (Calls.evalArgs_plain (noE hh ?_))
  rintro vs' s3 ⟨cs3, h3, e3, rfl⟩
  obtain ⟨ob, hob, rfl⟩ := h3.at (List.mem_cons_of_mem _ (List.mem_append_left R hb))
  refine ⟨⟨hob, h3.inK⟩, ?_⟩
  refine noE ((K_bm hb h).call hF.2.2 _ s3 ([] ++ vs') (by simpa using e3) (h3.perm mid)) ?_
  rintro v s4 ⟨cs4, h4, q4⟩
  exact ⟨cs4, h4.perm dim, q4⟩
end
end Mine
end
noncomputable section
open PySem PySem.W PySem.Calls PyProof.Rows
namespace Mine
/- ## a run of the module's top, step by step: what a tree does whatever stands behind it -/
section
variable {tb : String → Option Builtin} {P : Program} {w : World} {n₀ : Nat} {ann : Option Value} {b : List Stmt} {env : Env} {q : Pos} {α β : Type} {gd : Bool → Bool} {lv : List Value → List Value}
noncomputable def Red (tb : String → Option Builtin) (P : Program) (w : World) (n₀ : Nat) (ann : Option Value) (b : List Stmt) (env : Env) (q : Pos) (gd : Bool → Bool) (lv : List Value → List Value) {α : Type} (n : Nat) (x : Sem α) (s : Shared) (p : Pos) (a : α) (s' : Shared) (p' : Pos) : Prop :=
  ∀ (K : α → Sem Fin) (H : Value → Sem Fin) (N : Nat) (r : Shared), topRun tb P w n₀ ann N s' ⟨K a, .body b env, p', [topFrame q]⟩ = some r → topRun tb P w n₀ ann (n + N) s ⟨x.wrap K H gd lv, .body b env, p, [topFrame q]⟩ = some r
theorem top_step {N : Nat} {s s' r : Shared} {t t' : Thread} (h1 : through t = false) (h2 : stepOk n₀ ann t = true) (h3 : step (denote tb) P w s t = .go s' t') (k : topRun tb P w n₀ ann N s' t' = some r) : topRun tb P w n₀ ann (1 + N) s t = some r := by
  rw [Nat.add_comm]
  unfold topRun
  rw [h1, h2, h3]
  exact k
theorem Red.pure {s : Shared} {p : Pos} {a : α} : Red tb P w n₀ ann b env q gd lv 0 (Sem.pure a) s p a s p := fun K H N r h => by rw [Nat.zero_add]; exact h
theorem Red.bind {n m : Nat} {x : Sem α} {f : α → Sem β} {s s1 s2 : Shared} {p p1 p2 : Pos} {a : α} {v : β} (h : Red tb P w n₀ ann b env q gd lv n x s p a s1 p1) (k : Red tb P w n₀ ann b env q gd lv m (f a) s1 p1 v s2 p2) :
    Red tb P w n₀ ann b env q gd lv (n + m) (x >>= f) s p v s2 p2 := fun K H N r e => by
  rw [Sem.bind_eq_wrap', Sem.wrap_wrap, Nat.add_assoc]
  exact h _ _ _ r (k K H N r e)
theorem Red.at {s : Shared} {p p' : Pos} : Red tb P w n₀ ann b env q gd lv 1 (standAt p') s p () s p' := fun K H N r h => top_step rfl rfl rfl h
theorem Red.ask {s : Shared} {p : Pos} : Red tb P w n₀ ann b env q gd lv 1 PySem.ask s p ⟨P, w.params⟩ s p := fun K H N r h => top_step rfl rfl rfl h
theorem Red.rule {s : Shared} {p : Pos} {t : String} : Red tb P w n₀ ann b env q gd lv 1 (PySem.rule t) s p () s p := fun K H N r h => top_step rfl rfl rfl h
theorem Red.fresh {s : Shared} {p : Pos} : Red tb P w n₀ ann b env q gd lv 1 PySem.fresh s p s.toks { s with toks := s.toks + 1 } p := fun K H N r h => top_step rfl rfl rfl h
theorem Red.alloc {s : Shared} {p : Pos} {o : Obj} : Red tb P w n₀ ann b env q gd lv 1 (PySem.alloc o) s p s.heap.objs.size { s with heap := s.heap.push o } p := fun K H N r h => top_step rfl rfl rfl h
theorem Red.load {s : Shared} {p : Pos} {a : Addr} {o : Obj} (ho : s.heap.get? a = some o) : Red tb P w n₀ ann b env q gd lv 1 (PySem.load a) s p o s p := fun K H N r h => by
  refine top_step (s' := s) rfl rfl ?_ h
  obtain ⟨heap, gens, drawn, toks, os⟩ := s
  show (match heap.get? a with | some o => _ | none => _) = _
  rw [show heap.get? a = some o from ho]
  rfl
theorem Red.update {s : Shared} {p : Pos} {a : Addr} {o : Obj} {f : Obj → Obj} (ho : s.heap.get? a = some o) (hn : Nat.ble n₀ a = true) : Red tb P w n₀ ann b env q gd lv 1 (PySem.update a f) s p () { s with heap := s.heap.update a f } p := fun K H N r h => by
  refine top_step (s' := { s with heap := s.heap.update a f }) rfl ?_ ?_ h
  · show (_ && (Nat.ble n₀ a || _ || _ || _)) = true
    rw [hn]; rfl
  · obtain ⟨heap, gens, drawn, toks, os⟩ := s
    show (if (heap.get? a).isSome then _ else _) = _
    rw [if_pos (by rw [show heap.get? a = some o from ho]; rfl)]
    rfl
theorem Red.keep {n : Nat} {x : Sem α} {vs : List Value} {s s' : Shared} {p p' : Pos} {a : α} (h : Red tb P w n₀ ann b env q gd (fun l => lv (vs ++ l)) n x s p a s' p') : Red tb P w n₀ ann b env q gd lv n (x.keep vs) s p a s' p' := fun K H N r e => by
  rw [Sem.keep_eq_wrap, Sem.wrap_wrap]
  exact h K _ N r e
theorem Red.seg {n : Nat} {x : Sem α} {res : α → Flow} (hi : ∀ a b, res a = res b → a = b) {s s' : Shared} {p p' : Pos} {a : α} {c' : Code}
    (h : segRun tb P w n₀ ann 1 n s ⟨x.wrap (fun a => .pure (.done (res a))) deadEnd gd lv, .body b env, p, [topFrame q]⟩ = some (res a, s', c', p')) (hc : c' = .body b env) : Red tb P w n₀ ann b env q gd lv n x s p a s' p' := fun K H N r e => by
  subst hc
  obtain ⟨a', ha, hN⟩ := seg_top (res := res) (K' := K) (H' := H) (gd := gd) (lv := lv) (B := [topFrame q]) rfl n s ⟨x.wrap (fun a => .pure (.done (res a))) deadEnd gd lv, .body b env, p, [topFrame q]⟩ ⟨x.wrap K H gd lv, .body b env, p, [topFrame q]⟩ _ _ _ _ ⟨rfl, rfl, .inl ⟨rfl, rfl, x, rfl, rfl⟩⟩ h
  rw [hi _ _ ha] at hN
  exact hN N r e
end
end Mine
end
noncomputable section
open PySem PySem.W PyProof.Rows
namespace Mine
/- ## the head: the written part by its places in the row's own program -/
noncomputable def stAt (i : Nat) : Stmt := PySem.Challenge.pw_im0056_02.main.body.getD i (.Pass ⟨0, 0, 0, 0⟩)
noncomputable def stIn (i j : Nat) : Stmt := match stAt i with
  | .ClassDef _ _ _ b _ _ _ _ _ _ _ => b.getD j (.Pass ⟨0, 0, 0, 0⟩)
  | s => s
noncomputable def fdArgs : Stmt → Arguments
  | .FunctionDef _ a _ _ _ _ _ _ _ _ => a
  | _ => ⟨[], [], none, [], [], none, []⟩
noncomputable def fdBody : Stmt → List Stmt
  | .FunctionDef _ _ b _ _ _ _ _ _ _ => b
  | _ => []
noncomputable def fdScope : Stmt → Scope
  | .FunctionDef _ _ _ _ _ _ s _ _ _ => s
  | _ => { kind := .function, names := [], isGenerator := false, isCoroutine := false }
noncomputable def heapW : Params → Frag := fun P =>
  (nat_lit 2, (PySem.Obj.mk PySem.Value.none Option.none (PySem.Data.dict (List.toArray []) 0) (List.toArray []))) ::
  (nat_lit 3, (PySem.Obj.mk (PySem.Value.type "dict") Option.none (PySem.Data.dict (List.toArray [(PySem.DictEntry.mk (PySem.PyData.keyHash P (PySem.Str.ofString "__name__")) (PySem.Value.str (PySem.Str.ofString "__name__") 165) (PySem.Value.str (PySem.Str.ofString "law_im0056_02") 362)), (PySem.DictEntry.mk (PySem.PyData.keyHash P (PySem.Str.ofString "__doc__")) (PySem.Value.str (PySem.Str.ofString "__doc__") 166) PySem.Value.none), (PySem.DictEntry.mk (PySem.PyData.keyHash P (PySem.Str.ofString "__package__")) (PySem.Value.str (PySem.Str.ofString "__package__") 167) PySem.Value.none), (PySem.DictEntry.mk (PySem.PyData.keyHash P (PySem.Str.ofString "__loader__")) (PySem.Value.str (PySem.Str.ofString "__loader__") 168) (PySem.Value.builtin "__main__.__loader__#opaque")), (PySem.DictEntry.mk (PySem.PyData.keyHash P (PySem.Str.ofString "__spec__")) (PySem.Value.str (PySem.Str.ofString "__spec__") 169) PySem.Value.none), (PySem.DictEntry.mk (PySem.PyData.keyHash P (PySem.Str.ofString "__annotations__")) (PySem.Value.str (PySem.Str.ofString "__annotations__") 170) (PySem.Value.ref 6)), (PySem.DictEntry.mk (PySem.PyData.keyHash P (PySem.Str.ofString "__builtins__")) (PySem.Value.str (PySem.Str.ofString "__builtins__") 171) (PySem.Value.ref 4)), (PySem.DictEntry.mk (PySem.PyData.keyHash P (PySem.Str.ofString "__file__")) (PySem.Value.str (PySem.Str.ofString "__file__") 173) (PySem.Value.str (PySem.Str.ofString "/claim/cut.py") 172)), (PySem.DictEntry.mk (PySem.PyData.keyHash P (PySem.Str.ofString "__cached__")) (PySem.Value.str (PySem.Str.ofString "__cached__") 174) PySem.Value.none), (PySem.DictEntry.mk (PySem.PyData.keyHash P (PySem.Str.ofString "EOF")) (PySem.Value.str (PySem.Str.ofString "EOF") 187) PySem.Value.none), (PySem.DictEntry.mk (PySem.PyData.keyHash P (PySem.Str.ofString "Text")) (PySem.Value.str (PySem.Str.ofString "Text") 228) (PySem.Value.ref 38)), (PySem.DictEntry.mk (PySem.PyData.keyHash P (PySem.Str.ofString "_is_invalid")) (PySem.Value.str (PySem.Str.ofString "_is_invalid") 235) (PySem.Value.ref 49)), (PySem.DictEntry.mk (PySem.PyData.keyHash P (PySem.Str.ofString "HTMLUnicodeInputStream")) (PySem.Value.str (PySem.Str.ofString "HTMLUnicodeInputStream") 361) (PySem.Value.ref 131)), (PySem.DictEntry.mk (PySem.PyData.keyHash P (PySem.Str.ofString "_law_SIGNS")) (PySem.Value.str (PySem.Str.ofString "_law_SIGNS") 369) (PySem.Value.ref 142)), (PySem.DictEntry.mk (PySem.PyData.keyHash P (PySem.Str.ofString "_law_ROWS")) (PySem.Value.str (PySem.Str.ofString "_law_ROWS") 382) (PySem.Value.ref 146)), (PySem.DictEntry.mk (PySem.PyData.keyHash P (PySem.Str.ofString "_law_sign")) (PySem.Value.str (PySem.Str.ofString "_law_sign") 390) (PySem.Value.ref 153)), (PySem.DictEntry.mk (PySem.PyData.keyHash P (PySem.Str.ofString "_law_faulty")) (PySem.Value.str (PySem.Str.ofString "_law_faulty") 397) (PySem.Value.ref 160)), (PySem.DictEntry.mk (PySem.PyData.keyHash P (PySem.Str.ofString "_law_anew")) (PySem.Value.str (PySem.Str.ofString "_law_anew") 404) (PySem.Value.ref 167)), (PySem.DictEntry.mk (PySem.PyData.keyHash P (PySem.Str.ofString "_law_fill")) (PySem.Value.str (PySem.Str.ofString "_law_fill") 420) (PySem.Value.ref 174)), (PySem.DictEntry.mk (PySem.PyData.keyHash P (PySem.Str.ofString "_law_pass")) (PySem.Value.str (PySem.Str.ofString "_law_pass") 433) (PySem.Value.ref 181)), (PySem.DictEntry.mk (PySem.PyData.keyHash P (PySem.Str.ofString "_law_read")) (PySem.Value.str (PySem.Str.ofString "_law_read") 441) (PySem.Value.ref 188)), (PySem.DictEntry.mk (PySem.PyData.keyHash P (PySem.Str.ofString "_law_run")) (PySem.Value.str (PySem.Str.ofString "_law_run") 452) (PySem.Value.ref 195)), (PySem.DictEntry.mk (PySem.PyData.keyHash P (PySem.Str.ofString "_law_back")) (PySem.Value.str (PySem.Str.ofString "_law_back") 466) (PySem.Value.ref 202)), (PySem.DictEntry.mk (PySem.PyData.keyHash P (PySem.Str.ofString "_law_right")) (PySem.Value.str (PySem.Str.ofString "_law_right") 475) (PySem.Value.ref 209)), (PySem.DictEntry.mk (PySem.PyData.keyHash P (PySem.Str.ofString "law")) (PySem.Value.str (PySem.Str.ofString "law") 481) (PySem.Value.ref 214))]) 25) (List.toArray []))) ::
  (nat_lit 15, (PySem.Obj.mk (PySem.Value.type "tuple") Option.none (PySem.Data.seq (List.toArray [(PySem.Value.type "object")]) 0) (List.toArray []))) ::
  (nat_lit 22, (PySem.Obj.mk (PySem.Value.type "tuple") Option.none (PySem.Data.seq (List.toArray []) 0) (List.toArray []))) ::
  (nat_lit 24, (PySem.Obj.mk (PySem.Value.type "tuple") Option.none (PySem.Data.seq (List.toArray [(PySem.Value.str (PySem.Str.ofString "self") 205), (PySem.Value.str (PySem.Str.ofString "text") 206)]) 0) (List.toArray []))) ::
  (nat_lit 25, (PySem.Obj.mk (PySem.Value.type "tuple") Option.none (PySem.Data.seq (List.toArray []) 0) (List.toArray []))) ::
  (nat_lit 27, (PySem.Obj.mk (PySem.Value.type "code") Option.none (PySem.Data.fields (List.toArray [(PySem.Value.str (PySem.Str.ofString "__init__") 202), (PySem.Value.str (PySem.Str.ofString "Text.__init__") 203), (PySem.Value.str (PySem.Str.ofString "/claim/cut.py") 204), (PySem.Value.int 5 0), (PySem.Value.int 2 0), (PySem.Value.int 0 0), (PySem.Value.int 0 0), (PySem.Value.int 3 0), (PySem.Value.ref 22), (PySem.Value.bool Bool.true), (PySem.Value.int 181 0), (PySem.Value.ref 23), PySem.Value.none, (PySem.Value.ref 24), (PySem.Value.ref 25), (PySem.Value.ref 26), (PySem.Value.int 207 0), (PySem.Value.int 5 0), (PySem.Value.str (PySem.Str.ofString "/claim/cut.py") 208)])) (List.toArray []))) ::
  (nat_lit 28, (PySem.Obj.mk (PySem.Value.type "function") Option.none (PySem.Data.func (PySem.FuncData.mk (PySem.Str.ofString "__init__") (PySem.Str.ofString "Text.__init__") (fdArgs (stIn 2 0)) (.stmts (fdBody (stIn 2 0))) (fdScope (stIn 2 0)) 3 [] PySem.Value.none PySem.Value.none PySem.Value.none (PySem.Value.str (PySem.Str.ofString "html5lib._inputstream") 188) Option.none (PySem.Value.ref 27) PySem.Value.none 0)) (List.toArray []))) ::
  (nat_lit 29, (PySem.Obj.mk (PySem.Value.type "tuple") Option.none (PySem.Data.seq (List.toArray []) 0) (List.toArray []))) ::
  (nat_lit 31, (PySem.Obj.mk (PySem.Value.type "tuple") Option.none (PySem.Data.seq (List.toArray [(PySem.Value.str (PySem.Str.ofString "self") 213), (PySem.Value.str (PySem.Str.ofString "size") 214), (PySem.Value.str (PySem.Str.ofString "part") 215)]) 0) (List.toArray []))) ::
  (nat_lit 32, (PySem.Obj.mk (PySem.Value.type "tuple") Option.none (PySem.Data.seq (List.toArray []) 0) (List.toArray []))) ::
  (nat_lit 34, (PySem.Obj.mk (PySem.Value.type "code") Option.none (PySem.Data.fields (List.toArray [(PySem.Value.str (PySem.Str.ofString "read") 210), (PySem.Value.str (PySem.Str.ofString "Text.read") 211), (PySem.Value.str (PySem.Str.ofString "/claim/cut.py") 212), (PySem.Value.int 9 0), (PySem.Value.int 2 0), (PySem.Value.int 0 0), (PySem.Value.int 0 0), (PySem.Value.int 3 0), (PySem.Value.ref 29), (PySem.Value.bool Bool.true), (PySem.Value.int 181 0), (PySem.Value.ref 30), PySem.Value.none, (PySem.Value.ref 31), (PySem.Value.ref 32), (PySem.Value.ref 33), (PySem.Value.int 216 0), (PySem.Value.int 9 0), (PySem.Value.str (PySem.Str.ofString "/claim/cut.py") 217)])) (List.toArray []))) ::
  (nat_lit 35, (PySem.Obj.mk (PySem.Value.type "function") Option.none (PySem.Data.func (PySem.FuncData.mk (PySem.Str.ofString "read") (PySem.Str.ofString "Text.read") (fdArgs (stIn 2 1)) (.stmts (fdBody (stIn 2 1))) (fdScope (stIn 2 1)) 3 [] PySem.Value.none PySem.Value.none PySem.Value.none (PySem.Value.str (PySem.Str.ofString "html5lib._inputstream") 188) Option.none (PySem.Value.ref 34) PySem.Value.none 0)) (List.toArray []))) ::
  (nat_lit 36, (PySem.Obj.mk (PySem.Value.type "tuple") Option.none (PySem.Data.seq (List.toArray [(PySem.Value.str (PySem.Str.ofString "place") 219), (PySem.Value.str (PySem.Str.ofString "text") 220)]) 0) (List.toArray []))) ::
  (nat_lit 37, (PySem.Obj.mk (PySem.Value.type "dict") Option.none (PySem.Data.dict (List.toArray [(PySem.DictEntry.mk (PySem.PyData.keyHash P (PySem.Str.ofString "__module__")) (PySem.Value.str (PySem.Str.ofString "__module__") 197) (PySem.Value.str (PySem.Str.ofString "html5lib._inputstream") 188)), (PySem.DictEntry.mk (PySem.PyData.keyHash P (PySem.Str.ofString "__firstlineno__")) (PySem.Value.str (PySem.Str.ofString "__firstlineno__") 201) (PySem.Value.int 3 200)), (PySem.DictEntry.mk (PySem.PyData.keyHash P (PySem.Str.ofString "__init__")) (PySem.Value.str (PySem.Str.ofString "__init__") 209) (PySem.Value.ref 28)), (PySem.DictEntry.mk (PySem.PyData.keyHash P (PySem.Str.ofString "read")) (PySem.Value.str (PySem.Str.ofString "read") 218) (PySem.Value.ref 35)), (PySem.DictEntry.mk (PySem.PyData.keyHash P (PySem.Str.ofString "__static_attributes__")) (PySem.Value.str (PySem.Str.ofString "__static_attributes__") 221) (PySem.Value.ref 36)), (PySem.DictEntry.mk (PySem.PyData.keyHash P (PySem.Str.ofString "__dict__")) (PySem.Value.str (PySem.Str.ofString "__dict__") 223) (PySem.Value.ref 39)), (PySem.DictEntry.mk (PySem.PyData.keyHash P (PySem.Str.ofString "__weakref__")) (PySem.Value.str (PySem.Str.ofString "__weakref__") 225) (PySem.Value.ref 40)), (PySem.DictEntry.mk (PySem.PyData.keyHash P (PySem.Str.ofString "__doc__")) (PySem.Value.str (PySem.Str.ofString "__doc__") 226) PySem.Value.none)]) 4) (List.toArray []))) ::
  (nat_lit 38, (PySem.Obj.mk (PySem.Value.type "type") Option.none (PySem.Data.cls (PySem.ClassData.mk (PySem.Str.ofString "Text") [(PySem.Value.type "object")] [(PySem.Value.ref 38), (PySem.Value.type "object")] 37 (PySem.Str.ofString "Text") Bool.true [] [] Bool.false Option.none Bool.false)) (List.toArray [(Option.some (PySem.Value.ref 15)), Option.none, (Option.some (PySem.Value.str (PySem.Str.ofString "Text") 190)), (Option.some (PySem.Value.str (PySem.Str.ofString "Text") 198)), (Option.some (PySem.Value.builtin "object.__new__")), (Option.some (PySem.Value.bool Bool.true))]))) ::
  (nat_lit 39, (PySem.Obj.mk (PySem.Value.type "getset_descriptor") Option.none (PySem.Data.fields (List.toArray [(PySem.Value.str (PySem.Str.ofString "__dict__") 222), (PySem.Value.ref 38), (PySem.Value.builtin "function.__dict__"), (PySem.Value.builtin "function.__dict__#set")])) (List.toArray []))) ::
  (nat_lit 40, (PySem.Obj.mk (PySem.Value.type "getset_descriptor") Option.none (PySem.Data.fields (List.toArray [(PySem.Value.str (PySem.Str.ofString "__weakref__") 224), (PySem.Value.ref 38), (PySem.Value.builtin "ExceptionGroup.__weakref__"), PySem.Value.none])) (List.toArray []))) ::
  (nat_lit 43, (PySem.Obj.mk (PySem.Value.type "tuple") Option.none (PySem.Data.seq (List.toArray []) 0) (List.toArray []))) ::
  (nat_lit 45, (PySem.Obj.mk (PySem.Value.type "tuple") Option.none (PySem.Data.seq (List.toArray [(PySem.Value.str (PySem.Str.ofString "codepoint") 232)]) 0) (List.toArray []))) ::
  (nat_lit 46, (PySem.Obj.mk (PySem.Value.type "tuple") Option.none (PySem.Data.seq (List.toArray []) 0) (List.toArray []))) ::
  (nat_lit 48, (PySem.Obj.mk (PySem.Value.type "code") Option.none (PySem.Data.fields (List.toArray [(PySem.Value.str (PySem.Str.ofString "_is_invalid") 229), (PySem.Value.str (PySem.Str.ofString "_is_invalid") 230), (PySem.Value.str (PySem.Str.ofString "/claim/cut.py") 231), (PySem.Value.int 13 0), (PySem.Value.int 1 0), (PySem.Value.int 0 0), (PySem.Value.int 0 0), (PySem.Value.int 3 0), (PySem.Value.ref 43), (PySem.Value.bool Bool.true), (PySem.Value.int 181 0), (PySem.Value.ref 44), PySem.Value.none, (PySem.Value.ref 45), (PySem.Value.ref 46), (PySem.Value.ref 47), (PySem.Value.int 233 0), (PySem.Value.int 13 0), (PySem.Value.str (PySem.Str.ofString "/claim/cut.py") 234)])) (List.toArray []))) ::
  (nat_lit 49, (PySem.Obj.mk (PySem.Value.type "function") Option.none (PySem.Data.func (PySem.FuncData.mk (PySem.Str.ofString "_is_invalid") (PySem.Str.ofString "_is_invalid") (fdArgs (stAt 3)) (.stmts (fdBody (stAt 3))) (fdScope (stAt 3)) 3 [] PySem.Value.none PySem.Value.none PySem.Value.none (PySem.Value.str (PySem.Str.ofString "html5lib._inputstream") 188) Option.none (PySem.Value.ref 48) PySem.Value.none 0)) (List.toArray []))) ::
  (nat_lit 50, (PySem.Obj.mk (PySem.Value.type "tuple") Option.none (PySem.Data.seq (List.toArray [(PySem.Value.type "object")]) 0) (List.toArray []))) ::
  (nat_lit 57, (PySem.Obj.mk (PySem.Value.type "tuple") Option.none (PySem.Data.seq (List.toArray []) 0) (List.toArray []))) ::
  (nat_lit 59, (PySem.Obj.mk (PySem.Value.type "tuple") Option.none (PySem.Data.seq (List.toArray [(PySem.Value.str (PySem.Str.ofString "self") 253), (PySem.Value.str (PySem.Str.ofString "source") 254)]) 0) (List.toArray []))) ::
  (nat_lit 60, (PySem.Obj.mk (PySem.Value.type "tuple") Option.none (PySem.Data.seq (List.toArray []) 0) (List.toArray []))) ::
  (nat_lit 62, (PySem.Obj.mk (PySem.Value.type "code") Option.none (PySem.Data.fields (List.toArray [(PySem.Value.str (PySem.Str.ofString "__init__") 250), (PySem.Value.str (PySem.Str.ofString "HTMLUnicodeInputStream.__init__") 251), (PySem.Value.str (PySem.Str.ofString "/claim/cut.py") 252), (PySem.Value.int 18 0), (PySem.Value.int 2 0), (PySem.Value.int 0 0), (PySem.Value.int 0 0), (PySem.Value.int 3 0), (PySem.Value.ref 57), (PySem.Value.bool Bool.true), (PySem.Value.int 181 0), (PySem.Value.ref 58), PySem.Value.none, (PySem.Value.ref 59), (PySem.Value.ref 60), (PySem.Value.ref 61), (PySem.Value.int 255 0), (PySem.Value.int 18 0), (PySem.Value.str (PySem.Str.ofString "/claim/cut.py") 256)])) (List.toArray []))) ::
  (nat_lit 63, (PySem.Obj.mk (PySem.Value.type "function") Option.none (PySem.Data.func (PySem.FuncData.mk (PySem.Str.ofString "__init__") (PySem.Str.ofString "HTMLUnicodeInputStream.__init__") (fdArgs (stIn 4 1)) (.stmts (fdBody (stIn 4 1))) (fdScope (stIn 4 1)) 3 [] PySem.Value.none PySem.Value.none PySem.Value.none (PySem.Value.str (PySem.Str.ofString "html5lib._inputstream") 188) Option.none (PySem.Value.ref 62) PySem.Value.none 0)) (List.toArray []))) ::
  (nat_lit 64, (PySem.Obj.mk (PySem.Value.type "tuple") Option.none (PySem.Data.seq (List.toArray []) 0) (List.toArray []))) ::
  (nat_lit 66, (PySem.Obj.mk (PySem.Value.type "tuple") Option.none (PySem.Data.seq (List.toArray [(PySem.Value.str (PySem.Str.ofString "self") 261)]) 0) (List.toArray []))) ::
  (nat_lit 67, (PySem.Obj.mk (PySem.Value.type "tuple") Option.none (PySem.Data.seq (List.toArray []) 0) (List.toArray []))) ::
  (nat_lit 69, (PySem.Obj.mk (PySem.Value.type "code") Option.none (PySem.Data.fields (List.toArray [(PySem.Value.str (PySem.Str.ofString "reset") 258), (PySem.Value.str (PySem.Str.ofString "HTMLUnicodeInputStream.reset") 259), (PySem.Value.str (PySem.Str.ofString "/claim/cut.py") 260), (PySem.Value.int 24 0), (PySem.Value.int 1 0), (PySem.Value.int 0 0), (PySem.Value.int 0 0), (PySem.Value.int 3 0), (PySem.Value.ref 64), (PySem.Value.bool Bool.true), (PySem.Value.int 181 0), (PySem.Value.ref 65), PySem.Value.none, (PySem.Value.ref 66), (PySem.Value.ref 67), (PySem.Value.ref 68), (PySem.Value.int 262 0), (PySem.Value.int 24 0), (PySem.Value.str (PySem.Str.ofString "/claim/cut.py") 263)])) (List.toArray []))) ::
  (nat_lit 70, (PySem.Obj.mk (PySem.Value.type "function") Option.none (PySem.Data.func (PySem.FuncData.mk (PySem.Str.ofString "reset") (PySem.Str.ofString "HTMLUnicodeInputStream.reset") (fdArgs (stIn 4 2)) (.stmts (fdBody (stIn 4 2))) (fdScope (stIn 4 2)) 3 [] PySem.Value.none PySem.Value.none PySem.Value.none (PySem.Value.str (PySem.Str.ofString "html5lib._inputstream") 188) Option.none (PySem.Value.ref 69) PySem.Value.none 0)) (List.toArray []))) ::
  (nat_lit 71, (PySem.Obj.mk (PySem.Value.type "tuple") Option.none (PySem.Data.seq (List.toArray []) 0) (List.toArray []))) ::
  (nat_lit 73, (PySem.Obj.mk (PySem.Value.type "tuple") Option.none (PySem.Data.seq (List.toArray [(PySem.Value.str (PySem.Str.ofString "self") 268), (PySem.Value.str (PySem.Str.ofString "source") 269), (PySem.Value.str (PySem.Str.ofString "stream") 270)]) 0) (List.toArray []))) ::
  (nat_lit 74, (PySem.Obj.mk (PySem.Value.type "tuple") Option.none (PySem.Data.seq (List.toArray []) 0) (List.toArray []))) ::
  (nat_lit 76, (PySem.Obj.mk (PySem.Value.type "code") Option.none (PySem.Data.fields (List.toArray [(PySem.Value.str (PySem.Str.ofString "openStream") 265), (PySem.Value.str (PySem.Str.ofString "HTMLUnicodeInputStream.openStream") 266), (PySem.Value.str (PySem.Str.ofString "/claim/cut.py") 267), (PySem.Value.int 33 0), (PySem.Value.int 2 0), (PySem.Value.int 0 0), (PySem.Value.int 0 0), (PySem.Value.int 3 0), (PySem.Value.ref 71), (PySem.Value.bool Bool.true), (PySem.Value.int 181 0), (PySem.Value.ref 72), PySem.Value.none, (PySem.Value.ref 73), (PySem.Value.ref 74), (PySem.Value.ref 75), (PySem.Value.int 271 0), (PySem.Value.int 33 0), (PySem.Value.str (PySem.Str.ofString "/claim/cut.py") 272)])) (List.toArray []))) ::
  (nat_lit 77, (PySem.Obj.mk (PySem.Value.type "function") Option.none (PySem.Data.func (PySem.FuncData.mk (PySem.Str.ofString "openStream") (PySem.Str.ofString "HTMLUnicodeInputStream.openStream") (fdArgs (stIn 4 3)) (.stmts (fdBody (stIn 4 3))) (fdScope (stIn 4 3)) 3 [] PySem.Value.none PySem.Value.none PySem.Value.none (PySem.Value.str (PySem.Str.ofString "html5lib._inputstream") 188) Option.none (PySem.Value.ref 76) PySem.Value.none 0)) (List.toArray []))) ::
  (nat_lit 78, (PySem.Obj.mk (PySem.Value.type "tuple") Option.none (PySem.Data.seq (List.toArray []) 0) (List.toArray []))) ::
  (nat_lit 80, (PySem.Obj.mk (PySem.Value.type "tuple") Option.none (PySem.Data.seq (List.toArray [(PySem.Value.str (PySem.Str.ofString "self") 277), (PySem.Value.str (PySem.Str.ofString "offset") 278), (PySem.Value.str (PySem.Str.ofString "chunk") 279), (PySem.Value.str (PySem.Str.ofString "nLines") 280), (PySem.Value.str (PySem.Str.ofString "positionLine") 281), (PySem.Value.str (PySem.Str.ofString "lastLinePos") 282), (PySem.Value.str (PySem.Str.ofString "positionColumn") 283)]) 0) (List.toArray []))) ::
  (nat_lit 81, (PySem.Obj.mk (PySem.Value.type "tuple") Option.none (PySem.Data.seq (List.toArray []) 0) (List.toArray []))) ::
  (nat_lit 83, (PySem.Obj.mk (PySem.Value.type "code") Option.none (PySem.Data.fields (List.toArray [(PySem.Value.str (PySem.Str.ofString "_position") 274), (PySem.Value.str (PySem.Str.ofString "HTMLUnicodeInputStream._position") 275), (PySem.Value.str (PySem.Str.ofString "/claim/cut.py") 276), (PySem.Value.int 37 0), (PySem.Value.int 2 0), (PySem.Value.int 0 0), (PySem.Value.int 0 0), (PySem.Value.int 3 0), (PySem.Value.ref 78), (PySem.Value.bool Bool.true), (PySem.Value.int 181 0), (PySem.Value.ref 79), PySem.Value.none, (PySem.Value.ref 80), (PySem.Value.ref 81), (PySem.Value.ref 82), (PySem.Value.int 284 0), (PySem.Value.int 37 0), (PySem.Value.str (PySem.Str.ofString "/claim/cut.py") 285)])) (List.toArray []))) ::
  (nat_lit 84, (PySem.Obj.mk (PySem.Value.type "function") Option.none (PySem.Data.func (PySem.FuncData.mk (PySem.Str.ofString "_position") (PySem.Str.ofString "HTMLUnicodeInputStream._position") (fdArgs (stIn 4 4)) (.stmts (fdBody (stIn 4 4))) (fdScope (stIn 4 4)) 3 [] PySem.Value.none PySem.Value.none PySem.Value.none (PySem.Value.str (PySem.Str.ofString "html5lib._inputstream") 188) Option.none (PySem.Value.ref 83) PySem.Value.none 0)) (List.toArray []))) ::
  (nat_lit 85, (PySem.Obj.mk (PySem.Value.type "tuple") Option.none (PySem.Data.seq (List.toArray []) 0) (List.toArray []))) ::
  (nat_lit 87, (PySem.Obj.mk (PySem.Value.type "tuple") Option.none (PySem.Data.seq (List.toArray [(PySem.Value.str (PySem.Str.ofString "self") 290), (PySem.Value.str (PySem.Str.ofString "line") 291), (PySem.Value.str (PySem.Str.ofString "col") 292)]) 0) (List.toArray []))) ::
  (nat_lit 88, (PySem.Obj.mk (PySem.Value.type "tuple") Option.none (PySem.Data.seq (List.toArray []) 0) (List.toArray []))) ::
  (nat_lit 90, (PySem.Obj.mk (PySem.Value.type "code") Option.none (PySem.Data.fields (List.toArray [(PySem.Value.str (PySem.Str.ofString "position") 287), (PySem.Value.str (PySem.Str.ofString "HTMLUnicodeInputStream.position") 288), (PySem.Value.str (PySem.Str.ofString "/claim/cut.py") 289), (PySem.Value.int 48 0), (PySem.Value.int 1 0), (PySem.Value.int 0 0), (PySem.Value.int 0 0), (PySem.Value.int 3 0), (PySem.Value.ref 85), (PySem.Value.bool Bool.true), (PySem.Value.int 181 0), (PySem.Value.ref 86), PySem.Value.none, (PySem.Value.ref 87), (PySem.Value.ref 88), (PySem.Value.ref 89), (PySem.Value.int 293 0), (PySem.Value.int 48 0), (PySem.Value.str (PySem.Str.ofString "/claim/cut.py") 294)])) (List.toArray []))) ::
  (nat_lit 91, (PySem.Obj.mk (PySem.Value.type "function") Option.none (PySem.Data.func (PySem.FuncData.mk (PySem.Str.ofString "position") (PySem.Str.ofString "HTMLUnicodeInputStream.position") (fdArgs (stIn 4 5)) (.stmts (fdBody (stIn 4 5))) (fdScope (stIn 4 5)) 3 [] PySem.Value.none PySem.Value.none PySem.Value.none (PySem.Value.str (PySem.Str.ofString "html5lib._inputstream") 188) Option.none (PySem.Value.ref 90) PySem.Value.none 0)) (List.toArray []))) ::
  (nat_lit 92, (PySem.Obj.mk (PySem.Value.type "tuple") Option.none (PySem.Data.seq (List.toArray []) 0) (List.toArray []))) ::
  (nat_lit 94, (PySem.Obj.mk (PySem.Value.type "tuple") Option.none (PySem.Data.seq (List.toArray [(PySem.Value.str (PySem.Str.ofString "self") 299), (PySem.Value.str (PySem.Str.ofString "chunkOffset") 300), (PySem.Value.str (PySem.Str.ofString "char") 301)]) 0) (List.toArray []))) ::
  (nat_lit 95, (PySem.Obj.mk (PySem.Value.type "tuple") Option.none (PySem.Data.seq (List.toArray []) 0) (List.toArray []))) ::
  (nat_lit 97, (PySem.Obj.mk (PySem.Value.type "code") Option.none (PySem.Data.fields (List.toArray [(PySem.Value.str (PySem.Str.ofString "char") 296), (PySem.Value.str (PySem.Str.ofString "HTMLUnicodeInputStream.char") 297), (PySem.Value.str (PySem.Str.ofString "/claim/cut.py") 298), (PySem.Value.int 52 0), (PySem.Value.int 1 0), (PySem.Value.int 0 0), (PySem.Value.int 0 0), (PySem.Value.int 3 0), (PySem.Value.ref 92), (PySem.Value.bool Bool.true), (PySem.Value.int 181 0), (PySem.Value.ref 93), PySem.Value.none, (PySem.Value.ref 94), (PySem.Value.ref 95), (PySem.Value.ref 96), (PySem.Value.int 302 0), (PySem.Value.int 52 0), (PySem.Value.str (PySem.Str.ofString "/claim/cut.py") 303)])) (List.toArray []))) ::
  (nat_lit 98, (PySem.Obj.mk (PySem.Value.type "function") Option.none (PySem.Data.func (PySem.FuncData.mk (PySem.Str.ofString "char") (PySem.Str.ofString "HTMLUnicodeInputStream.char") (fdArgs (stIn 4 6)) (.stmts (fdBody (stIn 4 6))) (fdScope (stIn 4 6)) 3 [] PySem.Value.none PySem.Value.none PySem.Value.none (PySem.Value.str (PySem.Str.ofString "html5lib._inputstream") 188) Option.none (PySem.Value.ref 97) PySem.Value.none 0)) (List.toArray []))) ::
  (nat_lit 99, (PySem.Obj.mk (PySem.Value.type "tuple") Option.none (PySem.Data.seq (List.toArray [PySem.Value.none]) 0) (List.toArray []))) ::
  (nat_lit 100, (PySem.Obj.mk (PySem.Value.type "tuple") Option.none (PySem.Data.seq (List.toArray []) 0) (List.toArray []))) ::
  (nat_lit 102, (PySem.Obj.mk (PySem.Value.type "tuple") Option.none (PySem.Data.seq (List.toArray [(PySem.Value.str (PySem.Str.ofString "self") 308), (PySem.Value.str (PySem.Str.ofString "chunkSize") 309), (PySem.Value.str (PySem.Str.ofString "data") 310), (PySem.Value.str (PySem.Str.ofString "lastv") 311)]) 0) (List.toArray []))) ::
  (nat_lit 103, (PySem.Obj.mk (PySem.Value.type "tuple") Option.none (PySem.Data.seq (List.toArray []) 0) (List.toArray []))) ::
  (nat_lit 105, (PySem.Obj.mk (PySem.Value.type "code") Option.none (PySem.Data.fields (List.toArray [(PySem.Value.str (PySem.Str.ofString "readChunk") 305), (PySem.Value.str (PySem.Str.ofString "HTMLUnicodeInputStream.readChunk") 306), (PySem.Value.str (PySem.Str.ofString "/claim/cut.py") 307), (PySem.Value.int 61 0), (PySem.Value.int 2 0), (PySem.Value.int 0 0), (PySem.Value.int 0 0), (PySem.Value.int 3 0), (PySem.Value.ref 100), (PySem.Value.bool Bool.true), (PySem.Value.int 181 0), (PySem.Value.ref 101), PySem.Value.none, (PySem.Value.ref 102), (PySem.Value.ref 103), (PySem.Value.ref 104), (PySem.Value.int 312 0), (PySem.Value.int 61 0), (PySem.Value.str (PySem.Str.ofString "/claim/cut.py") 313)])) (List.toArray []))) ::
  (nat_lit 106, (PySem.Obj.mk (PySem.Value.type "function") Option.none (PySem.Data.func (PySem.FuncData.mk (PySem.Str.ofString "readChunk") (PySem.Str.ofString "HTMLUnicodeInputStream.readChunk") (fdArgs (stIn 4 7)) (.stmts (fdBody (stIn 4 7))) (fdScope (stIn 4 7)) 3 [] (PySem.Value.ref 99) PySem.Value.none PySem.Value.none (PySem.Value.str (PySem.Str.ofString "html5lib._inputstream") 188) Option.none (PySem.Value.ref 105) PySem.Value.none 0)) (List.toArray []))) ::
  (nat_lit 107, (PySem.Obj.mk (PySem.Value.type "tuple") Option.none (PySem.Data.seq (List.toArray []) 0) (List.toArray []))) ::
  (nat_lit 109, (PySem.Obj.mk (PySem.Value.type "tuple") Option.none (PySem.Data.seq (List.toArray [(PySem.Value.str (PySem.Str.ofString "self") 318), (PySem.Value.str (PySem.Str.ofString "data") 319), (PySem.Value.str (PySem.Str.ofString "c") 320)]) 0) (List.toArray []))) ::
  (nat_lit 110, (PySem.Obj.mk (PySem.Value.type "tuple") Option.none (PySem.Data.seq (List.toArray []) 0) (List.toArray []))) ::
  (nat_lit 112, (PySem.Obj.mk (PySem.Value.type "code") Option.none (PySem.Data.fields (List.toArray [(PySem.Value.str (PySem.Str.ofString "characterErrorsUCS4") 315), (PySem.Value.str (PySem.Str.ofString "HTMLUnicodeInputStream.characterErrorsUCS4") 316), (PySem.Value.str (PySem.Str.ofString "/claim/cut.py") 317), (PySem.Value.int 87 0), (PySem.Value.int 2 0), (PySem.Value.int 0 0), (PySem.Value.int 0 0), (PySem.Value.int 3 0), (PySem.Value.ref 107), (PySem.Value.bool Bool.true), (PySem.Value.int 181 0), (PySem.Value.ref 108), PySem.Value.none, (PySem.Value.ref 109), (PySem.Value.ref 110), (PySem.Value.ref 111), (PySem.Value.int 321 0), (PySem.Value.int 87 0), (PySem.Value.str (PySem.Str.ofString "/claim/cut.py") 322)])) (List.toArray []))) ::
  (nat_lit 113, (PySem.Obj.mk (PySem.Value.type "function") Option.none (PySem.Data.func (PySem.FuncData.mk (PySem.Str.ofString "characterErrorsUCS4") (PySem.Str.ofString "HTMLUnicodeInputStream.characterErrorsUCS4") (fdArgs (stIn 4 8)) (.stmts (fdBody (stIn 4 8))) (fdScope (stIn 4 8)) 3 [] PySem.Value.none PySem.Value.none PySem.Value.none (PySem.Value.str (PySem.Str.ofString "html5lib._inputstream") 188) Option.none (PySem.Value.ref 112) PySem.Value.none 0)) (List.toArray []))) ::
  (nat_lit 114, (PySem.Obj.mk (PySem.Value.type "tuple") Option.none (PySem.Data.seq (List.toArray [(PySem.Value.bool Bool.false)]) 0) (List.toArray []))) ::
  (nat_lit 115, (PySem.Obj.mk (PySem.Value.type "tuple") Option.none (PySem.Data.seq (List.toArray []) 0) (List.toArray []))) ::
  (nat_lit 117, (PySem.Obj.mk (PySem.Value.type "tuple") Option.none (PySem.Data.seq (List.toArray [(PySem.Value.str (PySem.Str.ofString "self") 327), (PySem.Value.str (PySem.Str.ofString "characters") 328), (PySem.Value.str (PySem.Str.ofString "opposite") 329), (PySem.Value.str (PySem.Str.ofString "rv") 330), (PySem.Value.str (PySem.Str.ofString "end") 331), (PySem.Value.str (PySem.Str.ofString "r") 332)]) 0) (List.toArray []))) ::
  (nat_lit 118, (PySem.Obj.mk (PySem.Value.type "tuple") Option.none (PySem.Data.seq (List.toArray []) 0) (List.toArray []))) ::
  (nat_lit 120, (PySem.Obj.mk (PySem.Value.type "code") Option.none (PySem.Data.fields (List.toArray [(PySem.Value.str (PySem.Str.ofString "charsUntil") 324), (PySem.Value.str (PySem.Str.ofString "HTMLUnicodeInputStream.charsUntil") 325), (PySem.Value.str (PySem.Str.ofString "/claim/cut.py") 326), (PySem.Value.int 92 0), (PySem.Value.int 3 0), (PySem.Value.int 0 0), (PySem.Value.int 0 0), (PySem.Value.int 3 0), (PySem.Value.ref 115), (PySem.Value.bool Bool.true), (PySem.Value.int 181 0), (PySem.Value.ref 116), PySem.Value.none, (PySem.Value.ref 117), (PySem.Value.ref 118), (PySem.Value.ref 119), (PySem.Value.int 333 0), (PySem.Value.int 92 0), (PySem.Value.str (PySem.Str.ofString "/claim/cut.py") 334)])) (List.toArray []))) ::
  (nat_lit 121, (PySem.Obj.mk (PySem.Value.type "function") Option.none (PySem.Data.func (PySem.FuncData.mk (PySem.Str.ofString "charsUntil") (PySem.Str.ofString "HTMLUnicodeInputStream.charsUntil") (fdArgs (stIn 4 9)) (.stmts (fdBody (stIn 4 9))) (fdScope (stIn 4 9)) 3 [] (PySem.Value.ref 114) PySem.Value.none PySem.Value.none (PySem.Value.str (PySem.Str.ofString "html5lib._inputstream") 188) Option.none (PySem.Value.ref 120) PySem.Value.none 0)) (List.toArray []))) ::
  (nat_lit 122, (PySem.Obj.mk (PySem.Value.type "tuple") Option.none (PySem.Data.seq (List.toArray []) 0) (List.toArray []))) ::
  (nat_lit 124, (PySem.Obj.mk (PySem.Value.type "tuple") Option.none (PySem.Data.seq (List.toArray [(PySem.Value.str (PySem.Str.ofString "self") 339), (PySem.Value.str (PySem.Str.ofString "char") 340)]) 0) (List.toArray []))) ::
  (nat_lit 125, (PySem.Obj.mk (PySem.Value.type "tuple") Option.none (PySem.Data.seq (List.toArray []) 0) (List.toArray []))) ::
  (nat_lit 127, (PySem.Obj.mk (PySem.Value.type "code") Option.none (PySem.Data.fields (List.toArray [(PySem.Value.str (PySem.Str.ofString "unget") 336), (PySem.Value.str (PySem.Str.ofString "HTMLUnicodeInputStream.unget") 337), (PySem.Value.str (PySem.Str.ofString "/claim/cut.py") 338), (PySem.Value.int 111 0), (PySem.Value.int 2 0), (PySem.Value.int 0 0), (PySem.Value.int 0 0), (PySem.Value.int 3 0), (PySem.Value.ref 122), (PySem.Value.bool Bool.true), (PySem.Value.int 181 0), (PySem.Value.ref 123), PySem.Value.none, (PySem.Value.ref 124), (PySem.Value.ref 125), (PySem.Value.ref 126), (PySem.Value.int 341 0), (PySem.Value.int 111 0), (PySem.Value.str (PySem.Str.ofString "/claim/cut.py") 342)])) (List.toArray []))) ::
  (nat_lit 128, (PySem.Obj.mk (PySem.Value.type "function") Option.none (PySem.Data.func (PySem.FuncData.mk (PySem.Str.ofString "unget") (PySem.Str.ofString "HTMLUnicodeInputStream.unget") (fdArgs (stIn 4 10)) (.stmts (fdBody (stIn 4 10))) (fdScope (stIn 4 10)) 3 [] PySem.Value.none PySem.Value.none PySem.Value.none (PySem.Value.str (PySem.Str.ofString "html5lib._inputstream") 188) Option.none (PySem.Value.ref 127) PySem.Value.none 0)) (List.toArray []))) ::
  (nat_lit 129, (PySem.Obj.mk (PySem.Value.type "tuple") Option.none (PySem.Data.seq (List.toArray [(PySem.Value.str (PySem.Str.ofString "_bufferedCharacter") 344), (PySem.Value.str (PySem.Str.ofString "chunk") 345), (PySem.Value.str (PySem.Str.ofString "chunkOffset") 346), (PySem.Value.str (PySem.Str.ofString "chunkSize") 347), (PySem.Value.str (PySem.Str.ofString "dataStream") 348), (PySem.Value.str (PySem.Str.ofString "errors") 349), (PySem.Value.str (PySem.Str.ofString "newLines") 350), (PySem.Value.str (PySem.Str.ofString "prevNumCols") 351), (PySem.Value.str (PySem.Str.ofString "prevNumLines") 352), (PySem.Value.str (PySem.Str.ofString "reportCharacterErrors") 353)]) 0) (List.toArray []))) ::
  (nat_lit 130, (PySem.Obj.mk (PySem.Value.type "dict") Option.none (PySem.Data.dict (List.toArray [(PySem.DictEntry.mk (PySem.PyData.keyHash P (PySem.Str.ofString "__module__")) (PySem.Value.str (PySem.Str.ofString "__module__") 243) (PySem.Value.str (PySem.Str.ofString "html5lib._inputstream") 188)), (PySem.DictEntry.mk (PySem.PyData.keyHash P (PySem.Str.ofString "__firstlineno__")) (PySem.Value.str (PySem.Str.ofString "__firstlineno__") 247) (PySem.Value.int 15 246)), (PySem.DictEntry.mk (PySem.PyData.keyHash P (PySem.Str.ofString "_defaultChunkSize")) (PySem.Value.str (PySem.Str.ofString "_defaultChunkSize") 249) (PySem.Value.int 10240 248)), (PySem.DictEntry.mk (PySem.PyData.keyHash P (PySem.Str.ofString "__init__")) (PySem.Value.str (PySem.Str.ofString "__init__") 257) (PySem.Value.ref 63)), (PySem.DictEntry.mk (PySem.PyData.keyHash P (PySem.Str.ofString "reset")) (PySem.Value.str (PySem.Str.ofString "reset") 264) (PySem.Value.ref 70)), (PySem.DictEntry.mk (PySem.PyData.keyHash P (PySem.Str.ofString "openStream")) (PySem.Value.str (PySem.Str.ofString "openStream") 273) (PySem.Value.ref 77)), (PySem.DictEntry.mk (PySem.PyData.keyHash P (PySem.Str.ofString "_position")) (PySem.Value.str (PySem.Str.ofString "_position") 286) (PySem.Value.ref 84)), (PySem.DictEntry.mk (PySem.PyData.keyHash P (PySem.Str.ofString "position")) (PySem.Value.str (PySem.Str.ofString "position") 295) (PySem.Value.ref 91)), (PySem.DictEntry.mk (PySem.PyData.keyHash P (PySem.Str.ofString "char")) (PySem.Value.str (PySem.Str.ofString "char") 304) (PySem.Value.ref 98)), (PySem.DictEntry.mk (PySem.PyData.keyHash P (PySem.Str.ofString "readChunk")) (PySem.Value.str (PySem.Str.ofString "readChunk") 314) (PySem.Value.ref 106)), (PySem.DictEntry.mk (PySem.PyData.keyHash P (PySem.Str.ofString "characterErrorsUCS4")) (PySem.Value.str (PySem.Str.ofString "characterErrorsUCS4") 323) (PySem.Value.ref 113)), (PySem.DictEntry.mk (PySem.PyData.keyHash P (PySem.Str.ofString "charsUntil")) (PySem.Value.str (PySem.Str.ofString "charsUntil") 335) (PySem.Value.ref 121)), (PySem.DictEntry.mk (PySem.PyData.keyHash P (PySem.Str.ofString "unget")) (PySem.Value.str (PySem.Str.ofString "unget") 343) (PySem.Value.ref 128)), (PySem.DictEntry.mk (PySem.PyData.keyHash P (PySem.Str.ofString "__static_attributes__")) (PySem.Value.str (PySem.Str.ofString "__static_attributes__") 354) (PySem.Value.ref 129)), (PySem.DictEntry.mk (PySem.PyData.keyHash P (PySem.Str.ofString "__dict__")) (PySem.Value.str (PySem.Str.ofString "__dict__") 356) (PySem.Value.ref 132)), (PySem.DictEntry.mk (PySem.PyData.keyHash P (PySem.Str.ofString "__weakref__")) (PySem.Value.str (PySem.Str.ofString "__weakref__") 358) (PySem.Value.ref 133)), (PySem.DictEntry.mk (PySem.PyData.keyHash P (PySem.Str.ofString "__doc__")) (PySem.Value.str (PySem.Str.ofString "__doc__") 359) PySem.Value.none)]) 4) (List.toArray []))) ::
  (nat_lit 131, (PySem.Obj.mk (PySem.Value.type "type") Option.none (PySem.Data.cls (PySem.ClassData.mk (PySem.Str.ofString "HTMLUnicodeInputStream") [(PySem.Value.type "object")] [(PySem.Value.ref 131), (PySem.Value.type "object")] 130 (PySem.Str.ofString "HTMLUnicodeInputStream") Bool.true [] [] Bool.false Option.none Bool.false)) (List.toArray [(Option.some (PySem.Value.ref 50)), Option.none, (Option.some (PySem.Value.str (PySem.Str.ofString "HTMLUnicodeInputStream") 236)), (Option.some (PySem.Value.str (PySem.Str.ofString "HTMLUnicodeInputStream") 244)), (Option.some (PySem.Value.builtin "object.__new__")), (Option.some (PySem.Value.bool Bool.true))]))) ::
  (nat_lit 132, (PySem.Obj.mk (PySem.Value.type "getset_descriptor") Option.none (PySem.Data.fields (List.toArray [(PySem.Value.str (PySem.Str.ofString "__dict__") 355), (PySem.Value.ref 131), (PySem.Value.builtin "function.__dict__"), (PySem.Value.builtin "function.__dict__#set")])) (List.toArray []))) ::
  (nat_lit 133, (PySem.Obj.mk (PySem.Value.type "getset_descriptor") Option.none (PySem.Data.fields (List.toArray [(PySem.Value.str (PySem.Str.ofString "__weakref__") 357), (PySem.Value.ref 131), (PySem.Value.builtin "ExceptionGroup.__weakref__"), PySem.Value.none])) (List.toArray []))) ::
  (nat_lit 136, (PySem.Obj.mk (PySem.Value.type "tuple") Option.none (PySem.Data.seq (List.toArray []) 0) (List.toArray []))) ::
  (nat_lit 138, (PySem.Obj.mk (PySem.Value.type "tuple") Option.none (PySem.Data.seq (List.toArray []) 0) (List.toArray []))) ::
  (nat_lit 139, (PySem.Obj.mk (PySem.Value.type "tuple") Option.none (PySem.Data.seq (List.toArray []) 0) (List.toArray []))) ::
  (nat_lit 141, (PySem.Obj.mk (PySem.Value.type "code") Option.none (PySem.Data.fields (List.toArray [(PySem.Value.str (PySem.Str.ofString "_law_SIGNS") 364), (PySem.Value.str (PySem.Str.ofString "_law_SIGNS") 365), (PySem.Value.str (PySem.Str.ofString "/claim/cut.py") 366), (PySem.Value.int 120 0), (PySem.Value.int 0 0), (PySem.Value.int 0 0), (PySem.Value.int 0 0), (PySem.Value.int 3 0), (PySem.Value.ref 136), (PySem.Value.bool Bool.true), (PySem.Value.int 181 0), (PySem.Value.ref 137), PySem.Value.none, (PySem.Value.ref 138), (PySem.Value.ref 139), (PySem.Value.ref 140), (PySem.Value.int 367 0), (PySem.Value.int 120 0), (PySem.Value.str (PySem.Str.ofString "/claim/cut.py") 368)])) (List.toArray []))) ::
  (nat_lit 142, (PySem.Obj.mk (PySem.Value.type "function") Option.none (PySem.Data.func (PySem.FuncData.mk (PySem.Str.ofString "_law_SIGNS") (PySem.Str.ofString "_law_SIGNS") (fdArgs (stAt 6)) (.stmts (fdBody (stAt 6))) (fdScope (stAt 6)) 3 [] PySem.Value.none PySem.Value.none PySem.Value.none (PySem.Value.str (PySem.Str.ofString "law_im0056_02") 362) Option.none (PySem.Value.ref 141) PySem.Value.none 0)) (List.toArray []))) ::
  (nat_lit 143, (PySem.Obj.mk (PySem.Value.type "tuple") Option.none (PySem.Data.seq (List.toArray [(PySem.Value.str (PySem.Str.ofString "&") 370), (PySem.Value.str (PySem.Str.ofString "\n") 371)]) 0) (List.toArray []))) ::
  (nat_lit 145, (PySem.Obj.mk (PySem.Value.type "list") Option.none (PySem.Data.seq (List.toArray [(PySem.Value.str (PySem.Str.ofString "b") 379), (PySem.Value.str (PySem.Str.ofString "\n") 380), (PySem.Value.str (PySem.Str.ofString "b") 381)]) 0) (List.toArray []))) ::
  (nat_lit 146, (PySem.Obj.mk (PySem.Value.type "list") Option.none (PySem.Data.seq (List.toArray [(PySem.Value.ref 143), (PySem.Value.str (PySem.Str.ofString "ab") 372), (PySem.Value.ref 144), (PySem.Value.ref 145)]) 0) (List.toArray []))) ::
  (nat_lit 147, (PySem.Obj.mk (PySem.Value.type "tuple") Option.none (PySem.Data.seq (List.toArray []) 0) (List.toArray []))) ::
  (nat_lit 149, (PySem.Obj.mk (PySem.Value.type "tuple") Option.none (PySem.Data.seq (List.toArray [(PySem.Value.str (PySem.Str.ofString "n") 386), (PySem.Value.str (PySem.Str.ofString "point") 387)]) 0) (List.toArray []))) ::
  (nat_lit 150, (PySem.Obj.mk (PySem.Value.type "tuple") Option.none (PySem.Data.seq (List.toArray []) 0) (List.toArray []))) ::
  (nat_lit 152, (PySem.Obj.mk (PySem.Value.type "code") Option.none (PySem.Data.fields (List.toArray [(PySem.Value.str (PySem.Str.ofString "_law_sign") 383), (PySem.Value.str (PySem.Str.ofString "_law_sign") 384), (PySem.Value.str (PySem.Str.ofString "/claim/cut.py") 385), (PySem.Value.int 123 0), (PySem.Value.int 1 0), (PySem.Value.int 0 0), (PySem.Value.int 0 0), (PySem.Value.int 3 0), (PySem.Value.ref 147), (PySem.Value.bool Bool.true), (PySem.Value.int 181 0), (PySem.Value.ref 148), PySem.Value.none, (PySem.Value.ref 149), (PySem.Value.ref 150), (PySem.Value.ref 151), (PySem.Value.int 388 0), (PySem.Value.int 123 0), (PySem.Value.str (PySem.Str.ofString "/claim/cut.py") 389)])) (List.toArray []))) ::
  (nat_lit 153, (PySem.Obj.mk (PySem.Value.type "function") Option.none (PySem.Data.func (PySem.FuncData.mk (PySem.Str.ofString "_law_sign") (PySem.Str.ofString "_law_sign") (fdArgs (stAt 8)) (.stmts (fdBody (stAt 8))) (fdScope (stAt 8)) 3 [] PySem.Value.none PySem.Value.none PySem.Value.none (PySem.Value.str (PySem.Str.ofString "law_im0056_02") 362) Option.none (PySem.Value.ref 152) PySem.Value.none 0)) (List.toArray []))) ::
  (nat_lit 154, (PySem.Obj.mk (PySem.Value.type "tuple") Option.none (PySem.Data.seq (List.toArray []) 0) (List.toArray []))) ::
  (nat_lit 156, (PySem.Obj.mk (PySem.Value.type "tuple") Option.none (PySem.Data.seq (List.toArray [(PySem.Value.str (PySem.Str.ofString "point") 394)]) 0) (List.toArray []))) ::
  (nat_lit 157, (PySem.Obj.mk (PySem.Value.type "tuple") Option.none (PySem.Data.seq (List.toArray []) 0) (List.toArray []))) ::
  (nat_lit 159, (PySem.Obj.mk (PySem.Value.type "code") Option.none (PySem.Data.fields (List.toArray [(PySem.Value.str (PySem.Str.ofString "_law_faulty") 391), (PySem.Value.str (PySem.Str.ofString "_law_faulty") 392), (PySem.Value.str (PySem.Str.ofString "/claim/cut.py") 393), (PySem.Value.int 128 0), (PySem.Value.int 1 0), (PySem.Value.int 0 0), (PySem.Value.int 0 0), (PySem.Value.int 3 0), (PySem.Value.ref 154), (PySem.Value.bool Bool.true), (PySem.Value.int 181 0), (PySem.Value.ref 155), PySem.Value.none, (PySem.Value.ref 156), (PySem.Value.ref 157), (PySem.Value.ref 158), (PySem.Value.int 395 0), (PySem.Value.int 128 0), (PySem.Value.str (PySem.Str.ofString "/claim/cut.py") 396)])) (List.toArray []))) ::
  (nat_lit 160, (PySem.Obj.mk (PySem.Value.type "function") Option.none (PySem.Data.func (PySem.FuncData.mk (PySem.Str.ofString "_law_faulty") (PySem.Str.ofString "_law_faulty") (fdArgs (stAt 9)) (.stmts (fdBody (stAt 9))) (fdScope (stAt 9)) 3 [] PySem.Value.none PySem.Value.none PySem.Value.none (PySem.Value.str (PySem.Str.ofString "law_im0056_02") 362) Option.none (PySem.Value.ref 159) PySem.Value.none 0)) (List.toArray []))) ::
  (nat_lit 161, (PySem.Obj.mk (PySem.Value.type "tuple") Option.none (PySem.Data.seq (List.toArray []) 0) (List.toArray []))) ::
  (nat_lit 163, (PySem.Obj.mk (PySem.Value.type "tuple") Option.none (PySem.Data.seq (List.toArray [(PySem.Value.str (PySem.Str.ofString "text") 401)]) 0) (List.toArray []))) ::
  (nat_lit 164, (PySem.Obj.mk (PySem.Value.type "tuple") Option.none (PySem.Data.seq (List.toArray []) 0) (List.toArray []))) ::
  (nat_lit 166, (PySem.Obj.mk (PySem.Value.type "code") Option.none (PySem.Data.fields (List.toArray [(PySem.Value.str (PySem.Str.ofString "_law_anew") 398), (PySem.Value.str (PySem.Str.ofString "_law_anew") 399), (PySem.Value.str (PySem.Str.ofString "/claim/cut.py") 400), (PySem.Value.int 132 0), (PySem.Value.int 1 0), (PySem.Value.int 0 0), (PySem.Value.int 0 0), (PySem.Value.int 3 0), (PySem.Value.ref 161), (PySem.Value.bool Bool.true), (PySem.Value.int 181 0), (PySem.Value.ref 162), PySem.Value.none, (PySem.Value.ref 163), (PySem.Value.ref 164), (PySem.Value.ref 165), (PySem.Value.int 402 0), (PySem.Value.int 132 0), (PySem.Value.str (PySem.Str.ofString "/claim/cut.py") 403)])) (List.toArray []))) ::
  (nat_lit 167, (PySem.Obj.mk (PySem.Value.type "function") Option.none (PySem.Data.func (PySem.FuncData.mk (PySem.Str.ofString "_law_anew") (PySem.Str.ofString "_law_anew") (fdArgs (stAt 10)) (.stmts (fdBody (stAt 10))) (fdScope (stAt 10)) 3 [] PySem.Value.none PySem.Value.none PySem.Value.none (PySem.Value.str (PySem.Str.ofString "law_im0056_02") 362) Option.none (PySem.Value.ref 166) PySem.Value.none 0)) (List.toArray []))) ::
  (nat_lit 168, (PySem.Obj.mk (PySem.Value.type "tuple") Option.none (PySem.Data.seq (List.toArray []) 0) (List.toArray []))) ::
  (nat_lit 170, (PySem.Obj.mk (PySem.Value.type "tuple") Option.none (PySem.Data.seq (List.toArray [(PySem.Value.str (PySem.Str.ofString "hand") 408), (PySem.Value.str (PySem.Str.ofString "size") 409), (PySem.Value.str (PySem.Str.ofString "rest") 410), (PySem.Value.str (PySem.Str.ofString "ahead") 411), (PySem.Value.str (PySem.Str.ofString "done") 412), (PySem.Value.str (PySem.Str.ofString "gone") 413), (PySem.Value.str (PySem.Str.ofString "state") 414), (PySem.Value.str (PySem.Str.ofString "piece") 415), (PySem.Value.str (PySem.Str.ofString "last") 416), (PySem.Value.str (PySem.Str.ofString "sign") 417)]) 0) (List.toArray []))) ::
  (nat_lit 171, (PySem.Obj.mk (PySem.Value.type "tuple") Option.none (PySem.Data.seq (List.toArray []) 0) (List.toArray []))) ::
  (nat_lit 173, (PySem.Obj.mk (PySem.Value.type "code") Option.none (PySem.Data.fields (List.toArray [(PySem.Value.str (PySem.Str.ofString "_law_fill") 405), (PySem.Value.str (PySem.Str.ofString "_law_fill") 406), (PySem.Value.str (PySem.Str.ofString "/claim/cut.py") 407), (PySem.Value.int 134 0), (PySem.Value.int 2 0), (PySem.Value.int 0 0), (PySem.Value.int 0 0), (PySem.Value.int 3 0), (PySem.Value.ref 168), (PySem.Value.bool Bool.true), (PySem.Value.int 181 0), (PySem.Value.ref 169), PySem.Value.none, (PySem.Value.ref 170), (PySem.Value.ref 171), (PySem.Value.ref 172), (PySem.Value.int 418 0), (PySem.Value.int 134 0), (PySem.Value.str (PySem.Str.ofString "/claim/cut.py") 419)])) (List.toArray []))) ::
  (nat_lit 174, (PySem.Obj.mk (PySem.Value.type "function") Option.none (PySem.Data.func (PySem.FuncData.mk (PySem.Str.ofString "_law_fill") (PySem.Str.ofString "_law_fill") (fdArgs (stAt 11)) (.stmts (fdBody (stAt 11))) (fdScope (stAt 11)) 3 [] PySem.Value.none PySem.Value.none PySem.Value.none (PySem.Value.str (PySem.Str.ofString "law_im0056_02") 362) Option.none (PySem.Value.ref 173) PySem.Value.none 0)) (List.toArray []))) ::
  (nat_lit 175, (PySem.Obj.mk (PySem.Value.type "tuple") Option.none (PySem.Data.seq (List.toArray []) 0) (List.toArray []))) ::
  (nat_lit 177, (PySem.Obj.mk (PySem.Value.type "tuple") Option.none (PySem.Data.seq (List.toArray [(PySem.Value.str (PySem.Str.ofString "hand") 424), (PySem.Value.str (PySem.Str.ofString "rest") 425), (PySem.Value.str (PySem.Str.ofString "ahead") 426), (PySem.Value.str (PySem.Str.ofString "done") 427), (PySem.Value.str (PySem.Str.ofString "gone") 428), (PySem.Value.str (PySem.Str.ofString "state") 429), (PySem.Value.str (PySem.Str.ofString "sign") 430)]) 0) (List.toArray []))) ::
  (nat_lit 178, (PySem.Obj.mk (PySem.Value.type "tuple") Option.none (PySem.Data.seq (List.toArray []) 0) (List.toArray []))) ::
  (nat_lit 180, (PySem.Obj.mk (PySem.Value.type "code") Option.none (PySem.Data.fields (List.toArray [(PySem.Value.str (PySem.Str.ofString "_law_pass") 421), (PySem.Value.str (PySem.Str.ofString "_law_pass") 422), (PySem.Value.str (PySem.Str.ofString "/claim/cut.py") 423), (PySem.Value.int 147 0), (PySem.Value.int 1 0), (PySem.Value.int 0 0), (PySem.Value.int 0 0), (PySem.Value.int 3 0), (PySem.Value.ref 175), (PySem.Value.bool Bool.true), (PySem.Value.int 181 0), (PySem.Value.ref 176), PySem.Value.none, (PySem.Value.ref 177), (PySem.Value.ref 178), (PySem.Value.ref 179), (PySem.Value.int 431 0), (PySem.Value.int 147 0), (PySem.Value.str (PySem.Str.ofString "/claim/cut.py") 432)])) (List.toArray []))) ::
  (nat_lit 181, (PySem.Obj.mk (PySem.Value.type "function") Option.none (PySem.Data.func (PySem.FuncData.mk (PySem.Str.ofString "_law_pass") (PySem.Str.ofString "_law_pass") (fdArgs (stAt 12)) (.stmts (fdBody (stAt 12))) (fdScope (stAt 12)) 3 [] PySem.Value.none PySem.Value.none PySem.Value.none (PySem.Value.str (PySem.Str.ofString "law_im0056_02") 362) Option.none (PySem.Value.ref 180) PySem.Value.none 0)) (List.toArray []))) ::
  (nat_lit 182, (PySem.Obj.mk (PySem.Value.type "tuple") Option.none (PySem.Data.seq (List.toArray []) 0) (List.toArray []))) ::
  (nat_lit 184, (PySem.Obj.mk (PySem.Value.type "tuple") Option.none (PySem.Data.seq (List.toArray [(PySem.Value.str (PySem.Str.ofString "hand") 437), (PySem.Value.str (PySem.Str.ofString "size") 438)]) 0) (List.toArray []))) ::
  (nat_lit 185, (PySem.Obj.mk (PySem.Value.type "tuple") Option.none (PySem.Data.seq (List.toArray []) 0) (List.toArray []))) ::
  (nat_lit 187, (PySem.Obj.mk (PySem.Value.type "code") Option.none (PySem.Data.fields (List.toArray [(PySem.Value.str (PySem.Str.ofString "_law_read") 434), (PySem.Value.str (PySem.Str.ofString "_law_read") 435), (PySem.Value.str (PySem.Str.ofString "/claim/cut.py") 436), (PySem.Value.int 154 0), (PySem.Value.int 2 0), (PySem.Value.int 0 0), (PySem.Value.int 0 0), (PySem.Value.int 3 0), (PySem.Value.ref 182), (PySem.Value.bool Bool.true), (PySem.Value.int 181 0), (PySem.Value.ref 183), PySem.Value.none, (PySem.Value.ref 184), (PySem.Value.ref 185), (PySem.Value.ref 186), (PySem.Value.int 439 0), (PySem.Value.int 154 0), (PySem.Value.str (PySem.Str.ofString "/claim/cut.py") 440)])) (List.toArray []))) ::
  (nat_lit 188, (PySem.Obj.mk (PySem.Value.type "function") Option.none (PySem.Data.func (PySem.FuncData.mk (PySem.Str.ofString "_law_read") (PySem.Str.ofString "_law_read") (fdArgs (stAt 13)) (.stmts (fdBody (stAt 13))) (fdScope (stAt 13)) 3 [] PySem.Value.none PySem.Value.none PySem.Value.none (PySem.Value.str (PySem.Str.ofString "law_im0056_02") 362) Option.none (PySem.Value.ref 187) PySem.Value.none 0)) (List.toArray []))) ::
  (nat_lit 189, (PySem.Obj.mk (PySem.Value.type "tuple") Option.none (PySem.Data.seq (List.toArray []) 0) (List.toArray []))) ::
  (nat_lit 191, (PySem.Obj.mk (PySem.Value.type "tuple") Option.none (PySem.Data.seq (List.toArray [(PySem.Value.str (PySem.Str.ofString "hand") 445), (PySem.Value.str (PySem.Str.ofString "size") 446), (PySem.Value.str (PySem.Str.ofString "row") 447), (PySem.Value.str (PySem.Str.ofString "along") 448), (PySem.Value.str (PySem.Str.ofString "got") 449)]) 0) (List.toArray []))) ::
  (nat_lit 192, (PySem.Obj.mk (PySem.Value.type "tuple") Option.none (PySem.Data.seq (List.toArray []) 0) (List.toArray []))) ::
  (nat_lit 194, (PySem.Obj.mk (PySem.Value.type "code") Option.none (PySem.Data.fields (List.toArray [(PySem.Value.str (PySem.Str.ofString "_law_run") 442), (PySem.Value.str (PySem.Str.ofString "_law_run") 443), (PySem.Value.str (PySem.Str.ofString "/claim/cut.py") 444), (PySem.Value.int 158 0), (PySem.Value.int 4 0), (PySem.Value.int 0 0), (PySem.Value.int 0 0), (PySem.Value.int 3 0), (PySem.Value.ref 189), (PySem.Value.bool Bool.true), (PySem.Value.int 181 0), (PySem.Value.ref 190), PySem.Value.none, (PySem.Value.ref 191), (PySem.Value.ref 192), (PySem.Value.ref 193), (PySem.Value.int 450 0), (PySem.Value.int 158 0), (PySem.Value.str (PySem.Str.ofString "/claim/cut.py") 451)])) (List.toArray []))) ::
  (nat_lit 195, (PySem.Obj.mk (PySem.Value.type "function") Option.none (PySem.Data.func (PySem.FuncData.mk (PySem.Str.ofString "_law_run") (PySem.Str.ofString "_law_run") (fdArgs (stAt 14)) (.stmts (fdBody (stAt 14))) (fdScope (stAt 14)) 3 [] PySem.Value.none PySem.Value.none PySem.Value.none (PySem.Value.str (PySem.Str.ofString "law_im0056_02") 362) Option.none (PySem.Value.ref 194) PySem.Value.none 0)) (List.toArray []))) ::
  (nat_lit 196, (PySem.Obj.mk (PySem.Value.type "tuple") Option.none (PySem.Data.seq (List.toArray []) 0) (List.toArray []))) ::
  (nat_lit 198, (PySem.Obj.mk (PySem.Value.type "tuple") Option.none (PySem.Data.seq (List.toArray [(PySem.Value.str (PySem.Str.ofString "stream") 456), (PySem.Value.str (PySem.Str.ofString "hand") 457), (PySem.Value.str (PySem.Str.ofString "rest") 458), (PySem.Value.str (PySem.Str.ofString "ahead") 459), (PySem.Value.str (PySem.Str.ofString "done") 460), (PySem.Value.str (PySem.Str.ofString "gone") 461), (PySem.Value.str (PySem.Str.ofString "state") 462), (PySem.Value.str (PySem.Str.ofString "sign") 463)]) 0) (List.toArray []))) ::
  (nat_lit 199, (PySem.Obj.mk (PySem.Value.type "tuple") Option.none (PySem.Data.seq (List.toArray []) 0) (List.toArray []))) ::
  (nat_lit 201, (PySem.Obj.mk (PySem.Value.type "code") Option.none (PySem.Data.fields (List.toArray [(PySem.Value.str (PySem.Str.ofString "_law_back") 453), (PySem.Value.str (PySem.Str.ofString "_law_back") 454), (PySem.Value.str (PySem.Str.ofString "/claim/cut.py") 455), (PySem.Value.int 165 0), (PySem.Value.int 2 0), (PySem.Value.int 0 0), (PySem.Value.int 0 0), (PySem.Value.int 3 0), (PySem.Value.ref 196), (PySem.Value.bool Bool.true), (PySem.Value.int 181 0), (PySem.Value.ref 197), PySem.Value.none, (PySem.Value.ref 198), (PySem.Value.ref 199), (PySem.Value.ref 200), (PySem.Value.int 464 0), (PySem.Value.int 165 0), (PySem.Value.str (PySem.Str.ofString "/claim/cut.py") 465)])) (List.toArray []))) ::
  (nat_lit 202, (PySem.Obj.mk (PySem.Value.type "function") Option.none (PySem.Data.func (PySem.FuncData.mk (PySem.Str.ofString "_law_back") (PySem.Str.ofString "_law_back") (fdArgs (stAt 15)) (.stmts (fdBody (stAt 15))) (fdScope (stAt 15)) 3 [] PySem.Value.none PySem.Value.none PySem.Value.none (PySem.Value.str (PySem.Str.ofString "law_im0056_02") 362) Option.none (PySem.Value.ref 201) PySem.Value.none 0)) (List.toArray []))) ::
  (nat_lit 203, (PySem.Obj.mk (PySem.Value.type "tuple") Option.none (PySem.Data.seq (List.toArray []) 0) (List.toArray []))) ::
  (nat_lit 205, (PySem.Obj.mk (PySem.Value.type "tuple") Option.none (PySem.Data.seq (List.toArray [(PySem.Value.str (PySem.Str.ofString "stream") 470), (PySem.Value.str (PySem.Str.ofString "hand") 471), (PySem.Value.str (PySem.Str.ofString "lines") 472)]) 0) (List.toArray []))) ::
  (nat_lit 206, (PySem.Obj.mk (PySem.Value.type "tuple") Option.none (PySem.Data.seq (List.toArray []) 0) (List.toArray []))) ::
  (nat_lit 208, (PySem.Obj.mk (PySem.Value.type "code") Option.none (PySem.Data.fields (List.toArray [(PySem.Value.str (PySem.Str.ofString "_law_right") 467), (PySem.Value.str (PySem.Str.ofString "_law_right") 468), (PySem.Value.str (PySem.Str.ofString "/claim/cut.py") 469), (PySem.Value.int 173 0), (PySem.Value.int 2 0), (PySem.Value.int 0 0), (PySem.Value.int 0 0), (PySem.Value.int 3 0), (PySem.Value.ref 203), (PySem.Value.bool Bool.true), (PySem.Value.int 181 0), (PySem.Value.ref 204), PySem.Value.none, (PySem.Value.ref 205), (PySem.Value.ref 206), (PySem.Value.ref 207), (PySem.Value.int 473 0), (PySem.Value.int 173 0), (PySem.Value.str (PySem.Str.ofString "/claim/cut.py") 474)])) (List.toArray []))) ::
  (nat_lit 209, (PySem.Obj.mk (PySem.Value.type "function") Option.none (PySem.Data.func (PySem.FuncData.mk (PySem.Str.ofString "_law_right") (PySem.Str.ofString "_law_right") (fdArgs (stAt 16)) (.stmts (fdBody (stAt 16))) (fdScope (stAt 16)) 3 [] PySem.Value.none PySem.Value.none PySem.Value.none (PySem.Value.str (PySem.Str.ofString "law_im0056_02") 362) Option.none (PySem.Value.ref 208) PySem.Value.none 0)) (List.toArray []))) ::
  (nat_lit 210, (PySem.Obj.mk (PySem.Value.type "tuple") Option.none (PySem.Data.seq (List.toArray []) 0) (List.toArray []))) ::
  (nat_lit 213, (PySem.Obj.mk (PySem.Value.type "code") Option.none (PySem.Data.fields (List.toArray [(PySem.Value.str (PySem.Str.ofString "law") 476), (PySem.Value.str (PySem.Str.ofString "law") 477), (PySem.Value.str (PySem.Str.ofString "/claim/cut.py") 478), (PySem.Value.int 178 0), (PySem.Value.int 1 0), (PySem.Value.int 0 0), (PySem.Value.int 0 0), (PySem.Value.int 3 0), (PySem.Value.ref 210), (PySem.Value.bool Bool.true), (PySem.Value.int 181 0), (PySem.Value.ref 211), PySem.Value.none, PySem.Value.none, PySem.Value.none, (PySem.Value.ref 212), (PySem.Value.int 479 0), (PySem.Value.int 178 0), (PySem.Value.str (PySem.Str.ofString "/claim/cut.py") 480)])) (List.toArray []))) ::
  (nat_lit 214, (PySem.Obj.mk (PySem.Value.type "function") Option.none (PySem.Data.func (PySem.FuncData.mk (PySem.Str.ofString "law") (PySem.Str.ofString "law") (fdArgs (stAt 17)) (.stmts (fdBody (stAt 17))) (PySem.Scope.mk PySem.ScopeKind.function [((PySem.Str.ofString "script"), PySem.NameKind.local), ((PySem.Str.ofString "numbers"), PySem.NameKind.local), ((PySem.Str.ofString "n"), PySem.NameKind.local), ((PySem.Str.ofString "whole"), PySem.NameKind.local), ((PySem.Str.ofString "stream"), PySem.NameKind.local), ((PySem.Str.ofString "hand"), PySem.NameKind.local), ((PySem.Str.ofString "size"), PySem.NameKind.local), ((PySem.Str.ofString "rest"), PySem.NameKind.local), ((PySem.Str.ofString "ahead"), PySem.NameKind.local), ((PySem.Str.ofString "done"), PySem.NameKind.local), ((PySem.Str.ofString "gone"), PySem.NameKind.local), ((PySem.Str.ofString "state"), PySem.NameKind.local), ((PySem.Str.ofString "deed"), PySem.NameKind.local), ((PySem.Str.ofString "more"), PySem.NameKind.local), ((PySem.Str.ofString "_"), PySem.NameKind.local), ((PySem.Str.ofString "row"), PySem.NameKind.local), ((PySem.Str.ofString "along"), PySem.NameKind.local), ((PySem.Str.ofString "came"), PySem.NameKind.local), ((PySem.Str.ofString "took"), PySem.NameKind.local), ((PySem.Str.ofString "turned"), PySem.NameKind.local), ((PySem.Str.ofString "turn"), PySem.NameKind.local), ((PySem.Str.ofString "HTMLUnicodeInputStream"), PySem.NameKind.globalImplicit), ((PySem.Str.ofString "_law_anew"), PySem.NameKind.globalImplicit), ((PySem.Str.ofString "_law_right"), PySem.NameKind.globalImplicit), ((PySem.Str.ofString "range"), PySem.NameKind.globalImplicit), ((PySem.Str.ofString "_law_read"), PySem.NameKind.globalImplicit), ((PySem.Str.ofString "_law_ROWS"), PySem.NameKind.globalImplicit), ((PySem.Str.ofString "_law_run"), PySem.NameKind.globalImplicit), ((PySem.Str.ofString "min"), PySem.NameKind.globalImplicit), ((PySem.Str.ofString "len"), PySem.NameKind.globalImplicit), ((PySem.Str.ofString "_law_back"), PySem.NameKind.globalImplicit), ((PySem.Str.ofString "isinstance"), PySem.NameKind.globalImplicit), ((PySem.Str.ofString "bool"), PySem.NameKind.globalImplicit), ((PySem.Str.ofString "_law_fill"), PySem.NameKind.globalImplicit)] Bool.false Bool.false [((PySem.Str.ofString "fast"), (PySem.Const.str (PySem.Str.ofString "script"))), ((PySem.Str.ofString "fast"), (PySem.Const.str (PySem.Str.ofString "numbers"))), ((PySem.Str.ofString "fast"), (PySem.Const.str (PySem.Str.ofString "n"))), ((PySem.Str.ofString "fast"), (PySem.Const.str (PySem.Str.ofString "whole"))), ((PySem.Str.ofString "fast"), (PySem.Const.str (PySem.Str.ofString "stream"))), ((PySem.Str.ofString "fast"), (PySem.Const.str (PySem.Str.ofString "hand"))), ((PySem.Str.ofString "fast"), (PySem.Const.str (PySem.Str.ofString "size"))), ((PySem.Str.ofString "fast"), (PySem.Const.str (PySem.Str.ofString "rest"))), ((PySem.Str.ofString "fast"), (PySem.Const.str (PySem.Str.ofString "ahead"))), ((PySem.Str.ofString "fast"), (PySem.Const.str (PySem.Str.ofString "done"))), ((PySem.Str.ofString "fast"), (PySem.Const.str (PySem.Str.ofString "gone"))), ((PySem.Str.ofString "fast"), (PySem.Const.str (PySem.Str.ofString "state"))), ((PySem.Str.ofString "fast"), (PySem.Const.str (PySem.Str.ofString "deed"))), ((PySem.Str.ofString "fast"), (PySem.Const.str (PySem.Str.ofString "more"))), ((PySem.Str.ofString "fast"), (PySem.Const.str (PySem.Str.ofString "_"))), ((PySem.Str.ofString "fast"), (PySem.Const.str (PySem.Str.ofString "row"))), ((PySem.Str.ofString "fast"), (PySem.Const.str (PySem.Str.ofString "along"))), ((PySem.Str.ofString "fast"), (PySem.Const.str (PySem.Str.ofString "came"))), ((PySem.Str.ofString "fast"), (PySem.Const.str (PySem.Str.ofString "took"))), ((PySem.Str.ofString "fast"), (PySem.Const.str (PySem.Str.ofString "turned"))), ((PySem.Str.ofString "fast"), (PySem.Const.str (PySem.Str.ofString "turn")))]) 3 [] PySem.Value.none PySem.Value.none PySem.Value.none (PySem.Value.str (PySem.Str.ofString "law_im0056_02") 362) Option.none (PySem.Value.ref 213) PySem.Value.none 0)) (List.toArray []))) :: []
noncomputable def addrsW : List Addr := [2, 3, 15, 22, 24, 25, 27, 28, 29, 31, 32, 34, 35, 36, 37, 38, 39, 40, 43, 45, 46, 48, 49, 50, 57, 59, 60, 62, 63, 64, 66, 67, 69, 70, 71, 73, 74, 76, 77, 78, 80, 81, 83, 84, 85, 87, 88, 90, 91, 92, 94, 95, 97, 98, 99, 100, 102, 103, 105, 106, 107, 109, 110, 112, 113, 114, 115, 117, 118, 120, 121, 122, 124, 125, 127, 128, 129, 130, 131, 132, 133, 136, 138, 139, 141, 142, 143, 145, 146, 147, 149, 150, 152, 153, 154, 156, 157, 159, 160, 161, 163, 164, 166, 167, 168, 170, 171, 173, 174, 175, 177, 178, 180, 181, 182, 184, 185, 187, 188, 189, 191, 192, 194, 195, 196, 198, 199, 201, 202, 203, 205, 206, 208, 209, 210, 213, 214]
noncomputable def viewW : Program := { PySem.Challenge.pw_im0056_02 with main := { PySem.Challenge.pw_im0056_02.main with body := [stAt 0, stAt 2, stAt 3, stAt 4, stAt 6, stAt 7, stAt 8, stAt 9, stAt 10, stAt 11, stAt 12, stAt 13, stAt 14, stAt 15, stAt 16, stAt 17] } }
noncomputable def looseW' : List PySem.Str := ["HTMLUnicodeInputStream", "_law_ROWS"]
noncomputable def hookW : Hook := kHook heapW addrsW (fun _ => by kernel_rfl)
theorem saidW : PySem.Challenge.rw_im0056_02.wellSaid = true := by kernel_rfl
end Mine
end
noncomputable section
open PySem PySem.W PySem.Calls PyProof.Rows
namespace Mine
/- ## law 02's top, run around the set that it makes -/
abbrev P2 : Program := PySem.Challenge.pw_im0056_02
noncomputable def env2 : Env := { scope := P2.main.scope, locals := mainNs, globals := mainNs, cells := [], code := .ref 13, frame := some 14 }
abbrev body2 : List Stmt := behindTheImports P2
abbrev q2 : Pos := default
abbrev ann2 : Option Value := some (.ref 6)
abbrev c2 : Code := .body body2 env2
abbrev B2 : List Frame := [topFrame q2]
noncomputable def s02 (w : World) (os : OsState) : Shared := ⟨boot_heap w.params, Array.mk [], boot_drawn, boot_toks, os⟩
/-- the rows' statement, its parts -/
noncomputable def rowsE : Expr := match stAt 7 with
  | .Assign _ v _ => v
  | _ => .Constant .none 0 default
noncomputable def rowsL : List Expr := match rowsE with
  | .List es _ => es
  | _ => []
noncomputable def rowsT : List Expr := match stAt 7 with
  | .Assign ts _ _ => ts
  | _ => []
noncomputable def rowsP : Pos := match stAt 7 with
  | .Assign _ _ p => p
  | _ => default
noncomputable def rowE (i : Nat) : Expr := rowsL.getD i (.Constant .none 0 default)
noncomputable def setObj (es : Array (Int × Value)) (n : Nat) (t : SetTable) : Obj := { cls := .type "set", data := .set es n t }
noncomputable def lv1 (l : List Value) : List Value := [.ref 143] ++ l
noncomputable def lv2 (l : List Value) : List Value := [.ref 143] ++ ([.ref 144] ++ l)
noncomputable def seg2 {α : Type} (w : World) (res : α → Flow) (lv : List Value → List Value) (n : Nat) (s : Shared) (p : Pos) (x : Sem α) : Option (Flow × Shared × Code × Pos) :=
  segRun treeTable P2 w 11 ann2 1 n s ⟨x.wrap (fun a => .pure (.done (res a))) deadEnd id lv, c2, p, B2⟩
/-- behind the set -/
noncomputable def W4 (w : World) (s : Shared) (p : Pos) (v1 v2 : Value) (cs : List Code) : Option (Shared × List Code) :=
  match seg2 w .ret lv2 200 s p (eval (rowE 3) env2) with
  | some (.ret v4, s4, c4, p4) =>
    match seg2 w .ret id 50 s4 p4 (newList [v1, v2, .ref 144, v4]) with
    | some (.ret v5, s5, c5, p5) =>
      match seg2 w id id 200 s5 p5 (assignStores env2 v5 none ((assignEach rowsT env2).map (·.2))) with
      | some (.next, s6, c6, p6) => (topRun treeTable P2 w 11 ann2 1000 s6 (restOf (body2.drop 8) env2 c2 p6 B2)).map fun s => (s, c4 :: c5 :: c6 :: cs)
      | _ => none
    | _ => none
  | _ => none
noncomputable def W3 (w : World) (es : Array (Int × Value)) (n : Nat) (t : SetTable) (s : Shared) (p : Pos) (v1 v2 : Value) (cs : List Code) : Option (Shared × List Code) :=
  match seg2 w (fun b => .ret (.bool b)) lv1 50 s (rowE 2).pos (inMainModule env2) with
  | some (.ret (.bool b), s3, c3, p3) => if s3.heap.objs.size = 144 then W4 w { s3 with heap := s3.heap.push (setObj es n t), toks := s3.toks + 6 } (rowE 2).pos v1 v2 (c3 :: cs) else none
  | _ => none
noncomputable def W2 (w : World) (es : Array (Int × Value)) (n : Nat) (t : SetTable) (s : Shared) : Option (Shared × List Code) :=
  match seg2 w .ret id 200 s rowsE.pos (eval (rowE 0) env2) with
  | some (.ret (.ref a1), s1, c1, p1) => if a1 = 143 then
      match seg2 w .ret lv1 50 s1 p1 (eval (rowE 1) env2) with
      | some (.ret (.str x t2), s2, c2, p2) => W3 w es n t s2 p2 (.ref 143) (.str x t2) [c1, c2]
      | _ => none
    else none
  | _ => none
noncomputable def W (w : World) (os : OsState) (es : Array (Int × Value)) (n : Nat) (t : SetTable) : Option (Shared × List Code) :=
  match topGo treeTable P2 w 11 ann2 12 (s02 w os) (topStub P2) with
  | some (sa, ta) =>
    match segRun treeTable P2 w 11 ann2 1 1 sa (blockOf body2 env2 c2 q2 B2) with
    | some (.next, sb, cb, pb) =>
      match segRun treeTable P2 w 11 ann2 1 1000 sb (piecesOf (body2.take 7) env2 c2 pb B2) with
      | some (.next, sc, cc, pc) => (W2 w es n t sc).map fun x => (x.1, cb :: cc :: x.2)
      | _ => none
    | _ => none
  | none => none
noncomputable def xt2 (s : Shared) : Bool := xlAt viewW [] s && recOk (RowW.records PySem.Challenge.rw_im0056_02.row.toRowW) s
noncomputable def seen2 (w : World) (os : OsState) (s : Shared) :=
  ((staticsOk (importedModules P2.main.body) (s02 w os).heap s.heap && namesBound P2 s.heap && gensDone s && laidKept (s02 w os).heap s.heap, openSeen viewW looseW' (importedModules P2.main.body) xt2 true s), (hookW.obs s, s.heap.get? 144))
theorem looks2 (w : World) (os : OsState) (es : Array (Int × Value)) (n : Nat) (t : SetTable) : (W w os es n t).map (fun x => (seen2 w os x.1, x.2)) = some (((true, openGood viewW looseW'), (hookW.val w, some (setObj es n t))), [c2, c2, c2, c2, c2, c2, c2, c2]) := by kernel_rfl
theorem pre2 (w : World) (os : OsState) : (topGo treeTable P2 w 11 ann2 12 (s02 w os) (topStub P2)).map Prod.snd = some ⟨denote treeTable c2, c2, q2, B2⟩ := by kernel_rfl
theorem size2 (w : World) (os : OsState) : ((s02 w os).heap.isNs mainGlobals && (s02 w os).gens.size == 0, (s02 w os).heap.objs.size, (s02 w os).heap.nsMap mainGlobals "__annotations__") = (true, 11, ann2) := by kernel_rfl
theorem open2 : ∀ w : World, (fencedOpening treeTable P2 w 4000).map (fun s => (s.heap, s.gens, s.drawn, s.toks)) = some (boot_heap w.params, Array.mk [], boot_drawn, boot_toks) := boot_open (by kernel_rfl) (by decide) fun _ => by kernel_rfl
end Mine
end
noncomputable section
open PySem PySem.W PySem.Calls PyProof.Rows
namespace Mine
/- ## a set of strs, as its table may lie -/
noncomputable def Inv (es : Array (Int × Value)) (t : SetTable) (L : List Str) : Prop :=
  t.place.size = es.size ∧ t.dummies = #[] ∧ 7 ≤ t.mask ∧ es.size = L.length ∧ (∀ e ∈ es.toList, ∃ x u, e.2 = .str x u ∧ x ∈ L) ∧ (∀ x ∈ L, ∃ e ∈ es.toList, ∃ u, e.2 = .str x u)
theorem insertAt_list {α : Type} (xs : Array α) (p : Nat) (x : α) : (SetTable.insertAt xs p x).toList = xs.toList.take p ++ x :: xs.toList.drop p := by
  unfold SetTable.insertAt
  rw [Array.toList_append, Array.toList_push, Array.toList_extract, Array.toList_extract]
  simp [List.extract, List.take_of_length_le]
theorem insertAt_mem {α : Type} (xs : Array α) (p : Nat) (x y : α) : y ∈ (SetTable.insertAt xs p x).toList ↔ y = x ∨ y ∈ xs.toList := by
  rw [insertAt_list]
  have h := List.take_append_drop p xs.toList
  constructor
  · intro q
    rcases List.mem_append.mp q with q | q
    · exact .inr (List.mem_of_mem_take q)
    · rcases List.mem_cons.mp q with q | q
      · exact .inl q
      · exact .inr (List.mem_of_mem_drop q)
  · rintro (rfl | q)
    · simp
    · rw [← h] at q
      rcases List.mem_append.mp q with q | q
      · exact List.mem_append_left _ q
      · exact List.mem_append_right _ (List.mem_cons_of_mem _ q)
theorem insertAt_size {α : Type} (xs : Array α) (p : Nat) (x : α) : (SetTable.insertAt xs p x).size = xs.size + 1 := by
  rw [← Array.length_toList, insertAt_list]
  simp
  omega
theorem inv_entries {es es' : Array (Int × Value)} {L : List Str} {x : Str} {u : Tok} {h : Int} (hm : ∀ y, y ∈ es'.toList ↔ y = (h, Value.str x u) ∨ y ∈ es.toList)
    (h1 : ∀ e ∈ es.toList, ∃ x u, e.2 = .str x u ∧ x ∈ L) (h2 : ∀ x ∈ L, ∃ e ∈ es.toList, ∃ u, e.2 = .str x u) :
    (∀ e ∈ es'.toList, ∃ y v, e.2 = .str y v ∧ y ∈ x :: L) ∧ (∀ y ∈ x :: L, ∃ e ∈ es'.toList, ∃ v, e.2 = .str y v) := by
  refine ⟨fun e he => ?_, fun y hy => ?_⟩
  · rcases (hm e).mp he with rfl | he
    · exact ⟨x, u, rfl, List.mem_cons_self⟩
    · obtain ⟨y, v, e1, e2⟩ := h1 e he
      exact ⟨y, v, e1, List.mem_cons_of_mem _ e2⟩
  · rcases List.mem_cons.mp hy with rfl | hy
    · exact ⟨_, (hm _).mpr (.inl rfl), u, rfl⟩
    · obtain ⟨e, he, v, e1⟩ := h2 y hy
      exact ⟨e, (hm _).mpr (.inr he), v, e1⟩
theorem layNew_inv {es : Array (Int × Value)} {t : SetTable} {L : List Str} {x : Str} {u : Tok} {h : Int} (I : Inv es t L) : ∃ es' t' wd gave, layNew t es h (.str x u) = (es', t', wd, gave) ∧ Inv es' t' (x :: L) := by
  obtain ⟨i1, i2, i3, i4, i5, i6⟩ := I
  unfold layNew
  cases hf : t.freeSlot h with
  | none =>
    refine ⟨_, _, _, _, rfl, ?_, rfl, ?_, ?_, ?_⟩
    · show (Array.range (es.size + 1)).size = (es.push _).size
      simp
    · show 7 ≤ 4 * (es.size + 1) + 4
      omega
    · simp [i4]
    · exact inv_entries (x := x) (u := u) (h := h) (by intro y; simp [or_comm]) i5 i6
  | some jd =>
    obtain ⟨slot, wd⟩ := jd
    simp only
    have hs := insertAt_size es (t.put slot).2 (h, Value.str x u)
    have hd : (t.put slot).1.dummies = #[] := by
      unfold SetTable.put
      simp only [i2]
      rw [if_neg]
      unfold SetTable.has
      simp
    have hmk : (t.put slot).1.mask = t.mask := rfl
    refine ⟨_, _, _, _, rfl, ?_⟩
    have hent := inv_entries (es' := SetTable.insertAt es (t.put slot).2 (h, Value.str x u)) (insertAt_mem _ _ _) i5 i6
    unfold SetTable.orStandIn
    split
    · rename_i hfit
      unfold SetTable.fits at hfit
      simp only [Bool.and_eq_true, beq_iff_eq, decide_eq_true_eq] at hfit
      exact ⟨hfit.1, hd, by rw [hmk]; exact i3, by rw [hs, i4]; rfl, hent⟩
    · refine ⟨?_, rfl, ?_, by rw [hs, i4]; rfl, hent⟩
      · show (Array.range _).size = _
        simp
      · show 7 ≤ 4 * _ + 4
        rw [hs]; omega
/-- the word of the set that the walk goes by -/
noncomputable def setSeen (L : List Str) : Option Obj → Bool
  | none => false
  | some o => match o.data with
    | .set es _ t => decide (o.cls = .type "set") && o.dict.isNone && o.slots.isEmpty && (es.toList.all (fun e => match e.2 with | .str x _ => L.contains x | _ => false) && L.all (fun x => es.toList.any fun e => e.2.isStr x) && t.place.size == es.size && t.dummies.size == 0 && decide (7 ≤ t.mask) && es.size == L.length)
    | _ => false
theorem update_push (h : Heap) (o : Obj) (f : Obj → Obj) : (h.push o).update h.objs.size f = h.push (f o) := by
  obtain ⟨objs, l⟩ := h
  show Heap.mk ((objs.push o).modify objs.size f) l = Heap.mk (objs.push (f o)) l
  congr 1
  apply Array.ext
  · simp
  · intro i h1 h2
    rw [Array.getElem_modify]
    simp only [Array.size_modify, Array.size_push] at h1
    by_cases hi : objs.size = i
    · subst hi; simp
    · rw [if_neg hi, Array.getElem_push_lt (by omega), Array.getElem_push_lt (by omega)]
end Mine
end
noncomputable section
open PySem PySem.W PySem.Calls PyProof.Rows
namespace Mine
section
variable {tb : String → Option Builtin} {P : Program} {w : World} {n₀ : Nat} {ann : Option Value} {b : List Stmt} {env : Env} {q : Pos} {α β : Type} {gd : Bool → Bool} {lv : List Value → List Value}
theorem Red.le {n m : Nat} {x : Sem α} {s s' : Shared} {p p' : Pos} {a : α} (hn : n ≤ m) (h : Red tb P w n₀ ann b env q gd lv n x s p a s' p') : Red tb P w n₀ ann b env q gd lv m x s p a s' p' := fun K H N r e => by
  have := topRun_mono (m - n) _ _ _ _ (h K H N r e)
  rwa [show n + N + (m - n) = m + N by omega] at this
theorem Red.ite_neg {n : Nat} {C : Prop} [Decidable C] {x y : Sem α} {s s' : Shared} {p p' : Pos} {a : α} (hC : ¬ C) (h : Red tb P w n₀ ann b env q gd lv n y s p a s' p') : Red tb P w n₀ ann b env q gd lv n (if C then x else y) s p a s' p' := by
  rw [if_neg hC]; exact h
end
section
variable {w : World} {lv : List Value → List Value} {h0 : Heap} {gens : Array GenState} {drawn : Drawn} {toks : Nat} {os : OsState} {p : Pos} {es : Array (Int × Value)} {n : Nat} {t : SetTable} {L : List Str}
/-- the state with the set last -/
noncomputable def stS (h0 : Heap) (gens : Array GenState) (drawn : Drawn) (toks : Nat) (os : OsState) (es : Array (Int × Value)) (n : Nat) (t : SetTable) : Shared := ⟨h0.push (setObj es n t), gens, drawn, toks, os⟩
abbrev RD (w : World) (lv : List Value → List Value) {α : Type} (n : Nat) (x : Sem α) (s : Shared) (p : Pos) (a : α) (s' : Shared) (p' : Pos) : Prop := Red treeTable P2 w 11 ann2 body2 env2 q2 id lv n x s p a s' p'
theorem get_set (hz : h0.objs.size = 144) : (stS h0 gens drawn toks os es n t).heap.get? 144 = some (setObj es n t) := by
  show (h0.push _).get? 144 = _
  rw [← hz]
  exact Heap.get?_push_size _ rfl
theorem inv_fits (I : Inv es t L) (hL : L.length ≤ 3) : (t.place.size != es.size || decide (t.fill > t.mask)) = false := by
  obtain ⟨i1, i2, i3, i4, -⟩ := I
  unfold SetTable.fill
  rw [i1, i2]
  simp
  omega
theorem rd_state (hz : h0.objs.size = 144) (I : Inv es t L) (hL : L.length ≤ 3) : RD w lv 1 (setState 144) (stS h0 gens drawn toks os es n t) p (es, n, t) (stS h0 gens drawn toks os es n t) p := by
  unfold setState
  refine Red.bind (n := 1) (m := 0) (Red.load (get_set hz)) ?_
  show RD w lv 0 (if (t.place.size != es.size || decide (t.fill > t.mask)) = true then _ else _) _ _ _ _ _
  refine Red.ite_neg (by rw [inv_fits I hL]; simp) ?_
  exact Red.pure
theorem rd_store (hz : h0.objs.size = 144) {es' : Array (Int × Value)} {t' : SetTable} (hs : es'.size ≤ 100) : RD w lv 2 (storeSet 144 es' t') (stS h0 gens drawn toks os es n t) p () (stS h0 gens drawn toks os es' (n + 1) t') p := by
  unfold storeSet
  refine Red.bind (n := 1) (m := 1) (Red.load (get_set hz)) ?_
  show RD w lv 1 (if es'.size > sizeLine then _ else _) _ _ _ _ _
  refine Red.ite_neg (by rw [sizeLine_eq]; omega) ?_
  have h : RD w lv 1 (update 144 (Obj.putSet es' t')) (stS h0 gens drawn toks os es n t) p () { (stS h0 gens drawn toks os es n t) with heap := (stS h0 gens drawn toks os es n t).heap.update 144 (Obj.putSet es' t') } p := Red.update (get_set hz) (by decide)
  have e : (stS h0 gens drawn toks os es n t).heap.update 144 (Obj.putSet es' t') = h0.push (setObj es' (n + 1) t') := by
    show (h0.push _).update 144 _ = _
    rw [← hz, update_push]; rfl
  rw [e] at h
  exact h
theorem inv_exact (I : Inv es t L) : es.all (fun e => isExactStrKey e.2) = true := by
  rw [← Array.all_toList, List.all_eq_true]
  intro e he
  obtain ⟨x, u, e1, -⟩ := I.2.2.2.2.1 e he
  rw [e1]; rfl
theorem inv_scan (I : Inv es t L) (hL : L.length ≤ 3) (x : Str) (u : Tok) : byScan (.str x u) es = true := by
  unfold byScan
  have h1 : es.size < scanBound := by have := I.2.2.2.1; show es.size < 4096; omega
  have h2 : es.all (·.2.scannable) = true := by
    rw [← Array.all_toList, List.all_eq_true]
    intro e he
    obtain ⟨x, u, e1, -⟩ := I.2.2.2.2.1 e he
    rw [e1]; rfl
  rw [decide_eq_true h1, h2]; rfl
theorem isStr_str (x y : Str) (u : Tok) : (Value.str x u).isStr y = (x == y) := rfl
theorem inv_absent (I : Inv es t L) {x : Str} (hx : x ∉ L) : es.findIdx? (·.2.isStr x) = none := by
  rw [Array.findIdx?_eq_none_iff]
  intro e he
  obtain ⟨y, u, e1, e2⟩ := I.2.2.2.2.1 e (Array.mem_toList_iff.mpr he)
  rw [e1, isStr_str]
  exact beq_eq_false_iff_ne.mpr fun q => hx (q ▸ e2)
theorem rd_scan (I : Inv es t L) {x : Str} {u : Tok} {h : Int} (hx : x ∉ L) {s : Shared} : RD w lv 0 (setScan 144 (.str x u) h true es) s p .absent s p := by
  unfold setScan
  show RD w lv 0 (if es.all (fun e => isExactStrKey e.2) = true then setScanStrs 144 (.str x u) x true es else _) _ _ _ _ _
  rw [if_pos (inv_exact I)]
  unfold setScanStrs
  rw [inv_absent I hx]
  exact Red.pure
theorem rd_byscan (hz : h0.objs.size = 144) (I : Inv es t L) (hL : L.length ≤ 2) {x : Str} {u : Tok} {h : Int} (hx : x ∉ L) :
    ∃ es' t', Inv es' t' (x :: L) ∧ RD w lv 10 (setAddByScan 144 (.str x u) h es t) (stS h0 gens drawn toks os es n t) p (some true) (stS h0 gens drawn toks os es' (n + 1) t') p := by
  obtain ⟨es', t', wd, gave, e1, I'⟩ := layNew_inv (x := x) (u := u) (h := h) I
  have hL' : (x :: L).length ≤ 3 := by rw [List.length_cons]; omega
  have hsz : es'.size ≤ 100 := by have := I'.2.2.2.1; omega
  refine ⟨es', if t'.plain then { t' with plain := false } else t', ?_, ?_⟩
  · split
    · exact I'
    · exact I'
  unfold setAddByScan
  refine Red.bind (n := 1) (m := 9) Red.rule ?_
  refine Red.bind (n := 0) (m := 9) (rd_scan I hx) ?_
  simp only [e1]
  have hfull : ∀ tt : SetTable, tt.place.size = es'.size → tt.dummies = #[] → 7 ≤ tt.mask → (!wd && tt.tooFull) = false := by
    intro tt h1 h2 h3
    have : tt.tooFull = false := by
      unfold SetTable.tooFull SetTable.fill
      rw [h1, h2, I'.2.2.2.1]
      simp
      omega
    rw [this, Bool.and_false]
  refine Red.bind (n := 1) (m := 8) (a := ()) (s1 := stS h0 gens drawn toks os es n t) (p1 := p) ?_ ?_
  · cases gave
    · exact Red.le (Nat.zero_le _) Red.pure
    · exact Red.rule
  cases hp : t'.plain
  · rw [if_neg (by simp)]
    refine Red.bind (n := 0) (m := 8) (a := true) Red.pure ?_
    simp only [if_true]
    refine Red.bind (n := 2) (m := 6) (rd_store hz hsz) ?_
    refine Red.ite_neg (by rw [hfull t' I'.1 I'.2.1 I'.2.2.1]; simp) ?_
    exact Red.le (Nat.zero_le _) Red.pure
  · rw [if_pos rfl]
    refine Red.bind (n := 0) (m := 8) (a := false) Red.pure ?_
    simp only [Bool.false_eq_true, if_false, if_true]
    refine Red.bind (n := 2) (m := 6) (rd_store hz hsz) ?_
    refine Red.ite_neg (by have := hfull { t' with plain := false } I'.1 I'.2.1 I'.2.2.1; rw [this]; simp) ?_
    exact Red.le (Nat.zero_le _) Red.pure
theorem rd_add (hz : h0.objs.size = 144) (I : Inv es t L) (hL : L.length ≤ 2) {x : Str} {u : Tok} {h : Int} (hx : x ∉ L) :
    ∃ es' t', Inv es' t' (x :: L) ∧ RD w lv 20 (setAddHashedIn 144 (.str x u) h 100000) (stS h0 gens drawn toks os es n t) p true (stS h0 gens drawn toks os es' (n + 1) t') p := by
  obtain ⟨es', t', I', hr⟩ := rd_byscan (w := w) (lv := lv) (gens := gens) (drawn := drawn) (toks := toks) (os := os) (p := p) (n := n) (u := u) (h := h) hz I hL hx
  refine ⟨es', t', I', ?_⟩
  show RD w lv 20 (setAddHashedIn 144 (.str x u) h (99999 + 1)) _ _ _ _ _
  rw [setAddHashedIn]
  refine Red.bind (n := 1) (m := 19) (rd_state hz I (by omega)) ?_
  show RD w lv 19 (if byScan (.str x u) es = true then _ else _) _ _ _ _ _
  rw [if_pos (inv_scan I (by omega) x u)]
  refine Red.bind (n := 10) (m := 9) hr ?_
  exact Red.le (Nat.zero_le _) Red.pure
/-- what a str hashes to -/
noncomputable def hsh (w : World) (s : Str) : Int := if s.cps.isEmpty then 0 else reduceHash (w.params.strHash s.cps)
noncomputable def hashT (x : String) (t : Tok) (pos : Pos) : Thread := ⟨(pyHash (.str (Str.ofString x) t)).wrap (fun h => .pure (.done (.ret (.int h 0)))) deadEnd id lv2, c2, pos, B2⟩
noncomputable def HashSeg (b : Bool) (x : String) : Prop := ∀ (w : World) (heap : Heap) (gens : Array GenState) (drawn : Drawn) (toks : Nat) (os : OsState) (t : Tok) (pos : Pos), segRun treeTable P2 (w.withFollow "special-get-raises" b) 11 ann2 1 60 ⟨heap, gens, drawn, toks, os⟩ (hashT x t pos) =
    some (.ret (.int (hsh w (Str.ofString x)) 0), ⟨heap, gens, drawn, toks + 1, os⟩, c2, pos)
theorem hash_a0 : HashSeg false "a" := fun w heap gens drawn toks os t pos => by kernel_rfl
theorem hash_a1 : HashSeg true "a" := fun w heap gens drawn toks os t pos => by kernel_rfl
theorem hash_n0 : HashSeg false "\n" := fun w heap gens drawn toks os t pos => by kernel_rfl
theorem hash_n1 : HashSeg true "\n" := fun w heap gens drawn toks os t pos => by kernel_rfl
theorem hash_u0 : HashSeg false "\x1f" := fun w heap gens drawn toks os t pos => by kernel_rfl
theorem hash_u1 : HashSeg true "\x1f" := fun w heap gens drawn toks os t pos => by kernel_rfl
theorem rd_hash {x : String} (h0' : HashSeg false x) (h1' : HashSeg true x) {heap : Heap} {u : Tok} : RD w lv2 60 (pyHash (.str (Str.ofString x) u)) ⟨heap, gens, drawn, toks, os⟩ p (hsh w (Str.ofString x)) ⟨heap, gens, drawn, toks + 1, os⟩ p := by
  have e := World.withFollow_self w "special-get-raises"
  refine Red.seg (res := fun h => .ret (.int h 0)) (fun a b q => by injection q with q; injection q) (c' := c2) ?_ rfl
  cases hb : w.params.followText "special-get-raises"
  · have := h0' w heap gens drawn toks os u p
    rw [hb] at e
    rw [e] at this
    exact this
  · have := h1' w heap gens drawn toks os u p
    rw [hb] at e
    rw [e] at this
    exact this
/-- a str added to the set -/
theorem rd_setAdd (hz : h0.objs.size = 144) (I : Inv es t L) (hL : L.length ≤ 2) {x : String} {u : Tok} (h0' : HashSeg false x) (h1' : HashSeg true x) (hx : Str.ofString x ∉ L) :
    ∃ es' t', Inv es' t' (Str.ofString x :: L) ∧ RD w lv2 80 (setAdd 144 (.str (Str.ofString x) u)) (stS h0 gens drawn toks os es n t) p true (stS h0 gens drawn (toks + 1) os es' (n + 1) t') p := by
  obtain ⟨es', t', I', hr⟩ := rd_add (w := w) (lv := lv2) (gens := gens) (drawn := drawn) (toks := toks + 1) (os := os) (p := p) (n := n) (u := u) (h := hsh w (Str.ofString x)) hz I hL hx
  refine ⟨es', t', I', ?_⟩
  show RD w lv2 80 (pyHash (.str (Str.ofString x) u) >>= fun h => setAddHashedIn 144 (.str (Str.ofString x) u) h 100000) _ _ _ _ _
  exact Red.bind (n := 60) (m := 20) (rd_hash h0' h1') hr
theorem rd_newSet (hz : h0.objs.size = 144) : RD w lv 3 (newSet (.type "set")) ⟨h0, gens, drawn, toks, os⟩ p (.ref 144) (stS h0 gens drawn toks os #[] 0 (.fresh 0 0 (!(w.params.followText "set-order")))) p := by
  unfold newSet
  refine Red.bind (n := 1) (m := 2) (a := w.params.followText "set-order") (Red.bind (n := 1) (m := 0) Red.ask Red.pure) ?_
  show RD w lv 2 (newObj (.type "set") (.set #[] 0 (.fresh 0 0 (!(w.params.followText "set-order")))) none) _ _ _ _ _
  unfold newObj
  · show RD w lv 2 (if (#[] : Array (Int × Value)).size > sizeLine then _ else newObjAsIs (.type "set") (.set #[] 0 (.fresh 0 0 (!(w.params.followText "set-order")))) none) _ _ _ _ _
    refine Red.ite_neg (by rw [sizeLine_eq]; simp) ?_
    unfold newObjAsIs
    refine Red.bind (n := 1) (m := 1) Red.alloc ?_
    show RD w lv 1 (pure (Value.ref h0.objs.size)) _ _ _ _ _
    rw [hz]
    exact Red.le (Nat.zero_le _) Red.pure
theorem rd_const {x : Str} {pc : Pos} {s : Shared} : RD w lv 2 (constValue env2 (.str x) >>= fun v => standAt pc >>= fun _ => pure v) s p (.str x s.toks) { s with toks := s.toks + 1 } pc := by
  refine Red.bind (n := 1) (m := 1) (a := .str x s.toks) (s1 := { s with toks := s.toks + 1 }) (p1 := p) ?_ ?_
  · show RD w lv 1 (PySem.fresh >>= fun t => pure (Value.str x t)) _ _ _ _ _
    exact Red.bind (n := 1) (m := 0) Red.fresh Red.pure
  · exact Red.bind (n := 1) (m := 0) Red.at Red.pure
theorem rd_unled (hz : h0.objs.size = 144) (I : Inv es t L) (hL : L.length ≤ 3) : RD w lv 3 (setUnled 144) (stS h0 gens drawn toks os es n t) p () (stS h0 gens drawn toks os es (n + 1) { t with led := false }) p := by
  unfold setUnled
  refine Red.bind (n := 1) (m := 2) (rd_state hz I hL) ?_
  exact rd_store hz (by have := I.2.2.2.1; omega)
/-- the set's display -/
theorem rd_set {s0 s : Shared} {bb : Bool} {k : Nat} {p3 : Pos} (hz : s.heap.objs.size = 144) (hk : k ≤ 100) (hin : RD w lv1 k (inMainModule env2) s0 (rowE 2).pos bb s p3) :
    ∃ es n t, Inv es t [Str.ofString "\x1f", Str.ofString "\n", Str.ofString "a"] ∧ RD w lv1 500 (eval (rowE 2) env2) s0 p (.ref 144) { s with heap := s.heap.push (setObj es n t), toks := s.toks + 6 } (rowE 2).pos := by
  obtain ⟨h0, gens, drawn, toks, os⟩ := s
  have hz : h0.objs.size = 144 := hz
  have I0 : Inv #[] (.fresh 0 0 (!(w.params.followText "set-order"))) [] := ⟨rfl, rfl, Nat.le_refl 7, rfl, by simp, by simp⟩
  obtain ⟨es1, t1, I1, r1⟩ := rd_setAdd (w := w) (gens := gens) (drawn := drawn) (toks := toks + 1 + 1 + 1) (os := os) (p := (rowE 2).pos) (n := 0) (u := toks) hz I0 (by decide) hash_a0 hash_a1 (by simp)
  obtain ⟨es2, t2, I2, r2⟩ := rd_setAdd (w := w) (gens := gens) (drawn := drawn) (toks := toks + 1 + 1 + 1 + 1) (os := os) (p := (rowE 2).pos) (n := 0 + 1) (u := toks + 1) hz I1 (by simp) hash_n0 hash_n1 (by decide)
  obtain ⟨es3, t3, I3, r3⟩ := rd_setAdd (w := w) (gens := gens) (drawn := drawn) (toks := toks + 1 + 1 + 1 + 1 + 1) (os := os) (p := (rowE 2).pos) (n := 0 + 1 + 1) (u := toks + 1 + 1) hz I2 (by simp) hash_u0 hash_u1 (by decide)
  refine ⟨es3, 0 + 1 + 1 + 1 + 1, { t3 with led := false }, I3, ?_⟩
  show RD w lv1 500 (standAt (rowE 2).pos >>= fun _ => inMainModule env2 >>= fun fs => setDisplay .unsure fs [(false, constValue env2 (.str "a") >>= fun v => standAt (rowE 2).pos >>= fun _ => pure v), (false, constValue env2 (.str "\n") >>= fun v => standAt (rowE 2).pos >>= fun _ => pure v), (false, constValue env2 (.str "\x1f") >>= fun v => standAt (rowE 2).pos >>= fun _ => pure v)]) _ _ _ _ _
  refine Red.bind (n := 1) (m := 499) Red.at ?_
  refine Red.bind (n := 100) (m := 399) (Red.le hk hin) ?_
  unfold setDisplay
  rw [if_neg (by decide)]
  refine Red.bind (n := 3) (m := 396) (rd_newSet hz) ?_
  have key : RD w lv1 396 ((evalAll [constValue env2 (.str "a") >>= fun v => standAt (rowE 2).pos >>= fun _ => pure v, constValue env2 (.str "\n") >>= fun v => standAt (rowE 2).pos >>= fun _ => pure v, constValue env2 (.str "\x1f") >>= fun v => standAt (rowE 2).pos >>= fun _ => pure v] >>= fun first =>
      holding first ((forIn first PUnit.unit fun x __s => setAdd 144 x >>= fun _ => pure (ForInStep.yield PUnit.unit)) >>= fun _ => rule "set.display.perhaps-of-constants" >>= fun _ => setUnled 144) >>= fun _ => pure PUnit.unit).keep [Value.ref 144] >>= fun _ => pure (Value.ref 144))
      (stS h0 gens drawn toks os #[] 0 (.fresh 0 0 (!(w.params.followText "set-order")))) p3 (.ref 144) (stS h0 gens drawn (toks + 6) os es3 (0 + 1 + 1 + 1 + 1) { t3 with led := false }) (rowE 2).pos := by
    refine Red.bind (n := 396) (m := 0) (a := PUnit.unit) (s1 := stS h0 gens drawn (toks + 6) os es3 (0 + 1 + 1 + 1 + 1) { t3 with led := false }) (p1 := (rowE 2).pos) (Red.keep ?_) Red.pure
    show Red treeTable P2 w 11 ann2 body2 env2 q2 id lv2 396 _ _ _ _ _ _
    refine Red.bind (n := 10) (m := 386) (a := [Value.str "a" toks, Value.str "\n" (toks + 1), Value.str "\x1f" (toks + 1 + 1)]) (s1 := stS h0 gens drawn (toks + 1 + 1 + 1) os #[] 0 (.fresh 0 0 (!(w.params.followText "set-order")))) (p1 := (rowE 2).pos) ?_ ?_
    · refine Red.bind (n := 2) (m := 8) rd_const ?_
      refine Red.bind (n := 8) (m := 0) (a := [Value.str "\n" (toks + 1), Value.str "\x1f" (toks + 1 + 1)]) ?_ Red.pure
      refine Red.bind (n := 2) (m := 6) rd_const ?_
      refine Red.bind (n := 6) (m := 0) (a := [Value.str "\x1f" (toks + 1 + 1)]) ?_ Red.pure
      refine Red.bind (n := 2) (m := 4) rd_const ?_
      exact Red.bind (n := 4) (m := 0) (a := []) (Red.le (Nat.zero_le _) Red.pure) Red.pure
    · refine Red.bind (n := 386) (m := 0) (a := ()) ?_ Red.pure
      show RD w lv2 386 ((forIn [Value.str "a" toks, Value.str "\n" (toks + 1), Value.str "\x1f" (toks + 1 + 1)] PUnit.unit fun x __s => setAdd 144 x >>= fun _ => pure (ForInStep.yield PUnit.unit)) >>= fun _ => rule "set.display.perhaps-of-constants" >>= fun _ => setUnled 144) _ _ _ _ _
      refine Red.bind (n := 240) (m := 146) (a := PUnit.unit) (s1 := stS h0 gens drawn (toks + 6) os es3 (0 + 1 + 1 + 1) t3) (p1 := (rowE 2).pos) ?_ ?_
      · simp only [List.forIn_cons, List.forIn_nil]
        refine Red.bind (n := 80) (m := 160) (Red.bind (n := 80) (m := 0) r1 Red.pure) ?_
        refine Red.bind (n := 80) (m := 80) (Red.bind (n := 80) (m := 0) r2 Red.pure) ?_
        refine Red.bind (n := 80) (m := 0) (Red.bind (n := 80) (m := 0) r3 Red.pure) ?_
        exact Red.pure
      · refine Red.bind (n := 1) (m := 145) Red.rule ?_
        exact Red.le (by decide) (rd_unled hz I3 (by simp))
  exact key
end
end Mine
end
noncomputable section
open PySem PySem.W PySem.Calls PyProof.Rows
namespace Mine
theorem W_split {w : World} {os : OsState} {es : Array (Int × Value)} {n : Nat} {t : SetTable} {x : Shared × List Code} (h : W w os es n t = some x) :
    ∃ sa ta sb cb pb sc cc pc y, topGo treeTable P2 w 11 ann2 12 (s02 w os) (topStub P2) = some (sa, ta) ∧ segRun treeTable P2 w 11 ann2 1 1 sa (blockOf body2 env2 c2 q2 B2) = some (.next, sb, cb, pb) ∧
      segRun treeTable P2 w 11 ann2 1 1000 sb (piecesOf (body2.take 7) env2 c2 pb B2) = some (.next, sc, cc, pc) ∧ W2 w es n t sc = some y ∧ x = (y.1, cb :: cc :: y.2) := by
  unfold W at h
  split at h
  · rename_i sa ta h1
    split at h
    · rename_i sb cb pb h2
      split at h
      · rename_i sc cc pc h3
        obtain ⟨y, hy, e⟩ := Option.map_eq_some_iff.mp h
        exact ⟨sa, ta, sb, cb, pb, sc, cc, pc, y, h1, h2, h3, hy, e.symm⟩
      · cases h
    · cases h
  · cases h
theorem W2_split {w : World} {es : Array (Int × Value)} {n : Nat} {t : SetTable} {s : Shared} {x : Shared × List Code} (h : W2 w es n t s = some x) :
    ∃ s1 c1 p1 y t2 s2 c2' p2, seg2 w .ret id 200 s rowsE.pos (eval (rowE 0) env2) = some (.ret (.ref 143), s1, c1, p1) ∧ seg2 w .ret lv1 50 s1 p1 (eval (rowE 1) env2) = some (.ret (.str y t2), s2, c2', p2) ∧ W3 w es n t s2 p2 (.ref 143) (.str y t2) [c1, c2'] = some x := by
  unfold W2 at h
  split at h
  · rename_i a1 s1 c1 p1 h1
    split at h
    · rename_i ha
      subst ha
      split at h
      · rename_i y t2 s2 c2' p2 h2
        exact ⟨s1, c1, p1, y, t2, s2, c2', p2, h1, h2, h⟩
      · cases h
    · cases h
  · cases h
theorem W3_split {w : World} {es : Array (Int × Value)} {n : Nat} {t : SetTable} {s : Shared} {p : Pos} {v1 v2 : Value} {cs : List Code} {x : Shared × List Code} (h : W3 w es n t s p v1 v2 cs = some x) :
    ∃ b s3 c3 p3, seg2 w (fun b => .ret (.bool b)) lv1 50 s (rowE 2).pos (inMainModule env2) = some (.ret (.bool b), s3, c3, p3) ∧ s3.heap.objs.size = 144 ∧ W4 w { s3 with heap := s3.heap.push (setObj es n t), toks := s3.toks + 6 } (rowE 2).pos v1 v2 (c3 :: cs) = some x := by
  unfold W3 at h
  split at h
  · rename_i b s3 c3 p3 h1
    split at h
    · rename_i hz
      exact ⟨b, s3, c3, p3, h1, hz, h⟩
    · cases h
  · cases h
theorem W4_split {w : World} {s : Shared} {p : Pos} {v1 v2 : Value} {cs : List Code} {x : Shared × List Code} (h : W4 w s p v1 v2 cs = some x) :
    ∃ v4 s4 c4 p4 v5 s5 c5 p5 s6 c6 p6 r, seg2 w .ret lv2 200 s p (eval (rowE 3) env2) = some (.ret v4, s4, c4, p4) ∧ seg2 w .ret id 50 s4 p4 (newList [v1, v2, .ref 144, v4]) = some (.ret v5, s5, c5, p5) ∧
      seg2 w id id 200 s5 p5 (assignStores env2 v5 none ((assignEach rowsT env2).map (·.2))) = some (.next, s6, c6, p6) ∧ topRun treeTable P2 w 11 ann2 1000 s6 (restOf (body2.drop 8) env2 c2 p6 B2) = some r ∧ x = (r, c4 :: c5 :: c6 :: cs) := by
  unfold W4 at h
  split at h
  · rename_i v4 s4 c4 p4 h1
    split at h
    · rename_i v5 s5 c5 p5 h2
      split at h
      · rename_i s6 c6 p6 h3
        obtain ⟨r, hr, e⟩ := Option.map_eq_some_iff.mp h
        exact ⟨v4, s4, c4, p4, v5, s5, c5, p5, s6, c6, p6, r, h1, h2, h3, hr, e.symm⟩
      · cases h
    · cases h
  · cases h
end Mine
end
noncomputable section
open PySem PySem.W PySem.Calls PyProof.Rows
namespace Mine
/-- the set's strs -/
noncomputable def setL : List Str := [Str.ofString "\x1f", Str.ofString "\n", Str.ofString "a"]
theorem ret_inj {a b : Value} (h : Flow.ret a = Flow.ret b) : a = b := by injection h
theorem rd_spliced_ref {w : World} {lv : List Value → List Value} {n m : Nat} {x : Sem Value} {rest : List (Bool × Sem Value)} {s s1 s2 : Shared} {p p1 p2 : Pos} {a : Addr} {vs : List Value} (h : RD w lv n x s p (.ref a) s1 p1) (k : RD w (fun l => lv ([.ref a] ++ l)) m (spliced rest) s1 p1 vs s2 p2) :
    RD w lv (n + m) (spliced ((false, x) :: rest)) s p (.ref a :: vs) s2 p2 := by
  show RD w lv (n + m) (x >>= fun v => pure [v] >>= fun here => holding here (spliced rest) >>= fun r => pure (here ++ r)) _ _ _ _ _
  refine Red.bind h ?_
  refine Red.bind (n := 0) (m := m) Red.pure ?_ |> Red.le (by omega)
  exact Red.bind (n := m) (m := 0) (Red.keep (vs := [.ref a]) k) Red.pure
theorem rd_spliced_str {w : World} {lv : List Value → List Value} {n m : Nat} {x : Sem Value} {rest : List (Bool × Sem Value)} {s s1 s2 : Shared} {p p1 p2 : Pos} {y : Str} {t : Tok} {vs : List Value} (h : RD w lv n x s p (.str y t) s1 p1) (k : RD w lv m (spliced rest) s1 p1 vs s2 p2) :
    RD w lv (n + m) (spliced ((false, x) :: rest)) s p (.str y t :: vs) s2 p2 := by
  show RD w lv (n + m) (x >>= fun v => pure [v] >>= fun here => holding here (spliced rest) >>= fun r => pure (here ++ r)) _ _ _ _ _
  refine Red.bind h ?_
  refine Red.bind (n := 0) (m := m) Red.pure ?_ |> Red.le (by omega)
  exact Red.bind (n := m) (m := 0) (a := vs) k Red.pure
theorem rd_spliced_last {w : World} {lv : List Value → List Value} {n : Nat} {x : Sem Value} {s s1 : Shared} {p p1 : Pos} {v : Value} (h : RD w lv n x s p v s1 p1) : RD w lv n (spliced [(false, x)]) s p [v] s1 p1 := by
  show RD w lv n (x >>= fun v => pure [v] >>= fun here => holding here (spliced []) >>= fun r => pure (here ++ r)) _ _ _ _ _
  refine Red.bind (n := n) (m := 0) h ?_
  refine Red.bind (n := 0) (m := 0) Red.pure ?_
  refine Red.bind (n := 0) (m := 0) (a := []) ?_ Red.pure
  show RD w lv 0 (holding [v] (pure [])) _ _ _ _ _
  cases v <;> exact Red.pure
theorem run2 (w : World) (os : OsState) : ∃ es n t s', Inv es t setL ∧ topRun treeTable P2 w 11 ann2 4000 (s02 w os) (topStub P2) = some s' ∧ seen2 w os s' = ((true, openGood viewW looseW'), (hookW.val w, some (setObj es n t))) := by
  obtain ⟨x0, hx0, e0⟩ := Option.map_eq_some_iff.mp (looks2 w os #[] 0 default)
  obtain ⟨sa, ta, sb, cb, pb, sc, cc, pc, y0, h1, h2, h3, h4, rfl⟩ := W_split hx0
  obtain ⟨s1, c1, p1, yy, t2, s2, c2', p2, g1, g2, g3⟩ := W2_split h4
  obtain ⟨b, s3, c3, p3, k1, k2, k3⟩ := W3_split g3
  have hpre : ta = ⟨denote treeTable c2, c2, q2, B2⟩ := by
    have := pre2 w os
    rw [h1] at this
    simpa using this
  have hc : cb = c2 ∧ cc = c2 ∧ y0.2 = [c2, c2, c2, c2, c2, c2] := by
    have := congrArg Prod.snd e0
    simp only [List.cons.injEq] at this
    exact ⟨this.1, this.2.1, this.2.2⟩
  obtain ⟨v40, s40, c40, p40, v50, s50, c50, p50, s60, c60, p60, r0, -, -, -, -, e4⟩ := W4_split k3
  rw [e4] at hc
  simp only [List.cons.injEq] at hc
  obtain ⟨rfl, rfl, rfl, rfl, rfl, rfl, rfl, rfl, -⟩ := hc
  clear e0 hx0 h4 g3 k3 e4
  -- the set, then all that stands behind it
  have hin : RD w lv1 50 (inMainModule env2) s2 (rowE 2).pos b s3 p3 := Red.seg (res := fun b => .ret (.bool b)) (fun a b q => by injection q with q; injection q) k1 rfl
  obtain ⟨es, n, t, I, hset⟩ := rd_set (p := p2) k2 (by decide) hin
  obtain ⟨x1, hx1, e1⟩ := Option.map_eq_some_iff.mp (looks2 w os es n t)
  obtain ⟨sa', ta', sb', cb', pb', sc', cc', pc', y1, h1', h2', h3', h4', rfl⟩ := W_split hx1
  obtain ⟨rfl, rfl⟩ : sa' = sa ∧ ta' = ta := by rw [h1] at h1'; simpa [eq_comm] using h1'
  obtain ⟨rfl, rfl, rfl⟩ : sb' = sb ∧ cb' = c2 ∧ pb' = pb := by rw [h2] at h2'; simpa [eq_comm] using h2'
  obtain ⟨rfl, rfl, rfl⟩ : sc' = sc ∧ cc' = c2 ∧ pc' = pc := by rw [h3] at h3'; simpa [eq_comm] using h3'
  obtain ⟨s1', c1', p1', yy', t2', s2', c2'', p2', g1', g2', g3'⟩ := W2_split h4'
  obtain ⟨rfl, rfl, rfl⟩ : s1' = s1 ∧ c1' = c2 ∧ p1' = p1 := by rw [g1] at g1'; simpa [eq_comm] using g1'
  obtain ⟨⟨rfl, rfl⟩, rfl, rfl, rfl⟩ : (yy' = yy ∧ t2' = t2) ∧ s2' = s2 ∧ c2'' = c2 ∧ p2' = p2 := by rw [g2] at g2'; simpa [eq_comm] using g2'
  obtain ⟨b', s3', c3', p3', k1', k2', k3'⟩ := W3_split g3'
  obtain ⟨rfl, rfl, rfl, rfl⟩ : b' = b ∧ s3' = s3 ∧ c3' = c2 ∧ p3' = p3 := by rw [k1] at k1'; simpa [eq_comm] using k1'
  obtain ⟨v4, s4, c4, p4, v5, s5, c5, p5, s6, c6, p6, r, m1, m2, m3, m4, e4⟩ := W4_split k3'
  have hc : c4 = c2 ∧ c5 = c2 ∧ c6 = c2 := by
    have := congrArg Prod.snd e1
    rw [e4] at this
    simp only [List.cons.injEq] at this
    exact ⟨this.2.2.1, this.2.2.2.1, this.2.2.2.2.1⟩
  obtain ⟨rfl, rfl, rfl⟩ := hc
  have q1 : RD w id 200 (eval (rowE 0) env2) sc' rowsE.pos (.ref 143) s1' p1' := Red.seg (res := Flow.ret) (fun _ _ => ret_inj) g1 rfl
  have q2 : RD w lv1 50 (eval (rowE 1) env2) s1' p1' (.str yy' t2') s2' p2' := Red.seg (res := Flow.ret) (fun _ _ => ret_inj) g2 rfl
  have q4 : RD w lv2 200 (eval (rowE 3) env2) _ _ v4 s4 p4 := Red.seg (res := Flow.ret) (fun _ _ => ret_inj) m1 rfl
  have q5 : RD w id 50 (newList [.ref 143, .str yy' t2', .ref 144, v4]) s4 p4 v5 s5 p5 := Red.seg (res := Flow.ret) (fun _ _ => ret_inj) m2 rfl
  have q6 : RD w id 200 (assignStores env2 v5 none ((assignEach rowsT env2).map (·.2))) s5 p5 .next s6 p6 := Red.seg (res := id) (fun _ _ h => h) m3 rfl
  have hspl : RD w id 950 (spliced [(false, eval (rowE 0) env2), (false, eval (rowE 1) env2), (false, eval (rowE 2) env2), (false, eval (rowE 3) env2)]) sc' rowsE.pos [.ref 143, .str yy' t2', .ref 144, v4] s4 p4 :=
    rd_spliced_ref (n := 200) (m := 750) q1 (rd_spliced_str (n := 50) (m := 700) q2 (rd_spliced_ref (n := 500) (m := 200) hset (rd_spliced_last q4)))
  have hst : RD w id 1300 (exec (stAt 7) env2) sc' pc' .next s6 p6 := by
    show RD w id 1300 (exec (.Assign rowsT rowsE rowsP) env2) _ _ _ _ _
    rw [exec_Assign]
    refine Red.bind (n := 1) (m := 1299) Red.at ?_
    refine Red.bind (n := 0) (m := 1299) (a := false) Red.pure ?_
    refine Red.ite_neg (by simp) ?_
    refine Red.bind (n := 1001) (m := 298) (a := v5) (s1 := s5) (p1 := p5) ?_ ?_
    · show RD w id 1001 (standAt rowsE.pos >>= fun _ => spliced [(false, eval (rowE 0) env2), (false, eval (rowE 1) env2), (false, eval (rowE 2) env2), (false, eval (rowE 3) env2)] >>= fun vs => newList vs) _ _ _ _ _
      refine Red.bind (n := 1) (m := 1000) Red.at ?_
      exact Red.bind (n := 950) (m := 50) hspl q5
    · refine Red.bind (n := 0) (m := 298) (a := none) Red.pure ?_
      exact Red.le (by decide) q6
  have hrest : topRun treeTable P2 w 11 ann2 (1300 + 1000) sc' (restOf (body2.drop 7) env2 c2 pc' B2) = some r := by
    have e7 : body2.drop 7 = stAt 7 :: body2.drop 8 := rfl
    rw [e7]
    unfold restOf
    rw [execs_cons_wrap]
    exact hst _ _ _ _ m4
  have hbody : topRun treeTable P2 w 11 ann2 (1000 + (1300 + 1000)) sb' (restOf body2 env2 c2 pb' B2) = some r := by
    have := piece_app h3 hrest
    rwa [List.take_append_drop] at this
  have htop := go_top h1 (hpre ▸ piece_block h2 hbody)
  refine ⟨es, n, t, r, I, ?_, ?_⟩
  · exact topRun_mono 687 _ _ _ _ htop
  · have := congrArg Prod.fst e1
    rw [e4] at this
    exact this
theorem setSeen_of {es : Array (Int × Value)} {n : Nat} {t : SetTable} {L : List Str} (I : Inv es t L) : setSeen L (some (setObj es n t)) = true := by
  obtain ⟨i1, i2, i3, i4, i5, i6⟩ := I
  show (decide ((Value.type "set") = .type "set") && true && true && (es.toList.all _ && L.all _ && t.place.size == es.size && t.dummies.size == 0 && decide (7 ≤ t.mask) && es.size == L.length)) = true
  simp only [Bool.and_eq_true, List.all_eq_true, List.any_eq_true, beq_iff_eq, decide_eq_true_eq]
  refine ⟨⟨⟨trivial, trivial⟩, trivial⟩, ⟨⟨⟨⟨fun e he => ?_, fun x hx => ?_⟩, i1⟩, by rw [i2]; rfl⟩, i3⟩, i4⟩
  · obtain ⟨x, u, e1, e2⟩ := i5 e he
    rw [e1]
    exact List.contains_iff_mem.mpr e2
  · obtain ⟨e, he, u, e1⟩ := i6 x hx
    exact ⟨e, he, by rw [e1, isStr_str]; exact beq_self_eq_true x⟩
noncomputable def yf2 (s : Shared) := (hookW.obs s, setSeen setL (s.heap.get? 144))
noncomputable def ya2 (w : World) := (hookW.val w, true)
theorem left2 : LeftO P2 viewW looseW' xt2 yf2 ya2 4000 := fun w => by
  obtain ⟨⟨h, gs, d, k, os⟩, e, e'⟩ := Option.map_eq_some_iff.mp (open2 w)
  obtain ⟨rfl, rfl, rfl, rfl⟩ : h = boot_heap w.params ∧ gs = Array.mk [] ∧ d = boot_drawn ∧ k = boot_toks := by simpa using e'
  obtain ⟨es, n, t, s', I, hr, hs⟩ := run2 w os
  have hz := size2 w os
  simp only [Prod.mk.injEq] at hz
  obtain ⟨z1, z2, z3⟩ := hz
  have a1 := congrArg (fun x => x.1.1) hs
  have a2 := congrArg (fun x => x.1.2) hs
  have a3 := congrArg (fun x => x.2.1) hs
  have a4 := congrArg (fun x => x.2.2) hs
  simp only [seen2] at a1 a2 a3 a4
  have ht : topFrom treeTable P2 w 4000 (s02 w os) = some s' := by
    unfold topFrom
    rw [z1, z2, z3, hr]
    show (match staticsOk (importedModules P2.main.body) (s02 w os).heap s'.heap && namesBound P2 s'.heap && gensDone s' && laidKept (s02 w os).heap s'.heap with | true => some s' | false => none) = some s'
    rw [a1]
  unfold openEnds
  rw [e]
  show (topFrom treeTable P2 w 4000 (s02 w os)).map _ = _
  rw [ht]
  refine congrArg some (Prod.ext a2 (Prod.ext a3 ?_))
  show setSeen setL (s'.heap.get? 144) = true
  rw [a4]
  exact setSeen_of I
end Mine
end
noncomputable section
open PySem PySem.W PySem.Calls PyProof.Rows
namespace Mine

-- the written part is taken into the tactic's store
example (w : World) : (heapW w.params) = (heapW w.params) ∧ PySem.Challenge.rw_im0056_02 = PySem.Challenge.rw_im0056_02 := by k_fill; exact ⟨rfl, rfl⟩

structure ClsF (c : Cx) (C : Addr) : Prop where
  get : ∀ n, plainGet c.K C n = true
  dict : hasDictIn c.K C = true
  over : plainOver c.K C = true
  sets : findIn c.K (.ref C) "__setattr__" = some (some (.builtin "object.__setattr__"))

theorem taker_none {c : Cx} {C : Addr} {name : Str} (h : findIn c.K (.ref C) name = some none) : takerIn c.K C name = some none := by unfold takerIn; rw [h]; rfl

abbrev PF (c : Cx) : Prop := Nonempty (PLift (c.K = heapW c.w.params))
theorem PF.hK {c : Cx} [h : PF c] : c.K = heapW c.w.params := h.elim PLift.down
theorem cls_of {c : Cx} (hK : c.K = heapW c.w.params) : ∀ C, C = 131 ∨ C = 38 → ClsF c C := by
  rintro C (rfl | rfl)
  · exact ⟨fun n => by rw [hK]; show plainGet _ _ "chunk" = true; k_is, by rw [hK]; k_is, by rw [hK]; k_is, by rw [hK]; k_is⟩
  · exact ⟨fun n => by rw [hK]; show plainGet _ _ "chunk" = true; k_is, by rw [hK]; k_is, by rw [hK]; k_is, by rw [hK]; k_is⟩
theorem PF.S {c : Cx} [h : PF c] : ClsF c 131 := cls_of PF.hK _ (.inl rfl)
theorem PF.T {c : Cx} [h : PF c] : ClsF c 38 := cls_of PF.hK _ (.inr rfl)
theorem PF.t_text {c : Cx} [h : PF c] : findIn c.K (.ref 38) "text" = some none := by rw [PF.hK (c := c)]; k_is
theorem PF.t_place {c : Cx} [h : PF c] : findIn c.K (.ref 38) "place" = some none := by rw [PF.hK (c := c)]; k_is
theorem PF.s_rce {c : Cx} [h : PF c] : findIn c.K (.ref 131) "reportCharacterErrors" = some none := by rw [PF.hK (c := c)]; k_is
theorem PF.s_newLines {c : Cx} [h : PF c] : findIn c.K (.ref 131) "newLines" = some none := by rw [PF.hK (c := c)]; k_is
theorem PF.s_dataStream {c : Cx} [h : PF c] : findIn c.K (.ref 131) "dataStream" = some none := by rw [PF.hK (c := c)]; k_is
theorem PF.s_chunk {c : Cx} [h : PF c] : findIn c.K (.ref 131) "chunk" = some none := by rw [PF.hK (c := c)]; k_is
theorem PF.s_chunkSize {c : Cx} [h : PF c] : findIn c.K (.ref 131) "chunkSize" = some none := by rw [PF.hK (c := c)]; k_is
theorem PF.s_chunkOffset {c : Cx} [h : PF c] : findIn c.K (.ref 131) "chunkOffset" = some none := by rw [PF.hK (c := c)]; k_is
theorem PF.s_errors {c : Cx} [h : PF c] : findIn c.K (.ref 131) "errors" = some none := by rw [PF.hK (c := c)]; k_is
theorem PF.s_prevNumLines {c : Cx} [h : PF c] : findIn c.K (.ref 131) "prevNumLines" = some none := by rw [PF.hK (c := c)]; k_is
theorem PF.s_prevNumCols {c : Cx} [h : PF c] : findIn c.K (.ref 131) "prevNumCols" = some none := by rw [PF.hK (c := c)]; k_is
theorem PF.s_buf {c : Cx} [h : PF c] : findIn c.K (.ref 131) "_bufferedCharacter" = some none := by rw [PF.hK (c := c)]; k_is
theorem PF.m_read {c : Cx} [h : PF c] : findIn c.K (.ref 38) "read" = some (some (.ref 35)) := by rw [PF.hK (c := c)]; k_is
theorem PF.m_reset {c : Cx} [h : PF c] : findIn c.K (.ref 131) "reset" = some (some (.ref 70)) := by rw [PF.hK (c := c)]; k_is
theorem PF.m_open {c : Cx} [h : PF c] : findIn c.K (.ref 131) "openStream" = some (some (.ref 77)) := by rw [PF.hK (c := c)]; k_is
theorem PF.m_pos_ {c : Cx} [h : PF c] : findIn c.K (.ref 131) "_position" = some (some (.ref 84)) := by rw [PF.hK (c := c)]; k_is
theorem PF.m_position {c : Cx} [h : PF c] : findIn c.K (.ref 131) "position" = some (some (.ref 91)) := by rw [PF.hK (c := c)]; k_is
theorem PF.m_char {c : Cx} [h : PF c] : findIn c.K (.ref 131) "char" = some (some (.ref 98)) := by rw [PF.hK (c := c)]; k_is
theorem PF.m_readChunk {c : Cx} [h : PF c] : findIn c.K (.ref 131) "readChunk" = some (some (.ref 106)) := by rw [PF.hK (c := c)]; k_is
theorem PF.m_errs {c : Cx} [h : PF c] : findIn c.K (.ref 131) "characterErrorsUCS4" = some (some (.ref 113)) := by rw [PF.hK (c := c)]; k_is
theorem PF.m_charsUntil {c : Cx} [h : PF c] : findIn c.K (.ref 131) "charsUntil" = some (some (.ref 121)) := by rw [PF.hK (c := c)]; k_is
theorem PF.m_unget {c : Cx} [h : PF c] : findIn c.K (.ref 131) "unget" = some (some (.ref 128)) := by rw [PF.hK (c := c)]; k_is
theorem PF.g_len {c : Cx} [h : PF c] : nsIn c.K mainGlobals "len" = some none := by rw [PF.hK (c := c)]; k_is
theorem PF.g_ord {c : Cx} [h : PF c] : nsIn c.K mainGlobals "ord" = some none := by rw [PF.hK (c := c)]; k_is
theorem PF.g_EOF {c : Cx} [h : PF c] : nsIn c.K mainGlobals "EOF" = some (some .none) := by rw [PF.hK (c := c)]; k_is
theorem PF.g_Text {c : Cx} [h : PF c] : nsIn c.K mainGlobals "Text" = some (some (.ref 38)) := by rw [PF.hK (c := c)]; k_is
theorem PF.g_inv {c : Cx} [h : PF c] : nsIn c.K mainGlobals "_is_invalid" = some (some (.ref 49)) := by rw [PF.hK (c := c)]; k_is
theorem PF.i_Text {c : Cx} [h : PF c] : findIn c.K (.ref 38) "__init__" = some (some (.ref 28)) := by rw [PF.hK (c := c)]; k_is
theorem PF.i_S {c : Cx} [h : PF c] : findIn c.K (.ref 131) "__init__" = some (some (.ref 63)) := by rw [PF.hK (c := c)]; k_is
theorem PF.k_Text {c : Cx} [h : PF c] : makesIn c.K 38 = true := by rw [PF.hK (c := c)]; k_is
theorem PF.k_S {c : Cx} [h : PF c] : makesIn c.K 131 = true := by rw [PF.hK (c := c)]; k_is
theorem PF.t_dcs {c : Cx} [h : PF c] : takerIn c.K 131 "_defaultChunkSize" = some none := by rw [PF.hK (c := c)]; k_is
theorem PF.s_dcs {c : Cx} [h : PF c] : ∃ a, findIn c.K (.ref 131) "_defaultChunkSize" = some a ∧ noGet c.K a = true := by rw [PF.hK (c := c)]; exact ⟨_, by k_is, by k_is⟩
theorem PF.kinv {c : Cx} [h : PF c] : keepIn c.K (.ref 49) = true := by rw [PF.hK (c := c)]; k_is
theorem PF.kc_Text {c : Cx} [h : PF c] : keepIn c.K (.ref 38) = true := by rw [PF.hK (c := c)]; k_is
theorem PF.kc_S {c : Cx} [h : PF c] : keepIn c.K (.ref 131) = true := by rw [PF.hK (c := c)]; k_is
theorem PF.fn {c : Cx} [h : PF c] : ∀ f ∈ [28, 35, 49, 63, 70, 77, 84, 91, 98, 106, 113, 121, 128], isFn c.K (.ref f) = true ∧ keepIn c.K (.ref f) = true ∧ fnIn c.K f = true := by
  intro f hf
  simp only [List.mem_cons, List.not_mem_nil, or_false] at hf
  rcases hf with rfl | rfl | rfl | rfl | rfl | rfl | rfl | rfl | rfl | rfl | rfl | rfl | rfl <;> exact ⟨by rw [PF.hK (c := c)]; k_is, by rw [PF.hK (c := c)]; k_is, by rw [PF.hK (c := c)]; k_is⟩
theorem pf_of {c : Cx} (hK : c.K = heapW c.w.params) : PF c := ⟨⟨hK⟩⟩
end Mine
end
noncomputable section
open PySem PySem.W PySem.Calls PyProof.Rows
namespace Mine
theorem mem_hd {α : Type} {x : α} {l : List α} : x ∈ x :: l := List.mem_cons_self
theorem mem_tl {α : Type} {x y : α} {l : List α} (h : x ∈ l) : x ∈ y :: l := List.mem_cons_of_mem _ h

theorem len0 {P : List Value → Prop} {vs : List Value} (h : vs.length = 0) (f : P []) : P vs := List.eq_nil_of_length_eq_zero h ▸ f
theorem len1 {P : List Value → Prop} {vs : List Value} (h : vs.length = 1) (f : ∀ a, P [a]) : P vs := by
  cases vs with
  | nil => cases h
  | cons a r => exact len0 (P := fun r => P (a :: r)) (Nat.succ.inj h) (f a)
theorem len2 {P : List Value → Prop} {vs : List Value} (h : vs.length = 2) (f : ∀ a b, P [a, b]) : P vs := by
  cases vs with
  | nil => cases h
  | cons a r => exact len1 (P := fun r => P (a :: r)) (Nat.succ.inj h) (f a)
theorem len3 {P : List Value → Prop} {vs : List Value} (h : vs.length = 3) (f : ∀ a b c, P [a, b, c]) : P vs := by
  cases vs with
  | nil => cases h
  | cons a r => exact len2 (P := fun r => P (a :: r)) (Nat.succ.inj h) (f a)
theorem len4 {P : List Value → Prop} {vs : List Value} (h : vs.length = 4) (f : ∀ a b c d, P [a, b, c, d]) : P vs := by
  cases vs with
  | nil => cases h
  | cons a r => exact len3 (P := fun r => P (a :: r)) (Nat.succ.inj h) (f a)
section
variable {s : Shared} {fd : FuncData} {ps : List Str} {dfl : List Value}
theorem bnd0 {vs : List Value} (h : vs.length = 0) (f : BindsTo s fd ⟨[], []⟩ (ps.zip ([] ++ dfl))) : BindsTo s fd ⟨vs, []⟩ (ps.zip (vs ++ dfl)) := len0 (P := fun vs => BindsTo s fd ⟨vs, []⟩ (ps.zip (vs ++ dfl))) h f
theorem bnd1 {vs : List Value} (h : vs.length = 1) (f : ∀ a, BindsTo s fd ⟨[a], []⟩ (ps.zip ([a] ++ dfl))) : BindsTo s fd ⟨vs, []⟩ (ps.zip (vs ++ dfl)) := len1 (P := fun vs => BindsTo s fd ⟨vs, []⟩ (ps.zip (vs ++ dfl))) h f
theorem bnd2 {vs : List Value} (h : vs.length = 2) (f : ∀ a b, BindsTo s fd ⟨[a, b], []⟩ (ps.zip ([a, b] ++ dfl))) : BindsTo s fd ⟨vs, []⟩ (ps.zip (vs ++ dfl)) := len2 (P := fun vs => BindsTo s fd ⟨vs, []⟩ (ps.zip (vs ++ dfl))) h f
theorem bnd3 {vs : List Value} (h : vs.length = 3) (f : ∀ a b c, BindsTo s fd ⟨[a, b, c], []⟩ (ps.zip ([a, b, c] ++ dfl))) : BindsTo s fd ⟨vs, []⟩ (ps.zip (vs ++ dfl)) := len3 (P := fun vs => BindsTo s fd ⟨vs, []⟩ (ps.zip (vs ++ dfl))) h f
theorem bnd4 {vs : List Value} (h : vs.length = 4) (f : ∀ a b c d, BindsTo s fd ⟨[a, b, c, d], []⟩ (ps.zip ([a, b, c, d] ++ dfl))) : BindsTo s fd ⟨vs, []⟩ (ps.zip (vs ++ dfl)) := len4 (P := fun vs => BindsTo s fd ⟨vs, []⟩ (ps.zip (vs ++ dfl))) h f
end
theorem Then_ret {c : Cx} {i : Fi} {k : Nat} {m : Fields} {cs : List Chunk} {rest : List Stmt} {Q : Flow → Fields → List Chunk → Prop} {v : Value} (h : Q (.ret v) m cs) : Then c i k rest Q (.ret v) m cs := h
theorem Then_brk {c : Cx} {i : Fi} {k : Nat} {m : Fields} {cs : List Chunk} {rest : List Stmt} {Q : Flow → Fields → List Chunk → Prop} (h : Q .brk m cs) : Then c i k rest Q .brk m cs := h
theorem Then_next {c : Cx} {i : Fi} {k : Nat} {m : Fields} {cs : List Chunk} {rest : List Stmt} {Q : Flow → Fields → List Chunk → Prop} (h : EXS c i k m cs rest Q) : Then c i k rest Q .next m cs := h

theorem lit_nl : Str.ofString "\n" = ⟨[10].toArray⟩ := by decide +kernel
theorem lit_cr : Str.ofString "\r" = ⟨[13].toArray⟩ := by decide +kernel
theorem lit_crnl : Str.ofString "\r\n" = ⟨[13, 10].toArray⟩ := by decide +kernel
theorem lit_empty : Str.ofString "" = ⟨([] : List Nat).toArray⟩ := by decide +kernel
noncomputable def errT : List Nat := "invalid-codepoint".toList.map Char.toNat
theorem lit_err : Str.ofString "invalid-codepoint" = ⟨errT.toArray⟩ := by decide +kernel

section
variable {c : Cx} {i : Fi} {A : Around} {k : Nat} {m : Fields} {cs cs' : List Chunk} {x C d : Addr}
/-- a field of an own object -/
theorem A_fld {fm : Fields} {name : Str} {v : Value} (hC : ClsF c C) (hx : (x, .inst C d) ∈ cs) (hd : (d, .obj fm) ∈ cs) (hv : (name, some v) ∈ fm) (ha : findIn c.K (.ref C) name = some none) (hho : handedIn v = true) :
    Op1 c A k cs (fun v => getAttr v name true) (.ref x) nv (Is cs v) := A_own hx hd hv (hC.get _) hC.dict ha rfl hho
theorem A_dcs [PF c] {fm : Fields} {v : Value} (hx : (x, .inst 131 d) ∈ cs) (hd : (d, .obj fm) ∈ cs) (hv : (("_defaultChunkSize" : Str), some v) ∈ fm) (hho : handedIn v = true) :
    Op1 c A k cs (fun v => getAttr v "_defaultChunkSize" true) (.ref x) nv (Is cs v) :=
  let ⟨_, e1, e2⟩ := PF.s_dcs (c := c)
  A_own hx hd hv (PF.S.get _) PF.S.dict e1 e2 hho
/-- len of a str, as an expression -/
theorem PE_len {e : Expr} {pos p2 : Pos} {gl : List Str} {l : List Nat} (hg : GOk i gl) (hx : Str.ofString "len" ∈ gl) (he : PE c i k m cs e (.str ⟨l.toArray⟩ 0)) (hz : l.length ≤ 1000000)
    (hn : nsIn c.K mainGlobals "len" = some none)
    (hs : ∀ env, starEach [e] env = (false, eval e env) :: starEach [] env := by intro _; rfl)
    (hc : ∀ env, eval (.Call (.Name "len" p2) [e] [] pos) env = (do let f ← eval (.Name "len" p2) env; callWith pos f [] (backTo pos (starEach [e] env)) (backToKw pos (keywordEach [] env))) := by intro _; rfl) :
    PE c i k m cs (.Call (.Name "len" p2) [e] [] pos) (.int l.length 0) :=
  EV_callB' (f := "len") (PE_bi (v := .builtin "len") hg hx hn (by boot_fast) (by decide)) (PEs_cons he PEs_nil hs) (K_len_str hz) hc hs
end
end Mine
end
noncomputable section
open PySem PySem.W PySem.Calls PyProof.Rows
open PySem.Builtin.Str PySem.StrLaws
namespace Mine

/- ## slices by numbers -/
theorem cl_nat (n a : Nat) : cl n (a : Int) = min a n := by unfold cl; rw [if_neg (by omega)]; rfl
theorem sl_nn {α : Type} (l : List α) (a b : Nat) : sl l (some (a : Int)) (some (b : Int)) = (l.drop a).take (b - a) := by
  unfold sl lo0 hi0
  simp only [cl_nat]
  apply List.ext_getElem?
  intro j
  simp only [List.getElem?_take, List.getElem?_drop]
  by_cases ha : a ≤ l.length
  · rw [Nat.min_eq_left ha]
    by_cases hj : a + j < l.length
    · split <;> split <;> first | rfl | omega
    · rw [List.getElem?_eq_none (by omega)]; split <;> split <;> rfl
  · rw [List.getElem?_eq_none (by omega), List.getElem?_eq_none (by omega)]; split <;> split <;> rfl
theorem sl_n_ {α : Type} (l : List α) (a : Nat) : sl l (some (a : Int)) none = l.drop a := by
  unfold sl lo0 hi0
  simp only [cl_nat]
  by_cases ha : a ≤ l.length
  · rw [Nat.min_eq_left ha, List.take_of_length_le (by simp)]
  · rw [List.drop_eq_nil_of_le (by omega), List.drop_eq_nil_of_le (by omega)]; simp
theorem sl__n {α : Type} (l : List α) (b : Nat) : sl l none (some (b : Int)) = l.take b := by
  unfold sl lo0 hi0
  simp only [cl_nat, List.drop_zero, Nat.sub_zero]
  by_cases hb : b ≤ l.length
  · rw [Nat.min_eq_left hb]
  · rw [List.take_of_length_le (by omega), List.take_of_length_le (by omega)]
theorem sl__m1 {α : Type} (l : List α) : sl l none (some (-1)) = l.dropLast := by
  unfold sl lo0 hi0
  simp only [cl, List.drop_zero, Nat.sub_zero]
  rw [if_pos (by omega), List.dropLast_eq_take]
  congr 1
  omega

/- ## one sign counted and sought -/
theorem subAt_hi (l : List Nat) (a i hi : Nat) : (i + (⟨[a].toArray⟩ : Str).length ≤ hi ∧ subAt ⟨l.toArray⟩ ⟨[a].toArray⟩ i = true) ↔ (l.take hi)[i]? = some a := by
  rw [subAt_eq]
  show (i + 1 ≤ hi ∧ ((l.drop i).take 1 == [a]) = true) ↔ _
  rw [take1_drop, List.getElem?_take]
  by_cases h : i < hi
  · rw [if_pos h]; exact ⟨fun h => h.2, fun e => ⟨h, e⟩⟩
  · rw [if_neg h]; exact ⟨fun q => by omega, fun q => by simp at q⟩
theorem count_run (l : List Nat) (a hi limit : Nat) : ∀ (m cur : Nat) (st : Array Nat × Nat), st.snd ≤ cur → st.fst.size + m ≤ limit →
    (forIn (List.range' cur m) st (occBody ⟨l.toArray⟩ ⟨[a].toArray⟩ hi limit)).run.fst.size = st.fst.size + (((l.take hi).drop cur).take m).count a
  | 0, cur, st, _, _ => by simp
  | m + 1, cur, st, h, hl => by
    rw [List.range'_succ, List.forIn_cons]
    unfold occBody
    by_cases hc : (l.take hi)[cur]? = some a
    · have hc' := (subAt_hi l a cur hi).mpr hc
      rw [if_pos ⟨⟨⟨by omega, h⟩, hc'.1⟩, hc'.2⟩]
      show (forIn (List.range' (cur + 1) m) (st.fst.push cur, cur + 1) (occBody ⟨l.toArray⟩ ⟨[a].toArray⟩ hi limit)).run.fst.size = _
      rw [count_run l a hi limit m (cur + 1) (st.fst.push cur, cur + 1) (Nat.le_refl _) (by show (st.fst.push cur).size + m ≤ limit; rw [Array.size_push]; omega)]
      show (st.fst.push cur).size + _ = _
      obtain ⟨hlt, he⟩ := List.getElem?_eq_some_iff.mp hc
      rw [Array.size_push, List.drop_eq_getElem_cons hlt, List.take_succ_cons, he, List.count_cons_self]
      omega
    · have hc' : ¬ (((st.fst.size < limit ∧ st.snd ≤ cur) ∧ cur + (⟨[a].toArray⟩ : Str).length ≤ hi) ∧ subAt ⟨l.toArray⟩ ⟨[a].toArray⟩ cur = true) :=
        fun q => hc ((subAt_hi l a cur hi).mp ⟨q.1.2, q.2⟩)
      rw [if_neg hc']
      show (forIn (List.range' (cur + 1) m) (st.fst, st.snd) (occBody ⟨l.toArray⟩ ⟨[a].toArray⟩ hi limit)).run.fst.size = _
      rw [count_run l a hi limit m (cur + 1) (st.fst, st.snd) (by show st.snd ≤ cur + 1; omega) (by show st.fst.size + m ≤ limit; omega)]
      by_cases hlt : cur < (l.take hi).length
      · rw [List.drop_eq_getElem_cons hlt, List.take_succ_cons, List.count_cons_of_ne]
        intro e
        exact hc (List.getElem?_eq_some_iff.mpr ⟨hlt, e⟩)
      · rw [List.drop_eq_nil_of_le (by omega), List.drop_eq_nil_of_le (by omega)]; simp
theorem count_eq (l : List Nat) (a n : Nat) (hn : n ≤ l.length) : (occurrences ⟨l.toArray⟩ ⟨[a].toArray⟩ 0 n (l.length + 1)).length = (l.take n).count a := by
  rw [occ_eq, Array.length_toList]
  rw [count_run l a n (l.length + 1) (n + 1 - 0) 0 (#[], 0) (Nat.le_refl _) (by simp; omega)]
  simp only [Array.size_empty, Nat.zero_add, List.drop_zero]
  rw [List.take_of_length_le (by simp; omega)]

/-- where a sign stands last, or -1 -/
noncomputable def lastI (a : Nat) (L : List Nat) : Int := if a ∈ L then (L.length - 1 - (L.reverse.takeWhile (· != a)).length : Nat) else -1
theorem lastI_at {a : Nat} {u v : List Nat} (hv : a ∉ v) : lastI a (u ++ a :: v) = u.length := by
  unfold lastI
  rw [if_pos (by simp)]
  have : ((u ++ a :: v).reverse.takeWhile (· != a)) = v.reverse := by
    rw [List.reverse_append, List.reverse_cons, List.append_assoc, List.takeWhile_append_of_pos (by intro x hx; simp at hx ⊢; exact fun e => hv (e ▸ hx))]
    simp
  rw [this]
  simp only [List.length_append, List.length_cons, List.length_reverse]
  omega
theorem last_split {a : Nat} {L : List Nat} {i : Nat} (h : L[i]? = some a) (hn : ∀ k, i < k → L[k]? ≠ some a) : ∃ u v, L = u ++ a :: v ∧ a ∉ v ∧ u.length = i := by
  obtain ⟨hlt, he⟩ := List.getElem?_eq_some_iff.mp h
  refine ⟨L.take i, L.drop (i + 1), ?_, ?_, by simp; omega⟩
  · rw [← he, ← List.drop_eq_getElem_cons hlt, List.take_append_drop]
  · intro hm
    obtain ⟨j, hj⟩ := List.getElem?_of_mem hm
    rw [List.getElem?_drop] at hj
    exact hn (i + 1 + j) (by omega) hj
theorem last_eqI (l : List Nat) (a n : Nat) : (match lastOccurrence ⟨l.toArray⟩ ⟨[a].toArray⟩ 0 n with | some i => (i : Int) | none => -1) = lastI a (l.take n) := by
  rw [last_eq]
  have key := last_run ⟨l.toArray⟩ ⟨[a].toArray⟩ n (List.range' 0 (n + 1 - 0)) [] none (fun _ h => nomatch h) (fun _ h => nomatch h) (by simpa using List.pairwise_lt_range' (s := 0) (n := n + 1 - 0))
  have mem : ∀ i, (l.take n)[i]? = some a → i ∈ [] ++ List.range' 0 (n + 1 - 0) := fun i hi => by
    have := (List.getElem?_eq_some_iff.mp hi).1
    simp [List.mem_range'] at this ⊢ ; omega
  cases hr : (forIn (List.range' 0 (n + 1 - 0)) none (lastBody ⟨l.toArray⟩ ⟨[a].toArray⟩ n)).run with
  | none =>
    rw [hr] at key
    have : a ∉ l.take n := fun hm => by
      obtain ⟨i, hi⟩ := List.getElem?_of_mem hm
      exact key i (mem i hi) ((subAt_hi l a i n).mpr hi)
    unfold lastI
    rw [if_neg this]
  | some b =>
    rw [hr] at key
    obtain ⟨u, v, e, hv, hu⟩ := last_split ((subAt_hi l a b n).mp key.1) (fun k hk q => key.2 k (mem k q) hk ((subAt_hi l a k n).mpr q))
    rw [e, lastI_at hv, hu]

theorem gives_count4 (x y : Str) (i j : Int) (t u v z : Tok) : Gives (PySem.Builtin.«str.count» ⟨[.str x t, .str y u, .int i v, .int j z], []⟩) (.int (occurrences x y (fromIndex x.length i) (min (fromIndex x.length j) x.length) (x.length + 1)).length) := .of_eq rfl
theorem gives_rfind4 (x y : Str) (i j : Int) (t u v z : Tok) : Gives (PySem.Builtin.«str.rfind» ⟨[.str x t, .str y u, .int i v, .int j z], []⟩) (.int (match lastOccurrence x y (fromIndex x.length i) (min (fromIndex x.length j) x.length) with | some i => (i : Int) | none => -1)) := by
  show Gives (match lastOccurrence x y (fromIndex x.length i) (min (fromIndex x.length j) x.length) with | some i => retInt i | none => (do rule "str.rfind.not-found"; retInt (-1))) _
  cases lastOccurrence x y (fromIndex x.length i) (min (fromIndex x.length j) x.length) with
  | none => exact .rule (.of_eq rfl)
  | some i => exact .of_eq rfl
theorem from_nat (n i : Nat) : fromIndex n (i : Int) = i := by unfold fromIndex; rw [if_neg (by omega)]; omega

section
variable {c : Cx} {A : Around} {k : Nat} {cs : List Chunk}
theorem K_count {l : List Nat} {a n : Nat} (hn : n ≤ l.length) : CallV c A k cs (.builtin "str.count") [.str ⟨l.toArray⟩ 0, .str ⟨[a].toArray⟩ 0, .int 0 0, .int n 0] (Is cs (.int ((l.take n).count a : Nat) 0)) := by
  intro _ R s as ha hs
  obtain ⟨a1, a2, a3, a4, rfl, h1, h2, h3, h4⟩ := map_four ha
  obtain ⟨-, t1, rfl⟩ := nv_str h1; obtain ⟨-, t2, rfl⟩ := nv_str h2; obtain ⟨-, t3, rfl⟩ := nv_int h3; obtain ⟨-, t4, rfl⟩ := nv_int h4
  refine call_gives F.slot_str_count (typeIs_str _ _ _) F.entry_str_count (F.args_str_count_4 _ _ _ _) (gives_count4 _ _ _ _ _ _ _ _) ?_
  have e : (occurrences ⟨l.toArray⟩ ⟨[a].toArray⟩ (fromIndex (⟨l.toArray⟩ : Str).length 0) (min (fromIndex (⟨l.toArray⟩ : Str).length n) (⟨l.toArray⟩ : Str).length) ((⟨l.toArray⟩ : Str).length + 1)).length = (l.take n).count a := by
    have e0 : fromIndex (⟨l.toArray⟩ : Str).length 0 = 0 := from_nat _ 0
    rw [e0, from_nat, str_len, Nat.min_eq_left hn]
    exact count_eq l a n hn
  rw [e]
  exact ⟨cs, hs.toks (Nat.succ_pos _), rfl, rfl⟩
theorem K_rfind {l : List Nat} {a n : Nat} (hn : n ≤ l.length) : CallV c A k cs (.builtin "str.rfind") [.str ⟨l.toArray⟩ 0, .str ⟨[a].toArray⟩ 0, .int 0 0, .int n 0] (Is cs (.int (lastI a (l.take n)) 0)) := by
  intro _ R s as ha hs
  obtain ⟨a1, a2, a3, a4, rfl, h1, h2, h3, h4⟩ := map_four ha
  obtain ⟨-, t1, rfl⟩ := nv_str h1; obtain ⟨-, t2, rfl⟩ := nv_str h2; obtain ⟨-, t3, rfl⟩ := nv_int h3; obtain ⟨-, t4, rfl⟩ := nv_int h4
  refine call_gives F.slot_str_rfind (typeIs_str _ _ _) F.entry_str_rfind (F.args_str_rfind_4 _ _ _ _) (gives_rfind4 _ _ _ _ _ _ _ _) ?_
  have e : (match lastOccurrence ⟨l.toArray⟩ ⟨[a].toArray⟩ (fromIndex (⟨l.toArray⟩ : Str).length 0) (min (fromIndex (⟨l.toArray⟩ : Str).length n) (⟨l.toArray⟩ : Str).length) with | some i => (i : Int) | none => -1) = lastI a (l.take n) := by
    have e0 : fromIndex (⟨l.toArray⟩ : Str).length 0 = 0 := from_nat _ 0
    rw [e0, from_nat, str_len, Nat.min_eq_left hn]
    exact last_eqI l a n
  rw [e]
  exact ⟨cs, hs.toks (Nat.succ_pos _), rfl, rfl⟩
end
end Mine
end
noncomputable section
open PySem PySem.W PySem.Calls PyProof.Rows
open PySem.Builtin.Str PySem.StrLaws
namespace Mine

/- ## replacing -/
noncomputable def rep2 : List Nat → List Nat
  | [] => []
  | [a] => [a]
  | a :: b :: r => if a = 13 ∧ b = 10 then 10 :: rep2 r else a :: rep2 (b :: r)
theorem rep2_cc (a b : Nat) (r : List Nat) : rep2 (a :: b :: r) = if a = 13 ∧ b = 10 then 10 :: rep2 r else a :: rep2 (b :: r) := by rw [rep2]
theorem rep2_free : ∀ (l : List Nat), (∀ k, ¬ (l[k]? = some 13 ∧ l[k+1]? = some 10)) → rep2 l = l
  | [], _ => rfl
  | [a], _ => rfl
  | a :: b :: r, h => by
    rw [rep2_cc, if_neg (fun e => h 0 ⟨by simp [e.1], by simp [e.2]⟩), rep2_free (b :: r) (fun k e => h (k + 1) ⟨by simpa using e.1, by simpa using e.2⟩)]
theorem rep2_split : ∀ (u v : List Nat), (∀ k, k < u.length → ¬ ((u ++ 13 :: 10 :: v)[k]? = some 13 ∧ (u ++ 13 :: 10 :: v)[k+1]? = some 10)) → rep2 (u ++ 13 :: 10 :: v) = u ++ 10 :: rep2 v
  | [], v, _ => by
    show rep2 (13 :: 10 :: v) = 10 :: rep2 v
    rw [rep2_cc, if_pos ⟨rfl, rfl⟩]
  | [a], v, h => by
    show rep2 (a :: 13 :: 10 :: v) = _
    rw [rep2_cc, if_neg (by omega), rep2_cc, if_pos ⟨rfl, rfl⟩]
    rfl
  | a :: b :: u, v, h => by
    show rep2 (a :: b :: (u ++ 13 :: 10 :: v)) = _
    rw [rep2_cc, if_neg (fun e => h 0 (by simp) ⟨by simp [e.1], by simp [e.2]⟩)]
    have := rep2_split (b :: u) v (fun k hk e => h (k + 1) (by simp at hk ⊢; omega) ⟨by simpa using e.1, by simpa using e.2⟩)
    rw [show b :: (u ++ 13 :: 10 :: v) = (b :: u) ++ 13 :: 10 :: v from rfl, this]; rfl

theorem subAt_two (x : Str) (a b i : Nat) : (i + (⟨#[a, b]⟩ : Str).length ≤ x.length ∧ subAt x ⟨#[a, b]⟩ i = true) ↔ (x.cps.toList[i]? = some a ∧ x.cps.toList[i+1]? = some b) := by
  rw [subAt_eq]
  show (i + 2 ≤ x.length ∧ ((x.cps.toList.drop i).take 2 == [a, b]) = true) ↔ _
  have hn : x.cps.toList.length = x.length := by simp [Str.length]
  rw [beq_iff_eq]
  have e0 : x.cps.toList[i]? = (x.cps.toList.drop i)[0]? := by rw [List.getElem?_drop]; rfl
  have e1 : x.cps.toList[i+1]? = (x.cps.toList.drop i)[1]? := by rw [List.getElem?_drop]
  rw [e0, e1]
  have hl : (x.cps.toList.drop i).length = x.length - i := by rw [List.length_drop, hn]
  generalize x.cps.toList.drop i = d at hl
  match d with
  | [] => simp
  | [p] => simp
  | p :: q :: r => 
    simp only [List.length_cons] at hl
    simp
    omega
theorem join_two (x : Str) : ∀ (cuts : List Nat) (a f : Nat), ChainG x ⟨#[13, 10]⟩ x.length a cuts f → (∀ k, f ≤ k → ¬ At x ⟨#[13, 10]⟩ x.length k) →
    (Str.join ⟨#[10]⟩ (partsFrom x 2 a cuts)).cps.toList = rep2 (x.cps.toList.drop a)
  | [], a, f, h, hn => by
    have e : f = a := h
    subst e
    have hl : x.cps.toList.length = x.length := by simp [Str.length]
    show (strSub x f x.length).cps.toList = _
    rw [strSub_toList, List.take_of_length_le (by rw [List.length_drop, hl]; exact Nat.le_refl _), rep2_free]
    rintro k ⟨h1, h2⟩
    rw [List.getElem?_drop] at h1 h2
    exact hn (f + k) (by omega) ((subAt_two x 13 10 (f + k)).mpr ⟨h1, h2⟩)
  | d :: r, a, f, h, hn => by
    have ih := join_two x r _ f h.2.2.2 hn
    obtain ⟨p, q, e⟩ := partsFrom_ne x 2 (d + 2) r
    show (Str.join ⟨#[10]⟩ (strSub x a d :: partsFrom x 2 (d + 2) r)).cps.toList = _
    have e2 : (⟨#[13, 10]⟩ : Str).length = 2 := rfl
    rw [e2] at ih
    rw [e] at ih ⊢
    show (strSub x a d ++ ⟨#[10]⟩ ++ Str.join ⟨#[10]⟩ (p :: q)).cps.toList = _
    simp only [Str.cps_append, Array.toList_append]
    rw [ih, strSub_toList]
    obtain ⟨g1, g2⟩ := (subAt_two x 13 10 d).mp h.2.1
    obtain ⟨l1, q1⟩ := List.getElem?_eq_some_iff.mp g1
    obtain ⟨l2, q2⟩ := List.getElem?_eq_some_iff.mp g2
    have hd : x.cps.toList.drop a = (x.cps.toList.drop a).take (d - a) ++ 13 :: 10 :: x.cps.toList.drop (d + 2) := by
      have : 13 :: 10 :: x.cps.toList.drop (d + 2) = (x.cps.toList.drop a).drop (d - a) := by
        rw [List.drop_drop, show a + (d - a) = d from by have := h.1; omega, List.drop_eq_getElem_cons l1, q1, List.drop_eq_getElem_cons l2, q2]
      rw [this, List.take_append_drop]
    have hlen : ((x.cps.toList.drop a).take (d - a)).length = d - a := by
      rw [List.length_take, List.length_drop]; have := h.1; omega
    have := rep2_split ((x.cps.toList.drop a).take (d - a)) (x.cps.toList.drop (d + 2)) (fun k hk e => by
      rw [← hd, List.getElem?_drop, List.getElem?_drop] at e
      rw [hlen] at hk
      exact h.2.2.1 (a + k) (by omega) (by omega) ((subAt_two x 13 10 (a + k)).mpr e))
    rw [← hd] at this
    rw [this, List.append_assoc]; rfl
theorem replace_two (l : List Nat) : Txt.replace ⟨l.toArray⟩ ⟨[13, 10].toArray⟩ ⟨[10].toArray⟩ = ⟨(rep2 l).toArray⟩ := by
  obtain ⟨f, hG, hn⟩ := occ_tight ⟨l.toArray⟩ ⟨#[13, 10]⟩ (by decide)
  unfold Txt.replace
  have h10 : ((⟨[13, 10].toArray⟩ : Str).length == 0) = false := rfl
  rw [h10, Bool.false_and, Bool.or_false]
  have base := join_two ⟨l.toArray⟩ (occurrences ⟨l.toArray⟩ ⟨#[13, 10]⟩ 0 (⟨l.toArray⟩ : Str).length ((⟨l.toArray⟩ : Str).length + 1)) 0 f hG hn
  cases he : (occurrences ⟨l.toArray⟩ ⟨[13, 10].toArray⟩ 0 (⟨l.toArray⟩ : Str).length ((⟨l.toArray⟩ : Str).length + 1)).isEmpty
  · rw [if_neg Bool.false_ne_true, glued_eq_join, partsBetween_eq]
    apply Str.ext'
    apply Array.toList_inj.mp
    exact base
  · rw [if_pos rfl]
    have e0 : occurrences ⟨l.toArray⟩ ⟨#[13, 10]⟩ 0 (⟨l.toArray⟩ : Str).length ((⟨l.toArray⟩ : Str).length + 1) = [] := List.isEmpty_iff.mp he
    rw [e0] at base
    apply Str.ext'
    apply Array.toList_inj.mp
    have hl : l.length = (⟨l.toArray⟩ : Str).length := by simp [Str.length]
    have e1 : (Str.join ⟨#[10]⟩ (partsFrom ⟨l.toArray⟩ 2 0 [])).cps.toList = l := by
      show (strSub ⟨l.toArray⟩ 0 (⟨l.toArray⟩ : Str).length).cps.toList = l
      rw [strSub_toList]
      show (l.drop 0).take _ = l
      rw [List.drop_zero, List.take_of_length_le (by omega)]
    rw [e1] at base
    show l = rep2 l
    simpa using base
noncomputable def crf (c : Nat) : Nat := if c = 13 then 10 else c
theorem map_free (l : List Nat) (h : 13 ∉ l) : l.map crf = l := by
  induction l with
  | nil => rfl
  | cons a r ih =>
    simp only [List.mem_cons, not_or] at h
    rw [List.map_cons, ih h.2]
    unfold crf
    rw [if_neg (fun e => h.1 e.symm)]
theorem map_join : ∀ parts : List Str, (∀ p ∈ parts, 13 ∉ p.cps.toList) → (Str.join ⟨#[13]⟩ parts).cps.toList.map crf = (Str.join ⟨#[10]⟩ parts).cps.toList
  | [], _ => rfl
  | [p], h => map_free _ (h p (List.mem_singleton.mpr rfl))
  | p :: q :: r, h => by
    have ih := map_join (q :: r) fun a ha => h a (List.mem_cons_of_mem _ ha)
    show (p ++ ⟨#[13]⟩ ++ Str.join ⟨#[13]⟩ (q :: r)).cps.toList.map crf = (p ++ ⟨#[10]⟩ ++ Str.join ⟨#[10]⟩ (q :: r)).cps.toList
    simp only [Str.cps_append, Array.toList_append, List.map_append]
    rw [ih, map_free _ (h p (List.mem_cons_self ..))]
    rfl
theorem replace_cr (l : List Nat) : Txt.replace ⟨l.toArray⟩ ⟨[13].toArray⟩ ⟨[10].toArray⟩ = ⟨(l.map crf).toArray⟩ := by
  have := replace_one ⟨l.toArray⟩ ⟨#[10]⟩ 13
  show Txt.replace ⟨l.toArray⟩ ⟨#[13]⟩ ⟨#[10]⟩ = _
  rw [this]
  apply Str.ext'
  apply Array.toList_inj.mp
  rw [← map_join _ (split_free ⟨l.toArray⟩ 13), join_split]

section
variable {c : Cx} {i : Fi} {A : Around} {k : Nat} {m : Fields} {cs cs' : List Chunk}
theorem EV_replace {o : Expr} {apos pos p1 p2 : Pos} {l p r : List Nat} {x y : Str} {u1 u2 : Nat} {Q : Value → List Chunk → Prop} (ho : PE c i k m cs o (.str ⟨l.toArray⟩ 0)) (hx : x = ⟨p.toArray⟩) (hy : y = ⟨[10].toArray⟩)
    (hne : ((⟨p.toArray⟩ : Str) == ⟨[10].toArray⟩) = false) (hz : l.length ≤ 1000000) (hr : Txt.replace ⟨l.toArray⟩ ⟨p.toArray⟩ ⟨[10].toArray⟩ = ⟨r.toArray⟩) (q : Q (.str ⟨r.toArray⟩ 0) cs)
    (hc : MCall o "replace" [.Constant (.str x) u1 p1, .Constant (.str y) u2 p2] apos pos := by intro _; exact ⟨_, rfl⟩) :
    EV c i k m cs (.Call (.Attribute o "replace" apos) [.Constant (.str x) u1 p1, .Constant (.str y) u2 p2] [] pos) Q := by
  subst hx hy
  intro hF R s hs
  obtain ⟨pl, hc⟩ := hc i.env
  refine methodCall_KW (pl := pl) (noE (ho hF R s hs) ?_) hc
  rintro ov s1 ⟨cs1, h1, e1, rfl⟩
  have g := M_str (c := c) (A := i.A) (k := k) (cs := cs1) (x := l) (name := "replace") (id := "str.replace") (Q := fun f first cs2 => f = .builtin "str.replace" ∧ first = [.str ⟨l.toArray⟩ 0] ∧ cs2 = cs1) F.slot_str_replace F.type_str_replace ⟨rfl, rfl, rfl⟩
  refine noE (g hF.2.2 _ s1 ov pl e1 (h1.perm mid)) ?_
  rintro ⟨f, first⟩ s2 ⟨cs2, h2, rfl, hfi, rfl⟩
  obtain ⟨v0, rfl, e0⟩ := map_one hfi
  obtain ⟨-, t0, rfl⟩ := nv_str e0
  have h2 := h2.perm dim
  refine Calls.callWith_builtin rfl (Calls.evalArgs_plain ?_)
  show wpAny _ _ (spliced (backTo pos ((false, eval (.Constant (.str ⟨p.toArray⟩) u1 p1) i.env) :: starEach [.Constant (.str ⟨[10].toArray⟩) u2 p2] i.env))) _ _ _
  refine spliced_cons (x := eval (.Constant (.str ⟨p.toArray⟩) u1 p1) i.env) (Calls.Constant_str ?_)
  show wpAny _ _ (spliced (backTo pos ((false, eval (.Constant (.str ⟨[10].toArray⟩) u2 p2) i.env) :: starEach [] i.env))) _ _ _
  refine spliced_cons (x := eval (.Constant (.str ⟨[10].toArray⟩) u2 p2) i.env) (Calls.Constant_str ?_)
  refine spliced_nil ?_
  have hp := h2.pos
  have h3 : St c ((i.L, .ns m) :: (cs2 ++ R)) { s2 with toks := s2.toks + 1 + 1 } := h2.toks (by show 0 < s2.toks + 1 + 1; omega)
  have h4 : St c (((i.L, .ns m) :: cs2) ++ R) { s2 with toks := s2.toks + 1 + 1 } := h3
  refine noE (toks_fin (v := .str ⟨r.toArray⟩ 0) h4 ?_) ?_
  · refine SC.replaceW (by show s2.toks ≠ 0; omega) (by show s2.toks + 1 ≠ 0; omega) (by show s2.toks ≠ s2.toks + 1; omega) hne (by rw [str_len]; omega) (by decide) ?_
    intro t' k'
    rw [hr]
    exact ⟨rfl, k', rfl⟩
  · rintro v s5 ⟨cs5, h5, e5, rfl⟩
    exact ⟨cs2, h5, by rw [e5]; exact q⟩
end
end Mine
end
noncomputable section
open PySem PySem.W PySem.Calls PyProof.Rows
namespace Mine

theorem St.but {c : Cx} {cs : List Chunk} {s : Shared} {a : Addr} {ao : AO} {h' : Heap} (x : St c ((a, ao) :: cs) s) (k : ∀ b y, b ≠ a → s.heap.get? b = some y → h'.get? b = some y) : St c cs { s with heap := h' } := by
  have o := x.own
  have hlow := x.low (a := a) (ao := ao) (by simp)
  refine ⟨x.1, x.2.1, x.2.2.1, fun b y e => k b y (fun q => ?_) (o.1 b y e), ?_, fun p hp => ?_⟩
  · have := Heap.lt_size e
    rw [q] at this
    exact absurd this (Nat.not_lt.mpr hlow)
  · have := o.2.1
    simp only [List.map_cons, List.nodup_cons] at this
    exact this.2
  · obtain ⟨h1, y, e, h2⟩ := o.2.2 p (List.mem_cons_of_mem _ hp)
    refine ⟨h1, y, k _ _ (fun q => ?_) e, h2⟩
    have := o.2.1
    simp only [List.map_cons, List.nodup_cons] at this
    exact this.1 (q ▸ List.mem_map_of_mem hp)
theorem St.tail {c : Cx} {cs : List Chunk} {s : Shared} {p : Chunk} (x : St c (p :: cs) s) : St c cs s := ⟨x.1, x.2.1, x.2.2.1, x.own.sub (List.sublist_cons_self ..)⟩

section
variable {c : Cx} {i : Fi} {A : Around} {k : Nat} {m : Fields} {cs cs' : List Chunk}
/- ## items -/
theorem G_str {e j : Expr} {l : List Nat} {n x : Nat} (h : l[n]? = some x) (hz : l.length ≤ 1000000)
    (hs' : ∀ t u, subscripted j false (.str ⟨l.toArray⟩ t) (.int n u) = operate [.str ⟨l.toArray⟩ t, .int n u] (getItem (.str ⟨l.toArray⟩ t) (.int n u)) := by intro _ _; with_unfolding_all rfl)
    (ht' : ∀ t r, letTemporaryGo e (.str ⟨l.toArray⟩ t) r = pure () := by intro _ _; with_unfolding_all rfl) : Op2 c A k cs (subscriptTail e j) (.str ⟨l.toArray⟩ 0) (.int n 0) nv (Is cs (.str ⟨[x].toArray⟩ 0)) := by
  intro _ R s a' b' ha hb hs
  obtain ⟨-, t, rfl⟩ := nv_str ha
  obtain ⟨-, u, rfl⟩ := nv_int hb
  obtain ⟨hlt, he⟩ := List.getElem?_eq_some_iff.mp h
  have hi : Txt.item ⟨l.toArray⟩ (n : Int) = ⟨[x].toArray⟩ := by
    unfold Txt.item Txt.charAt seqIndex?
    have hl : (⟨l.toArray⟩ : Str).length = l.length := str_len l
    rw [hl]
    simp only [show ¬ ((n : Int) < 0) by omega, if_false]
    rw [if_pos (by simp; omega)]
    simp [h]
  refine item_str (by unfold fitsSsize; simp; omega) (by omega) (by rw [str_len]; omega) (fun _ => ?_) (hs' t u) (ht' t)
  rw [hi]
  exact ⟨cs, hs.toks (Nat.succ_pos _), rfl, rfl⟩
theorem G_str_last {e j : Expr} {l : List Nat} {x : Nat} (hz : l.length ≤ 1000000)
    (hs' : ∀ t u, subscripted j false (.str ⟨(l ++ [x]).toArray⟩ t) (.int (-1) u) = operate [.str ⟨(l ++ [x]).toArray⟩ t, .int (-1) u] (getItem (.str ⟨(l ++ [x]).toArray⟩ t) (.int (-1) u)) := by intro _ _; with_unfolding_all rfl)
    (ht' : ∀ t r, letTemporaryGo e (.str ⟨(l ++ [x]).toArray⟩ t) r = pure () := by intro _ _; with_unfolding_all rfl) : Op2 c A k cs (subscriptTail e j) (.str ⟨(l ++ [x]).toArray⟩ 0) (.int (-1) 0) nv (Is cs (.str ⟨[x].toArray⟩ 0)) := by
  intro _ R s a' b' ha hb hs
  obtain ⟨-, t, rfl⟩ := nv_str ha
  obtain ⟨-, u, rfl⟩ := nv_int hb
  have hl : (⟨(l ++ [x]).toArray⟩ : Str).length = l.length + 1 := by rw [str_len]; simp
  have hi : Txt.item ⟨(l ++ [x]).toArray⟩ (-1 : Int) = ⟨[x].toArray⟩ := by
    unfold Txt.item Txt.charAt seqIndex?
    rw [hl]
    simp only [show ((-1 : Int) < 0) by omega, if_true]
    rw [if_pos (by simp; omega)]
    have : ((-1 : Int) + ((l.length : Int) + 1)).toNat = l.length := by omega
    simp [this]
  refine item_str (by decide) (by omega) (by omega) (fun _ => ?_) (hs' t u) (ht' t)
  rw [hi]
  exact ⟨cs, hs.toks (Nat.succ_pos _), rfl, rfl⟩

/- ## loops over a text, a list, a range -/
noncomputable def strIt (l : List Nat) (j : Nat) : AO := .pred fun o => ∃ t, o.cls = .type (strIterType ⟨l.toArray⟩) ∧ o.data = .fields #[.str ⟨l.toArray⟩ t, .int j 0]
theorem I_str {l : List Nat} {Q : Value → List Chunk → Prop} (hne : cs ≠ []) (q : ∀ it, Q (.ref it) ((it, strIt l 0) :: cs)) : Op1 c A k cs pyIter (.str ⟨l.toArray⟩ 0) nv Q := by
  intro _ R s a' ha hs
  obtain ⟨-, t, rfl⟩ := nv_str ha
  exact wpAny_pyIter_strU ⟨_, hs.to hs.pos (hs.own.push (ao := strIt l 0) (hs.own.size (by simp [hne])) rfl ⟨t, rfl, rfl⟩), q _⟩
theorem N_str {l : List Nat} {it : Addr} {j : Nat} : NextV c A k ((it, strIt l j) :: cs) (.ref it) (fun r cs2 => match r with | none => j ≥ l.length ∧ cs2 = cs | some v => j < l.length ∧ v = .str ⟨[l.getD j 0].toArray⟩ 0 ∧ cs2 = (it, strIt l (j + 1)) :: cs) := by
  intro hA R s it' hit hs
  rw [nv_ref hit]
  obtain ⟨o, ho, t, hc, hd⟩ := hs.at (a := it) (ao := strIt l j) (by simp)
  have key : ∀ ty, strIterType ⟨l.toArray⟩ = ty → s.heap.IsStrIter it ty ⟨l.toArray⟩ t j := fun ty e => ⟨o, ho, e ▸ hc, hd⟩
  by_cases hj : j < l.length
  · have hx : (⟨l.toArray⟩ : Str).cps[j]? = some (l.getD j 0) := by simp [hj]
    have fin : ∀ ty, strIterType ⟨l.toArray⟩ = ty → ∀ h', h'.IsStrIter it ty ⟨l.toArray⟩ t (j + 1) → Heap.SameBut it s.heap h' → ∃ cs', St c (cs' ++ R) { s with heap := h', toks := s.toks + 1 } ∧
        (match (some (Value.str ⟨#[l.getD j 0]⟩ s.toks)).map nv with | none => j ≥ l.length ∧ cs' = cs | some v => j < l.length ∧ v = .str ⟨[l.getD j 0].toArray⟩ 0 ∧ cs' = (it, strIt l (j + 1)) :: cs) := by
      rintro ty e h' ⟨o', ho', hc', hd'⟩ sb
      exact ⟨(it, strIt l (j + 1)) :: cs, hs.to (Nat.succ_pos _) (hs.own.upd Upd.head (fun b y hb e => (sb.2 b hb).trans e) ho' ⟨t, e ▸ hc', hd'⟩), hj, rfl, rfl⟩
    cases ha : (⟨l.toArray⟩ : Str).cps.all (· < 128)
    · have e : strIterType ⟨l.toArray⟩ = "str_iterator" := by unfold strIterType; rw [ha]; rfl
      exact wpAny_pyNext_wide_item (key _ e) hx (fin _ e)
    · have e : strIterType ⟨l.toArray⟩ = "str_ascii_iterator" := by unfold strIterType; rw [ha]; rfl
      exact wpAny_pyNext_ascii_item (key _ e) hx (fin _ e)
  · have hx : (⟨l.toArray⟩ : Str).cps[j]? = none := by simp; omega
    have fin : ∀ h', Heap.ExtBut it s.heap h' → ∃ cs', St c (cs' ++ R) { s with heap := h' } ∧
        (match (none : Option Value).map nv with | none => j ≥ l.length ∧ cs' = cs | some v => j < l.length ∧ v = .str ⟨[l.getD j 0].toArray⟩ 0 ∧ cs' = (it, strIt l (j + 1)) :: cs) := by
      intro h' sb
      exact ⟨cs, St.but hs sb, by omega, rfl⟩
    cases ha : (⟨l.toArray⟩ : Str).cps.all (· < 128)
    · have e : strIterType ⟨l.toArray⟩ = "str_iterator" := by unfold strIterType; rw [ha]; rfl
      exact wpAny_pyNext_wide_end hA.1 (key _ e) hx fin
    · have e : strIterType ⟨l.toArray⟩ = "str_ascii_iterator" := by unfold strIterType; rw [ha]; rfl
      exact wpAny_pyNext_ascii_end hA.1 (key _ e) hx fin
theorem EX_for_str {t iter : Expr} {body : List Stmt} {pos : Pos} {l : List Nat} {Q : Flow → Fields → List Chunk → Prop} (I : Nat → Fields → List Chunk → Prop) (h : PE c i k m cs iter (.str ⟨l.toArray⟩ 0)) (hne : cs ≠ []) (h0 : I 0 m cs)
    (turn : ∀ j x m1 cs1, l[j]? = some x → SameKeys m m1 → I j m1 cs1 → AS c i k m1 cs1 t (.str ⟨[x].toArray⟩ 0) (fun m2 cs2 => EXS c i k m2 cs2 body (Turn (I (j + 1)) Q)))
    (fin : ∀ m1 cs1, SameKeys m m1 → I l.length m1 cs1 → Q .next m1 cs1)
    (hf : ∀ env x, foldedSetIterable iter env x = pure x := by intro _ _; rfl) : EX c i k m cs (.For t iter body [] pos) Q := by
  refine EX_for (h.ev (I_str hne fun it => ?_)) hf
  refine FOR_any (strIt l) l.length (fun j => .str ⟨[l.getD j 0].toArray⟩ 0) I ?_ ?_ ?_ fin h0
  · rintro j o ⟨u, hc, -⟩
    refine ⟨_, hc, ?_⟩
    unfold strIterType
    split <;> decide
  · intro j m1 cs1 hj hI hA R s it' hit hs
    refine noE (N_str (l := l) (j := j) hA R s it' hit hs) ?_
    rintro r s2 ⟨cs2, h2, q2⟩
    refine ⟨cs2, h2, ?_⟩
    cases hr : r.map nv with
    | none => rw [hr] at q2; exact ⟨Nat.le_antisymm hj q2.1, q2.2⟩
    | some v => rw [hr] at q2; exact q2
  · intro j m1 cs1 hj z hI
    exact turn j (l.getD j 0) m1 cs1 (by simp [hj]) z hI

noncomputable def listIt (a : Addr) (j : Nat) : AO := .pred fun o => o.cls = .type "list_iterator" ∧ o.data = .fields #[.ref a, .int j 0]
theorem I_list {a : Addr} {vs : List Value} {Q : Value → List Chunk → Prop} (hne : cs ≠ []) (h : (a, .list vs) ∈ cs) (q : ∀ it, Q (.ref it) ((it, listIt a 0) :: cs)) : Op1 c A k cs pyIter (.ref a) nv Q := by
  intro _ R s a' ha hs
  rw [nv_ref ha]
  obtain ⟨o, ho, its, u, rfl, hi⟩ := hs.at (List.mem_append_left R h)
  exact wpAny_pyIter_list ⟨_, ho, rfl, u, rfl⟩ ⟨_, hs.to hs.pos (hs.own.push (ao := listIt a 0) (hs.own.size (by simp [hne])) rfl ⟨rfl, rfl⟩), q _⟩
theorem N_list {a it : Addr} {vs : List Value} {j : Nat} (h : (a, .list vs) ∈ cs) : NextV c A k ((it, listIt a j) :: cs) (.ref it) (fun r cs2 => match r with | none => j ≥ vs.length ∧ cs2 = cs | some v => j < vs.length ∧ vs[j]? = some v ∧ cs2 = (it, listIt a (j + 1)) :: cs) := by
  intro hA R s it' hit hs
  rw [nv_ref hit]
  obtain ⟨o, ho, hc, hd⟩ := hs.at (a := it) (ao := listIt a j) (by simp)
  obtain ⟨o', ho', its, u, rfl, hi⟩ := hs.at (List.mem_append_left R (List.mem_cons_of_mem _ h))
  have hL : s.heap.IsList a its := ⟨_, ho', rfl, u, rfl⟩
  have hl := len_its hi
  by_cases hj : j < vs.length
  · obtain ⟨v', q1, q2⟩ := at_its (j := j) (v := vs[j]) hi (by simp [hj])
    refine wpAny_pyNext_list_item ⟨o, ho, hc, hd⟩ hL q1 fun h' ⟨o2, e2, c2, d2⟩ sb => ?_
    exact ⟨(it, listIt a (j + 1)) :: cs, hs.to hs.pos (hs.own.upd Upd.head (fun b y hb e => (sb.2 b hb).trans e) e2 ⟨c2, d2⟩), hj, by simp [hj, q2], rfl⟩
  · refine wpAny_pyNext_list_end hA.1 ⟨o, ho, hc, hd⟩ hL (by simp; omega) fun h' sb => ?_
    exact ⟨cs, St.but hs sb, by omega, rfl⟩
theorem EX_for_list {t iter : Expr} {body : List Stmt} {pos : Pos} {a : Addr} {vs : List Value} {cs1 : List Chunk} {Q : Flow → Fields → List Chunk → Prop} (I : Nat → Fields → List Chunk → Prop)
    (h : EV c i k m cs iter (fun v cs2 => v = .ref a ∧ cs2 = cs1)) (h0 : I 0 m cs1) (hm : ∀ j m1 cs1, I j m1 cs1 → (a, .list vs) ∈ cs1)
    (turn : ∀ j x m1 cs1, vs[j]? = some x → SameKeys m m1 → I j m1 cs1 → AS c i k m1 cs1 t x (fun m2 cs2 => EXS c i k m2 cs2 body (Turn (I (j + 1)) Q)))
    (fin : ∀ m1 cs1, SameKeys m m1 → I vs.length m1 cs1 → Q .next m1 cs1)
    (hf : ∀ env x, foldedSetIterable iter env x = pure x := by intro _ _; rfl) : EX c i k m cs (.For t iter body [] pos) Q := by
  refine EX_for (h.mono fun v cs2 => ?_) hf
  rintro ⟨rfl, rfl⟩
  refine I_list (List.ne_nil_of_mem (hm _ _ _ h0)) (hm _ _ _ h0) fun it => ?_
  refine FOR_any (listIt a) vs.length (fun j => vs.getD j .none) I ?_ ?_ ?_ fin h0
  · rintro j o ⟨hc, -⟩
    exact ⟨_, hc, by decide⟩
  · intro j m1 cs1 hj hI hA R s it' hit hs
    refine noE (N_list (hm _ _ _ hI) hA R s it' hit hs) ?_
    rintro r s2 ⟨cs2, h2, q2⟩
    refine ⟨cs2, h2, ?_⟩
    cases hr : r.map nv with
    | none => rw [hr] at q2; exact ⟨Nat.le_antisymm hj q2.1, q2.2⟩
    | some v => rw [hr] at q2; exact ⟨q2.1, by simp [q2.2.1], q2.2.2⟩
  · intro j m1 cs1 hj z hI
    exact turn j (vs.getD j .none) m1 cs1 (by simp [hj]) z hI

noncomputable def rangeIt (n j : Nat) : AO := .pred fun o => o = { cls := .type "range_iterator", dict := none, data := .fields #[rawInt j, rawInt ((n : Int) - j), rawInt 1], slots := #[] }
noncomputable def rangeAt (n : Nat) : AO := .pred fun o => ∃ t u v, o = { cls := .type "range", dict := none, data := .fields #[.int 0 t, .int n u, .int 1 v], slots := #[] }
theorem K_range {n : Nat} {Q : Value → List Chunk → Prop} (hne : cs ≠ []) (q : ∀ r, Q (.ref r) ((r, rangeAt n) :: cs)) : CallV c A k cs (.type "range") [.int n 0] Q := by
  intro _ R s as ha hs
  obtain ⟨a', rfl, hv⟩ := map_one ha
  obtain ⟨-, t, rfl⟩ := nv_int hv
  refine call_range_1 ?_
  exact ⟨_, hs.to (Nat.succ_pos _) (hs.own.push (ao := rangeAt n) (hs.own.size (by simp [hne])) rfl ⟨_, _, _, rfl⟩), q _⟩
theorem I_range {n : Nat} {r : Addr} {Q : Value → List Chunk → Prop} (hn : n ≤ 1000000) (q : ∀ it, Q (.ref it) ((it, rangeIt n 0) :: cs)) : Op1 c A k ((r, rangeAt n) :: cs) pyIter (.ref r) nv Q := by
  intro _ R s a' ha hs
  rw [nv_ref ha]
  obtain ⟨o, ho, t, u, v, rfl⟩ := hs.at (a := r) (ao := rangeAt n) (by simp)
  have hlow := hs.own.size (by simp)
  have hs' : St c (cs ++ R) s := hs.tail
  refine wpAny_pyIter_range ho (small_one (by omega) (by omega) (by omega) (by omega)) ?_
  refine ⟨_, hs'.to hs'.pos (hs'.own.push (ao := rangeIt n 0) hlow rfl ?_), q _⟩
  show _ = _
  rw [rangeSize_one]
  by_cases h0 : (0 : Int) < n
  · rw [if_pos h0]; rfl
  · rw [if_neg h0]
    have : (n : Int) = 0 := by omega
    rw [this]; rfl
theorem N_range {n j : Nat} {it : Addr} : NextV c A k ((it, rangeIt n j) :: cs) (.ref it) (fun r cs2 => match r with | none => j ≥ n ∧ cs2 = cs | some v => j < n ∧ v = .int j 0 ∧ cs2 = (it, rangeIt n (j + 1)) :: cs) := by
  intro hA R s it' hit hs
  rw [nv_ref hit]
  obtain ⟨o, ho, rfl⟩ := hs.at (a := it) (ao := rangeIt n j) (by simp)
  by_cases hj : j < n
  · refine wpAny_pyNext_range_item ho (by omega) fun h' e sb => ?_
    refine ⟨(it, rangeIt n (j + 1)) :: cs, hs.to (Nat.succ_pos _) (hs.own.upd Upd.head (fun b y hb e => (sb.2 b hb).trans e) e ?_), hj, rfl, rfl⟩
    show _ = _
    rw [show (n : Int) - (j + 1 : Nat) = (n : Int) - j - 1 by omega]
    rfl
  · refine wpAny_pyNext_range_end hA.1 ho (by omega) fun h' sb => ?_
    exact ⟨cs, St.but hs sb, by omega, rfl⟩
theorem EX_for_range {t e : Expr} {p1 p2 : Pos} {body : List Stmt} {pos : Pos} {n : Nat} {gl : List Str} {Q : Flow → Fields → List Chunk → Prop} (I : Nat → Fields → List Chunk → Prop)
    (hg : GOk i gl) (hx : Str.ofString "range" ∈ gl) (hn : nsIn c.K mainGlobals "range" = some none)
    (h : PE c i k m cs e (.int n 0)) (hz : n ≤ 1000000) (hne : cs ≠ []) (h0 : I 0 m cs)
    (turn : ∀ j m1 cs1, j < n → SameKeys m m1 → I j m1 cs1 → AS c i k m1 cs1 t (.int j 0) (fun m2 cs2 => EXS c i k m2 cs2 body (Turn (I (j + 1)) Q)))
    (fin : ∀ m1 cs1, SameKeys m m1 → I n m1 cs1 → Q .next m1 cs1)
    (hs : ∀ env, starEach [e] env = (false, eval e env) :: starEach [] env := by intro _; rfl)
    (hc : ∀ env, eval (.Call (.Name "range" p1) [e] [] p2) env = (do let f ← eval (.Name "range" p1) env; callWith p2 f [] (backTo p2 (starEach [e] env)) (backToKw p2 (keywordEach [] env))) := by intro _; rfl)
    (hf : ∀ env x, foldedSetIterable (.Call (.Name "range" p1) [e] [] p2) env x = pure x := by intro _ _; rfl) : EX c i k m cs (.For t (.Call (.Name "range" p1) [e] [] p2) body [] pos) Q := by
  refine EX_for (EV_callT (f := "range") (PE_bi (v := .type "range") hg hx hn (by boot_fast) (by decide)) ((PEs_cons h PEs_nil hs).evs (K_range hne fun r => I_range hz fun it => ?_)) hc hs) hf
  refine FOR_any (rangeIt n) n (fun j => .int j 0) I ?_ ?_ ?_ fin h0
  · rintro j o rfl
    exact ⟨_, rfl, by decide⟩
  · intro j m1 cs1 hj hI hA R s it' hit hs
    refine noE (N_range (n := n) (j := j) hA R s it' hit hs) ?_
    rintro r s2 ⟨cs2, h2, q2⟩
    refine ⟨cs2, h2, ?_⟩
    cases hr : r.map nv with
    | none => rw [hr] at q2; exact ⟨Nat.le_antisymm hj q2.1, q2.2⟩
    | some v => rw [hr] at q2; exact q2
  · intro j m1 cs1 hj z hI
    exact turn j m1 cs1 hj z hI
end
end Mine
end
noncomputable section
open PySem PySem.W PySem.Calls PyProof.Rows
open PySem.Builtin.Str PySem.StrLaws
namespace Mine

/- ## values of kinds -/
abbrev strV (l : List Nat) : Value := .str ⟨l.toArray⟩ 0
theorem strsAre_of : ∀ {its : List Value} {ls : List (List Nat)}, its.map nv = ls.map strV → StrsAre its (ls.map fun l => ⟨l.toArray⟩)
  | [], [], _ => .nil
  | [], _ :: _, h => by simp at h
  | _ :: _, [], h => by simp at h
  | a :: r, l :: ls, h => by
    simp only [List.map_cons, List.cons.injEq] at h
    obtain ⟨-, t, rfl⟩ := nv_str h.1
    exact .cons _ _ (strsAre_of h.2)
theorem intsAre_of : ∀ {its : List Value} {ns : List Int}, its.map nv = ns.map (fun n => .int n 0) → IntsAre its ns
  | [], [], _ => .nil
  | [], _ :: _, h => by simp at h
  | _ :: _, [], h => by simp at h
  | a :: r, l :: ls, h => by
    simp only [List.map_cons, List.cons.injEq] at h
    obtain ⟨-, t, rfl⟩ := nv_int h.1
    exact .cons _ _ (intsAre_of h.2)

/- ## splitting at one sign -/
noncomputable def spl (a : Nat) : List Nat → List (List Nat)
  | [] => [[]]
  | c :: r => if c = a then [] :: spl a r else match spl a r with
    | [] => [[c]]
    | p :: ps => (c :: p) :: ps
theorem spl_ne (a : Nat) : ∀ l, spl a l ≠ []
  | [] => by simp [spl]
  | c :: r => by
    unfold spl
    split
    · simp
    · split <;> simp
theorem spl_free (a : Nat) : ∀ p : List Nat, a ∉ p → spl a p = [p]
  | [], _ => rfl
  | c :: r, h => by
    simp only [List.mem_cons, not_or] at h
    unfold spl
    rw [if_neg (fun e => h.1 e.symm), spl_free a r h.2]
theorem spl_cut (a : Nat) (rest : List Nat) : ∀ p : List Nat, a ∉ p → spl a (p ++ a :: rest) = p :: spl a rest
  | [], _ => by show spl a (a :: rest) = _; rw [spl, if_pos rfl]
  | c :: r, h => by
    simp only [List.mem_cons, not_or] at h
    show spl a (c :: (r ++ a :: rest)) = _
    rw [spl, if_neg (fun e => h.1 e.symm), spl_cut a rest r h.2]
theorem spl_join (a : Nat) : ∀ parts : List Str, parts ≠ [] → (∀ p ∈ parts, a ∉ p.cps.toList) → spl a (Str.join ⟨#[a]⟩ parts).cps.toList = parts.map (·.cps.toList)
  | [], h, _ => absurd rfl h
  | [p], _, h => spl_free a _ (h p (List.mem_singleton.mpr rfl))
  | p :: q :: r, _, h => by
    have ih := spl_join a (q :: r) (by simp) fun x hx => h x (List.mem_cons_of_mem _ hx)
    show spl a (p ++ ⟨#[a]⟩ ++ Str.join ⟨#[a]⟩ (q :: r)).cps.toList = _
    simp only [Str.cps_append, Array.toList_append, List.append_assoc]
    show spl a (p.cps.toList ++ a :: (Str.join ⟨#[a]⟩ (q :: r)).cps.toList) = _
    rw [spl_cut a _ _ (h p (List.mem_cons_self ..)), ih]
    rfl
theorem split_ne (x : Str) (a : Nat) : Txt.split x ⟨#[a]⟩ ≠ [] := by
  unfold Txt.split
  split
  · simp
  · split
    · simp
    · rw [partsBetween_eq]
      obtain ⟨p, r, e⟩ := partsFrom_ne x (⟨#[a]⟩ : Str).length 0 (occurrences x ⟨#[a]⟩ 0 x.length (x.length + 1))
      rw [e]; simp
theorem split_eq (l : List Nat) (a : Nat) : Txt.split ⟨l.toArray⟩ ⟨#[a]⟩ = (spl a l).map fun p => ⟨p.toArray⟩ := by
  have := spl_join a _ (split_ne ⟨l.toArray⟩ a) (split_free ⟨l.toArray⟩ a)
  rw [join_split] at this
  show _ = (spl a (⟨l.toArray⟩ : Str).cps.toList).map _
  rw [this, List.map_map]
  conv => lhs; rw [← List.map_id (Txt.split ⟨l.toArray⟩ ⟨#[a]⟩)]
  apply List.map_congr_left
  intro p _
  apply Str.ext'
  simp
theorem spl_len (a : Nat) : ∀ l, (spl a l).length = l.count a + 1
  | [] => rfl
  | c :: r => by
    have ih := spl_len a r
    rw [spl]
    split
    · rename_i e; subst e; simp [ih]
    · rename_i e
      rw [List.count_cons_of_ne (fun q => e q)]
      cases h : spl a r with
      | nil => exact absurd h (spl_ne a r)
      | cons p ps => rw [h] at ih; simpa using ih
theorem spl_last (a : Nat) : ∀ l, ∃ ps p, spl a l = ps ++ [p] ∧ p.length = (l.reverse.takeWhile (· != a)).length := by
  intro l
  by_cases h : a ∈ l
  · obtain ⟨u, v, e, hv⟩ : ∃ u v, l = u ++ a :: v ∧ a ∉ v := by
      obtain ⟨v, u, e, hv⟩ := List.eq_append_cons_of_mem (List.mem_reverse.mpr h)
      refine ⟨u.reverse, v.reverse, ?_, by simpa using hv⟩
      have := congrArg List.reverse e
      simpa using this
    subst e
    have gen : ∀ u : List Nat, ∃ ps, spl a (u ++ a :: v) = ps ++ [v] := by
      intro u
      induction u with
      | nil => exact ⟨[[]], by show spl a (a :: v) = _; rw [spl, if_pos rfl, spl_free a v hv]; rfl⟩
      | cons c r ih =>
        obtain ⟨ps, e⟩ := ih
        show ∃ ps, spl a (c :: (r ++ a :: v)) = _
        rw [spl]
        split
        · exact ⟨[] :: ps, by rw [e]; rfl⟩
        · rw [e]
          cases ps with
          | nil =>
            exfalso
            have h1 := spl_len a (r ++ a :: v)
            rw [e] at h1
            simp at h1
          | cons p ps => exact ⟨(c :: p) :: ps, rfl⟩
    obtain ⟨ps, e⟩ := gen u
    refine ⟨ps, v, e, ?_⟩
    rw [List.reverse_append, List.reverse_cons, List.append_assoc, List.takeWhile_append_of_pos (by intro x hx; simp at hx ⊢; exact fun e => hv (e ▸ hx))]
    simp
  · refine ⟨[], l, by rw [spl_free a l h]; rfl, ?_⟩
    have : l.reverse.takeWhile (· != a) = l.reverse := by
      have := List.takeWhile_append_of_pos (p := (· != a)) (l₁ := l.reverse) (l₂ := []) (by intro x hx; simp at hx ⊢; exact fun e => h (e ▸ hx))
      simpa using this
    rw [this, List.length_reverse]

theorem mapV {l : List (Str × Tok)} {ps : List (List Nat)} (h : l.map (·.1) = ps.map fun p => (⟨p.toArray⟩ : Str)) : (strValues l).map nv = ps.map strV := by
  have e : (strValues l).map nv = (l.map (·.1)).map (fun x => Value.str x 0) := by
    unfold strValues
    rw [List.map_map, List.map_map]; rfl
  rw [e, h, List.map_map]; rfl
section
variable {prog : Program} {w : World} {A : Around} {s : Shared}
theorem split_any {x y : Str} {t u : Tok} {Q : Value → Shared → Prop} (hy : (y.length == 0) = false) (hsz : x.length + 2 ≤ sizeLine)
    (h : ∀ l k, s.toks ≤ k → l.map (·.1) = Txt.split x y → Q (.ref s.heap.objs.size) { s with heap := s.heap.push { cls := .type "list", data := .seq (strValues l).toArray }, toks := k }) :
    wpAny (model prog w) A (call (.builtin "str.split") [.str x t, .str y u]) Q NoE s := by
  have hx : x.length ≤ sizeLine := by omega
  have hn : (partsBetween x (occurrences x y 0 x.length (x.length + 1)) y.length).length ≤ sizeLine := by
    have e1 := StrLaws.occ_length_le_len x y 0 x.length (x.length + 1)
    rw [length_partsBetween]; omega
  cases h1 : (decide (x.length < y.length) || decide (strKind x < strKind y))
  · cases hf : (occurrences x y 0 x.length (x.length + 1)).isEmpty
    · refine call_meets F.slot_str_split (typeIs_str _ _ _) F.entry_str_split (F.args_str_split_2 _ _) (meets_str_split_sep x y t u h1 hy hf hx hn) ?_
      show Q _ { s with toks := _, heap := s.heap.push { cls := .type "list", data := .seq (strsFrom s.toks (partsBetween x (occurrences x y 0 x.length (x.length + 1)) y.length)).toArray } }
      rw [strsFrom_eq]
      exact h (numbered s.toks _) _ (Nat.le_add_right _ _) ((numbered_texts _ _).trans ((if_neg (ne_true_of_eq_false h1)).trans (if_neg (ne_true_of_eq_false hf))).symm)
    · exact call_meets F.slot_str_split (typeIs_str _ _ _) F.entry_str_split (F.args_str_split_2 _ _) (meets_str_split_not_found x y t u h1 hy hf)
        (h [(x, t)] s.toks (Nat.le_refl _) ((if_neg (ne_true_of_eq_false h1)).trans (if_pos hf)).symm)
  · exact call_meets F.slot_str_split (typeIs_str _ _ _) F.entry_str_split (F.args_str_split_2 _ _) (meets_str_split_cannot_occur x y t u h1)
      (h [(x, t)] s.toks (Nat.le_refl _) (if_pos h1).symm)
end
section
variable {c : Cx} {i : Fi} {A : Around} {k : Nat} {m : Fields} {cs cs' : List Chunk}
theorem K_split {l : List Nat} {a : Nat} {Q : Value → List Chunk → Prop} (hne : cs ≠ []) (hz : l.length ≤ 1000000) (q : ∀ r, Q (.ref r) ((r, .list ((spl a l).map strV)) :: cs)) :
    CallV c A k cs (.builtin "str.split") [.str ⟨l.toArray⟩ 0, .str ⟨[a].toArray⟩ 0] Q := by
  intro _ R s as ha hs
  obtain ⟨a1, a2, rfl, h1, h2⟩ := map_two ha
  obtain ⟨-, t1, rfl⟩ := nv_str h1; obtain ⟨-, t2, rfl⟩ := nv_str h2
  refine split_any rfl (by rw [str_len, sizeLine_eq]; omega) fun ll tk htk e => ?_
  have e' : ll.map (·.1) = (spl a l).map fun p => (⟨p.toArray⟩ : Str) := e.trans (split_eq l a)
  refine ⟨_, hs.to (Nat.lt_of_lt_of_le hs.pos htk) (hs.own.push (ao := .list ((spl a l).map strV)) (hs.own.size (by simp [hne])) rfl ⟨_, _, rfl, ?_⟩), q _⟩
  exact mapV e'
theorem glued_nil (ls : List (List Nat)) : Txt.join ⟨([] : List Nat).toArray⟩ (ls.map fun l => (⟨l.toArray⟩ : Str)) = ⟨ls.flatten.toArray⟩ := by
  unfold Txt.join
  rw [glued_eq_join]
  induction ls with
  | nil => rfl
  | cons p r ih =>
    cases r with
    | nil => 
      apply Str.ext'
      simp [Str.join]
    | cons q r' =>
      show (⟨p.toArray⟩ ++ ⟨([] : List Nat).toArray⟩ ++ Str.join ⟨([] : List Nat).toArray⟩ ((q :: r').map fun l => (⟨l.toArray⟩ : Str)) : Str) = _
      rw [ih]
      apply Str.ext'
      apply Array.toList_inj.mp
      simp [Str.cps_append]
theorem K_join {a : Addr} {ls : List (List Nat)} (h : (a, .list (ls.map strV)) ∈ cs) (hz : ls.flatten.length ≤ 1000000) (hl : ls.length ≤ 100000) :
    CallV c A k cs (.builtin "str.join") [.str ⟨([] : List Nat).toArray⟩ 0, .ref a] (Is cs (.str ⟨ls.flatten.toArray⟩ 0)) := by
  intro _ R s as ha hs
  obtain ⟨a1, a2, rfl, h1, h2⟩ := map_two ha
  obtain ⟨-, t1, rfl⟩ := nv_str h1
  rw [nv_ref h2]
  obtain ⟨o, ho, its, u, rfl, hi⟩ := hs.at (List.mem_append_left R h)
  refine toks_fin hs (join_listC (D := a) (items := its) ⟨_, ho, rfl, u, rfl⟩ (strsAre_of hi) (by decide) ?_ ?_)
  · have e : ((ls.map fun l => (⟨l.toArray⟩ : Str)).map (·.length)).sum = ls.flatten.length := by
      rw [List.map_map, List.length_flatten]
      congr 1
    rw [e, List.length_map]
    omega
  · intro t' k'
    rw [glued_nil]
    exact ⟨rfl, k', rfl⟩
theorem K_min {a b : Int} : CallV c A k cs (.builtin "min") [.int a 0, .int b 0] (Is cs (.int (if b < a then b else a) 0)) := by
  intro hA R s as ha hs
  obtain ⟨a1, a2, rfl, h1, h2⟩ := map_two ha
  obtain ⟨-, t1, rfl⟩ := nv_int h1; obtain ⟨-, t2, rfl⟩ := nv_int h2
  refine noE (wpAny_toks (min_two_ints (Q := fun v s' => nv v = .int (if b < a then b else a) 0 ∧ ∃ h' tk, (∀ c o, s.heap.get? c = some o → h'.get? c = some o) ∧ s' = { s with heap := h', toks := tk }) hA.1 fun h' tk hk => ⟨by split <;> rfl, h', tk, hk, rfl⟩)) ?_
  rintro v s' ⟨⟨e, h', tk, hk, rfl⟩, le⟩
  exact ⟨cs, hs.ext (Nat.lt_of_lt_of_le hs.pos le) hk, e, rfl⟩

/- ## a tuple's item -/
/- ## membership -/
theorem C_in_tup_ints {a : Addr} {ns : List Int} {x : Int} (h : (a, .tup (ns.map fun n => .int n 0)) ∈ cs) : Op2 c A k cs (compareOp .In) (.int x 0) (.ref a) nv (Is cs (.bool (ns.any (· == x)))) := by
  intro _ R s a' b' ha hb hs
  rw [nv_ref hb]
  obtain ⟨-, t, rfl⟩ := nv_int ha
  obtain ⟨o, ho, its, u, rfl, hi⟩ := hs.at (List.mem_append_left R h)
  exact in_tuple_ints ⟨_, ho, rfl, u, rfl⟩ (intsAre_of hi) ⟨cs, hs, rfl, rfl⟩
theorem C_notin_tup_ints {a : Addr} {ns : List Int} {x : Int} (h : (a, .tup (ns.map fun n => .int n 0)) ∈ cs) : Op2 c A k cs (compareOp .NotIn) (.int x 0) (.ref a) nv (Is cs (.bool (!(ns.any (· == x))))) := by
  intro _ R s a' b' ha hb hs
  rw [nv_ref hb]
  obtain ⟨-, t, rfl⟩ := nv_int ha
  obtain ⟨o, ho, its, u, rfl, hi⟩ := hs.at (List.mem_append_left R h)
  exact notin_tuple_ints ⟨_, ho, rfl, u, rfl⟩ (intsAre_of hi) ⟨cs, hs, rfl, rfl⟩
/-- a row that may be asked for one sign -/
noncomputable def Row (c : Cx) (cs : List Chunk) (row : Value) (f : Nat → Bool) : Prop :=
  ∀ A k x, Op2 c A k cs (compareOp .In) (.str ⟨[x].toArray⟩ 0) row nv (Is cs (.bool (f x)))
theorem Row_str {l : List Nat} : Row c cs (.str ⟨l.toArray⟩ 0) fun x => decide (x ∈ l) := by
  intro A k x _ R s a' b' ha hb hs
  obtain ⟨-, t, rfl⟩ := nv_str ha
  obtain ⟨-, u, rfl⟩ := nv_str hb
  refine PyProof.Rows.in_str ⟨cs, hs, ?_, rfl⟩
  have := found_one ⟨l.toArray⟩ x
  show Value.bool _ = _
  congr 1
theorem Row_perm {row : Value} {f : Nat → Bool} {X Y : List Chunk} (h : Row c X row f) (p : cs.Perm (X ++ Y)) : Row c cs row f := by
  intro A k x hA R s a' b' ha hb hs
  refine noE (h A k x hA (Y ++ R) s a' b' ha hb (hs.perm ((p.append_right R).trans (by rw [List.append_assoc])))) ?_
  rintro v s' ⟨cs', h1, e, rfl⟩
  exact ⟨cs, h1.perm (((p.append_right R).trans (by rw [List.append_assoc])).symm), e, rfl⟩

/- ## a list taken several times, compared -/
theorem mul_any {M : Program} {s : Shared} {a : Addr} {its : Array Value} {u : Nat} {y : Int} {x : Tok} {Q : Value → Shared → Prop} {w : World} (ho : s.heap.get? a = some { cls := .type "list", data := .seq its u }) (hlo : -(2 ^ 63 : Int) ≤ y) (hhi : y < 2 ^ 63) (hsz : its.size * y.toNat ≤ 1000000)
    (q : Q (.ref s.heap.objs.size) { s with heap := s.heap.push { cls := .type "list", data := .seq (List.replicate y.toNat its.toList).flatten.toArray } }) : wpAny (model M w) A (binaryOp .Mult (.ref a) (.int y x)) Q NoE s := by
  have g1 : ¬ its.size * y.toNat > (2 ^ 63 - 1) / 8 := by omega
  refine wpAny_binaryOp_repeat_ref (T := "list") (U := "int") (by decide) ⟨_, ho, rfl⟩ (fun s' => typeIs_int s' _ _) noFill_list_mul F.fills_int_mul F.slot_int_rmul repeat_list F.slot_int_index.lookup
    (call_meets F.slot_int_rmul (typeIs_int s _ _) F.entry_int_rmul (F.args_int_rmul_2 _ _) (lm_int_rmul_list_any y x a its u none #[])
      ⟨ho, rfl, ⟨_, ho, rfl⟩, call_meets F.slot_list_mul ⟨_, ho, rfl⟩ F.entry_list_mul (F.args_list_mul_2 _ _)
        (lm_list_mul_any a its u none #[] y x (by simp [Builtin.List.listFitsIndex]; omega) g1 (by simp [Builtin.List.listTooLong, sizeLine]; omega))
        ⟨ho, ?_⟩⟩)
  rw [listMul_foldl_if]
  exact q
theorem B_mulL {a : Addr} {vs : List Value} {n : Nat} {Q : Value → List Chunk → Prop} (h : (a, .list vs) ∈ cs) (hz : vs.length * n ≤ 1000000) (hn : n ≤ 1000000)
    (q : ∀ r, Q (.ref r) ((r, .list (List.replicate n vs).flatten) :: cs)) : Op2 c A k cs (binaryOp .Mult) (.ref a) (.int n 0) nv Q := by
  intro _ R s a' b' ha hb hs
  rw [nv_ref ha]
  obtain ⟨-, x, rfl⟩ := nv_int hb
  obtain ⟨o, ho, its, u, rfl, hi⟩ := hs.at (List.mem_append_left R h)
  have hl := len_its hi
  have hlow := hs.own.size (by intro e; have := List.append_eq_nil_iff.mp e; rw [this.1] at h; cases h)
  have hsz' : its.size * ((n : Int).toNat) ≤ 1000000 := by rw [hl]; simpa using hz
  refine mul_any ho (by omega) (by omega) hsz' ?_
  refine ⟨_, hs.to hs.pos (hs.own.push (ao := .list (List.replicate n vs).flatten) hlow rfl ⟨_, _, rfl, ?_⟩), q _⟩
  rw [← hi]
  simp [List.map_flatten]
theorem readsAll_strs (h : Heap) : ∀ {its : List Value} {ls : List (List Nat)}, its.map nv = ls.map strV → ReadsAll h its (ls.map fun l => .str ⟨l.toArray⟩) []
  | [], [], _ => .nil
  | [], _ :: _, e => by simp at e
  | _ :: _, [], e => by simp at e
  | a :: r, l :: ls, e => by
    simp only [List.map_cons, List.cons.injEq] at e
    obtain ⟨-, t, rfl⟩ := nv_str e.1
    exact ReadsAll.cons (as := []) (.str _ _) (readsAll_strs h e.2)
theorem readsAll_ints (h : Heap) : ∀ {its : List Value} {ns : List Int}, its.map nv = ns.map (fun n => .int n 0) → ReadsAll h its (ns.map .int) []
  | [], [], _ => .nil
  | [], _ :: _, e => by simp at e
  | _ :: _, [], e => by simp at e
  | a :: r, l :: ls, e => by
    simp only [List.map_cons, List.cons.injEq] at e
    obtain ⟨-, t, rfl⟩ := nv_int e.1
    exact ReadsAll.cons (as := []) (.int _ _) (readsAll_ints h e.2)
theorem depth_strs (ls : List (List Nat)) : PyData.depthAll (ls.map fun l => .str ⟨l.toArray⟩) = 0 := by
  induction ls with
  | nil => rfl
  | cons a r ih => simp [PyData.depthAll, PyData.depth, ih]
theorem depth_ints (ls : List Int) : PyData.depthAll (ls.map .int) = 0 := by
  induction ls with
  | nil => rfl
  | cons a r ih => simp [PyData.depthAll, PyData.depth, ih]
noncomputable def okL (l : List Nat) : Bool := l.all (· < 0x110000)
theorem lay_strs {ls : List (List Nat)} (h : ∀ l ∈ ls, okL l = true) : PyData.canLayAll0 (ls.map fun l => .str ⟨l.toArray⟩) = true := by
  induction ls with
  | nil => rfl
  | cons a r ih =>
    have h1 : PyData.strOk ⟨a.toArray⟩ = true := by
      have := h a (by simp)
      unfold okL at this
      unfold PyData.strOk
      simpa using this
    simp [PyData.canLayAll0, PyData.canLay0, ih (fun l hl => h l (List.mem_cons_of_mem _ hl)), h1]
theorem lay_ints (ls : List Int) : PyData.canLayAll0 (ls.map .int) = true := by
  induction ls with
  | nil => rfl
  | cons a r ih => simp [PyData.canLayAll0, PyData.canLay0, ih]
theorem eqv_strs : ∀ ls ms : List (List Nat), PyData.eqvAll (ls.map fun l => .str ⟨l.toArray⟩) (ms.map fun l => .str ⟨l.toArray⟩) = decide (ls = ms)
  | [], [] => by simp [PyData.eqvAll]
  | [], _ :: _ => by simp [PyData.eqvAll]
  | _ :: _, [] => by simp [PyData.eqvAll]
  | a :: r, b :: q => by
    have h1 : ((⟨a.toArray⟩ : Str) == ⟨b.toArray⟩) = decide (a = b) := by
      rw [Bool.eq_iff_iff, beq_iff_eq, decide_eq_true_eq]
      constructor
      · intro e
        injection e with e
        have := congrArg Array.toList e
        simpa using this
      · intro e; rw [e]
    simp only [List.map_cons, PyData.eqvAll, PyData.eqv, h1, eqv_strs r q]
    simp
theorem eqv_ints : ∀ ls ms : List Int, PyData.eqvAll (ls.map .int) (ms.map .int) = decide (ls = ms)
  | [], [] => by simp [PyData.eqvAll]
  | [], _ :: _ => by simp [PyData.eqvAll]
  | _ :: _, [] => by simp [PyData.eqvAll]
  | a :: r, b :: q => by
    simp only [List.map_cons, PyData.eqvAll, PyData.eqv, eqv_ints r q]
    by_cases h1 : a = b
    · simp [h1]
    · simp [h1]
theorem C_eqL {a b : Addr} {ls ms : List (List Nat)} (ha : (a, .list (ls.map strV)) ∈ cs) (hb : (b, .list (ms.map strV)) ∈ cs) (h1 : ∀ l ∈ ls, okL l = true) (h2 : ∀ l ∈ ms, okL l = true) :
    Op2 c A k cs (compareOp .Eq) (.ref a) (.ref b) nv (Is cs (.bool (decide (ls = ms)))) := by
  intro hA R s a' b' ea eb hs
  rw [nv_ref ea, nv_ref eb]
  obtain ⟨o, ho, its, u, rfl, hi⟩ := hs.at (List.mem_append_left R ha)
  obtain ⟨o', ho', its', u', rfl, hi'⟩ := hs.at (List.mem_append_left R hb)
  refine SeqAt.compareEq_reads (.list ho rfl rfl (readsAll_strs _ hi)) (.list ho' rfl rfl (readsAll_strs _ hi')) (lay_strs h1) (lay_strs h2) ?_ ?_
  · have := hA.2.2
    simp only [PyData.depth, depth_strs, cLine]
    omega
  · refine ⟨cs, hs, ?_, rfl⟩
    show Value.bool (PyData.eqvAll _ _) = _
    rw [eqv_strs]
theorem C_neT {a b : Addr} {ls ms : List Int} (ha : (a, .tup (ls.map fun n => .int n 0)) ∈ cs) (hb : (b, .tup (ms.map fun n => .int n 0)) ∈ cs) :
    Op2 c A k cs (compareOp .NotEq) (.ref a) (.ref b) nv (Is cs (.bool (!decide (ls = ms)))) := by
  intro hA R s a' b' ea eb hs
  rw [nv_ref ea, nv_ref eb]
  obtain ⟨o, ho, its, u, rfl, hi⟩ := hs.at (List.mem_append_left R ha)
  obtain ⟨o', ho', its', u', rfl, hi'⟩ := hs.at (List.mem_append_left R hb)
  refine SeqAt.compareNe_reads (.tuple ho rfl rfl (readsAll_ints _ hi)) (.tuple ho' rfl rfl (readsAll_ints _ hi')) (lay_ints _) (lay_ints _) ?_ ?_
  · have := hA.2.2
    simp only [PyData.depth, depth_ints, cLine]
    omega
  · refine ⟨cs, hs, ?_, rfl⟩
    show Value.bool (!PyData.eqvAll _ _) = _
    rw [eqv_ints]
end
end Mine
end
noncomputable section
open PySem PySem.W PySem.Calls PyProof.Rows
namespace Mine

section
variable {c : Cx} {i : Fi} {A : Around} {k : Nat} {m : Fields} {cs cs' : List Chunk}
theorem PE_meth {o e : Expr} {rest : List Expr} {name : Str} {id : String} {apos pos : Pos} {x : List Nat} {vs : List Value} {v : Value} (slot : Slot "str" name id) (hty : typeOf (.builtin id) = pure (.type "method_descriptor"))
    (ho : PE c i k m cs o (.str ⟨x.toArray⟩ 0)) (ha : PEs c i k m cs (e :: rest) vs) (h : CallV c i.A k cs (.builtin id) (.str ⟨x.toArray⟩ 0 :: vs) (Is cs v))
    (hc : MCall o name (e :: rest) apos pos := by intro _; exact ⟨_, rfl⟩)
    (he : ∀ env, starEach (e :: rest) env = (false, eval e env) :: starEach rest env := by intro _; rfl)
    (hp : ∀ pos env, (backTo pos (starEach rest env)).any (·.1) = false := by intro _ _; rfl) : PE c i k m cs (.Call (.Attribute o name apos) (e :: rest) [] pos) v :=
  EV_methP ho ha (M_str slot hty ⟨rfl, .inl ⟨_, rfl⟩, h⟩) hc he hp
theorem PE_count {o e : Expr} {apos pos p1 p2 : Pos} {u1 u2 : Nat} {l : List Nat} {y : Str} {a n : Nat} (ho : PE c i k m cs o (.str ⟨l.toArray⟩ 0)) (hy : y = ⟨[a].toArray⟩) (he : PE c i k m cs e (.int n 0)) (hn : n ≤ l.length)
    (hc : MCall o "count" [.Constant (.str y) u1 p1, .Constant (.int 0) u2 p2, e] apos pos := by intro _; exact ⟨_, rfl⟩)
    (h1 : ∀ env, starEach [.Constant (.str y) u1 p1, .Constant (.int 0) u2 p2, e] env = (false, eval (.Constant (.str y) u1 p1) env) :: starEach [.Constant (.int 0) u2 p2, e] env := by intro _; rfl)
    (h2 : ∀ env, starEach [.Constant (.int 0) u2 p2, e] env = (false, eval (.Constant (.int 0) u2 p2) env) :: starEach [e] env := by intro _; rfl)
    (h3 : ∀ env, starEach [e] env = (false, eval e env) :: starEach [] env := by intro _; rfl)
    (hp : ∀ pos env, (backTo pos (starEach [.Constant (.int 0) u2 p2, e] env)).any (·.1) = false := by intro _ _; rfl) :
    PE c i k m cs (.Call (.Attribute o "count" apos) [.Constant (.str y) u1 p1, .Constant (.int 0) u2 p2, e] [] pos) (.int ((l.take n).count a : Nat) 0) :=
  PE_meth F.slot_str_count F.type_str_count ho (PEs_cons (PE_str hy) (PEs_cons PE_int (PEs_cons he PEs_nil h3) h2) h1) (K_count hn) hc h1 hp
theorem PE_rfind {o e : Expr} {apos pos p1 p2 : Pos} {u1 u2 : Nat} {l : List Nat} {y : Str} {a n : Nat} (ho : PE c i k m cs o (.str ⟨l.toArray⟩ 0)) (hy : y = ⟨[a].toArray⟩) (he : PE c i k m cs e (.int n 0)) (hn : n ≤ l.length)
    (hc : MCall o "rfind" [.Constant (.str y) u1 p1, .Constant (.int 0) u2 p2, e] apos pos := by intro _; exact ⟨_, rfl⟩)
    (h1 : ∀ env, starEach [.Constant (.str y) u1 p1, .Constant (.int 0) u2 p2, e] env = (false, eval (.Constant (.str y) u1 p1) env) :: starEach [.Constant (.int 0) u2 p2, e] env := by intro _; rfl)
    (h2 : ∀ env, starEach [.Constant (.int 0) u2 p2, e] env = (false, eval (.Constant (.int 0) u2 p2) env) :: starEach [e] env := by intro _; rfl)
    (h3 : ∀ env, starEach [e] env = (false, eval e env) :: starEach [] env := by intro _; rfl)
    (hp : ∀ pos env, (backTo pos (starEach [.Constant (.int 0) u2 p2, e] env)).any (·.1) = false := by intro _ _; rfl) :
    PE c i k m cs (.Call (.Attribute o "rfind" apos) [.Constant (.str y) u1 p1, .Constant (.int 0) u2 p2, e] [] pos) (.int (lastI a (l.take n)) 0) :=
  PE_meth F.slot_str_rfind F.type_str_rfind ho (PEs_cons (PE_str hy) (PEs_cons PE_int (PEs_cons he PEs_nil h3) h2) h1) (K_rfind hn) hc h1 hp
/-- ord of a sign -/
theorem PE_ord {e : Expr} {pos p2 : Pos} {gl : List Str} {n : Nat} (hg : GOk i gl) (hx : Str.ofString "ord" ∈ gl) (he : PE c i k m cs e (.str ⟨[n].toArray⟩ 0))
    (hn : nsIn c.K mainGlobals "ord" = some none)
    (hs : ∀ env, starEach [e] env = (false, eval e env) :: starEach [] env := by intro _; rfl)
    (hc : ∀ env, eval (.Call (.Name "ord" p2) [e] [] pos) env = (do let f ← eval (.Name "ord" p2) env; callWith pos f [] (backTo pos (starEach [e] env)) (backToKw pos (keywordEach [] env))) := by intro _; rfl) :
    PE c i k m cs (.Call (.Name "ord" p2) [e] [] pos) (.int n 0) :=
  EV_callB' (f := "ord") (PE_bi (v := .builtin "ord") hg hx hn (by boot_fast) (by decide)) (PEs_cons he PEs_nil hs) K_ord hc hs
end

section
variable {c : Cx} {i : Fi} {A : Around} {k : Nat} {m : Fields} {cs cs' : List Chunk}
theorem St.pick {cs₁ R : List Chunk} {s : Shared} {p x : Chunk} (t : Pick cs x cs₁) (hs : St c (p :: (cs ++ R)) s) : St c (p :: (cs₁ ++ R)) s := by
  have := hs.perm (((t.perm.append_right R).cons p).trans (List.Perm.swap _ _ _))
  exact this.tail
/-- a chunk let go -/
theorem EXS_pick {cs₁ : List Chunk} {x : Chunk} {e : List Stmt} {Q : Flow → Fields → List Chunk → Prop} (t : Pick cs x cs₁) (h : EXS c i k m cs₁ e Q) : EXS c i k m cs e Q :=
  fun hF R s hs => h hF R s (hs.pick t)
theorem AS_tupleD {cs₁ : List Chunk} {ts : List Expr} {u : Nat} {pos : Pos} {t : Addr} {vs : List Value} {Q : Fields → List Chunk → Prop} (ht : Pick cs (t, .tup vs) cs₁) (h : ASs c i k m cs₁ ts vs Q)
    (hl : ∀ env, (assignEach ts env).length = vs.length := by intro _; rfl) (hf : ∀ env, (assignEach ts env).findIdx? (·.1) = none := by intro _; rfl) : AS c i k m cs (.Tuple ts u pos) (.ref t) Q :=
  AS_tuple (ht.perm.mem_iff.mpr (by simp)) (fun hF R s vs' hv hs => h hF R s vs' hv (hs.pick ht)) hl hf
theorem EV.drop {e : Expr} {Q : Value → List Chunk → Prop} (h : EV c i k m cs e (fun v cs' => ∃ x cs₁, Pick cs' x cs₁ ∧ Q v cs₁)) : EV c i k m cs e Q :=
  fun hF R s hs => noE (h hF R s hs) fun _ _ ⟨cs', g, x, cs₁, p, q⟩ => ⟨cs₁, g.pick p, q⟩
theorem PE_inT {l : Expr} {es : List Expr} {u : Nat} {p pos : Pos} {x : Int} (ns : List Int) (hl : PE c i k m cs l (.int x 0)) (he : PEs c i k m cs es (ns.map fun n => .int n 0)) (hz : ns.length ≤ 1000)
    (hm : behindInMarks .In (.Tuple es u p) = false := by with_unfolding_all rfl) : PE c i k m cs (.Compare l [.In] [.Tuple es u p] pos) (.bool (ns.any (· == x))) := by
  refine EV.drop (EV_cmp (hl.ev (EV_tuple (he.evs ⟨by simp; omega, fun t => ?_⟩))) hm)
  exact (C_in_tup_ints (a := t) (ns := ns) (by simp)).mono fun v cs2 ⟨e1, e2⟩ => by subst e2; exact ⟨_, _, .head, e1, rfl⟩
theorem PE_notinT {l : Expr} {es : List Expr} {u : Nat} {p pos : Pos} {x : Int} (ns : List Int) (hl : PE c i k m cs l (.int x 0)) (he : PEs c i k m cs es (ns.map fun n => .int n 0)) (hz : ns.length ≤ 1000)
    (hm : behindInMarks .NotIn (.Tuple es u p) = false := by with_unfolding_all rfl) : PE c i k m cs (.Compare l [.NotIn] [.Tuple es u p] pos) (.bool (!(ns.any (· == x)))) := by
  refine EV.drop (EV_cmp (hl.ev (EV_tuple (he.evs ⟨by simp; omega, fun t => ?_⟩))) hm)
  exact (C_notin_tup_ints (a := t) (ns := ns) (by simp)).mono fun v cs2 ⟨e1, e2⟩ => by subst e2; exact ⟨_, _, .head, e1, rfl⟩
theorem Take.perm0 {l F : List Chunk} (t : Take l F []) : l.Perm F := by
  have : l.Perm (F ++ []) := t
  rwa [List.append_nil] at this
/-- what a function leaves may stand in another order -/
theorem CodeV.perm {f : Value} {args : List Value} {Q : Value → List Chunk → Prop} (h : CodeV c A k cs f args (fun v cs' => ∃ cs₁, Take cs' cs₁ [] ∧ Q v cs₁)) : CodeV c A k cs f args Q := by
  intro hA R s vs hvs hs
  refine codeAny_mono (h hA R s vs hvs hs) ?_
  intro r s' z
  rcases r with e | (v | _ | _ | _) <;> first | exact z.elim | skip
  obtain ⟨cs', g, cs₁, p, q⟩ := z
  exact ⟨cs₁, g.perm (p.perm0.append_right R), q⟩
/-- what a function leaves may be less -/
theorem CodeV.drop {f : Value} {args : List Value} {Q : Value → List Chunk → Prop} (h : CodeV c A k cs f args (fun v cs' => ∃ x cs₁, Pick cs' x cs₁ ∧ Q v cs₁)) : CodeV c A k cs f args Q := by
  intro hA R s vs hvs hs
  refine codeAny_mono (h hA R s vs hvs hs) ?_
  intro r s' z
  rcases r with e | (v | _ | _ | _) <;> first | exact z.elim | skip
  obtain ⟨cs', g, x, cs₁, p, q⟩ := z
  exact ⟨cs₁, (g.perm (p.perm.append_right R)).tail, q⟩
end

/- ## line and column -/
noncomputable def colOf (l : List Nat) (pc : Nat) : Nat := if 10 ∈ l then (l.reverse.takeWhile (· != 10)).length else pc + l.length
theorem lastI_no {l : List Nat} (h : 10 ∉ l) : lastI 10 l = -1 := by unfold lastI; rw [if_neg h]
theorem lastI_yes {l : List Nat} (h : 10 ∈ l) : lastI 10 l ≠ -1 ∧ (l.length : Int) - (lastI 10 l + 1) = (l.reverse.takeWhile (· != 10)).length := by
  unfold lastI
  rw [if_pos h]
  obtain ⟨v, u, e, hv⟩ := List.eq_append_cons_of_mem (List.mem_reverse.mpr h)
  have hlt : (l.reverse.takeWhile (· != 10)).length < l.length := by
    have h2 : l.length = l.reverse.length := by simp
    rw [h2, e, List.takeWhile_append_of_pos (by intro x hx; simp; exact fun q => hv (q ▸ hx))]
    simp
  omega
end Mine
end
noncomputable section
open PySem PySem.W PySem.Calls PyProof.Rows
namespace Mine

section
variable {c : Cx} {i : Fi} {A : Around} {k : Nat} {m : Fields} {cs cs' : List Chunk}
theorem EV_append {o e : Expr} {apos pos : Pos} {a : Addr} {vs : List Value} {v : Value} {Q : Value → List Chunk → Prop} (ho : PE c i k m cs o (.ref a)) (he : PE c i k m cs e v) (h : (a, .list vs) ∈ cs) (U : Upd cs a (.list (vs ++ [v])) cs') (hz : vs.length ≤ 1000000) (q : Q .none cs')
    (hc : MCall o "append" [e] apos pos := by intro _; exact ⟨_, rfl⟩) (hs : ∀ env, starEach [e] env = (false, eval e env) :: starEach [] env := by intro _; rfl) :
    EV c i k m cs (.Call (.Attribute o "append" apos) [e] [] pos) Q :=
  EV_methP ho (PEs_cons he PEs_nil hs) (M_list h F.slot_list_append F.type_list_append ⟨rfl, .inl ⟨_, rfl⟩, K_append h U hz q⟩) hc hs
theorem EV_pop {o : Expr} {apos pos : Pos} {a : Addr} {vs : List Value} {v : Value} {Q : Value → List Chunk → Prop} (ho : PE c i k m cs o (.ref a)) (h : (a, .list (vs ++ [v])) ∈ cs) (U : Upd cs a (.list vs) cs') (hz : vs.length ≤ 1000000) (q : Q v cs')
    (hc : MCall o "pop" [] apos pos := by intro _; exact ⟨_, rfl⟩) :
    EV c i k m cs (.Call (.Attribute o "pop" apos) [] [] pos) Q :=
  EV_methP0 ho (M_list h F.slot_list_pop F.type_list_pop ⟨rfl, .inl ⟨_, rfl⟩, K_pop h U hz q⟩) hc
theorem EV_pop0 {o : Expr} {u : Nat} {p apos pos : Pos} {a : Addr} {vs : List Value} {v : Value} {Q : Value → List Chunk → Prop} (ho : PE c i k m cs o (.ref a)) (h : (a, .list (v :: vs)) ∈ cs) (U : Upd cs a (.list vs) cs') (hz : vs.length ≤ 1000000) (q : Q v cs')
    (hc : MCall o "pop" [.Constant (.int 0) u p] apos pos := by intro _; exact ⟨_, rfl⟩) (hs : ∀ env, starEach [.Constant (.int 0) u p] env = (false, eval (.Constant (.int 0) u p) env) :: starEach [] env := by intro _; rfl) :
    EV c i k m cs (.Call (.Attribute o "pop" apos) [.Constant (.int 0) u p] [] pos) Q :=
  EV_methP ho (PEs_cons PE_int PEs_nil hs) (M_list h F.slot_list_pop F.type_list_pop ⟨rfl, .inl ⟨_, rfl⟩, K_pop0 h U hz q⟩) hc hs
theorem EV_insert0 {o e : Expr} {u : Nat} {p apos pos : Pos} {a : Addr} {vs : List Value} {v : Value} {Q : Value → List Chunk → Prop} (ho : PE c i k m cs o (.ref a)) (he : PE c i k m cs e v) (h : (a, .list vs) ∈ cs) (U : Upd cs a (.list (v :: vs)) cs') (hz : vs.length ≤ 1000000) (q : Q .none cs')
    (hc : MCall o "insert" [.Constant (.int 0) u p, e] apos pos := by intro _; exact ⟨_, rfl⟩) (hs : ∀ env, starEach [.Constant (.int 0) u p, e] env = (false, eval (.Constant (.int 0) u p) env) :: starEach [e] env := by intro _; rfl)
    (hs2 : ∀ env, starEach [e] env = (false, eval e env) :: starEach [] env := by intro _; rfl) (hp : ∀ pos env, (backTo pos (starEach [e] env)).any (·.1) = false := by intro _ _; rfl) :
    EV c i k m cs (.Call (.Attribute o "insert" apos) [.Constant (.int 0) u p, e] [] pos) Q :=
  EV_methP ho (PEs_cons PE_int (PEs_cons he PEs_nil hs2) hs) (M_list h F.slot_list_insert F.type_list_insert ⟨rfl, .inl ⟨_, rfl⟩, K_insert0 h U hz q⟩) hc hs hp
theorem PE_globR {x : Str} {a : Addr} {pos : Pos} {gl : List Str} (hg : GOk i gl) (hx : x ∈ gl) (e : nsIn c.K mainGlobals x = some (some (.ref a))) (hd : (x == ("__debug__" : Str)) = false := by decide) :
    PE c i k m cs (.Name x pos) (.ref a) := PE_glob hg hx e hd
theorem PE_globN {x : Str} {pos : Pos} {gl : List Str} (hg : GOk i gl) (hx : x ∈ gl) (e : nsIn c.K mainGlobals x = some (some .none)) (hd : (x == ("__debug__" : Str)) = false := by decide) :
    PE c i k m cs (.Name x pos) .none := PE_glob hg hx e hd
/-- a function of the module, called for its value alone -/
theorem PE_callK {func e : Expr} {rest : List Expr} {pos : Pos} {f : Addr} {vs : List Value} {v : Value} (hf : PE c i k m cs func (.ref f)) (hk : keepIn c.K (.ref f) = true) (ha : PEs c i k m cs (e :: rest) vs) (h : CodeV c i.A k cs (.ref f) vs (fun v' cs' => v' = v ∧ cs' = cs))
    (hc : ∀ env, eval (.Call func (e :: rest) [] pos) env = (do let f ← eval func env; callWith pos f [] (backTo pos (starEach (e :: rest) env)) (backToKw pos (keywordEach [] env))) := by intro _; rfl)
    (he : ∀ env, starEach (e :: rest) env = (false, eval e env) :: starEach rest env := by intro _; rfl)
    (hp : ∀ pos env, (backTo pos (starEach rest env)).any (·.1) = false := by intro _ _; rfl) : PE c i k m cs (.Call func (e :: rest) [] pos) v := EV_callK' hf hk ha h hc he hp
/-- the empty join of a list -/
theorem EV_join0 {o e : Expr} {apos pos : Pos} {a : Addr} {ls : List (List Nat)} {Q : Value → List Chunk → Prop} (ho : PE c i k m cs o (.str ⟨([] : List Nat).toArray⟩ 0)) (he : PE c i k m cs e (.ref a)) (h : (a, .list (ls.map strV)) ∈ cs) (hz : ls.flatten.length ≤ 1000000) (hl : ls.length ≤ 100000)
    (q : Q (.str ⟨ls.flatten.toArray⟩ 0) cs) (hc : MCall o "join" [e] apos pos := by intro _; exact ⟨_, rfl⟩) (hs : ∀ env, starEach [e] env = (false, eval e env) :: starEach [] env := by intro _; rfl) :
    EV c i k m cs (.Call (.Attribute o "join" apos) [e] [] pos) Q :=
  EV_methP ho (PEs_cons he PEs_nil hs) (M_str F.slot_str_join F.type_str_join ⟨rfl, .inl ⟨_, rfl⟩, (K_join h hz hl).is q⟩) hc hs
end

theorem noBool_meth : typeLookup (.type "method") "__bool__" = pure none := by rw [typeLookup_type, builtinLookup_eq_fast]; kernel_rfl
theorem noLen_meth : typeLookup (.type "method") "__len__" = pure none := by rw [typeLookup_type, builtinLookup_eq_fast]; kernel_rfl
theorem T_bm {c : Cx} {A : Around} {k : Nat} {cs : List Chunk} {b f x : Addr} (h : (b, .bm f x) ∈ cs) : Op1 c A k cs truthy (.ref b) id (Is cs true) := by
  intro _ R s a' ha hs
  rw [nv_ref ha]
  obtain ⟨o, ho, rfl⟩ := hs.at (List.mem_append_left R h)
  have hT : s.TypeIs (.ref b) "method" := ⟨_, ho, rfl⟩
  unfold truthy
  first
    | refine wpAny_bind (wpAny_callSpecial?_none (name := Str.ofString "__bool__") hT noBool_meth ?_)
    | refine wpAny_bind (wpAny_pure (wpAny_bind (wpAny_callSpecial?_none (name := Str.ofString "__bool__") hT noBool_meth ?_)))
  first
    | refine wpAny_bind (wpAny_specialOf (name := Str.ofString "__len__") hT noLen_meth ?_)
    | refine wpAny_bind (wpAny_pure (wpAny_bind (wpAny_specialOf (name := Str.ofString "__len__") hT noLen_meth ?_)))
  exact wpAny_pure ⟨cs, hs, rfl, rfl⟩
theorem EX.thenR {c : Cx} {i : Fi} {k : Nat} {m m₁ : Fields} {cs cs₁ : List Chunk} {st : Stmt} {rest : List Stmt} {Q : Flow → Fields → List Chunk → Prop} (h : EX c i k m cs st (fun f m' cs' => f = .next ∧ m' = m₁ ∧ cs' = cs₁)) (h2 : EXS c i k m₁ cs₁ rest Q) : EXS c i k m cs (st :: rest) Q :=
  EXS_cons (h.mono fun f m' cs' ⟨e1, e2, e3⟩ => by subst e1 e2 e3; exact h2)
theorem EX_thenR {c : Cx} {i : Fi} {k : Nat} {m m₁ : Fields} {cs cs₁ : List Chunk} {st : Stmt} {rest : List Stmt} {Q : Flow → Fields → List Chunk → Prop} (h : EX c i k m cs st (fun f m' cs' => f = .next ∧ m' = m₁ ∧ cs' = cs₁)) (h2 : EXS c i k m₁ cs₁ rest Q) : EX c i k m cs st (Then c i k rest Q) :=
  h.mono fun f m' cs' ⟨e1, e2, e3⟩ => by subst e1 e2 e3; exact h2
theorem EX_thenE {ι : Type} {c : Cx} {i : Fi} {k : Nat} {m : Fields} (m₁ : ι → Fields) {cs : List Chunk} (cs₁ : ι → List Chunk) {st : Stmt} {rest : List Stmt} {Q : Flow → Fields → List Chunk → Prop} (h : EX c i k m cs st (fun f m' cs' => f = .next ∧ ∃ o, m' = m₁ o ∧ cs' = cs₁ o)) (h2 : ∀ o, EXS c i k (m₁ o) (cs₁ o) rest Q) : EX c i k m cs st (Then c i k rest Q) :=
  h.mono fun f m' cs' ⟨e1, o, e2, e3⟩ => by subst e1 e2 e3; exact h2 o
theorem Turn_brk {J : Fields → List Chunk → Prop} {Q : Flow → Fields → List Chunk → Prop} {m : Fields} {cs : List Chunk} (h : Q .next m cs) : Turn J Q .brk m cs := h
theorem Turn_next {J : Fields → List Chunk → Prop} {Q : Flow → Fields → List Chunk → Prop} {m : Fields} {cs : List Chunk} (h : J m cs) : Turn J Q .next m cs := h
theorem EXS_front {c : Cx} {i : Fi} {k : Nat} {m : Fields} {cs cs₁ : List Chunk} {x : Chunk} {e : List Stmt} {Q : Flow → Fields → List Chunk → Prop} (t : Pick cs x cs₁) (h : EXS c i k m (x :: cs₁) e Q) : EXS c i k m cs e Q := EXS.perm t.perm h
theorem CodeV.permR {c : Cx} {A : Around} {k : Nat} {cs : List Chunk} {f : Value} {args : List Value} {Q : Value → List Chunk → Prop} (h : CodeV c A k cs f args (fun v cs' => ∃ F R₀, Take cs' F R₀ ∧ Q v (F ++ R₀))) : CodeV c A k cs f args Q := by
  intro hA R s vs hvs hs
  refine codeAny_mono (h hA R s vs hvs hs) ?_
  intro r s' z
  rcases r with e | (v | _ | _ | _) <;> first | exact z.elim | skip
  obtain ⟨cs', g, F, R₀, p, q⟩ := z
  exact ⟨F ++ R₀, g.perm (List.Perm.append_right R p), q⟩
theorem countP_take {α : Type} (p : α → Bool) (l : List α) (j : Nat) (x : α) (h : l[j]? = some x) : (l.take (j + 1)).countP p = (l.take j).countP p + (if p x = true then 1 else 0) := by
  obtain ⟨hlt, e⟩ := List.getElem?_eq_some_iff.mp h
  rw [List.take_succ, h, List.countP_append]
  congr 1
  simp [List.countP_cons]
end Mine
end
noncomputable section
open PySem PySem.W PySem.Calls PyProof.Rows
namespace Mine
theorem lit_a : Str.ofString "a" = ⟨[97].toArray⟩ := by decide +kernel
theorem lit_b : Str.ofString "b" = ⟨[98].toArray⟩ := by decide +kernel
theorem lit_amp : Str.ofString "&" = ⟨[38].toArray⟩ := by decide +kernel
theorem lit_soh : Str.ofString "\x01" = ⟨[1].toArray⟩ := by decide +kernel
section
variable {c : Cx} {i : Fi} {A : Around} {k : Nat} {m : Fields} {cs cs' : List Chunk}
theorem B_fdiv {a b : Int} (h : b ≠ 0) (h2 : b.natAbs.log2 < 9000) : Op2 c A k cs (binaryOp .FloorDiv) (.int a 0) (.int b 0) nv (Is cs (.int (a.fdiv b) 0)) := by
  intro _ R s a' b' ha hb hs
  obtain ⟨-, t, rfl⟩ := nv_int ha; obtain ⟨-, u, rfl⟩ := nv_int hb
  exact PyProof.Rows.floordiv_int h ⟨cs, hs.toks (Nat.succ_pos _), rfl, rfl⟩ (Or.inl (PyProof.noPylong_of_log2 h2))
theorem PE_chr {e : Expr} {pos p2 : Pos} {gl : List Str} {n : Int} (hg : GOk i gl) (hx : Str.ofString "chr" ∈ gl) (he : PE c i k m cs e (.int n 0)) (h0 : 0 ≤ n) (h1 : n ≤ 0x10FFFF)
    (hn : nsIn c.K mainGlobals "chr" = some none)
    (hs : ∀ env, starEach [e] env = (false, eval e env) :: starEach [] env := by intro _; rfl)
    (hc : ∀ env, eval (.Call (.Name "chr" p2) [e] [] pos) env = (do let f ← eval (.Name "chr" p2) env; callWith pos f [] (backTo pos (starEach [e] env)) (backToKw pos (keywordEach [] env))) := by intro _; rfl) :
    PE c i k m cs (.Call (.Name "chr" p2) [e] [] pos) (strV [n.toNat]) :=
  EV_callB' (f := "chr") (PE_bi (v := .builtin "chr") hg hx hn (by boot_fast) (by decide)) (PEs_cons he PEs_nil hs) (K_chr h0 h1) hc hs
theorem PE_min {e e2 : Expr} {pos p2 : Pos} {gl : List Str} {a b : Int} (hg : GOk i gl) (hx : Str.ofString "min" ∈ gl) (he : PE c i k m cs e (.int a 0)) (he2 : PE c i k m cs e2 (.int b 0))
    (hn : nsIn c.K mainGlobals "min" = some none)
    (hs : ∀ env, starEach [e, e2] env = (false, eval e env) :: starEach [e2] env := by intro _; rfl) (hs2 : ∀ env, starEach [e2] env = (false, eval e2 env) :: starEach [] env := by intro _; rfl)
    (hp : ∀ pos env, (backTo pos (starEach [e2] env)).any (·.1) = false := by intro _ _; rfl)
    (hc : ∀ env, eval (.Call (.Name "min" p2) [e, e2] [] pos) env = (do let f ← eval (.Name "min" p2) env; callWith pos f [] (backTo pos (starEach [e, e2] env)) (backToKw pos (keywordEach [] env))) := by intro _; rfl) :
    PE c i k m cs (.Call (.Name "min" p2) [e, e2] [] pos) (.int (if b < a then b else a) 0) :=
  EV_callB' (f := "min") (PE_bi (v := .builtin "min") hg hx hn (by boot_fast) (by decide)) (PEs_cons he (PEs_cons he2 PEs_nil hs2) hs) K_min hc hs hp
theorem PE_lenL {e : Expr} {pos p2 : Pos} {gl : List Str} {a : Addr} {vs : List Value} (hg : GOk i gl) (hx : Str.ofString "len" ∈ gl) (he : PE c i k m cs e (.ref a)) (h : (a, .list vs) ∈ cs) (hz : vs.length ≤ 1000000)
    (hn : nsIn c.K mainGlobals "len" = some none)
    (hs : ∀ env, starEach [e] env = (false, eval e env) :: starEach [] env := by intro _; rfl)
    (hc : ∀ env, eval (.Call (.Name "len" p2) [e] [] pos) env = (do let f ← eval (.Name "len" p2) env; callWith pos f [] (backTo pos (starEach [e] env)) (backToKw pos (keywordEach [] env))) := by intro _; rfl) :
    PE c i k m cs (.Call (.Name "len" p2) [e] [] pos) (.int vs.length 0) :=
  EV_callB' (f := "len") (PE_bi (v := .builtin "len") hg hx hn (by boot_fast) (by decide)) (PEs_cons he PEs_nil hs) (K_len_list h hz) hc hs
theorem PE_ifexpI {test body orelse : Expr} {pos : Pos} {b : Bool} {x y : Int} (ht : PT c i k m cs test b) (h1 : PE c i k m cs body (.int x 0)) (h2 : PE c i k m cs orelse (.int y 0)) :
    PE c i k m cs (.IfExp test body orelse pos) (.int (if b = true then x else y) 0) := by
  have := PE_ifexp (pos := pos) ht (fun _ => h1) (fun _ => h2)
  cases b <;> exact this
theorem EV_callK0' {func : Expr} {pos : Pos} {f : Addr} {Q : Value → List Chunk → Prop} (hf : PE c i k m cs func (.ref f)) (hk : keepIn c.K (.ref f) = true)
    (h : CodeV c i.A k cs (.ref f) [] Q)
    (hc : ∀ env, eval (.Call func [] [] pos) env = (do let f ← eval func env; callWith pos f [] (backTo pos (starEach [] env)) (backToKw pos (keywordEach [] env))) := by intro _; rfl) : EV c i k m cs (.Call func [] [] pos) Q := EV_callK0 hf hk h.call hc
end
end Mine
end
noncomputable section
open PySem PySem.W PySem.Calls PyProof.Rows
namespace Mine

theorem Own.fresh {base : Heap} {cs : List Chunk} {h' : Heap} {a : Addr} {ao : AO} {x : Obj} (o : Own base cs h') (ha : ∀ p ∈ cs, p.1 ≠ a) (hb : base.objs.size ≤ a) (e : h'.get? a = some x) (i : OIs x ao) : Own base ((a, ao) :: cs) h' := by
  refine ⟨o.1, ?_, fun p hp => ?_⟩
  · simp only [List.map_cons, List.nodup_cons]
    refine ⟨fun q => ?_, o.2.1⟩
    obtain ⟨p, hp, e⟩ := List.mem_map.mp q
    exact ha p hp e
  · rcases List.mem_cons.mp hp with rfl | hp
    · exact ⟨hb, x, e, i⟩
    · exact o.2.2 p hp

section
variable {c : Cx} {i : Fi} {A : Around} {k : Nat} {m : Fields} {cs cs' : List Chunk}
end
end Mine
end
noncomputable section
open PySem PySem.W PySem.Calls PyProof.Rows
namespace Mine
section
variable {prog : Program} {w : World} {A : Around} {E : Value → Shared → Prop} {s : Shared}
/-- a list's place set: the very object -/
theorem setItem_ex {l : Addr} {its : Array Value} {n : Nat} {y : Int} {t : Tok} {v : Value} {Q : Unit → Shared → Prop} (ho : s.heap.get? l = some { cls := .type "list", data := .seq its n }) (h0 : 0 ≤ y) (hy : y < 2 ^ 63) (hk : y.toNat < its.size)
    (q : Q () { s with heap := s.heap.update l (Obj.mapSeq (·.setIfInBounds y.toNat v)) }) : wpAny (model prog w) A (setItem (.ref l) (.int y t) v) Q E s := by
  have hl : s.heap.IsList l its := ⟨_, ho, rfl, n, rfl⟩
  have hs : wpAny (model prog w) A.in1 (Builtin.«list.__setitem__» ⟨[.ref l, .int y t, v], []⟩) (fun fin s' => ∃ r, fin = .done (.ret r) ∧ Q () s') E s := by
    show wpAny _ _ (Builtin.List.listSubscript? (.int y t) >>= _) _ _ s
    refine wpAny_bind (wpAny_listSubscript_int (fitsIndex_of h0 hy) ?_)
    clear hy
    obtain ⟨k, rfl⟩ := Int.eq_ofNat_of_zero_le h0
    have hk : k < its.size := hk
    have hx : its[k]? = some its[k] := Array.getElem?_eq_getElem hk
    show wpAny _ _ ((seqItemAt l k >>= fun r => pure (r.map (k, ·))) >>= _) _ _ s
    refine wpAny_bind (wpAny_bind (wpAny_seqItemAt ho rfl (wpAny_pure ?_)))
    rw [hx]
    show wpAny _ _ (setSeqItemAt l k v >>= _) _ _ s
    refine wpAny_bind (wpAny_setSeqItemAt ho rfl ?_)
    first
      | exact wpAny_bind (wpAny_pure (wpAny_pure ⟨.none, rfl, q⟩))
      | exact wpAny_pure ⟨.none, rfl, q⟩
  unfold setItem
  try with_reducible refine wpAny_holding ?_
  first | refine wpAny_bind (wpAny_pure ?_) | skip
  refine wpAny_bind (wpAny_sequenceKey hl.typeIs (by decide) ?_)
  refine wpAny_bind (wpAny_callSpecial?_slot (name := Str.ofString "__setitem__") hl.typeIs slot_list_setitem
    (wpAny_call_entry slot_list_setitem hl.typeIs entry_list_setitem (wpAny_mono hs (fun fin s' ⟨r, e, hq⟩ => ⟨r, e, wpAny_pure hq⟩) fun _ _ e => e) (args_list_setitem _ _ _)))
end
section
variable {c : Cx} {i : Fi} {A : Around} {k : Nat} {m : Fields} {cs cs' : List Chunk}
theorem O_setL {a : Addr} {vs : List Value} {n : Nat} {v : Value} {Q : Unit → List Chunk → Prop} (h : (a, .list vs) ∈ cs) (hn : n < vs.length) (hz : vs.length ≤ 1000000) (U : Upd cs a (.list (vs.set n v)) cs') (q : Q () cs') :
    Op3 c A k cs (fun a b d => setItem a b d) (.ref a) (.int n 0) v (fun _ => ()) Q := by
  intro _ R s a' b' d' ha hb hd hs
  rw [nv_ref ha]
  obtain ⟨-, t, rfl⟩ := nv_int hb
  obtain ⟨o, ho, its, u, rfl, hi⟩ := hs.at (List.mem_append_left R h)
  have hl := len_its hi
  refine setItem_ex ho (by omega) (by omega) (by show n < _; omega) ?_
  exact ⟨cs', hs.to hs.pos (own_seq hs.own U ho (by rw [Array.toList_setIfInBounds, List.map_set, hi, hd]; rfl)), q⟩
theorem PE_ifexpS {test body orelse : Expr} {pos : Pos} {b : Bool} {x y : List Nat} (ht : PT c i k m cs test b) (h1 : PE c i k m cs body (.str ⟨x.toArray⟩ 0)) (h2 : PE c i k m cs orelse (.str ⟨y.toArray⟩ 0)) :
    PE c i k m cs (.IfExp test body orelse pos) (.str ⟨(if b = true then x else y).toArray⟩ 0) := by
  have := PE_ifexp (pos := pos) ht (fun _ => h1) (fun _ => h2)
  cases b <;> exact this
theorem EV_split {o e : Expr} {apos pos : Pos} {l : List Nat} {a : Nat} {Q : Value → List Chunk → Prop} (ho : PE c i k m cs o (.str ⟨l.toArray⟩ 0)) (he : PE c i k m cs e (.str ⟨[a].toArray⟩ 0)) (hne : cs ≠ []) (hz : l.length ≤ 1000000) (q : ∀ r, Q (.ref r) ((r, .list ((spl a l).map strV)) :: cs))
    (hc : MCall o "split" [e] apos pos := by intro _; exact ⟨_, rfl⟩) (hs : ∀ env, starEach [e] env = (false, eval e env) :: starEach [] env := by intro _; rfl) : EV c i k m cs (.Call (.Attribute o "split" apos) [e] [] pos) Q :=
  EV_methP ho (PEs_cons he PEs_nil hs) (M_str F.slot_str_split F.type_str_split ⟨rfl, .inl ⟨_, rfl⟩, K_split hne hz q⟩) hc hs
theorem PE_join0 {o e : Expr} {apos pos : Pos} {a : Addr} {ls : List (List Nat)} (ho : PE c i k m cs o (.str ⟨([] : List Nat).toArray⟩ 0)) (he : PE c i k m cs e (.ref a)) (h : (a, .list (ls.map strV)) ∈ cs) (hz : ls.flatten.length ≤ 1000000) (hl : ls.length ≤ 100000)
    (hc : MCall o "join" [e] apos pos := by intro _; exact ⟨_, rfl⟩) (hs : ∀ env, starEach [e] env = (false, eval e env) :: starEach [] env := by intro _; rfl) :
    PE c i k m cs (.Call (.Attribute o "join" apos) [e] [] pos) (.str ⟨ls.flatten.toArray⟩ 0) := EV_join0 ho he h hz hl ⟨rfl, rfl⟩ hc hs
theorem EV_joinS {o e : Expr} {apos pos : Pos} {Q : Value → List Chunk → Prop} (ho : PE c i k m cs o (.str ⟨([] : List Nat).toArray⟩ 0))
    (he : EV c i k m cs e (fun v cs1 => ∃ (a : Addr) (ls : List (List Nat)), v = .ref a ∧ (a, .list (ls.map strV)) ∈ cs1 ∧ ls.flatten.length ≤ 1000000 ∧ ls.length ≤ 100000 ∧ Q (.str ⟨ls.flatten.toArray⟩ 0) cs1))
    (hc : MCall o "join" [e] apos pos := by intro _; exact ⟨_, rfl⟩) (hs : ∀ env, starEach [e] env = (false, eval e env) :: starEach [] env := by intro _; rfl) :
    EV c i k m cs (.Call (.Attribute o "join" apos) [e] [] pos) Q := by
  refine EV_meth (ho.ev (M_str F.slot_str_join F.type_str_join ⟨.inl ⟨_, rfl⟩, EVs_cons (he.mono fun v cs1 h => ?_) hs⟩)) hc hs
  obtain ⟨a, ls, rfl, h1, h2, h3, h4⟩ := h
  exact EVs_nil ((K_join h1 h2 h3).is h4)
end
end Mine
end
noncomputable section
open PySem PySem.W PySem.Calls PyProof.Rows
namespace Mine
/-- a list of the base, or an own one -/
noncomputable def Seen (c : Cx) (cs : List Chunk) (a : Addr) (vs : List Value) : Prop := (a, .list vs) ∈ cs ∨ ∃ its : Array Value, c.base.IsList a its ∧ its.toList.map nv = vs
theorem Seen.at {c : Cx} {cs R : List Chunk} {a : Addr} {vs : List Value} {s : Shared} (h : Seen c cs a vs) (hs : St c (cs ++ R) s) : ∃ its : Array Value, s.heap.IsList a its ∧ its.toList.map nv = vs := by
  rcases h with h | ⟨its, ⟨o, ho, r⟩, e⟩
  · obtain ⟨o, ho, its, n, rfl, hi⟩ := hs.at (List.mem_append_left R h)
    exact ⟨its, ⟨_, ho, rfl, n, rfl⟩, hi⟩
  · exact ⟨its, ⟨o, hs.keep _ _ ho, r⟩, e⟩
section
variable {c : Cx} {i : Fi} {A : Around} {k : Nat} {m : Fields} {cs cs' : List Chunk}
theorem T_listS {a : Addr} {vs : List Value} (h : Seen c cs a vs) (hz : vs.length ≤ 1000000) : Op1 c A k cs truthy (.ref a) id (Is cs (!vs.isEmpty)) := by
  intro _ R s a' ha hs
  rw [nv_ref ha]
  obtain ⟨its, hL, hi⟩ := h.at hs
  have hl := len_its hi
  refine wpAny_truthy_list hL (by omega) ⟨cs, hs.toks (Nat.succ_pos _), ?_, rfl⟩
  show (!its.isEmpty) = _
  cases vs with
  | nil => simp at hl; simp [hl]
  | cons x r => simp at hl; simp [Array.isEmpty, hl]
theorem S_listS {e sl' : Expr} {a : Addr} {vs : List Value} {n : Int} {v : Value} (h : Seen c cs a vs) (h0 : 0 ≤ n) (hz : vs.length ≤ 1000000) (he : vs[n.toNat]? = some v)
    (hs' : ∀ t, subscripted sl' false (.ref a) (.int n t) = operate [.ref a, .int n t] (getItem (.ref a) (.int n t)) := by intro _; with_unfolding_all rfl) : Op2 c A k cs (subscriptTail e sl') (.ref a) (.int n 0) nv (Is cs v) := by
  intro hA R s a' b' ha hb hs
  rw [nv_ref ha]
  obtain ⟨-, t, rfl⟩ := nv_int hb
  obtain ⟨its, hL, hi⟩ := h.at hs
  obtain ⟨v', q1, q2⟩ := at_its hi he
  have hlt : n.toNat < vs.length := (List.getElem?_eq_some_iff.mp he).1
  exact tail_any (ops := [.ref a, .int n t]) hL.typeIs slot_list_getitem.lookup (wpAny_getItem_list hL h0 (by omega) q1 ⟨cs, hs, q2, rfl⟩) (hs' t)
theorem EV_sliceS {e : Expr} {lower upper : Option Expr} {p pos : Pos} {lo hi : Option Int} {Q : Value → List Chunk → Prop}
    (h : EV c i k m cs e (fun v cs1 => ∃ (a : Addr) (vs : List Value), v = .ref a ∧ Seen c cs1 a vs ∧ vs.length ≤ 1000000 ∧ PO c i k m cs1 lower lo ∧ PO c i k m cs1 upper hi ∧ ∀ b, Q (.ref b) ((b, .list (sl vs lo hi)) :: cs1))) :
    EV c i k m cs (.Subscript e (.Slice lower upper none p) pos) Q := by
  intro hF R s hs
  refine Subscript_ (noE (h hF R s hs) ?_)
  rintro o s1 ⟨cs1, h1, a, vs, e1, ha, hz, hl, hu, q⟩
  rw [nv_ref e1]
  refine wpAny_Slice (hl.run hF h1 ?_)
  rintro p1 s2 rfl h2
  refine hu.run hF h2 ?_
  rintro p2 s3 rfl h3
  rw [evalPart_none]
  refine wpAny_pure ?_
  obtain ⟨its, hL0, hi⟩ := ha.at (h3.perm mid)
  have ext : ∀ b y, s3.heap.get? b = some y → (s3.heap.push { cls := .type "slice", data := .fields #[partValue p1, partValue p2, .none] }).get? b = some y := fun b y e => Heap.get?_push_of_some _ e
  have h4 := h3.ext (tk := s3.toks) h3.pos ext
  have hL : (s3.heap.push { cls := .type "slice", data := .fields #[partValue p1, partValue p2, .none] }).IsList a its := by
    obtain ⟨o, ho, r⟩ := hL0; exact ⟨o, ext _ _ ho, r⟩
  have part : ∀ q : Option (Int × Tok), IsPart (partValue q) (q.map (·.1)) := fun q => match q with
    | none => .none
    | some (j, t) => .int j t
  have hsz : its.size ≤ sizeLine := by
    have : its.toList.length = vs.length := by rw [← hi, List.length_map]
    rw [Array.length_toList] at this
    rw [sizeLine_eq]; omega
  refine tail_any (ops := [.ref s3.heap.objs.size, .ref a]) hL.typeIs slot_list_getitem.lookup ?_ (by with_unfolding_all rfl)
  refine wpAny_getItem_list_slice hL (Heap.IsSliceOf.new ..) (part p1) (part p2) .none (by simp) ?_ hsz
  refine ⟨(_, .list (sl vs (p1.map fun (x : Int × Tok) => x.1) (p2.map fun (x : Int × Tok) => x.1))) :: cs1, ?_, q _⟩
  rw [pick_eq]
  have h5 := h4.own.push (ao := .list (sl vs (p1.map fun (x : Int × Tok) => x.1) (p2.map fun (x : Int × Tok) => x.1))) (x := { cls := .type "list", data := .seq (sl its.toList (p1.map fun (x : Int × Tok) => x.1) (p2.map fun (x : Int × Tok) => x.1)).toArray })
    (h4.own.size (by simp)) rfl ⟨_, _, rfl, by simp only [List.toList_toArray]; rw [sl_map, hi]⟩
  exact St.perm (h4.to h4.pos h5) (List.Perm.swap ..)
end
end Mine
end
noncomputable section
open PySem PySem.W PySem.Calls PyProof.Rows
namespace Mine
section
variable {c : Cx} {i : Fi} {A : Around} {k : Nat} {m : Fields} {cs cs' : List Chunk}
theorem any_ones (l : List Nat) (x : Nat) : ((l.map fun x => [x]).map fun l => (⟨l.toArray⟩ : Str)).any (· == ⟨[x].toArray⟩) = decide (x ∈ l) := by
  rw [List.map_map, List.any_map, Bool.eq_iff_iff, List.any_eq_true, decide_eq_true_eq]
  constructor
  · rintro ⟨y, hy, e⟩
    have : (⟨[y].toArray⟩ : Str) = ⟨[x].toArray⟩ := eq_of_beq e
    injection this with this
    have := congrArg Array.toList this
    simp at this
    exact this ▸ hy
  · intro hx
    exact ⟨x, hx, by simp⟩
theorem Row_listS {a : Addr} {l : List Nat} (h : Seen c cs a (l.map fun x => strV [x])) : Row c cs (.ref a) fun x => decide (x ∈ l) := by
  intro A k x _ R s a' b' ha hb hs
  rw [nv_ref hb]
  obtain ⟨-, t, rfl⟩ := nv_str ha
  obtain ⟨its, ⟨o, ho, hc, u, hd⟩, hi⟩ := h.at hs
  have e : its.toList.map nv = (l.map fun x => [x]).map strV := by rw [hi, List.map_map]; rfl
  refine in_list_strs (vs := its.toList) ⟨o, ho, hc, u, by simpa using hd⟩ (strsAre_of e) ⟨cs, hs, ?_, rfl⟩
  show Value.bool _ = _
  congr 1
  exact any_ones l x
theorem Row_tup {a : Addr} {l : List Nat} (h : (a, .tup (l.map fun x => strV [x])) ∈ cs) : Row c cs (.ref a) fun x => decide (x ∈ l) := by
  intro A k x _ R s a' b' ha hb hs
  rw [nv_ref hb]
  obtain ⟨-, t, rfl⟩ := nv_str ha
  obtain ⟨o, ho, its, u, rfl, hi⟩ := hs.at (List.mem_append_left R h)
  have e : its.toList.map nv = (l.map fun x => [x]).map strV := by rw [hi, List.map_map]; rfl
  refine in_tuple_strs ⟨_, ho, rfl, u, rfl⟩ (strsAre_of e) ⟨cs, hs, ?_, rfl⟩
  show Value.bool _ = _
  congr 1
  exact any_ones l x
theorem Row_tupB {a : Addr} {l : List Nat} {its : Array Value} {n : Nat} (h : c.K.lookup a = some ⟨.type "tuple", none, .seq its n, #[]⟩) (e : its.toList.map nv = (l.map fun x => [x]).map strV) : Row c cs (.ref a) fun x => decide (x ∈ l) := by
  intro A k x _ R s a' b' ha hb hs
  rw [nv_ref hb]
  obtain ⟨-, t, rfl⟩ := nv_str ha
  refine in_tuple_strs ⟨_, hs.inK _ _ h, rfl, n, rfl⟩ (strsAre_of e) ⟨cs, hs, ?_, rfl⟩
  show Value.bool _ = _
  congr 1
  exact any_ones l x
theorem seenB {a : Addr} {vs : List Value} {its : Array Value} {n : Nat} (h : c.K.lookup a = some ⟨.type "list", none, .seq its n, #[]⟩) (e : its.toList.map nv = vs) : Seen c cs a vs :=
  .inr ⟨its, ⟨_, c.inK _ _ h, rfl, n, rfl⟩, e⟩
end
end Mine
end
noncomputable section
open PySem PySem.W PySem.Calls PyProof.Rows
namespace Mine
section
variable {c : Cx} {i : Fi} {A : Around} {k : Nat} {m : Fields} {cs cs' : List Chunk}
theorem compStart2 {prog : Program} {w : World} {A : Around} {RR : Result → Shared → Prop} {s : Shared} {elt target iter : Expr} {ifs : List Expr} {rest : List Comprehension} {scope : Scope} {pos : Pos} {it a : Addr} {acc : Value} {env : Env} (hit : s.heap.IsListIter it a 0)
    (h : codeAny (model prog w) A (.compLoop (.ListComp elt (⟨target, iter, ifs, 0⟩ :: rest) scope pos) 0 (.ref it) acc env) RR s) :
    codeAny (model prog w) A (.compStart (.ListComp elt (⟨target, iter, ifs, 0⟩ :: rest) scope pos) 0 (.ref it) acc env) RR s :=
  codeAny_compStart_list h (wpAny_pyIter_listiter hit h)
/-- a list made of a list, each of its items by one expression -/
theorem EV_compL {elt iter : Expr} {x : Str} {px pos : Pos} {scope : Scope} {a : Addr} {vs : List Value} {g : Value → Value} {gl : List Str} {Q : Value → List Chunk → Prop}
    (hit : PE c i k m cs iter (.ref a)) (ha : (a, .list vs) ∈ cs) (hz : vs.length ≤ 100000)
    (hfree : ∀ x ∈ scope.names, x.2 ≠ .free) (hcell : ∀ x ∈ scope.names, x.2 ≠ .cell) (hkind : scope.kind = .function) (hnames : ∀ x ∈ scope.names, x.2 = .local → scope.names.lookup x.1 = some .local)
    (hx : scope.names.lookup x = some .local) (hgl : ∀ y ∈ gl, scope.names.lookup y = some .globalImplicit)
    (helt : ∀ (i2 : Fi) v cs2, v ∈ vs → cs2 ≠ [] → GOk i2 gl → EV c i2 k [(x, some v)] cs2 elt (fun r cs3 => r = g v ∧ cs3 = cs2))
    (q : ∀ r, Q (.ref r) ((r, .list (vs.map g)) :: cs))
    (hs : ∀ env x, foldedSetIterable iter env x = pure x := by intro _ _; rfl) :
    EV c i k m cs (.ListComp elt [⟨.Name x px, iter, [], 0⟩] scope pos) Q := by
  intro hF R s hst
  refine wpAny_ListComp hfree hkind hnames (noE (hit hF R s hst) ?_) (hs _)
  rintro v s1 ⟨cs1, h1, e1, rfl⟩
  rw [nv_ref e1]
  have hne : cs1 ≠ [] := List.ne_nil_of_mem ha
  refine noE ((I_list (A := i.A) (k := k) (Q := fun v cs2 => ∃ it, v = .ref it ∧ cs2 = (it, listIt a 0) :: cs1) hne ha (fun it => ⟨it, rfl, rfl⟩)) hF.2.2 _ s1 (.ref a) rfl (h1.perm mid)) ?_
  rintro itv s2 ⟨cs2, h2, it, e2, rfl⟩
  rw [nv_ref e2]
  have h2 := h2.perm dim
  refine wpAny_newList ?_ (Nat.zero_le _)
  have hb0 : c.base.objs.size ≤ s2.heap.objs.size := h2.own.size (by simp)
  have o3 : Own c.base ((s2.heap.objs.size, .list []) :: (i.L, .ns m) :: (((it, listIt a 0) :: cs1) ++ R)) (s2.heap.push { cls := .type "list", data := .seq ([] : List Value).toArray }) :=
    h2.own.push (ao := .list []) hb0 rfl ⟨_, _, rfl, rfl⟩
  refine wpAny_newFunctionEnv hcell (by simp) (fun h4 N sb => ?_) hkind
  dsimp only at N sb ⊢
  generalize hH3 : s2.heap.push { cls := .type "list", data := .seq ([] : List Value).toArray } = H3 at o3 N sb ⊢
  have hC : H3.objs.size = s2.heap.objs.size + 1 := by rw [← hH3, Heap.size_push]
  have o3' : Own c.base ((s2.heap.objs.size, .list []) :: (i.L, .ns m) :: (((it, listIt a 0) :: cs1) ++ R)) h4 := o3.ext fun b y e => by
    have hlt := Heap.lt_size e
    exact (sb.2 b (Nat.ne_of_lt hlt)).trans (Heap.get?_push_of_some _ e)
  obtain ⟨oC, es, ep, hoC, hd, hsk, hf⟩ := N
  have o4 : Own c.base ((H3.objs.size, .ns [(x, none)]) :: (s2.heap.objs.size, .list []) :: (i.L, .ns m) :: (((it, listIt a 0) :: cs1) ++ R)) h4 := by
    refine o3'.fresh (fun p hp e => ?_) (by omega) hoC ⟨es, ep, hd, hsk, by simp, fun p hp => ?_⟩
    · obtain ⟨-, y, hy, -⟩ := o3.2.2 p hp
      exact absurd (Heap.lt_size hy) (by rw [e]; exact Nat.lt_irrefl _)
    · rw [List.mem_singleton.mp hp, hf]; rfl
  dsimp only [newEnv]
  have hce : EnvOk { scope := scope, locals := H3.objs.size, globals := i.env.globals, cells := [], qual := i.env.qual, func := none, code := i.env.code, frame := i.env.frame, builtins := i.env.builtins } H3.objs.size := ⟨hkind, rfl, hF.1.2.2.1, hF.1.2.2.2⟩
  have hsc : ({ scope := scope, locals := H3.objs.size, globals := i.env.globals, cells := [], qual := i.env.qual, func := none, code := i.env.code, frame := i.env.frame, builtins := i.env.builtins } : Env).scope = scope := rfl
  have hlo : ({ scope := scope, locals := H3.objs.size, globals := i.env.globals, cells := [], qual := i.env.qual, func := none, code := i.env.code, frame := i.env.frame, builtins := i.env.builtins } : Env).locals = H3.objs.size := rfl
  generalize ({ scope := scope, locals := H3.objs.size, globals := i.env.globals, cells := [], qual := i.env.qual, func := none, code := i.env.code, frame := i.env.frame, builtins := i.env.builtins } : Env) = ce at hce hsc hlo ⊢
  generalize H3.objs.size = C at *
  generalize s2.heap.objs.size = D at *
  have F2 : ∀ o, FOk ⟨i.A, ce, C⟩ k [(x, o)] := fun o => ⟨hce, fun p hp => by rw [List.mem_singleton.mp hp]; show ce.scope.names.lookup x = _; rw [hsc]; exact hx, hF.2.2⟩
  have G2 : GOk ⟨i.A, ce, C⟩ gl := fun y hy => by show ce.scope.names.lookup y = _; rw [hsc]; exact hgl y hy
  have hst4 : St c ((C, .ns [(x, none)]) :: (D, .list []) :: (i.L, .ns m) :: (((it, listIt a 0) :: cs1) ++ R)) { s2 with heap := h4 } := h2.to h2.pos o4
  have hit4 : h4.IsListIter it a 0 := by
    obtain ⟨o, ho, e1, e2⟩ := hst4.at (a := it) (ao := listIt a 0) (by simp)
    exact ⟨o, ho, e1, e2⟩
  have pm : ∀ P1 P2 P3 : List Chunk, (P1 ++ (P2 ++ P3)).Perm (P2 ++ (P1 ++ P3)) := fun P1 P2 P3 => by
    rw [← List.append_assoc, ← List.append_assoc]; exact List.perm_append_comm.append_right _
  refine compStart2 hit4 ?_
  refine codeAny_compLoop_list (fun n s' => ∃ j o, n = vs.length + 1 - j ∧ j ≤ vs.length ∧ St c ((C, .ns [(x, o)]) :: (((D, .list ((vs.take j).map g)) :: (it, listIt a j) :: cs1) ++ (i.L, .ns m) :: R)) s') ?_ (vs.length + 1) ⟨0, none, rfl, Nat.zero_le _, ?_⟩
  · rintro n s' ⟨j, o, rfl, hj, h5⟩
    refine noE' (N_list (c := c) (A := i.A) (k := k) (cs := cs1) (vs := vs) (j := j) ha hF.2.2 ((C, .ns [(x, o)]) :: (D, .list ((vs.take j).map g)) :: (i.L, .ns m) :: R) s' (.ref it) rfl (h5.perm (pm [_, _] (_ :: _) _))) ?_
    rintro r s6 ⟨cs6, h6, q6⟩
    cases r with
    | none =>
      obtain ⟨hge, rfl⟩ := q6
      have e : j = vs.length := Nat.le_antisymm hj hge
      subst e
      rw [List.take_length] at h6
      have h7 : St c ((C, .ns [(x, o)]) :: (i.L, .ns m) :: (((D, .list (vs.map g)) :: cs6) ++ R)) s6 := by
        refine h6.perm ?_
        refine (pm cs6 [_, _] _).trans ?_
        refine List.Perm.cons _ ?_
        show ((D, AO.list (vs.map g)) :: (cs6 ++ (i.L, AO.ns m) :: R)).Perm _
        exact (List.Perm.cons _ List.perm_middle).trans (List.Perm.swap _ _ _)
      obtain ⟨oc, hoc, es', ep', g1, g2, g3, g4⟩ := h7.at (a := C) (ao := .ns [(x, o)]) (by simp)
      refine ⟨fun y => nsFind es' y, ⟨oc, es', ep', hoc, g1, g2, fun _ => rfl⟩, fun h' sb' => ?_⟩
      exact ⟨_, h7.but (fun b y hb e => (sb'.2 b hb).trans e), q D⟩
    | some v =>
      obtain ⟨hlt, hv, rfl⟩ := q6
      have hvm : nv v ∈ vs := List.mem_of_getElem? hv
      have h7 : St c ((C, .ns [(x, o)]) :: (((D, .list ((vs.take j).map g)) :: (it, listIt a (j + 1)) :: cs1) ++ (i.L, .ns m) :: R)) s6 := h6.perm (pm (_ :: _) [_, _] _)
      refine noE' (AS_name (c := c) (i := ⟨i.A, ce, C⟩) (k := k) (Q := fun m' cs' => m' = [(x, some (nv v))] ∧ cs' = (D, .list ((vs.take j).map g)) :: (it, listIt a (j + 1)) :: cs1) (U := Upd.head) ⟨rfl, rfl⟩ (F2 o) ((i.L, .ns m) :: R) s6 v rfl h7) ?_
      rintro _ s7 ⟨m7, cs7, -, h8, rfl, rfl⟩
      refine noE' (helt ⟨i.A, ce, C⟩ (nv v) _ hvm (by simp) G2 (F2 _) _ s7 h8) ?_
      rintro y s8 ⟨cs8, h9, hy, rfl⟩
      have htl : ((vs.take j).map g).length ≤ 1000000 := by rw [List.length_map, List.length_take]; omega
      refine noE' (K_append (c := c) (A := i.A) (k := k) (cs := ((D, .list ((vs.take j).map g)) :: (it, listIt a (j + 1)) :: cs1)) (a := D) (v := nv y) (Q := fun _ cs' => cs' = ((D, .list ((vs.take j).map g ++ [nv y])) :: (it, listIt a (j + 1)) :: cs1)) mem_hd Upd.head htl rfl hF.2.2 _ s8 [.ref D, y] rfl (h9.perm mid)) ?_
      rintro _ s9 ⟨cs9, h10, rfl⟩
      have e : (vs.take j).map g ++ [nv y] = (vs.take (j + 1)).map g := by rw [List.take_succ, hv, List.map_append, hy]; rfl
      rw [e] at h10
      exact ⟨vs.length + 1 - (j + 1), by omega, j + 1, _, rfl, hlt, h10.perm dim⟩
  · refine hst4.perm ?_
    refine List.Perm.cons _ ?_
    show ((D, AO.list []) :: (i.L, AO.ns m) :: (((it, listIt a 0) :: cs1) ++ R)).Perm (((D, AO.list []) :: (it, listIt a 0) :: cs1) ++ (i.L, AO.ns m) :: R)
    exact List.Perm.cons _ mid
end
end Mine
end
noncomputable section
open PySem PySem.W PySem.Calls PyProof.Rows
namespace Mine
section
variable {c : Cx} {i : Fi} {k : Nat} {m : Fields} {cs : List Chunk}
theorem St.less {F R₀ cs' R : List Chunk} {p : Chunk} {s : Shared} (t : Take cs' F R₀) (h : St c (p :: (cs' ++ R)) s) : St c (p :: (F ++ R)) s := by
  have h2 : St c (p :: ((F ++ R₀) ++ R)) s := h.perm ((List.Perm.append_right R t).cons p)
  exact h2.sub (.cons_cons _ (List.Sublist.append_right (List.sublist_append_left F R₀) R))
/-- what a statement leaves may be less -/
theorem EX.less {st : Stmt} {Q : Flow → Fields → List Chunk → Prop} (h : EX c i k m cs st (fun f m' cs' => ∃ F R₀, Take cs' F R₀ ∧ Q f m' F)) : EX c i k m cs st Q :=
  fun hF R s hs => noE (h hF R s hs) fun _ _ ⟨m', cs', z, a, F, R₀, t, q⟩ => ⟨m', F, z, a.less t, q⟩
theorem EXS.less {st : List Stmt} {Q : Flow → Fields → List Chunk → Prop} (h : EXS c i k m cs st (fun f m' cs' => ∃ F R₀, Take cs' F R₀ ∧ Q f m' F)) : EXS c i k m cs st Q :=
  fun hF R s hs => noE (h hF R s hs) fun _ _ ⟨m', cs', z, a, F, R₀, t, q⟩ => ⟨m', F, z, a.less t, q⟩
theorem EV.less {e : Expr} {Q : Value → List Chunk → Prop} (h : EV c i k m cs e (fun v cs' => ∃ F R₀, Take cs' F R₀ ∧ Q v F)) : EV c i k m cs e Q :=
  fun hF R s hs => noE (h hF R s hs) fun _ _ ⟨cs', a, F, R₀, t, q⟩ => ⟨F, a.less t, q⟩
end
end Mine
end
noncomputable section
open PySem PySem.W PySem.Calls PyProof.Rows
namespace Mine
/- ## captured names: a cell is an own object -/
section
variable {c : Cx} {i : Fi} {A : Around} {k : Nat} {m : Fields} {cs cs' : List Chunk}
end

section
variable {c : Cx} {i : Fi} {A : Around} {k : Nat} {m : Fields} {cs cs' : List Chunk}
end
end Mine
end
noncomputable section
open PySem PySem.W PySem.Calls PyProof.Rows
namespace Mine
/- ## comprehensions that read captured names -/
end Mine
end
noncomputable section
open PySem PySem.W PySem.Calls PyProof.Rows
namespace Mine
section
variable {c : Cx} {i : Fi} {A : Around} {k : Nat} {m : Fields} {cs cs' : List Chunk}
end
end Mine
end
noncomputable section
open PySem PySem.W PySem.Calls PyProof.Rows
open PySem.StrLaws
namespace Mine
/-- a tuple of the base, or an own one -/
noncomputable def SeenT (c : Cx) (cs : List Chunk) (a : Addr) (vs : List Value) : Prop := (a, .tup vs) ∈ cs ∨ ∃ its : Array Value, IsTup c.base a its ∧ its.toList.map nv = vs
theorem SeenT.at {c : Cx} {cs R : List Chunk} {a : Addr} {vs : List Value} {s : Shared} (h : SeenT c cs a vs) (hs : St c (cs ++ R) s) : ∃ its : Array Value, IsTup s.heap a its ∧ its.toList.map nv = vs := by
  rcases h with h | ⟨its, ⟨o, ho, r⟩, e⟩
  · obtain ⟨o, ho, its, n, rfl, hi⟩ := hs.at (List.mem_append_left R h)
    exact ⟨its, ⟨_, ho, rfl, n, rfl⟩, hi⟩
  · exact ⟨its, ⟨o, hs.keep _ _ ho, r⟩, e⟩
section
variable {c : Cx} {i : Fi} {A : Around} {k : Nat} {m : Fields} {cs cs' : List Chunk}
/- ## an iterator's own iterator -/
/- ## lists and tuples, added -/
/- ## membership -/
/- ## a tuple's item -/
theorem S_tupS {e sl' : Expr} {a : Addr} {vs : List Value} {n : Int} {j : Nat} {v : Value} (h : SeenT c cs a vs) (h0 : -1000000 ≤ n) (h1 : n ≤ 1000000) (hk : seqIndex? n vs.length = some j) (he : vs[j]? = some v)
    (hs' : ∀ t, subscripted sl' false (.ref a) (.int n t) = operate [.ref a, .int n t] (getItem (.ref a) (.int n t)) := by intro _; with_unfolding_all rfl) : Op2 c A k cs (subscriptTail e sl') (.ref a) (.int n 0) nv (Is cs v) := by
  intro hA R s a' b' ha hb hs
  rw [nv_ref ha]
  obtain ⟨-, t, rfl⟩ := nv_int hb
  obtain ⟨its, ht, hi⟩ := h.at hs
  obtain ⟨v', q1, q2⟩ := at_its hi he
  have hl := len_its hi
  exact item_tupleT (l := its.toList) (j := j) (x := v') (by simpa using ht) (by omega) (by omega) (by simpa [hl] using hk) (by simpa using q1) ⟨cs, hs, q2, rfl⟩ (hs' t)
/- ## an empty list filled with a text's signs -/
end
end Mine
end
noncomputable section
open PySem PySem.W PySem.Calls PyProof.Rows
namespace Mine
/- ## an enumerate over a list -/
section
variable {c : Cx} {i : Fi} {A : Around} {k : Nat} {m : Fields} {cs cs' : List Chunk}
end
end Mine
end
noncomputable section
open PySem PySem.W PySem.Calls PyProof.Rows
namespace Mine
/- ## two names stored at once -/
section
variable {c : Cx} {i : Fi} {A : Around} {k : Nat} {m : Fields} {cs cs' : List Chunk}
theorem swapped_two {x y : Str} {px py p1 p2 : Pos} {u1 u2 : Nat} {e1 e2 : Expr} {env : Env} (hk : env.scope.kind = .function) (hx : env.kindOf x = some .local) (hy : env.kindOf y = some .local) (hne : x ≠ y) (hl : py.line = px.line)
    (hf : ([e1, e2].all (foldedForSure 8)) = false) (hc : ([e1, e2].all (constantsAlone 8)) = false) (hs : ([e1, e2].any fun | .Starred .. => true | _ => false) = false) :
    swappedStores [.Tuple [.Name x px, .Name y py] u1 p1] (.Tuple [e1, e2] u2 p2) env = pure (some [x, y]) := by
  have hb : env.blockKind = .function := by unfold Env.blockKind; rw [hk]; rfl
  have e1' : ([.Name x px, .Name y py] : List Expr).filterMap (fun
    | .Name id pos => if env.kindOf id == some .local && pos.line == (([.Name x px, .Name y py] : List Expr).head?.map (·.pos.line)).getD 0 then some id else none
    | _ => none) = [x, y] := by
    have hp : (Expr.Name x px).pos = px := rfl
    simp [hx, hy, hl, hp]
  have hd : ([x, y] : List Str).eraseDups = [x, y] := by
    have : (x == y) = false := beq_eq_false_iff_ne.mpr hne
    have h2 : (y == x) = false := beq_eq_false_iff_ne.mpr (Ne.symm hne)
    simp [List.eraseDups_cons, h2, List.filter]
  unfold swappedStores
  simp only
  rw [hb]
  rw [if_neg (by simp)]
  refine Eq.trans (if_neg fun q => by have := hs.symm.trans q; cases this) ?_
  have gen : ∀ (L : List Str), L = [x, y] → (if (L.length != ([.Name x px, .Name y py] : List Expr).length || L.eraseDups.length != L.length) = true then (pure none : Sem (Option (List Str))) else
      if ([e1, e2].all (foldedForSure 8)) = true then pure none else if ([e1, e2].all (constantsAlone 8)) = true then «unsupported» "assign.tuple-of-constant-expressions:order-of-the-stores" else pure (some L)) = pure (some [x, y]) := by
    rintro L rfl
    rw [hd, if_neg (by simp), if_neg (by rw [hf]; simp), if_neg (by rw [hc]; simp)]
  exact gen _ e1'
theorem unpack_tup {t : Addr} {vs : List Value} (ht : (t, .tup vs) ∈ cs) (hF : FOk i k m) {R : List Chunk} {s : Shared} (hs : St c ((i.L, .ns m) :: (cs ++ R)) s) {Q : List Value → Shared → Prop}
    (q : ∀ its s', its.map nv = vs → St c ((i.L, .ns m) :: (cs ++ R)) s' → Q its s') : wpAny (model c.prog c.w) i.A (unpackItems (.ref t) vs.length none) Q NoE s := by
  obtain ⟨o, ho, its, n, rfl, hi⟩ := hs.at (List.mem_cons_of_mem _ (List.mem_append_left R ht))
  have hl := len_its hi
  rw [← hl]
  refine unpackItems_tuple hF.2.2.1 ⟨_, ho, rfl, n, rfl⟩ fun h' hk => ?_
  exact q its.toList _ hi (hs.ext hs.pos fun b y e => hk b y (Nat.ne_of_lt (Heap.lt_size e)) e)
theorem EX_assign2 {x y : Str} {px py p1 p2 pos : Pos} {u1 u2 : Nat} {e1 e2 : Expr} {Q : Flow → Fields → List Chunk → Prop}
    (h : EV c i k m cs e1 (fun v1 cs1 => EV c i k m cs1 e2 (fun v2 cs2 => ∃ m1 m2, Upd m y (some v2) m1 ∧ Upd m1 x (some v1) m2 ∧ Q .next m2 cs2)))
    {ux uy : Option Value} (hx : (x, ux) ∈ m) (hy : (y, uy) ∈ m) (hne : x ≠ y := by decide) (hl : py.line = px.line := by rfl)
    (hf : ([e1, e2].all (foldedForSure 8)) = false := by rfl) (hc : ([e1, e2].all (constantsAlone 8)) = false := by rfl) (hs' : ([e1, e2].any fun | .Starred .. => true | _ => false) = false := by rfl)
    (ha1 : ∀ env, starEach [e1, e2] env = (false, eval e1 env) :: starEach [e2] env := by intro _; rfl) (ha2 : ∀ env, starEach [e2] env = (false, eval e2 env) :: starEach [] env := by intro _; rfl)
    (hsw : ∀ env, swapsWithSole [.Tuple [.Name x px, .Name y py] u1 p1] (.Tuple [e1, e2] u2 p2) pos.line env = pure false := by intro _; rfl) :
    EX c i k m cs (.Assign [.Tuple [.Name x px, .Name y py] u1 p1] (.Tuple [e1, e2] u2 p2) pos) Q := by
  intro hF R s hs
  have kx : i.env.kindOf x = some .local := hF.2.1 _ hx
  have ky : i.env.kindOf y = some .local := hF.2.1 _ hy
  have hT : EV c i k m cs (.Tuple [e1, e2] u2 p2) (fun v cs2 => ∃ t v1 v2 cs3 m1 m2, v = .ref t ∧ cs2 = (t, .tup [v1, v2]) :: cs3 ∧ Upd m y (some v2) m1 ∧ Upd m1 x (some v1) m2 ∧ Q .next m2 cs3) := by
    refine EV_tuple (EVs_cons (h.mono fun v1 cs1 h1 => EVs_cons (h1.mono fun v2 cs2 h2 => EVs_nil ⟨by simp, fun t => ?_⟩) ha2) ha1)
    obtain ⟨m1, m2, U1, U2, q⟩ := h2
    exact ⟨t, v1, v2, cs2, m1, m2, rfl, rfl, U1, U2, q⟩
  refine Assign_Tuple_swapped (names := [x, y]) (noE (hT hF R s hs) ?_) (hsw _) (swapped_two hF.1.1 kx ky hne hl hf hc hs')
  rintro v s1 ⟨cs2, h1, t, v1, v2, cs3, m1, m2, e, rfl, U1, U2, q⟩
  rw [nv_ref e]
  refine unpack_tup (vs := [v1, v2]) mem_hd hF h1 fun its s2 hits h2 => ?_
  obtain ⟨w1, w2, rfl, q1, q2⟩ := map_two hits
  have st : ∀ {n : Str} {a b : Fields} {w : Value} {S : List Chunk} {s' : Shared} {P : Unit → Shared → Prop}, SameKeys m a → Upd a n (some (nv w)) b → St c ((i.L, .ns a) :: S) s' → (∀ s'', St c ((i.L, .ns b) :: S) s'' → P () s'') → wpAny (model c.prog c.w) i.A (bindName i.env n w) P NoE s' := by
    intro n a b w S s' P ka U g hP
    have g' : St c ((i.L, .ns a) :: (S ++ [])) s' := by rw [List.append_nil]; exact g
    obtain ⟨m₀, F, hn, hm⟩ := frame g'
    have hx : i.env.kindOf n = some .local := by
      obtain ⟨pre, u, post, rfl, rfl⟩ := U
      exact (hF.keys ka).2.1 (n, u) (by simp)
    refine bindName_ (wpAny_storeName_local hx (by rw [hF.1.2.1]; exact F.ns) (fun h' N sb => ?_) (scopeF hF.1.1))
    rw [hF.1.2.1] at N sb
    obtain ⟨o, ho, hi⟩ := ns_upd hn hm N U
    exact hP _ (g.to (Nat.succ_pos _) (g.own.upd Upd.head (fun b y hb e => (sb.2 b hb).trans e) ho hi))
  show wpAny _ _ (assignInOrder [fun v => bindName i.env y v, fun v => bindName i.env x v] [w2, w1]) _ _ _
  refine assignInOrder_cons (st (.refl m) (by rw [q2]; exact U1) h2 fun s3 h3 => ?_)
  refine assignInOrder_cons (st (U1.keys) (by rw [q1]; exact U2) h3 fun s4 h4 => ?_)
  refine wpAny_pure ⟨m2, cs3, (SameKeys.trans U1.keys U2.keys), ?_, q⟩
  exact h4.sub (.cons_cons _ (List.sublist_cons_self _ _))
end
end Mine
end
noncomputable section
open PySem PySem.W PySem.Calls PyProof.Rows
namespace Mine
/- ## the set of strs, asked -/
noncomputable def SetIs (h : Heap) (a : Addr) (L : List Str) : Prop :=
  ∃ es n t, h.get? a = some (setObj es n t) ∧ (∀ e ∈ es.toList, ∃ x u, e.2 = .str x u ∧ x ∈ L) ∧ (∀ x ∈ L, ∃ e ∈ es.toList, ∃ u, e.2 = .str x u) ∧ t.fits es.size = true ∧ es.size = L.length
theorem SetIs.keeps {h h' : Heap} {a : Addr} {L : List Str} (S : SetIs h a L) (k : ∀ b o, h.get? b = some o → h'.get? b = some o) : SetIs h' a L :=
  let ⟨es, n, t, e, r⟩ := S; ⟨es, n, t, k _ _ e, r⟩
theorem isStr_iff {v : Value} {x : Str} (h : v.isStr x = true) : ∃ u, v = .str x u := by
  cases v <;> simp [Value.isStr] at h
  exact ⟨_, by rw [h]⟩
theorem setIs_of {h : Heap} {a : Addr} {L : List Str} (e : setSeen L (h.get? a) = true) (hL : L.length ≤ 7) : SetIs h a L := by
  cases ho : h.get? a with
  | none => rw [ho] at e; cases e
  | some o =>
    rw [ho] at e
    obtain ⟨cl, dc, dt, sl⟩ := o
    unfold setSeen at e
    simp only at e
    split at e
    · rename_i es n t
      simp only [Bool.and_eq_true, List.all_eq_true, List.any_eq_true, beq_iff_eq, decide_eq_true_eq, Option.isNone_iff_eq_none, Array.isEmpty_iff] at e
      obtain ⟨⟨⟨rfl, rfl⟩, rfl⟩, ⟨⟨⟨⟨e1, e2⟩, e3⟩, e4⟩, e5⟩, e6⟩ := e
      refine ⟨es, n, t, ho, fun y hy => ?_, fun x hx => ?_, ?_, e6⟩
      · have := e1 y hy
        split at this
        · rename_i x u q
          exact ⟨x, u, q, List.contains_iff_mem.mp this⟩
        · cases this
      · obtain ⟨y, hy, q⟩ := e2 x hx
        obtain ⟨u, q⟩ := isStr_iff q
        exact ⟨y, hy, u, q⟩
      · unfold SetTable.fits SetTable.fill
        simp only [Bool.and_eq_true, beq_iff_eq, decide_eq_true_eq]
        omega
    · cases e
section
variable {prog : Program} {w : World} {A : Around} {E : Value → Shared → Prop} {s : Shared} {a : Addr} {L : List Str}
theorem setFind_strs {x : Str} {u : Tok} {hh : Int} {Q : Option Nat → Shared → Prop} (S : SetIs s.heap a L) (hL : L.length ≤ 7) (h : ∀ r : Option Nat, r.isSome = decide (x ∈ L) → Q r s) : wpAny (model prog w) A (setFind a (.str x u) hh) Q E s := by
  obtain ⟨es, ep, t, ho, h1, h2, hf, hn⟩ := S
  have hd : (setObj es ep t).data = .set es ep t := rfl
  have hex : es.all (fun e => isExactStrKey e.2) = true := by
    rw [← Array.all_toList, List.all_eq_true]
    intro e he
    obtain ⟨x, u, e1, -⟩ := h1 e he
    rw [e1]; rfl
  have hby : byScan (.str x u) es = true := by
    unfold byScan
    have h3 : es.size < scanBound := by show es.size < 4096; omega
    have h4 : es.all (·.2.scannable) = true := by
      rw [← Array.all_toList, List.all_eq_true]
      intro e he
      obtain ⟨x, u, e1, -⟩ := h1 e he
      rw [e1]; rfl
    rw [decide_eq_true h3, h4]; rfl
  unfold setFind setFindIn
  refine wpAny_bind (wpAny_setState_of ho hd hf ?_)
  dsimp only
  rw [hby]
  simp only [↓reduceIte]
  refine wpAny_bind (wpAny_rule ?_)
  refine wpAny_bind ?_
  unfold setScan
  dsimp only
  rw [if_pos hex]
  unfold setScanStrs
  cases hr : es.findIdx? (·.2.isStr x) with
  | none =>
    refine wpAny_pure ?_
    dsimp only
    refine wpAny_pure (h none ?_)
    rw [Option.isSome_none, eq_comm, decide_eq_false_iff_not]
    intro hx
    obtain ⟨e, he, v, e1⟩ := h2 x hx
    have := (Array.findIdx?_eq_none_iff.mp hr) e (Array.mem_toList_iff.mp he)
    rw [e1, isStr_str, beq_self_eq_true] at this
    cases this
  | some j =>
    obtain ⟨hj, hpj, -⟩ := Array.findIdx?_eq_some_iff_getElem.mp hr
    dsimp only
    have hget : es[j]? = some (es[j].1, es[j].2) := Array.getElem?_eq_getElem hj
    rw [hget]
    dsimp only
    obtain ⟨v, hv⟩ := isStr_iff hpj
    have hmem : x ∈ L := by
      obtain ⟨y, v2, e1, e2⟩ := h1 es[j] (Array.mem_toList_iff.mpr (Array.getElem_mem hj))
      rw [hv] at e1
      cases e1
      exact e2
    refine wpAny_bind (wpAny_setEpoch_of ho hd hf ?_)
    rw [hv]
    refine wpAny_bind ((strKind prog w).eqBool (a := x) (b := x) (strKind_is prog w x v) (strKind_is prog w x u) ?_)
    simp only [Bool.false_and, Bool.false_eq_true, ↓reduceIte]
    refine wpAny_bind (wpAny_setEpoch_of ho hd hf ?_)
    simp only [bne_self_eq_false, Bool.false_eq_true, ↓reduceIte, decide_true]
    refine wpAny_pure ?_
    dsimp only
    refine wpAny_pure (h (some j) ?_)
    rw [Option.isSome_some, eq_comm, decide_eq_true hmem]
theorem inSet_strs {x : Str} {u : Tok} {Q : Value → Shared → Prop} (S : SetIs s.heap a L) (hL : L.length ≤ 7) (h : Q (.bool (decide (x ∈ L))) { s with toks := s.toks + 1 }) : wpAny (model prog w) A (compareOp .In (.str x u) (.ref a)) Q E s := by
  have hT : s.TypeIs (.ref a) "set" := let ⟨_, _, _, ho, _⟩ := S; ⟨_, ho, rfl⟩
  show wpAny _ _ (do return .bool (← contains (.ref a) (.str x u))) Q E s
  refine wpAny_bind ?_
  unfold contains
  try with_reducible refine wpAny_holding ?_
  refine wpAny_bind (wpAny_specialOf hT F.slot_set_contains.lookup ?_)
  show wpAny _ _ (if (some (Value.builtin "set.__contains__") == some Value.none) = true then _ else _) _ E s
  rw [if_neg (by rw [beq_builtin_none]; exact Bool.false_ne_true)]
  refine wpAny_bind (wpAny_callSpecialUnlessNone?_slot (name := Str.ofString "__contains__") hT F.slot_set_contains
    (wpAny_call_entry F.slot_set_contains hT entry_set_contains ?_ (F.args_set_contains_2 _ _)))
  unfold Builtin.«frozenset.__contains__» Builtin.Frozenset.oneOther
  simp only [List.isEmpty_nil, bind_assoc]
  unfold Builtin.Frozenset.addrOf Builtin.Frozenset.withSetAsKey setContains
  refine wpAny_bind (wpAny_pure ?_)
  try dsimp only
  refine wpAny_bind (wpAny_pure ?_)
  try dsimp only
  refine wpAny_bind (wpAny_tryCatch ?_)
  refine wpAny_holding ?_
  refine wpAny_bind ((strKind prog w).pyHash (strKind_is prog w x u) ?_)
  refine wpAny_bind (setFind_strs (s := { s with toks := s.toks + 1 }) S hL fun r hr => ?_)
  refine wpAny_pure ?_
  show wpAny _ _ (ret (Value.bool r.isSome)) _ _ _
  rw [hr]
  exact wpAny_pure ⟨_, rfl, wpAny_truthy_bool (wpAny_pure h)⟩
end
section
variable {c : Cx} {i : Fi} {A : Around} {k : Nat} {m : Fields} {cs : List Chunk}
theorem Row_set {a : Addr} {L : List Str} {l : List Nat} (S : SetIs c.base a L) (hl : L = l.map fun x => (⟨[x].toArray⟩ : Str)) (hn : L.length ≤ 7) : Row c cs (.ref a) fun x => decide (x ∈ l) := by
  intro A k x _ R s a' b' ha hb hs
  rw [nv_ref hb]
  obtain ⟨-, t, rfl⟩ := nv_str ha
  refine inSet_strs (S.keeps hs.keep) hn ⟨cs, hs.toks (Nat.succ_pos _), ?_, rfl⟩
  show Value.bool _ = _
  congr 1
  subst hl
  rw [decide_eq_decide]
  simp only [List.mem_map]
  constructor
  · rintro ⟨y, hy, e⟩
    injection e with e
    have := congrArg Array.toList e
    simp at this
    exact this ▸ hy
  · intro hx
    exact ⟨x, hx, rfl⟩
/- ## list(..), isinstance -/
theorem K_listS {l : List Nat} {Q : Value → List Chunk → Prop} (hne : cs ≠ []) (hz : l.length ≤ 1000000) (q : ∀ r, Q (.ref r) ((r, .list (l.map fun x => strV [x])) :: cs)) : CallV c A k cs (.type "list") [strV l] Q := by
  intro hA R s as ha hs
  obtain ⟨a', rfl, hv⟩ := map_one ha
  obtain ⟨-, t, rfl⟩ := nv_str hv
  have := wpAny_toks (call_list_str (prog := c.prog) (w := c.w) (E := NoE) (s := s) (Q := fun v s' => v = .ref s.heap.objs.size ∧ ∃ h' tk acc' c', (∀ b o, s.heap.get? b = some o → h'.get? b = some o) ∧ h'.get? s.heap.objs.size = some { cls := .type "list", dict := none, data := .seq acc' c', slots := #[] } ∧
      ItemsOf (SignAt ⟨l.toArray⟩) acc' (⟨l.toArray⟩ : Str).cps.size ∧ s' = { s with heap := h', toks := tk }) hA.1 ⟨l.toArray⟩ t (fun h' tk acc' c' h1 h2 h3 => ⟨rfl, h', tk, acc', c', h1, h2, h3, rfl⟩) (by rw [sizeLine_eq]; simp; omega))
  refine noE this ?_
  rintro _ _ ⟨⟨rfl, h', tk, acc', c', h1, h2, ⟨h3, h4⟩, rfl⟩, le⟩
  have o0 : Own c.base (cs ++ R) h' := hs.own.ext h1
  have lt : ∀ p ∈ cs ++ R, p.1 < s.heap.objs.size := fun p hp => by
    obtain ⟨o, ho, _⟩ := hs.at (a := p.1) (ao := p.2) hp
    exact Heap.lt_size ho
  refine ⟨_, hs.to (Nat.lt_of_lt_of_le hs.pos le) (o0.fresh (a := s.heap.objs.size) (ao := .list (l.map fun x => strV [x])) (fun p hp e => absurd (lt p hp) (by rw [e]; exact Nat.lt_irrefl _)) (hs.own.size (by simp [hne])) h2 ⟨_, _, rfl, ?_⟩), q _⟩
  apply List.ext_getElem?
  intro j
  rw [List.getElem?_map, List.getElem?_map, Array.getElem?_toList]
  by_cases hj : j < l.length
  · have hj' : j < acc'.size := by rw [h3]; simpa using hj
    obtain ⟨ch, u, e1, e2⟩ := h4 j _ (Array.getElem?_eq_getElem hj')
    have e3 : l[j]? = some ch := by simpa using e1
    rw [Array.getElem?_eq_getElem hj', e2, e3]; rfl
  · have hj' : ¬ j < acc'.size := by rw [h3]; simpa using hj
    rw [Array.getElem?_eq_none (by omega), List.getElem?_eq_none (by omega)]; rfl
theorem K_listL {a : Addr} {vs : List Value} {Q : Value → List Chunk → Prop} (h : (a, .list vs) ∈ cs) (hz : vs.length ≤ 1000000) (q : ∀ r, Q (.ref r) ((r, .list vs) :: cs)) : CallV c A k cs (.type "list") [.ref a] Q := by
  intro hA R s as ha hs
  obtain ⟨a', rfl, hv⟩ := map_one ha
  rw [nv_ref hv]
  obtain ⟨o, ho, its, u, rfl, hi⟩ := hs.at (List.mem_append_left R h)
  have hl := len_its hi
  refine call_list_seq (hsz := by rw [sizeLine_eq]; omega) a (.inl rfl) ho rfl rfl fun h' c' h1 h2 => ?_
  have o0 : Own c.base (cs ++ R) h' := hs.own.ext h1
  have lt : ∀ p ∈ cs ++ R, p.1 < s.heap.objs.size := fun p hp => by
    obtain ⟨o, ho, _⟩ := hs.at (a := p.1) (ao := p.2) hp
    exact Heap.lt_size ho
  exact ⟨_, hs.to hs.pos (o0.fresh (a := s.heap.objs.size) (ao := .list vs) (fun p hp e => absurd (lt p hp) (by rw [e]; exact Nat.lt_irrefl _)) (hs.own.size (by simp [List.ne_nil_of_mem h])) h2 ⟨_, _, rfl, hi⟩), q _⟩
theorem K_isbool {b : Bool} : CallV c A k cs (.builtin "isinstance") [.bool b, .type "bool"] (Is cs (.bool true)) := by
  intro hA R s as ha hs
  obtain ⟨a', b', rfl, hv, hw⟩ := map_two ha
  rw [nv_bool hv, nv_type hw]
  exact PySem.IsiPair.bool_bool ⟨cs, hs, rfl, rfl⟩
end
end Mine
end
noncomputable section
open PySem PySem.W PySem.Calls PyProof.Rows
namespace Mine
example (w : World) : (heapW w.params) = (heapW w.params) ∧ PySem.Challenge.rw_im0056_02 = PySem.Challenge.rw_im0056_02 := by k_fill; exact ⟨rfl, rfl⟩
/-- what the written part says of the second law's own names -/
abbrev PL2 (c : Cx) : Prop := Nonempty (PLift (c.K = heapW c.w.params))
theorem PL2.hK {c : Cx} [h : PL2 c] : c.K = heapW c.w.params := h.elim PLift.down
theorem PL2.SIGNS {c : Cx} [h : PL2 c] : nsIn c.K mainGlobals "_law_SIGNS" = some (some (.ref 142)) := by rw [PL2.hK (c := c)]; k_is
theorem PL2.ROWS {c : Cx} [h : PL2 c] : nsIn c.K mainGlobals "_law_ROWS" = some (some (.ref 146)) := by rw [PL2.hK (c := c)]; k_is
theorem PL2.sign {c : Cx} [h : PL2 c] : nsIn c.K mainGlobals "_law_sign" = some (some (.ref 153)) := by rw [PL2.hK (c := c)]; k_is
theorem PL2.faulty {c : Cx} [h : PL2 c] : nsIn c.K mainGlobals "_law_faulty" = some (some (.ref 160)) := by rw [PL2.hK (c := c)]; k_is
theorem PL2.anew {c : Cx} [h : PL2 c] : nsIn c.K mainGlobals "_law_anew" = some (some (.ref 167)) := by rw [PL2.hK (c := c)]; k_is
theorem PL2.fill {c : Cx} [h : PL2 c] : nsIn c.K mainGlobals "_law_fill" = some (some (.ref 174)) := by rw [PL2.hK (c := c)]; k_is
theorem PL2.pass_ {c : Cx} [h : PL2 c] : nsIn c.K mainGlobals "_law_pass" = some (some (.ref 181)) := by rw [PL2.hK (c := c)]; k_is
theorem PL2.read {c : Cx} [h : PL2 c] : nsIn c.K mainGlobals "_law_read" = some (some (.ref 188)) := by rw [PL2.hK (c := c)]; k_is
theorem PL2.run {c : Cx} [h : PL2 c] : nsIn c.K mainGlobals "_law_run" = some (some (.ref 195)) := by rw [PL2.hK (c := c)]; k_is
theorem PL2.back {c : Cx} [h : PL2 c] : nsIn c.K mainGlobals "_law_back" = some (some (.ref 202)) := by rw [PL2.hK (c := c)]; k_is
theorem PL2.right {c : Cx} [h : PL2 c] : nsIn c.K mainGlobals "_law_right" = some (some (.ref 209)) := by rw [PL2.hK (c := c)]; k_is
theorem PL2.g_chr {c : Cx} [h : PL2 c] : nsIn c.K mainGlobals "chr" = some none := by rw [PL2.hK (c := c)]; k_is
theorem PL2.g_min {c : Cx} [h : PL2 c] : nsIn c.K mainGlobals "min" = some none := by rw [PL2.hK (c := c)]; k_is
theorem PL2.g_range {c : Cx} [h : PL2 c] : nsIn c.K mainGlobals "range" = some none := by rw [PL2.hK (c := c)]; k_is
theorem PL2.g_list {c : Cx} [h : PL2 c] : nsIn c.K mainGlobals "list" = some none := by rw [PL2.hK (c := c)]; k_is
theorem PL2.g_isinstance {c : Cx} [h : PL2 c] : nsIn c.K mainGlobals "isinstance" = some none := by rw [PL2.hK (c := c)]; k_is
theorem PL2.g_bool {c : Cx} [h : PL2 c] : nsIn c.K mainGlobals "bool" = some none := by rw [PL2.hK (c := c)]; k_is
theorem PL2.stream {c : Cx} [h : PL2 c] : nsIn c.K mainGlobals "HTMLUnicodeInputStream" = some (some (.ref 131)) := by rw [PL2.hK (c := c)]; k_is
theorem PL2.k_SIGNS {c : Cx} [h : PL2 c] : keepIn c.K (.ref 142) = true := by rw [PL2.hK (c := c)]; k_is
theorem PL2.k_sign {c : Cx} [h : PL2 c] : keepIn c.K (.ref 153) = true := by rw [PL2.hK (c := c)]; k_is
theorem PL2.k_faulty {c : Cx} [h : PL2 c] : keepIn c.K (.ref 160) = true := by rw [PL2.hK (c := c)]; k_is
theorem PL2.k_anew {c : Cx} [h : PL2 c] : keepIn c.K (.ref 167) = true := by rw [PL2.hK (c := c)]; k_is
theorem PL2.k_fill {c : Cx} [h : PL2 c] : keepIn c.K (.ref 174) = true := by rw [PL2.hK (c := c)]; k_is
theorem PL2.k_pass_ {c : Cx} [h : PL2 c] : keepIn c.K (.ref 181) = true := by rw [PL2.hK (c := c)]; k_is
theorem PL2.k_read {c : Cx} [h : PL2 c] : keepIn c.K (.ref 188) = true := by rw [PL2.hK (c := c)]; k_is
theorem PL2.k_run {c : Cx} [h : PL2 c] : keepIn c.K (.ref 195) = true := by rw [PL2.hK (c := c)]; k_is
theorem PL2.k_back {c : Cx} [h : PL2 c] : keepIn c.K (.ref 202) = true := by rw [PL2.hK (c := c)]; k_is
theorem PL2.k_right {c : Cx} [h : PL2 c] : keepIn c.K (.ref 209) = true := by rw [PL2.hK (c := c)]; k_is
theorem pl2_of {c : Cx} (hK : c.K = heapW c.w.params) : PL2 c := ⟨⟨hK⟩⟩
theorem lit_us : Str.ofString "\x1f" = ⟨[31].toArray⟩ := by decide +kernel
theorem lit_ab : Str.ofString "ab" = ⟨[97, 98].toArray⟩ := by decide +kernel
end Mine
end
open PySem PySem.W PySem.Calls PyProof.Rows
set_option compiler.extract_closed false
namespace Mine
/- ## my own steps, under names of the library's that stand empty (local) -/
-- kba_ints: a pair stands in a written list
local macro_rules | `(tactic| kba_ints) => `(tactic| first
  | (with_reducible exact mem_hd)
  | ((with_reducible refine' mem_tl ?h); (case h => kba_ints)))
-- kbo_bools: a place of a written list turned
local macro_rules | `(tactic| kbo_bools) => `(tactic| first
  | (with_reducible exact Upd.head)
  | ((with_reducible refine' Upd.tail ?h); (case h => kbo_bools)))
-- kbt_split: chunks taken from a written list
local macro_rules | `(tactic| kbt_split) => `(tactic| first
  | (with_reducible exact Pick.head)
  | ((with_reducible refine' Pick.tail ?h); (case h => kbt_split)))
local macro_rules | `(tactic| kct_strs) => `(tactic| first
  | (with_reducible exact Take.nil)
  | (refine' Take.cons ?hp ?ht; (case hp => kbt_split); (case ht => kct_strs)))
-- kcf_m: a written text as a list of signs
local macro_rules | `(tactic| kcf_m) => `(tactic| first | exact lit_nl | exact lit_cr | exact lit_crnl | exact lit_empty | exact lit_err)
-- kas_types: sizes, bounds
local macro_rules | `(tactic| kas_types) => `(tactic| first | with_reducible assumption | omega | decide | (refine' Nat.le_trans (sl_length _ _ _) ?h; (case h => kas_types)) | (simp only [List.length_append, List.length_cons, List.length_nil, List.length_replicate, List.length_drop, List.length_take, List.length_map, List.length_set]; omega) | (simp only [List.length_append, List.length_cons, List.length_nil, List.length_replicate, List.length_drop, List.length_take, List.length_map, List.length_set] at *; omega))
-- kat_tups: what the class says
local macro_rules | `(tactic| kat_tups) => `(tactic| with_reducible (first
  | exact PF.s_chunk | exact PF.s_chunkSize | exact PF.s_chunkOffset | exact PF.s_errors | exact PF.s_prevNumLines | exact PF.s_prevNumCols | exact PF.s_buf | exact PF.s_dataStream | exact PF.s_rce | exact PF.s_newLines
  | exact PF.t_text | exact PF.t_place | exact PF.g_EOF | exact PF.g_Text | exact PF.g_inv | exact PF.i_Text | exact PF.i_S | exact PF.m_read | exact PF.m_reset | exact PF.m_open | exact PF.m_pos_ | exact PF.m_position | exact PF.m_char | exact PF.m_readChunk | exact PF.m_errs | exact PF.m_charsUntil | exact PF.m_unget))
local macro_rules | `(tactic| kaf_pre) => `(tactic| first | exact PF.S | exact PF.T)
-- kcj_in: one operation on values
local macro_rules | `(tactic| kcj_in) => `(tactic| first
  | ((with_reducible refine' A_fld ?hC ?h1 ?h2 ?h3 ?h5 ?h4); (case h1 => kba_ints); (case h2 => kba_ints); (case h3 => kba_ints); (case hC => kaf_pre); (case h5 => kat_tups); (case h4 => rfl))
  | ((with_reducible show Op2 _ _ _ _ (subscriptTail _ _) (.str _ _) (.int (-1) _) _ _); refine' G_str_last ?hz; (case hz => kas_types))
  | ((with_reducible show Op2 _ _ _ _ (subscriptTail _ _) (.str _ _) (.int _ _) _ _); refine' G_str ?h ?hz; (case h => assumption); (case hz => kas_types))
  | ((with_reducible refine' A_dcs ?h1 ?h2 ?h3 ?h4); (case h1 => kba_ints); (case h2 => kba_ints); (case h3 => kba_ints); (case h4 => rfl))
  | with_reducible (first | exact B_add | exact B_sub | exact I_add | exact I_sub)
  | ((with_reducible refine' B_mod ?h); (case h => decide))
  | with_reducible (first | exact C_eq | exact C_ne | exact C_lt | exact C_le | exact C_gt | exact C_ge | exact C_eqb | exact C_neb | exact C_is | exact C_isnot | exact T_bool | exact T_none)
  | ((with_reducible refine' T_str ?h); (case h => kas_types))
  | ((with_reducible refine' B_adds ?h); (case h => kas_types))
  | ((with_reducible refine' I_adds ?h); (case h => kas_types))
  | with_reducible (first | exact C_eqs | exact C_nes | exact C_ne_nn)
  | ((with_reducible refine' T_bm ?h); (case h => kba_ints))
  | ((with_reducible refine' T_list ?h ?hz); (case h => kba_ints); (case hz => kas_types)))
-- kcf_all: a pure expression
local macro_rules | `(tactic| kcf_all) => `(tactic| first
  | with_reducible (first | exact PE_int | exact PE_none | exact PE_bool | exact PE_neg)
  | ((with_reducible refine' PE_str ?h); (case h => kcf_m))
  | ((with_reducible refine' PE_loc ?h); (case h => kba_ints))
  | ((with_reducible show PE _ _ _ _ _ (.Attribute _ _ _) _); refine' PE_attr ?h ?ha; (case h => kcf_all); (case ha => kcj_in))
  | ((with_reducible refine' PE_slice ?h ?hl ?hu ?hz); (case h => kcf_all); (case hl => kcj_m); (case hu => kcj_m); (case hz => kas_types))
  | ((with_reducible refine' PE_bin ?h1 ?h2 ?h3); (case h1 => kcf_all); (case h2 => kcf_all); (case h3 => kcj_in))
  | ((with_reducible show PE _ _ _ _ _ (.BoolOp _ [_] _) _); refine' PE_one ?h; (case h => kcf_all))
  | ((with_reducible refine' PE_or ?h ?h2); (case h => kcf_all); (case h2 => intro _; kcf_all))
  | ((with_reducible refine' PE_and ?h ?h2); (case h => kcf_all); (case h2 => intro _; kcf_all))
  | ((with_reducible show PE _ _ _ _ _ (.Compare _ [_, _] [_, _] _) _); refine' PE_chain ?h1 ?h2 ?h3 ?h4 ?h5; (case h1 => kcf_all); (case h2 => kcf_all); (case h4 => kcf_all); (case h3 => kcj_in); (case h5 => kcj_in))
  | ((with_reducible show PE _ _ _ _ _ (.Compare _ [_] [_] _) _); refine' PE_cmp ?h1 ?h2 ?h3; (case h1 => kcf_all); (case h2 => kcf_all); (case h3 => kcj_in))
  | ((with_reducible show PE _ _ _ _ _ (.Subscript _ _ _) _); refine' PE_sub ?h ?hj ?ha; (case h => kcf_all); (case hj => kcf_all); (case ha => kcj_in))
  | ((with_reducible show PE _ _ _ _ _ (.Name _ _) _); refine' PE_globR ?hg ?hx ?hn; (case hg => assumption); (case hx => kba_ints); (case hn => kat_tups))
  | ((with_reducible show PE _ _ _ _ _ (.Name _ _) _); refine' PE_globN ?hg ?hx ?hn; (case hg => assumption); (case hx => kba_ints); (case hn => kat_tups))
  | ((with_reducible show PE _ _ _ _ _ (.Call (.Attribute _ (Str.ofString "count") _) _ _ _) _); refine' PE_count ?h1 ?h2 ?h3 ?h4; (case h1 => kcf_all); (case h2 => kcf_m); (case h3 => kcf_all); (case h4 => kas_types))
  | ((with_reducible show PE _ _ _ _ _ (.Call (.Attribute _ (Str.ofString "rfind") _) _ _ _) _); refine' PE_rfind ?h1 ?h2 ?h3 ?h4; (case h1 => kcf_all); (case h2 => kcf_m); (case h3 => kcf_all); (case h4 => kas_types))
  | ((with_reducible show PE _ _ _ _ _ (.Call (.Name (Str.ofString "ord") _) _ _ _) _); refine' PE_ord ?hg ?hx ?h PF.g_ord; (case hg => assumption); (case hx => kba_ints); (case h => kcf_all))
  | ((with_reducible show PE _ _ _ _ _ (.Call (.Name (Str.ofString "len") _) _ _ _) _); refine' PE_len ?hg ?hx ?h ?hz PF.g_len; (case hg => assumption); (case hx => kba_ints); (case h => kcf_all); (case hz => kas_types)))
-- kcj_m: a slice's part
local macro_rules | `(tactic| kcj_m) => `(tactic| first | with_reducible exact PO.no | ((with_reducible refine' PO.yes ?h); (case h => kcf_all)))
-- kd_in: a pure test
local macro_rules | `(tactic| kd_in) => `(tactic| first
  | with_reducible (first | exact PT_or_nil | exact PT_and_nil)
  | ((with_reducible refine' PT_not ?h); (case h => kd_in))
  | ((with_reducible refine' PT_or ?h ?h2); (case h => kd_in); (case h2 => intro _; kd_in))
  | ((with_reducible refine' PT_and ?h ?h2); (case h => kd_in); (case h2 => intro _; kd_in))
  | ((with_reducible show PT _ _ _ _ _ (.Compare _ [_, _] [_, _] _) _); refine' PT_chain ?h1 ?h2 ?h3 ?h4 ?h5; (case h1 => kcf_all); (case h2 => kcf_all); (case h4 => kcf_all); (case h3 => kcj_in); (case h5 => kcj_in))
  | ((with_reducible show PT _ _ _ _ _ (.Compare _ [_] [_] _) _); refine' PT_cmp ?h1 ?h2 ?h3; (case h1 => kcf_all); (case h2 => kcf_all); (case h3 => kcj_in))
  | (refine' PT_plain ?h1 ?h2; (case h1 => kcf_all); (case h2 => kcj_in)))
-- kst_facts: pure arguments
local macro_rules | `(tactic| kst_facts) => `(tactic| first
  | with_reducible exact PEs_nil | exact PEs_nil
  | (refine' PEs_cons ?h1 ?h2; (case h1 => kcf_all); (case h2 => kst_facts)))
-- kqd_sub: a side goal of a call
local macro_rules | `(tactic| kqd_sub) => `(tactic| first
  | ((with_reducible show PE _ _ _ _ _ _ _); kcf_all)
  | ((with_reducible show PEs _ _ _ _ _ _ _); kst_facts)
  | ((with_reducible show (_ : Addr × AO) ∈ _); kba_ints)
  | ((with_reducible show (_ : Str × Option Value) ∈ _); kba_ints)
  | ((with_reducible show plainGet _ _ _ = true); exact ClsF.get (by kaf_pre) _)
  | ((with_reducible show hasDictIn _ _ = true); exact ClsF.dict (by kaf_pre))
  | ((with_reducible show findIn _ _ _ = _); kat_tups)
  | ((with_reducible show isFn _ _ = true); exact (PF.fn _ (by decide)).1)
  | ((with_reducible show keepIn _ _ = true); first | exact (PF.fn _ (by decide)).2.1 | exact PF.kc_Text | exact PF.kc_S)
  | ((with_reducible show fnIn _ _ = true); exact (PF.fn _ (by decide)).2.2)
  | ((with_reducible show noGet _ _ = true); rfl)
  | ((with_reducible show Option.all _ _ = true); rfl)
  | ((with_reducible show Take _ _ _); kct_strs)
  | ((with_reducible show (_ : Nat) ≤ _); kas_types)
  | ((with_reducible show Upd _ _ _ _); kbo_bools)
  | ((with_reducible show GOk _ _); assumption)
  | ((with_reducible show (_ : Str) ∈ _); kba_ints)
  | ((with_reducible show nsIn _ _ _ = _); kat_tups))
local macro_rules | `(tactic| kqd_all) => `(tactic| all_goals (try kqd_sub))
-- keq_hits: one step of the walk
local macro_rules | `(tactic| keq_hits) => `(tactic| first
  | ((with_reducible show EXS _ _ _ _ _ (_ :: _) _); refine' EXS_cons ?h)
  | ((with_reducible show EXS _ _ _ _ _ [] _); refine' EXS_nil ?h)
  | ((with_reducible show EX _ _ _ _ _ (.Assign _ _ _) _); refine' EX_assign ?h)
  | ((with_reducible show EX _ _ _ _ _ (.Return (some _) _) _); refine' EX_return ?h)
  | ((with_reducible show EX _ _ _ _ _ (.Expr _ _) _); refine' EX_expr ?h)
  | ((with_reducible show EX _ _ _ _ _ (.Assert _ _ _) _); refine' EX_assert ?h)
  | ((with_reducible show EX _ _ _ _ _ (.Break _) _); refine' EX_break ?h)
  | ((with_reducible show EX _ _ _ _ _ (.AugAssign (.Name _ _) _ _ _) _); refine' EX_aug_name ?hx ?h; (case hx => kba_ints))
  | ((with_reducible show EX _ _ _ _ _ (.AugAssign (.Attribute _ _ _) _ _ _) _); refine' EX_aug_attr ?h)
  | ((with_reducible show EX _ _ _ _ _ (.AugAssign (.Subscript _ _ _) _ _ _) _); refine' EX_aug_sub ?h)
  | ((with_reducible show EV _ _ _ _ _ _ _); refine' PE.ev ?h1 ?h2; (case h1 => kcf_all))
  | ((with_reducible show EV _ _ _ _ _ (.Call (.Attribute _ (Str.ofString "append") _) _ _ _) _); refine' EV_append ?h1 ?h2 ?h3 ?h4 ?h5 ?q; (case h1 => kcf_all); (case h2 => kcf_all); (case h3 => kba_ints); (case h4 => kbo_bools); (case h5 => kas_types))
  | ((with_reducible show EV _ _ _ _ _ (.Call (.Attribute _ (Str.ofString "replace") _) [.Constant (.str _) _ _, .Constant (.str (Str.ofString "\n")) _ _] _ _) _); refine' EV_replace ?h1 ?h2 ?h3 ?h4 ?h5 ?h6 ?q; (case h1 => kcf_all); (case h2 => kcf_m); (case h3 => kcf_m); (case h4 => decide); (case h6 => first | exact replace_two _ | exact replace_cr _); (case h5 => kas_types))
  | ((with_reducible show EV _ _ _ _ _ (.Tuple _ _ _) _); refine' EV_tuple ?h)
  | ((with_reducible show EV _ _ _ _ _ (.List _ _) _); refine' EV_list ?h)
  | ((with_reducible show EVs _ _ _ _ _ (_ :: _) _); refine' EVs_cons ?h)
  | ((with_reducible show EVs _ _ _ _ _ [] _); refine' EVs_nil ?h)
  | ((with_reducible show AS _ _ _ _ _ (.Tuple _ _ _) _ _); refine' AS_tuple ?h1 ?h2 ?h3 ?h4; (case h1 => kba_ints); (case h3 => intro _; rfl); (case h4 => intro _; rfl))
  | ((with_reducible show ASs _ _ _ _ _ (_ :: _) _ _); refine' ASs_cons ?h)
  | ((with_reducible show ASs _ _ _ _ _ [] _ _); refine' ASs_nil ?h)
  | ((with_reducible show TV _ _ _ _ _ _ _); refine' PT.tv ?h1 ?h2; (case h1 => kd_in))
  | ((with_reducible show AS _ _ _ _ _ (.Name _ _) _ _); refine' AS_name ?h1 ?h2; (case h1 => kbo_bools))
  | ((with_reducible show AS _ _ _ _ _ (.Attribute _ _ _) _ _); refine' AS_attr ?h)
  | ((with_reducible show AS _ _ _ _ _ (.Subscript _ _ _) _ _); refine' AS_sub ?h)
  | ((with_reducible show Op2 _ _ _ _ (fun a b => setAttr a (Str.ofString "_defaultChunkSize") b) _ _ _ _); refine' A_set ?h1 ?h2 ?h3 ?h4 ?h5 ?h6 ?h7 PF.t_dcs ?h9 ?q; (case h1 => kba_ints); (case h2 => kba_ints); (case h3 => kbo_bools); (case h4 => kbo_bools); (case h5 => kas_types); (case h6 => exact ClsF.sets (by kaf_pre)); (case h7 => exact ClsF.over (by kaf_pre)); (case h9 => exact ClsF.dict (by kaf_pre)))
  | ((with_reducible show Op2 _ _ _ _ (fun a b => setAttr a _ b) _ _ _ _); refine' A_set ?h1 ?h2 ?h3 ?h4 ?h5 ?h6 ?h7 (taker_none ?h8) ?h9 ?q; (case h1 => kba_ints); (case h2 => kba_ints); (case h3 => kbo_bools); (case h4 => kbo_bools); (case h5 => kas_types); (case h6 => exact ClsF.sets (by kaf_pre)); (case h7 => exact ClsF.over (by kaf_pre)); (case h9 => exact ClsF.dict (by kaf_pre)); (case h8 => kat_tups))
  | ((with_reducible show (∃ _, Upd _ _ _ _ ∧ _)); refine' ⟨?mm, ?u, ?h⟩; (case u => kbo_bools))
  | ((with_reducible show Op1 _ _ _ _ _ _ _ _); refine' Op1.is ?h1 ?h2; (case h1 => kcj_in))
  | ((with_reducible show Op2 _ _ _ _ _ _ _ _ _); refine' Op2.is ?h1 ?h2; (case h1 => kcj_in))
  | ((with_reducible show Then _ _ _ _ _ Flow.next _ _); refine' Then_next ?h)
  | ((with_reducible show Then _ _ _ _ _ (Flow.ret _) _ _); refine' Then_ret ?h)
  | ((with_reducible show Then _ _ _ _ _ Flow.brk _ _); refine' Then_brk ?h)
  | ((with_reducible show Turn _ _ Flow.brk _ _); refine' Turn_brk ?h)
  | ((with_reducible show Turn _ _ Flow.next _ _); refine' Turn_next ?h)
  | ((with_reducible show Turn _ _ (Flow.ret _) _ _); refine' Turn_ret ?h))
local macro_rules | `(tactic| keq_rows) => `(tactic| first | (keq_hits; keq_rows) | skip)
-- kpf_c: a pure test's branching
local macro_rules | `(tactic| kpf_c) => `(tactic| (refine' EX_if ?h; (try (refine' PT.tv ?h1 ?h2; (case h1 => kd_in)))))
theorem read_spec {c : Cx} (hK : c.K = heapW c.w.params) [pf : PF c] {A : Around} {ds dd : Addr} {src : List Nat} {place size : Nat} (hz : src.length ≤ 1000) (hp : place ≤ src.length) (hs : size ≤ 1000) :
    CodeV c A 2 [(ds, .inst 38 dd), (dd, .obj [("text", some (.str ⟨src.toArray⟩ 0)), ("place", some (.int place 0)), ("read", none)])] (.ref 35) [.ref ds, .int size 0]
      (fun v cs' => v = .str ⟨((src.drop place).take size).toArray⟩ 0 ∧
        cs' = [(ds, .inst 38 dd), (dd, .obj [("text", some (.str ⟨src.toArray⟩ 0)), ("place", some (.int (min (place + size) src.length : Nat) 0)), ("read", none)])]) := by
  refine K_fn (k := 1) (by rw [hK]; k_is) (by rw [hK]; k_is) ["self", "size"] ["part"] ["len"] [] (fun s vs _ h => by refine bnd2 h fun a b => ?_; exact .of_eq rfl) rfl (by decide) (by decide) (by decide) (by decide) rfl rfl rfl (by simp) ?_
  intro i hg
  conv => arg 6; whnf
  simp only [locals0, List.zip_cons_cons, List.zip_nil_right, List.map_cons, List.map_nil, List.append_nil, List.cons_append, List.nil_append]
  keq_rows
  have e : sl src (some (place : Int)) (some ((place : Int) + size)) = (src.drop place).take size := by
    have := sl_nn src place (place + size)
    rw [show ((place + size : Nat) : Int) = (place : Int) + size by omega] at this
    rw [this]; congr 1; omega
  rw [e]
  refine ⟨rfl, ?_⟩
  have e2 : (place : Int) + ((src.drop place).take size).length = (min (place + size) src.length : Nat) := by
    simp only [List.length_take, List.length_drop]; omega
  rw [e2]

/-- a faulty sign -/
noncomputable def faultyI (n : Int) : Bool := (decide (1 ≤ n) && decide (n ≤ 8)) || ((n == 11) || ((decide (14 ≤ n) && decide (n ≤ 31)) || ((decide (127 ≤ n) && decide (n ≤ 159)) || ((decide (64976 ≤ n) && decide (n ≤ 65007)) || ([65534, 65535].any (· == n.fmod 65536) || (decide (55296 ≤ n) && decide (n ≤ 57343)))))))
noncomputable def faulty (n : Nat) : Bool := faultyI n
/- ## the stream -/
structure SA where
  st : Addr
  sd : Addr
  ds : Addr
  dd : Addr
  er : Addr
  bm : Addr
structure SS where
  src : List Nat
  place : Nat
  chunk : List Nat
  off : Nat
  errs : Nat
  pl : Nat
  pc : Nat
  buf : List Nat
  dcs : Nat
noncomputable def bufV : List Nat → Value
  | [] => .none
  | l => .str ⟨l.toArray⟩ 0
/-- the stream's fields, whatever they hold -/
noncomputable def fldG (rce nl ds ch cz co er pl pc bf dc : Option Value) : Fields := [("reportCharacterErrors", rce), ("newLines", nl), ("dataStream", ds), ("chunk", ch), ("chunkSize", cz), ("chunkOffset", co),
  ("errors", er), ("prevNumLines", pl), ("prevNumCols", pc), ("_bufferedCharacter", bf), ("_defaultChunkSize", dc),
  ("reset", none), ("openStream", none), ("_position", none), ("position", none), ("char", none), ("readChunk", none), ("characterErrorsUCS4", none), ("charsUntil", none), ("unget", none)]
noncomputable def fldS (a : SA) (z : SS) (nl : Addr) : Fields := fldG (some (.ref a.bm)) (some (.ref nl)) (some (.ref a.ds)) (some (.str ⟨z.chunk.toArray⟩ 0)) (some (.int z.chunk.length 0)) (some (.int z.off 0))
  (some (.ref a.er)) (some (.int z.pl 0)) (some (.int z.pc 0)) (some (bufV z.buf)) (some (.int z.dcs 0))
noncomputable def fldT (z : SS) : Fields := [("text", some (.str ⟨z.src.toArray⟩ 0)), ("place", some (.int z.place 0)), ("read", none)]
/-- the stream's chunks; the first and second alone are what a position needs -/
noncomputable def stmO (a : SA) (z : SS) (nl : Addr) : List Chunk := [(a.st, .inst 131 a.sd), (a.sd, .obj (fldS a z nl))]
noncomputable def stm (a : SA) (z : SS) (nl : Addr) : List Chunk := [(a.st, .inst 131 a.sd), (a.sd, .obj (fldS a z nl)), (a.ds, .inst 38 a.dd), (a.dd, .obj (fldT z)), (a.er, .list (List.replicate z.errs (strV errT))), (a.bm, .bm 113 a.st)]

noncomputable def stmP (a : SA) (z : SS) (nl : Addr) (dc : Option Value) : List Chunk := [(a.st, .inst 131 a.sd), (a.sd, .obj (fldG (some (.ref a.bm)) (some (.ref nl)) (some (.ref a.ds)) (some (.str ⟨z.chunk.toArray⟩ 0)) (some (.int z.chunk.length 0)) (some (.int z.off 0)) (some (.ref a.er)) (some (.int z.pl 0)) (some (.int z.pc 0)) (some (bufV z.buf)) dc))]
theorem pos__specD {c : Cx} (hK : c.K = heapW c.w.params) [pf : PF c] {A : Around} {a : SA} {z : SS} {nl : Addr} {dc : Option Value} {n : Nat} (hz : z.chunk.length ≤ 100000) (hn : n ≤ z.chunk.length) :
    CodeV c A 2 (stmP a z nl dc) (.ref 84) [.ref a.st, .int n 0]
      (fun v cs' => ∃ t, v = .ref t ∧ cs' = (t, .tup [.int (z.pl + (z.chunk.take n).count 10 : Nat) 0, .int (colOf (z.chunk.take n) z.pc : Nat) 0]) :: stmP a z nl dc) := by
  simp only [stmP, fldG]
  refine K_fn (k := 1) (by rw [hK]; k_is) (by rw [hK]; k_is) ["self", "offset"] ["chunk", "nLines", "positionLine", "lastLinePos", "positionColumn"] [] [] (fun s vs _ h => by refine bnd2 h fun a b => ?_; exact .of_eq rfl) rfl (by decide) (by decide) (by decide) (by decide) rfl rfl rfl (by simp) ?_
  intro i hg
  conv => arg 6; whnf
  simp only [locals0, List.zip_cons_cons, List.zip_nil_right, List.map_cons, List.map_nil, List.append_nil, List.cons_append, List.nil_append]
  keq_rows
  kpf_c
  refine ⟨fun e => ?_, fun e => ?_⟩
  · keq_rows
    refine ⟨by simp, fun t => ?_⟩
    refine ⟨t, rfl, ?_⟩
    have e' : lastI 10 (z.chunk.take n) = -1 := by simpa using e
    have h10 : 10 ∉ z.chunk.take n := fun h => (lastI_yes h).1 e'
    have e3 : (colOf (z.chunk.take n) z.pc : Int) = (z.pc : Int) + n := by
      unfold colOf; rw [if_neg h10, List.length_take]; omega
    rw [e3]; rfl
  · keq_rows
    refine ⟨by simp, fun t => ?_⟩
    refine ⟨t, rfl, ?_⟩
    have e' : lastI 10 (z.chunk.take n) ≠ -1 := by simpa using e
    have h10 : 10 ∈ z.chunk.take n := Classical.byContradiction fun h => e' (lastI_no h)
    have e3 : (colOf (z.chunk.take n) z.pc : Int) = (n : Int) - (lastI 10 (z.chunk.take n) + 1) := by
      unfold colOf; rw [if_pos h10, ← (lastI_yes h10).2, List.length_take]; omega
    rw [e3]; rfl

theorem pos__spec {c : Cx} (hK : c.K = heapW c.w.params) [pf : PF c] {A : Around} {a : SA} {z : SS} {nl : Addr} {n : Nat} (hz : z.chunk.length ≤ 100000) (hn : n ≤ z.chunk.length) :
    CodeV c A 2 (stmO a z nl) (.ref 84) [.ref a.st, .int n 0]
      (fun v cs' => ∃ t, v = .ref t ∧ cs' = (t, .tup [.int (z.pl + (z.chunk.take n).count 10 : Nat) 0, .int (colOf (z.chunk.take n) z.pc : Nat) 0]) :: stmO a z nl) := pos__specD (dc := some (.int z.dcs 0)) hK hz hn
theorem reset_spec {c : Cx} (hK : c.K = heapW c.w.params) [pf : PF c] {A : Around} {st sd : Addr} {rce nl ds ch cz co er pl pc bf dc : Option Value} :
    CodeV c A 2 [(st, .inst 131 sd), (sd, .obj (fldG rce nl ds ch cz co er pl pc bf dc))] (.ref 70) [.ref st]
      (fun v cs' => ∃ e, v = .none ∧ cs' = [(e, .list []), (st, .inst 131 sd), (sd, .obj (fldG rce nl ds (some (.str ⟨([] : List Nat).toArray⟩ 0)) (some (.int 0 0)) (some (.int 0 0)) (some (.ref e)) (some (.int 0 0)) (some (.int 0 0)) (some .none) dc))]) := by
  simp only [fldG]
  refine K_fn (k := 1) (by rw [hK]; k_is) (by rw [hK]; k_is) ["self"] [] [] [] (fun s vs _ h => by refine bnd1 h fun a => ?_; exact .of_eq rfl) rfl (by decide) (by decide) (by decide) (by decide) rfl rfl rfl (by simp) ?_
  intro i hg
  conv => arg 6; whnf
  simp only [locals0, List.zip_cons_cons, List.zip_nil_right, List.map_cons, List.map_nil, List.append_nil, List.cons_append, List.nil_append]
  keq_rows
  refine ⟨by simp, fun e => ?_⟩
  keq_rows
  exact ⟨e, rfl, rfl⟩

theorem char_spec1 {c : Cx} (hK : c.K = heapW c.w.params) [pf : PF c] {A : Around} {a : SA} {z : SS} {nl : Addr} {x : Nat} (hz : z.chunk.length ≤ 100000) (hx : z.chunk[z.off]? = some x) :
    CodeV c A 2 (stmO a z nl) (.ref 98) [.ref a.st] (fun v cs' => v = strV [x] ∧ cs' = stmO a { z with off := z.off + 1 } nl) := by
  have hlt := (List.getElem?_eq_some_iff.mp hx).1
  simp only [stmO, fldS, fldG]
  refine K_fn (k := 1) (by rw [hK]; k_is) (by rw [hK]; k_is) ["self"] ["chunkOffset", "char"] ["EOF"] [] (fun s vs _ h => by refine bnd1 h fun a => ?_; exact .of_eq rfl) rfl (by decide) (by decide) (by decide) (by decide) rfl rfl rfl (by simp) ?_
  intro i hg
  conv => arg 6; whnf
  simp only [locals0, List.zip_cons_cons, List.zip_nil_right, List.map_cons, List.map_nil, List.append_nil, List.cons_append, List.nil_append]
  keq_rows
  kpf_c
  refine ⟨fun e => ?_, fun e => ?_⟩
  · simp at e; omega
  keq_rows
  exact ⟨rfl, rfl⟩

theorem invalid_spec {c : Cx} (hK : c.K = heapW c.w.params) [pf : PF c] {A : Around} {n : Nat} {cs : List Chunk} (hne : cs ≠ []) :
    CodeV c A 2 cs (.ref 49) [.int n 0] (fun v cs' => v = .bool (faulty n) ∧ cs' = cs) := by
  refine K_fn (k := 1) (by rw [hK]; k_is) (by rw [hK]; k_is) ["codepoint"] [] [] [] (fun s vs _ h => by refine bnd1 h fun a => ?_; exact .of_eq rfl) rfl (by decide) (by decide) (by decide) (by decide) rfl rfl rfl hne ?_
  intro i hg
  conv => arg 6; whnf
  simp only [locals0, List.zip_cons_cons, List.zip_nil_right, List.map_cons, List.map_nil, List.append_nil, List.cons_append, List.nil_append]
  keq_hits
  keq_hits
  refine' PE.ev ?P ?R
  case P =>
    refine' PE_or ?_ (fun _ => PE_or ?_ (fun _ => PE_or ?_ (fun _ => PE_or ?_ (fun _ => PE_or ?_ (fun _ => PE_or ?S (fun _ => PE_one ?_))))))
    case S =>
      refine' PE_inT [65534, 65535] ?_ ?_ (by decide)
      kqd_all
    kqd_all
  exact ⟨rfl, rfl⟩
theorem errs_spec {c : Cx} (hK : c.K = heapW c.w.params) [pf : PF c] {A : Around} {st sd er : Addr} {n : Nat} {data : List Nat} {rce nl ds ch cz co pl pc bf dc : Option Value} (hz : data.length ≤ 100000) (hn : n ≤ 100000) :
    CodeV c A 3 [(st, .inst 131 sd), (sd, .obj (fldG rce nl ds ch cz co (some (.ref er)) pl pc bf dc)), (er, .list (List.replicate n (strV errT)))] (.ref 113) [.ref st, strV data]
      (fun v cs' => v = .none ∧ cs' = [(st, .inst 131 sd), (sd, .obj (fldG rce nl ds ch cz co (some (.ref er)) pl pc bf dc)), (er, .list (List.replicate (n + data.countP faulty) (strV errT)))]) := by
  simp only [fldG]
  refine K_fn (k := 2) (by rw [hK]; k_is) (by rw [hK]; k_is) ["self", "data"] ["c"] ["_is_invalid", "ord"] [] (fun s vs _ h => by refine bnd2 h fun a b => ?_; exact .of_eq rfl) rfl (by decide) (by decide) (by decide) (by decide) rfl rfl rfl (by simp) ?_
  intro i hg
  conv => arg 6; whnf
  simp only [locals0, List.zip_cons_cons, List.zip_nil_right, List.map_cons, List.map_nil, List.append_nil, List.cons_append, List.nil_append]
  keq_hits
  refine EX_for_str (l := data) (fun j m1 cs1 => ∃ o, m1 = ([("self", some (.ref st)), ("data", some (strV data)), ("c", o)] : Fields) ∧ cs1 = [(st, .inst 131 sd), (sd, .obj (fldG rce nl ds ch cz co (some (.ref er)) pl pc bf dc)), (er, .list (List.replicate (n + (data.take j).countP faulty) (strV errT)))]) ?_ (by simp) ⟨_, rfl, rfl⟩ ?_ ?_
  · kcf_all
  · rintro j x m1 cs1 hx z ⟨o, rfl, rfl⟩
    have hc : n + (data.take j).countP faulty ≤ 200000 := by
      have h1 : (data.take j).countP faulty ≤ (data.take j).length := List.countP_le_length
      rw [List.length_take] at h1
      omega
    simp only [fldG]
    keq_rows
    refine' EX_if (TV_plain (PE.ev (PE_callK (vs := [.int x 0]) ?P PF.kinv ?a (invalid_spec hK (by simp))) ?_))
    case P => kcf_all
    case a => kst_facts
    keq_rows
    rw [countP_take faulty data j x hx]
    refine ⟨fun e => ?_, fun e => ?_⟩
    · have e : faulty x = true := e
      keq_rows
      refine ⟨_, rfl, ?_⟩
      rw [if_pos e, ← Nat.add_assoc, List.replicate_succ']
    · have e : faulty x = false := e
      keq_rows
      refine ⟨_, rfl, ?_⟩
      rw [if_neg (by rw [e]; simp), Nat.add_zero]
  · rintro m1 cs1 z ⟨o, rfl, rfl⟩
    rw [List.take_length]
    simp only [fldG]
    keq_rows
    exact ⟨rfl, rfl⟩
noncomputable def holds (d : List Nat) : Bool := decide (1 < d.length) && (let x := d.getLastD 0; x == 13 || (55296 ≤ x && x ≤ 56319))
noncomputable def cutD (d : List Nat) : List Nat := if holds d then d.dropLast else d
noncomputable def heldD (d : List Nat) : List Nat := if holds d then [d.getLastD 0] else []
noncomputable def norm (d : List Nat) : List Nat := (rep2 d).map crf
/-- the next piece -/
noncomputable def rdc (z : SS) : Bool × SS :=
  let part := (z.src.drop z.place).take z.dcs
  let d := z.buf ++ part
  let z1 : SS := { z with place := min (z.place + z.dcs) z.src.length, pl := z.pl + z.chunk.count 10, pc := colOf z.chunk z.pc, off := 0, chunk := [], buf := [] }
  if d = [] then (false, z1) else (true, { z1 with buf := heldD d, errs := z.errs + (cutD d).countP faulty, chunk := norm (cutD d) })
theorem rep2_le : ∀ l : List Nat, (rep2 l).length ≤ l.length
  | [] => Nat.le_refl _
  | [a] => Nat.le_refl _
  | a :: b :: r => by
    rw [rep2_cc]
    have h1 := rep2_le r
    have h2 := rep2_le (b :: r)
    split <;> simp at * <;> omega

theorem cutD_le (d : List Nat) : (cutD d).length ≤ d.length := by unfold cutD; split <;> simp
theorem readChunk_any {c : Cx} (hK : c.K = heapW c.w.params) [pf : PF c] {A : Around} {a : SA} {z : SS} {nl : Addr} (hz : z.chunk.length ≤ 1000) (hs : z.src.length ≤ 1000) (hp : z.place ≤ z.src.length) (hd : z.dcs ≤ 1000) (he : z.errs ≤ 50000) (hb : z.buf.length ≤ 1) {args dfl : List Value} (hargs : (args = [.ref a.st] ∧ dfl = [.none]) ∨ (args = [.ref a.st, .int z.dcs 0] ∧ dfl = [])) :
    CodeV c A 4 (stm a z nl) (.ref 106) args (fun v cs' => v = .bool (rdc z).1 ∧ cs' = stm a (rdc z).2 nl) := by
  have h1 := fun A => pos__spec hK (A := A) (a := a) (z := z) (nl := nl) (by omega) (Nat.le_refl _)
  have h2 := fun A => read_spec hK (A := A) (ds := a.ds) (dd := a.dd) hs hp hd
  obtain ⟨a, sd, ds, dd, er, bm⟩ := a
  obtain ⟨src, place, chunk, off, errs, pl, pc, buf, dcs⟩ := z
  simp only at hz hs hp hd he hb h1 h2 hargs
  simp only [List.take_length] at h1
  simp only [stm, stmO, fldS, fldG, fldT] at h1 h2 ⊢
  refine CodeV.perm ?_
  refine K_fn (k := 3) (by rw [hK]; k_is) (by rw [hK]; k_is) ["self", "chunkSize"] ["data", "lastv"] ["len", "ord"] dfl ?_ ?_ (by decide) (by decide) (by decide) (by decide) rfl rfl rfl (by simp) ?_
  · rcases hargs with ⟨rfl, rfl⟩ | ⟨rfl, rfl⟩
    · exact fun s vs X h => by refine bnd1 h fun a => ?_; exact binds_K X rfl (by rw [hK]; k_is) rfl rfl rfl
    · exact fun s vs X h => by refine bnd2 h fun a b => ?_; exact binds_K X rfl (by rw [hK]; k_is) rfl rfl rfl
  · rcases hargs with ⟨rfl, rfl⟩ | ⟨rfl, rfl⟩ <;> rfl
  intro i hg
  obtain ⟨o, ho, ho2⟩ : ∃ o, args ++ dfl.map nv = [.ref a, o] ∧ (o = .none ∨ o = .int dcs 0) := by
    rcases hargs with ⟨rfl, rfl⟩ | ⟨rfl, rfl⟩
    · exact ⟨_, rfl, .inl rfl⟩
    · exact ⟨_, rfl, .inr rfl⟩
  rw [ho]
  conv => arg 6; whnf
  simp only [locals0, List.zip_cons_cons, List.zip_nil_right, List.map_cons, List.map_nil, List.append_nil, List.cons_append, List.nil_append, nv]
  keq_hits
  refine' EX_thenR (m₁ := [("self", some (.ref a)), ("chunkSize", some (.int dcs 0)), ("data", none), ("lastv", none)]) (cs₁ := stm ⟨a, sd, ds, dd, er, bm⟩ ⟨src, place, chunk, off, errs, pl, pc, buf, dcs⟩ nl) ?x1 ?x2
  case x1 =>
    rcases ho2 with rfl | rfl
    · kpf_c
      refine ⟨fun _ => ?_, fun e => by simp at e⟩
      keq_rows
      exact ⟨rfl, rfl, rfl⟩
    · kpf_c
      refine ⟨fun e => by simp at e, fun _ => ?_⟩
      keq_rows
      exact ⟨rfl, rfl, rfl⟩
  case x2 =>
  clear ho ho2 hargs
  simp only [stm, fldS, fldG, fldT]
  keq_rows
  refine' EV_instM ?_ ?_ ?_ ?_ ?_ ?_ ?_ ?_ ?_ (CodeV.by (h1 i.A) ?_ ?_ ?q)
  kqd_all
  rintro v F' ⟨t, rfl, rfl⟩
  simp only [List.cons_append, List.nil_append]
  refine AS_tupleD .head ?_
  keq_rows
  refine' EV_instM ?_ ?_ ?_ ?_ ?_ ?_ ?_ ?_ ?_ (CodeV.by (h2 i.A) ?_ ?_ ?q2)
  kqd_all
  rintro v F' ⟨rfl, rfl⟩
  simp only [List.cons_append, List.nil_append]
  keq_rows
  clear h1 h2
  have hpl : ((src.drop place).take dcs).length ≤ 1000 := by simp only [List.length_take, List.length_drop]; omega
  obtain ⟨r, hr⟩ : ∃ r, r = rdc ⟨src, place, chunk, off, errs, pl, pc, buf, dcs⟩ := ⟨_, rfl⟩
  rw [← hr]
  unfold rdc at hr
  simp only at hr
  generalize hpart : (src.drop place).take dcs = part at hr hpl ⊢
  by_cases hemp : buf ++ part = []
  · rw [if_pos hemp] at hr
    obtain ⟨rfl, rfl⟩ := List.append_eq_nil_iff.mp hemp
    subst hr
    simp only [bufV]
    kpf_c
    refine ⟨fun e => by simp at e, fun _ => ?_⟩
    keq_rows
    kpf_c
    refine ⟨fun _ => ?_, fun e => by simp at e⟩
    keq_rows
    (refine' ⟨[(a, ?e11), (sd, ?e12), (ds, ?e13), (dd, ?e14), (er, ?e15), (bm, ?e16)], ?t1, ?r11, ?r12⟩; (case t1 => kct_strs); (case r11 => rfl); (case r12 => rfl))
  · rw [if_neg hemp] at hr
    subst hr
    have hbuf : bufV [] = Value.none := rfl
    refine' EX_thenR (m₁ := [("self", some (.ref a)), ("chunkSize", some (.int dcs 0)), ("data", some (strV (buf ++ part))), ("lastv", none)]) (cs₁ := [(ds, .inst 38 dd), (dd, .obj (fldT ⟨src, min (place + dcs) src.length, chunk, off, errs, pl, pc, buf, dcs⟩)), (a, .inst 131 sd), (sd, .obj (fldG (some (.ref bm)) (some (.ref nl)) (some (.ref ds)) (some (strV [])) (some (.int 0 0)) (some (.int 0 0)) (some (.ref er)) (some (.int (pl + chunk.count 10 : Nat) 0)) (some (.int (colOf chunk pc : Nat) 0)) (some .none) (some (.int dcs 0)))), (er, .list (List.replicate errs (strV errT))), (bm, .bm 113 a)]) ?X ?Y
    case X =>
      rcases buf with _ | ⟨b, _ | ⟨b2, bt⟩⟩
      · simp only [bufV, List.nil_append] at hemp ⊢
        kpf_c
        refine ⟨fun e => by simp at e, fun _ => ?_⟩
        keq_rows
        kpf_c
        refine ⟨fun e => absurd (by simpa using e) hemp, fun _ => ?_⟩
        keq_rows
        exact ⟨rfl, rfl, rfl⟩
      · simp only [bufV]
        kpf_c
        refine ⟨fun _ => ?_, fun e => by simp at e⟩
        keq_rows
        exact ⟨rfl, rfl, rfl⟩
      · simp at hb
    case Y =>
    simp only [fldT, fldG]
    keq_rows
    have hdl : (buf ++ part).length ≤ 1001 := by rw [List.length_append]; omega
    generalize buf ++ part = d at hemp hdl ⊢
    clear hpart hpl hb
    refine' EX_thenE (fun o => [("self", some (.ref a)), ("chunkSize", some (.int dcs 0)), ("data", some (strV (cutD d))), ("lastv", o)]) (fun _ => [(ds, .inst 38 dd), (dd, .obj (fldT ⟨src, min (place + dcs) src.length, chunk, off, errs, pl, pc, buf, dcs⟩)), (a, .inst 131 sd), (sd, .obj (fldG (some (.ref bm)) (some (.ref nl)) (some (.ref ds)) (some (strV [])) (some (.int 0 0)) (some (.int 0 0)) (some (.ref er)) (some (.int (pl + chunk.count 10 : Nat) 0)) (some (.int (colOf chunk pc : Nat) 0)) (some (bufV (heldD d))) (some (.int dcs 0)))), (er, .list (List.replicate errs (strV errT))), (bm, .bm 113 a)]) ?X2 ?Y2
    case X2 =>
      simp only [fldT, fldG]
      obtain ⟨l, x, rfl⟩ : ∃ l x, d = l ++ [x] := ⟨d.dropLast, d.getLast hemp, (List.dropLast_concat_getLast hemp).symm⟩
      have hlast : (l ++ [x]).getLastD 0 = x := by simp [List.getLastD_eq_getLast?]
      kpf_c
      refine ⟨fun e => ?_, fun e => ?_⟩
      · have e1 : 1 < (l ++ [x]).length := by have := of_decide_eq_true e; omega
        keq_rows
        kpf_c
        refine ⟨fun e2 => ?_, fun e2 => ?_⟩
        · have hh : holds (l ++ [x]) = true := by
            unfold holds
            rw [hlast]
            simp only [Bool.and_eq_true, decide_eq_true_eq, Bool.or_eq_true, beq_iff_eq, Bool.or_false] at e2 ⊢
            omega
          keq_rows
          refine ⟨rfl, some (.int x 0), ?_, ?_⟩
          · rw [sl__m1]; unfold cutD; rw [if_pos hh]
          · unfold heldD; rw [if_pos hh, hlast]; rfl
        · have hh : holds (l ++ [x]) = false := by
            unfold holds
            rw [hlast]
            rw [Bool.eq_false_iff] at e2 ⊢
            intro q
            apply e2
            simp only [Bool.and_eq_true, decide_eq_true_eq, Bool.or_eq_true, beq_iff_eq, Bool.or_false] at q ⊢
            omega
          keq_rows
          refine ⟨rfl, some (.int x 0), ?_, ?_⟩
          · unfold cutD; rw [if_neg (by rw [hh]; simp)]
          · unfold heldD; rw [if_neg (by rw [hh]; simp)]; rfl
      · have hh : holds (l ++ [x]) = false := by
          unfold holds
          have e1 : ¬ 1 < (l ++ [x]).length := by have := of_decide_eq_false e; omega
          rw [decide_eq_false e1]; rfl
        keq_rows
        refine ⟨rfl, none, ?_, ?_⟩
        · unfold cutD; rw [if_neg (by rw [hh]; simp)]
        · unfold heldD; rw [if_neg (by rw [hh]; simp)]; rfl
    case Y2 =>
    intro o
    have h3 := fun A => errs_spec hK (A := A) (st := a) (sd := sd) (er := er) (n := errs) (data := cutD d) (rce := some (.ref bm)) (nl := some (.ref nl)) (ds := some (.ref ds)) (ch := some (strV [])) (cz := some (.int 0 0)) (co := some (.int 0 0)) (pl := some (.int (pl + chunk.count 10 : Nat) 0)) (pc := some (.int (colOf chunk pc : Nat) 0)) (bf := some (bufV (heldD d))) (dc := some (.int dcs 0)) (Nat.le_trans (cutD_le d) (by omega)) (by omega)
    simp only [fldT, fldG] at h3 ⊢
    keq_rows
    kpf_c
    refine ⟨fun _ => ?_, fun e => by simp at e⟩
    keq_rows
    refine' EV_ownM ?_ ?_ ?_ ?_ ?_ ?_ ?_ ?_ ?_ ?_ ?_ ?_ (CodeV.by (h3 i.A) ?_ ?_ ?q3)
    kqd_all
    rintro v F' ⟨rfl, rfl⟩
    simp only [List.cons_append, List.nil_append]
    have hcl : (cutD d).length ≤ 1001 := Nat.le_trans (cutD_le d) hdl
    have hrl : (rep2 (cutD d)).length ≤ 1001 := Nat.le_trans (rep2_le _) hcl
    keq_rows
    (refine' ⟨[(a, ?e21), (sd, ?e22), (ds, ?e23), (dd, ?e24), (er, ?e25), (bm, ?e26)], ?t2, ?r21, ?r22⟩; (case t2 => kct_strs); (case r21 => rfl); (case r22 => rfl))
theorem readChunk_spec {c : Cx} (hK : c.K = heapW c.w.params) [pf : PF c] {A : Around} {a : SA} {z : SS} {nl : Addr} (hz : z.chunk.length ≤ 1000) (hs : z.src.length ≤ 1000) (hp : z.place ≤ z.src.length) (hd : z.dcs ≤ 1000) (he : z.errs ≤ 50000) (hb : z.buf.length ≤ 1) :
    CodeV c A 4 (stm a z nl) (.ref 106) [.ref a.st] (fun v cs' => v = .bool (rdc z).1 ∧ cs' = stm a (rdc z).2 nl) := readChunk_any hK hz hs hp hd he hb (.inl ⟨rfl, rfl⟩)
theorem readChunk_arg {c : Cx} (hK : c.K = heapW c.w.params) [pf : PF c] {A : Around} {a : SA} {z : SS} {nl : Addr} (hz : z.chunk.length ≤ 1000) (hs : z.src.length ≤ 1000) (hp : z.place ≤ z.src.length) (hd : z.dcs ≤ 1000) (he : z.errs ≤ 50000) (hb : z.buf.length ≤ 1) :
    CodeV c A 4 (stm a z nl) (.ref 106) [.ref a.st, .int z.dcs 0] (fun v cs' => v = .bool (rdc z).1 ∧ cs' = stm a (rdc z).2 nl) := readChunk_any hK hz hs hp hd he hb (.inr ⟨rfl, rfl⟩)
theorem unget_front {c : Cx} (hK : c.K = heapW c.w.params) [pf : PF c] {A : Around} {a : SA} {z : SS} {nl : Addr} {x : Nat} (hz : z.chunk.length ≤ 100000) (h0 : z.off = 0) :
    CodeV c A 2 (stmO a z nl) (.ref 128) [.ref a.st, strV [x]] (fun v cs' => v = .none ∧ cs' = stmO a { z with chunk := x :: z.chunk } nl) := by
  simp only [stmO, fldS, fldG, h0]
  refine K_fn (k := 1) (by rw [hK]; k_is) (by rw [hK]; k_is) ["self", "char"] [] ["EOF"] [] (fun s vs _ h => by refine bnd2 h fun a b => ?_; exact .of_eq rfl) rfl (by decide) (by decide) (by decide) (by decide) rfl rfl rfl (by simp) ?_
  intro i hg
  conv => arg 6; whnf
  simp only [locals0, List.zip_cons_cons, List.zip_nil_right, List.map_cons, List.map_nil, List.append_nil, List.cons_append, List.nil_append]
  keq_rows
  kpf_c
  refine ⟨fun _ => ?_, fun e => by simp at e⟩
  keq_rows
  kpf_c
  refine ⟨fun _ => ?_, fun e => by simp at e⟩
  keq_rows
  refine ⟨rfl, ?_⟩
  rw [List.length_cons]
  rfl
theorem unget_back {c : Cx} (hK : c.K = heapW c.w.params) [pf : PF c] {A : Around} {a : SA} {z : SS} {nl : Addr} {x n : Nat} (hz : z.chunk.length ≤ 100000) (h0 : z.off = n + 1) (hx : z.chunk[n]? = some x) :
    CodeV c A 2 (stmO a z nl) (.ref 128) [.ref a.st, strV [x]] (fun v cs' => v = .none ∧ cs' = stmO a { z with off := n } nl) := by
  simp only [stmO, fldS, fldG, h0]
  have e1 : ((n + 1 : Nat) : Int) - 1 = n := by omega
  refine K_fn (k := 1) (by rw [hK]; k_is) (by rw [hK]; k_is) ["self", "char"] [] ["EOF"] [] (fun s vs _ h => by refine bnd2 h fun a b => ?_; exact .of_eq rfl) rfl (by decide) (by decide) (by decide) (by decide) rfl rfl rfl (by simp) ?_
  intro i hg
  conv => arg 6; whnf
  simp only [locals0, List.zip_cons_cons, List.zip_nil_right, List.map_cons, List.map_nil, List.append_nil, List.cons_append, List.nil_append]
  keq_rows
  kpf_c
  refine ⟨fun _ => ?_, fun e => by simp at e⟩
  keq_rows
  kpf_c
  refine ⟨fun e => by simp at e; omega, fun _ => ?_⟩
  keq_rows
  rw [e1]
  keq_rows
  refine ⟨by simp, ?_⟩
  keq_rows
  exact ⟨rfl, rfl⟩

/-- char -/
noncomputable def optV : Option Nat → Value
  | none => .none
  | some x => strV [x]
noncomputable def chr1 (z : SS) : Option Nat × SS :=
  match z.chunk[z.off]? with
  | some x => (some x, { z with off := z.off + 1 })
  | none => if (rdc z).1 = true then ((rdc z).2.chunk[0]?, { (rdc z).2 with off := 1 }) else (none, (rdc z).2)
theorem rep2_ne {l : List Nat} (h : l ≠ []) : rep2 l ≠ [] := by
  match l with
  | [a] => simp [rep2]
  | a :: b :: r => rw [rep2_cc]; split <;> simp
theorem cutD_ne {d : List Nat} (h : d ≠ []) : cutD d ≠ [] := by
  unfold cutD
  split
  · rename_i q
    unfold holds at q
    simp only [Bool.and_eq_true, decide_eq_true_eq] at q
    intro e
    have := congrArg List.length e
    simp at this
    omega
  · exact h
theorem rdc_true {z : SS} (h : (rdc z).1 = true) : (rdc z).2.chunk ≠ [] ∧ (rdc z).2.off = 0 := by
  unfold rdc at h ⊢
  simp only at h ⊢
  split at h
  · simp at h
  · rename_i q
    rw [if_neg q]
    refine ⟨?_, rfl⟩
    show norm _ ≠ []
    unfold norm
    simp only [ne_eq, List.map_eq_nil_iff]
    exact rep2_ne (cutD_ne q)
structure Good (z : SS) : Prop where
  src : z.src.length ≤ 900
  place : z.place ≤ z.src.length
  dcs : z.dcs ≤ 900
  errs : z.errs + z.buf.length ≤ z.place
  buf : z.buf.length ≤ 1
  chunk : z.chunk.length ≤ 1000
  off : z.off ≤ z.chunk.length
theorem norm_le (d : List Nat) : (norm d).length ≤ d.length := by unfold norm; rw [List.length_map]; exact rep2_le d
theorem cut_held (d : List Nat) : (cutD d).length + (heldD d).length = d.length := by
  unfold cutD heldD
  cases h : holds d
  · simp
  · unfold holds at h
    simp only [Bool.and_eq_true, decide_eq_true_eq] at h
    simp
    omega
theorem rdc_good {z : SS} (g : Good z) : Good (rdc z).2 := by
  obtain ⟨h1, h2, h3, h4, h5, h6, h7⟩ := g
  have hpl : ((z.src.drop z.place).take z.dcs).length = min z.dcs (z.src.length - z.place) := by simp
  unfold rdc
  simp only
  split
  · exact ⟨h1, Nat.min_le_right _ _, h3, by show z.errs + 0 ≤ min _ _; omega, by simp, by simp, by simp⟩
  · have e1 := cut_held (z.buf ++ (z.src.drop z.place).take z.dcs)
    have e2 : (z.buf ++ (z.src.drop z.place).take z.dcs).length = z.buf.length + min z.dcs (z.src.length - z.place) := by rw [List.length_append, hpl]
    have e3 := norm_le (cutD (z.buf ++ (z.src.drop z.place).take z.dcs))
    have e4 : (cutD (z.buf ++ (z.src.drop z.place).take z.dcs)).countP faulty ≤ _ := List.countP_le_length
    generalize z.buf ++ (z.src.drop z.place).take z.dcs = d at e1 e2 e3 e4
    have e5 : (heldD d).length ≤ 1 := by unfold heldD; split <;> simp
    refine ⟨h1, Nat.min_le_right _ _, h3, ?_, e5, ?_, Nat.zero_le _⟩
    · show z.errs + (cutD d).countP faulty + (heldD d).length ≤ min (z.place + z.dcs) z.src.length
      omega
    · show (norm (cutD d)).length ≤ 1000
      omega

theorem char_spec {c : Cx} (hK : c.K = heapW c.w.params) [pf : PF c] {A : Around} {a : SA} {z : SS} {nl : Addr} (g : Good z) :
    CodeV c A 5 (stm a z nl) (.ref 98) [.ref a.st] (fun v cs' => v = optV (chr1 z).1 ∧ cs' = stm a (chr1 z).2 nl) := by
  cases hx : z.chunk[z.off]? with
  | some x =>
    have e : chr1 z = (some x, { z with off := z.off + 1 }) := by unfold chr1; rw [hx]
    rw [e]
    refine CodeV.by (char_spec1 hK (nl := nl) (by have := g.chunk; omega) hx) (R₀ := [(a.ds, .inst 38 a.dd), (a.dd, .obj (fldT z)), (a.er, .list (List.replicate z.errs (strV errT))), (a.bm, .bm 113 a.st)]) ?_ (by decide) ?_
    · show List.Perm _ _
      exact List.Perm.refl _
    · rintro v F' ⟨rfl, rfl⟩
      exact ⟨rfl, rfl⟩
  | none =>
    have hle : z.chunk.length ≤ z.off := List.getElem?_eq_none_iff.mp hx
    have e : chr1 z = if (rdc z).1 = true then ((rdc z).2.chunk[0]?, { (rdc z).2 with off := 1 }) else (none, (rdc z).2) := by unfold chr1; rw [hx]
    have h1 := fun A => readChunk_spec hK (A := A) (a := a) (z := z) (nl := nl) g.chunk (by have := g.src; omega) g.place (by have := g.dcs; omega) (by have := g.errs; have := g.place; have := g.src; omega) g.buf
    have h2 := @rdc_true z
    have h5 := (rdc_good g).chunk
    rw [e]
    generalize rdc z = r at h1 h2 h5 ⊢
    obtain ⟨rb, z1⟩ := r
    simp only at h1 h2 h5 ⊢
    obtain ⟨a, sd, ds, dd, er, bm⟩ := a
    simp only [stm, fldS, fldG, fldT] at h1 ⊢
    refine CodeV.perm ?_
    refine K_fn (k := 4) (by rw [hK]; k_is) (by rw [hK]; k_is) ["self"] ["chunkOffset", "char"] ["EOF"] [] (fun s vs _ h => by refine bnd1 h fun a => ?_; exact .of_eq rfl) rfl (by decide) (by decide) (by decide) (by decide) rfl rfl rfl (by simp) ?_
    intro i hg
    conv => arg 6; whnf
    simp only [locals0, List.zip_cons_cons, List.zip_nil_right, List.map_cons, List.map_nil, List.append_nil, List.cons_append, List.nil_append]
    keq_rows
    kpf_c
    refine ⟨fun _ => ?_, fun e => by simp at e; omega⟩
    keq_rows
    refine' EX_if (TV_not (TV_plain (EV_instM0 ?_ ?_ ?_ ?_ ?_ ?_ ?_ ?_ (CodeV.by (h1 i.A) ?_ ?_ ?q1))))
    kqd_all
    rintro v F' ⟨rfl, rfl⟩
    simp only [List.cons_append, List.nil_append]
    keq_rows
    refine ⟨fun e2 => ?_, fun e2 => ?_⟩
    · have e3 : rb = false := by simpa using e2
      subst e3
      keq_rows
      (refine' ⟨[(a, ?e11), (sd, ?e12), (ds, ?e13), (dd, ?e14), (er, ?e15), (bm, ?e16)], ?t1, ?r11, ?r12⟩; (case t1 => kct_strs); (case r11 => rfl); (case r12 => rfl))
    · have e3 : rb = true := by simpa using e2
      subst e3
      obtain ⟨h3, h4⟩ := h2 rfl
      obtain ⟨src', place', chunk', off', errs', pl', pc', buf', dcs'⟩ := z1
      simp only at h3 h4 h5 ⊢
      subst h4
      obtain ⟨x, ct, rfl⟩ := List.exists_cons_of_ne_nil h3
      have hx0 : (x :: ct)[0]? = some x := rfl
      have hct : (x :: ct).length ≤ 1000000 := Nat.le_trans h5 (by decide)
      keq_rows
      (refine' ⟨[(a, ?e21), (sd, ?e22), (ds, ?e23), (dd, ?e24), (er, ?e25), (bm, ?e26)], ?t2, ?r21, ?r22⟩; (case t2 => kct_strs); (case r21 => rfl); (case r22 => rfl))
/-- reading along a row, piece after piece -/
inductive CU (mt : Nat → Bool) : Nat → SS → List Nat → SS → Prop
  | stop {n : Nat} {z : SS} {g r : List Nat} {x : Nat} (h : z.chunk.drop z.off = g ++ x :: r) (hg : ∀ y ∈ g, mt y = true) (hx : mt x = false) : CU mt n z g { z with off := z.off + g.length }
  | eof {n : Nat} {z : SS} (hg : ∀ y ∈ z.chunk.drop z.off, mt y = true) (h : (rdc z).1 = false) : CU mt n z (z.chunk.drop z.off) (rdc z).2
  | more {n : Nat} {z z2 : SS} {t : List Nat} (hg : ∀ y ∈ z.chunk.drop z.off, mt y = true) (h : (rdc z).1 = true) (c : CU mt n (rdc z).2 t z2) : CU mt (n + 1) z (z.chunk.drop z.off ++ t) z2
theorem charsUntil_any {c : Cx} (hK : c.K = heapW c.w.params) [pf : PF c] {A : Around} {a : SA} {z z2 : SS} {nl : Addr} {X : List Chunk} {row : Value} {f : Nat → Bool} {opp : Bool} {n : Nat} {res : List Nat} {args dfl : List Value}
    (hargs : (args = [.ref a.st, row, .bool opp] ∧ dfl = []) ∨ (args = [.ref a.st, row] ∧ opp = false ∧ dfl = [.bool false])) (hrow : Row c X row f) (hrv : nv row = row)
    (g : Good z) (hn : n ≤ 5000) (hres : res.length ≤ 100000) (hcu : CU (fun x => f x == opp) n z res z2) :
    CodeV c A 6 (stm a z nl ++ X) (.ref 121) args (fun v cs' => v = strV res ∧ cs' = stm a z2 nl ++ X) := by
  refine K_fn (k := 5) (by rw [hK]; k_is) (by rw [hK]; k_is) ["self", "characters", "opposite"] ["rv", "end", "r"] [] dfl ?_ ?_ (by decide) (by decide) (by decide) (by decide) rfl rfl rfl (by simp [stm]) ?_
  · rcases hargs with ⟨rfl, rfl⟩ | ⟨rfl, rfl, rfl⟩
    · exact fun s vs X h => by refine bnd3 h fun a b d => ?_; exact binds_K X rfl (by rw [hK]; k_is) rfl rfl rfl
    · exact fun s vs X h => by refine bnd2 h fun a b => ?_; exact binds_K X rfl (by rw [hK]; k_is) rfl rfl rfl
  · rcases hargs with ⟨rfl, rfl⟩ | ⟨rfl, rfl, rfl⟩ <;> rfl
  have ha : args ++ dfl.map nv = [.ref a.st, row, .bool opp] := by rcases hargs with ⟨rfl, rfl⟩ | ⟨rfl, rfl, rfl⟩ <;> rfl
  intro i hg
  rw [ha]
  conv => arg 6; whnf
  simp only [locals0, List.zip_cons_cons, List.zip_nil_right, List.map_cons, List.map_nil, List.append_nil, List.cons_append, List.nil_append]
  keq_rows
  refine ⟨by simp, fun rv => ?_⟩
  keq_rows
  refine' EX_thenE (ι := { ps : List (List Nat) // ps.flatten = res ∧ ps.length ≤ 6000 } × Option Value) (fun o => [("self", some (.ref a.st)), ("characters", some row), ("opposite", some (.bool opp)), ("rv", some (.ref rv)), ("end", o.2), ("r", none)]) (fun o => (rv, .list (o.1.1.map strV)) :: (stm a z2 nl ++ X)) ?X1 ?Y1
  case Y1 =>
    rintro ⟨⟨ps, e1, e2⟩, o⟩
    simp only
    keq_hits
    keq_hits
    refine' EV_join0 ?j1 ?j2 ?j3 ?j4 ?j5 ?j6
    case j1 => kcf_all
    case j2 => kcf_all
    case j3 => kba_ints
    case j4 => rw [e1]; omega
    case j5 => omega
    rw [e1]
    refine AS_name (by kbo_bools) ?_
    refine Then_next ?_
    refine EXS_pick .head ?_
    keq_rows
    exact ⟨rfl, rfl⟩
  case X1 =>
  refine EX_while (n := n) (fun j m1 cs1 => ∃ (ps : List (List Nat)) (z' : SS) (res' : List Nat) (o : Option Value), Good z' ∧ CU (fun x => f x == opp) j z' res' z2 ∧ ps.flatten ++ res' = res ∧ ps.length + j = n ∧
    m1 = ([("self", some (.ref a.st)), ("characters", some row), ("opposite", some (.bool opp)), ("rv", some (.ref rv)), ("end", o), ("r", none)] : Fields) ∧ cs1 = (rv, .list (ps.map strV)) :: (stm a z' nl ++ X)) ⟨[], z, res, none, g, hcu, rfl, by simp, rfl, rfl⟩ ?_
  rintro j m1 cs1 zz ⟨ps, z', res', o, g', hcu', hfl, hlen, rfl, rfl⟩
  keq_hits
  refine ⟨fun _ => ?_, fun e => by simp at e⟩
  have hzc := g'.chunk
  have hzo := g'.off
  have g0 := g'
  simp only [stm, fldS, fldG, fldT, List.cons_append, List.nil_append]
  keq_rows
  have hR : Row c ((rv, .list (ps.map strV)) :: (stm a z' nl ++ X)) row f := Row_perm hrow (Y := (rv, .list (ps.map strV)) :: stm a z' nl) (List.perm_append_comm (l₁ := ((rv, AO.list (ps.map strV)) :: stm a z' nl : List Chunk)) (l₂ := X))
  simp only [stm, fldS, fldG, fldT, List.cons_append, List.nil_append] at hR
  refine' EX_thenE (ι := { e : Nat // z'.off ≤ e ∧ e ≤ z'.chunk.length ∧ (∀ y ∈ (z'.chunk.drop z'.off).take (e - z'.off), (f y == opp) = true) ∧ (e = z'.chunk.length ∨ ∃ x, z'.chunk[e]? = some x ∧ (f x == opp) = false) }) (fun e => [("self", some (.ref a.st)), ("characters", some row), ("opposite", some (.bool opp)), ("rv", some (.ref rv)), ("end", some (.int e.1 0)), ("r", none)]) (fun _ => (rv, .list (ps.map strV)) :: (stm a z' nl ++ X)) ?X2 ?Y2
  case X2 =>
    refine EX_while (n := z'.chunk.length - z'.off) (fun j m1 cs1 => ∃ e : Nat, z'.off ≤ e ∧ e ≤ z'.chunk.length ∧ (∀ y ∈ (z'.chunk.drop z'.off).take (e - z'.off), (f y == opp) = true) ∧ j = z'.chunk.length - e ∧
      m1 = ([("self", some (.ref a.st)), ("characters", some row), ("opposite", some (.bool opp)), ("rv", some (.ref rv)), ("end", some (.int e 0)), ("r", none)] : Fields) ∧ cs1 = (rv, .list (ps.map strV)) :: (stm a z' nl ++ X)) ⟨z'.off, Nat.le_refl _, hzo, by simp, rfl, rfl, rfl⟩ ?_
    rintro j2 m1 cs1 zz2 ⟨e, q1, q2, q3, rfl, rfl, rfl⟩
    simp only [stm, fldS, fldG, fldT, List.cons_append, List.nil_append]
    refine TV_and ?_
    refine' PT.tv ?p1 ?p2
    case p1 => kd_in
    refine ⟨fun h => ?_, fun h => ⟨fun h2 => (by cases h2), fun _ => ⟨trivial, ⟨e, q1, q2, q3, .inl ?_⟩, rfl, rfl⟩⟩⟩
    · have hlt : e < z'.chunk.length := by
        have : (e : Int) ≠ z'.chunk.length := by simpa using h
        omega
      have hx : z'.chunk[e]? = some (z'.chunk[e]) := List.getElem?_eq_getElem hlt
      generalize z'.chunk[e] = x at hx
      refine TV_and ?_
      refine' PT.tv ?p3 ?p4
      case p3 =>
        refine' PT_cmp (PE_cmp ?a1 ?a2 (hR _ _ x)) ?a3 C_eqb
        case a1 => kcf_all
        case a2 => kcf_all
        case a3 => kcf_all
      refine ⟨fun h3 => TV_and_nil ⟨fun _ => ?_, fun h4 => (by cases h4)⟩, fun h3 => ⟨fun h4 => (by cases h4), fun _ => ⟨trivial, ⟨e, q1, q2, q3, .inr ⟨x, hx, h3⟩⟩, rfl, rfl⟩⟩⟩
      keq_rows
      refine ⟨z'.chunk.length - (e + 1), by omega, e + 1, by omega, by omega, ?_, rfl, rfl, rfl⟩
      intro y hy
      rw [show e + 1 - z'.off = (e - z'.off) + 1 by omega, List.take_succ] at hy
      rcases List.mem_append.mp hy with hy | hy
      · exact q3 y hy
      · rw [List.getElem?_drop, show z'.off + (e - z'.off) = e by omega, hx] at hy
        simp at hy
        rw [hy]; exact h3
    · have : (e : Int) = z'.chunk.length := by simpa using h
      omega
  case Y2 =>
  rintro ⟨e, q1, q2, q3, q4⟩
  have hpc : ps.length ≤ 5000 := by omega
  by_cases he : e = z'.chunk.length
  · subst he
    have hall : ∀ y ∈ z'.chunk.drop z'.off, (f y == opp) = true := fun y hy => q3 y (by rw [List.take_of_length_le (by rw [List.length_drop]; exact Nat.le_refl _)]; exact hy)
    have h1 := fun A => readChunk_spec hK (A := A) (a := a) (z := z') (nl := nl) g'.chunk (by have := g'.src; omega) g'.place (by have := g'.dcs; omega) (by have := g'.errs; have := g'.place; have := g'.src; omega) g'.buf
    have hgd := rdc_good g'
    have es : sl z'.chunk (some (z'.off : Int)) none = z'.chunk.drop z'.off := sl_n_ _ _
    have em : List.map strV ps ++ [Value.str ⟨(z'.chunk.drop z'.off).toArray⟩ 0] = (ps ++ [z'.chunk.drop z'.off]).map strV := by simp
    have hrd : (res' = z'.chunk.drop z'.off ∧ z2 = (rdc z').2 ∧ (rdc z').1 = false) ∨ ∃ t j', j = j' + 1 ∧ res' = z'.chunk.drop z'.off ++ t ∧ (rdc z').1 = true ∧ CU (fun x => f x == opp) j' (rdc z').2 t z2 := by
      cases hcu' with
      | stop h hg hx =>
        exfalso
        rw [hall _ (by rw [h]; simp)] at hx
        cases hx
      | eof hg h => exact .inl ⟨rfl, rfl, h⟩
      | more hg h c => exact .inr ⟨_, _, rfl, rfl, h, c⟩
    clear hcu'
    generalize rdc z' = r at h1 hgd hrd
    obtain ⟨rb, z3⟩ := r
    simp only at h1 hgd hrd
    simp only [stm, fldS, fldG, fldT, List.cons_append, List.nil_append] at h1 ⊢
    refine' EX.thenR ?X3 ?Y3
    case X3 =>
      kpf_c
      refine ⟨fun h => ?_, fun h => ?_⟩
      · have h' : (z'.chunk.length : Int) = z'.off := by simpa using h
        keq_rows
        kpf_c
        refine ⟨fun h2 => ?_, fun _ => ?_⟩
        · have h3 : (z'.off : Int) ≠ z'.chunk.length := by simpa using h2
          omega
        · keq_rows
          exact ⟨rfl, rfl, rfl⟩
      · keq_rows
        kpf_c
        refine ⟨fun h2 => by simp at h2, fun _ => ?_⟩
        keq_rows
        exact ⟨rfl, rfl, rfl⟩
    case Y3 =>
    keq_rows
    rw [es, em]
    refine' EX_if (TV_not (TV_plain (EV_instM0 ?_ ?_ ?_ ?_ ?_ ?_ ?_ ?_ (CodeV.by (h1 i.A) ?_ ?_ ?q1))))
    kqd_all
    rintro v F' ⟨rfl, rfl⟩
    simp only [List.cons_append, List.nil_append]
    keq_rows
    rcases hrd with ⟨rfl, rfl, rfl⟩ | ⟨t, j', rfl, rfl, rfl, hc⟩
    · refine ⟨fun _ => ?_, fun e2 => by simp at e2⟩
      refine' EXS_front (x := (rv, ?l1)) ?t1 ?k1
      case t1 => kbt_split
      keq_rows
      exact ⟨rfl, (⟨ps ++ [z'.chunk.drop z'.off], by rw [← hfl]; simp, by simp; omega⟩, _), rfl, rfl⟩
    · refine ⟨fun e2 => by simp at e2, fun _ => ?_⟩
      refine' EXS_front (x := (rv, ?l2)) ?t2 ?k2
      case t2 => kbt_split
      keq_rows
      exact ⟨j', by omega, ps ++ [z'.chunk.drop z'.off], z3, t, _, hgd, hc, by rw [← hfl]; simp, by simp; omega, rfl, rfl⟩
  · rcases q4 with q4 | ⟨x, hx, hxm⟩
    · exact absurd q4 he
    have hlt : e < z'.chunk.length := by omega
    have hxd : (z'.chunk.drop z'.off)[e - z'.off]? = some x := by rw [List.getElem?_drop, show z'.off + (e - z'.off) = e by omega]; exact hx
    have hmem : x ∈ z'.chunk.drop z'.off := List.mem_of_getElem? hxd
    have hst : res' = (z'.chunk.drop z'.off).take (e - z'.off) ∧ z2 = { z' with off := e } := by
      cases hcu' with
      | stop h hg hx2 =>
        rename_i r y
        have hl : res'.length = e - z'.off := by
          rcases Nat.lt_trichotomy res'.length (e - z'.off) with hh | hh | hh
          · exfalso
            have : y ∈ (z'.chunk.drop z'.off).take (e - z'.off) := by
              rw [h]
              refine List.mem_of_getElem? (i := res'.length) ?_
              rw [List.getElem?_take, if_pos hh]
              simp
            rw [q3 y this] at hx2
            cases hx2
          · exact hh
          · exfalso
            rw [h, List.getElem?_append_left hh] at hxd
            rw [hg x (List.mem_of_getElem? hxd)] at hxm
            cases hxm
        refine ⟨?_, ?_⟩
        · rw [h, ← hl, List.take_left']
          rfl
        · rw [hl, show z'.off + (e - z'.off) = e by omega]
      | eof hg h => rw [hg x hmem] at hxm; cases hxm
      | more hg h c => rw [hg x hmem] at hxm; cases hxm
    clear hcu'
    obtain ⟨rfl, rfl⟩ := hst
    have es : sl z'.chunk (some (z'.off : Int)) (some (e : Int)) = (z'.chunk.drop z'.off).take (e - z'.off) := sl_nn _ _ _
    have em : List.map strV ps ++ [Value.str ⟨((z'.chunk.drop z'.off).take (e - z'.off)).toArray⟩ 0] = (ps ++ [(z'.chunk.drop z'.off).take (e - z'.off)]).map strV := by simp
    simp only [stm, fldS, fldG, fldT, List.cons_append, List.nil_append]
    keq_rows
    kpf_c
    refine ⟨fun h => ?_, fun h => ?_⟩
    · have h' : e = z'.off := by have : (e : Int) = z'.off := by simpa using h
                                 omega
      subst h'
      keq_rows
      kpf_c
      refine ⟨fun _ => ?_, fun h2 => ?_⟩
      · keq_rows
        exact ⟨rfl, (⟨ps, by rw [← hfl]; simp, by omega⟩, _), rfl, rfl⟩
      · have : (z'.off : Int) = z'.chunk.length := by simpa using h2
        omega
    · keq_rows
      kpf_c
      refine ⟨fun _ => ?_, fun h2 => ?_⟩
      · keq_rows
        rw [es, em]
        exact ⟨rfl, (⟨ps ++ [_], by rw [← hfl]; simp, by simp; omega⟩, _), rfl, rfl⟩
      · have : (e : Int) = z'.chunk.length := by simpa using h2
        omega
theorem text_new {c : Cx} (hK : c.K = heapW c.w.params) [pf : PF c] {A : Around} {src : List Nat} {cs : List Chunk} (hne : cs ≠ []) :
    CodeV c A 3 cs (.ref 38) [strV src] (fun v cs' => ∃ ds dd, v = .ref ds ∧ cs' = (ds, .inst 38 dd) :: (dd, .obj [("text", some (strV src)), ("place", some (.int 0 0)), ("read", none)]) :: cs) := by
  refine K_new (k := 2) (names := ["text", "place", "read"]) PF.k_Text PF.i_Text (by rw [hK]; k_is) (by decide) hne ?_
  intro A x d
  simp only [List.map_cons, List.map_nil]
  refine K_fn (k := 1) (by rw [hK]; k_is) (by rw [hK]; k_is) ["self", "text"] [] [] [] (fun s vs _ h => by refine bnd2 h fun a b => ?_; exact .of_eq rfl) rfl (by decide) (by decide) (by decide) (by decide) rfl rfl rfl (by simp) ?_
  intro i hg
  conv => arg 6; whnf
  simp only [locals0, List.zip_cons_cons, List.zip_nil_right, List.map_cons, List.map_nil, List.append_nil, List.cons_append, List.nil_append]
  keq_rows
  exact ⟨rfl, x, d, rfl, rfl⟩
theorem open_spec {c : Cx} (hK : c.K = heapW c.w.params) [pf : PF c] {A : Around} {src : List Nat} {st : Addr} {cs : List Chunk} (hne : cs ≠ []) :
    CodeV c A 4 cs (.ref 77) [.ref st, strV src] (fun v cs' => ∃ ds dd, v = .ref ds ∧ cs' = (ds, .inst 38 dd) :: (dd, .obj [("text", some (strV src)), ("place", some (.int 0 0)), ("read", none)]) :: cs) := by
  refine K_fn (k := 3) (by rw [hK]; k_is) (by rw [hK]; k_is) ["self", "source"] ["stream"] ["Text"] [] (fun s vs _ h => by refine bnd2 h fun a b => ?_; exact .of_eq rfl) rfl (by decide) (by decide) (by decide) (by decide) rfl rfl rfl hne ?_
  intro i hg
  conv => arg 6; whnf
  simp only [locals0, List.zip_cons_cons, List.zip_nil_right, List.map_cons, List.map_nil, List.append_nil, List.cons_append, List.nil_append]
  keq_rows
  refine' EV_callK' ?_ PF.kc_Text ?_ ((text_new hK (A := i.A) (src := src) hne).mono ?q)
  kqd_all
  rintro v cs' ⟨ds, dd, rfl, rfl⟩
  keq_rows
  exact ⟨ds, dd, rfl, rfl⟩
/-- a stream's chunks, the size of its pieces set or not -/
noncomputable def stmD (a : SA) (z : SS) (nl : Addr) (dc : Option Value) : List Chunk := [(a.st, .inst 131 a.sd), (a.sd, .obj (fldG (some (.ref a.bm)) (some (.ref nl)) (some (.ref a.ds)) (some (.str ⟨z.chunk.toArray⟩ 0)) (some (.int z.chunk.length 0)) (some (.int z.off 0))
  (some (.ref a.er)) (some (.int z.pl 0)) (some (.int z.pc 0)) (some (bufV z.buf)) dc)), (a.ds, .inst 38 a.dd), (a.dd, .obj (fldT z)), (a.er, .list (List.replicate z.errs (strV errT))), (a.bm, .bm 113 a.st)]
theorem stmD_some (a : SA) (z : SS) (nl : Addr) : stmD a z nl (some (.int z.dcs 0)) = stm a z nl := rfl
theorem init_spec {c : Cx} (hK : c.K = heapW c.w.params) [pf : PF c] {A : Around} {src : List Nat} {st sd : Addr} {cs : List Chunk} :
    CodeV c A 6 ((st, .inst 131 sd) :: (sd, .obj (fldG none none none none none none none none none none none)) :: cs) (.ref 63) [.ref st, strV src] (fun v cs' => v = .none ∧ ∃ ds dd er bm nl, cs' = stmD ⟨st, sd, ds, dd, er, bm⟩ ⟨src, 0, [], 0, 0, 0, 0, [], 0⟩ nl none ++ (nl, .list [.int 0 0]) :: cs) := by
  simp only [stmD, fldG, fldT, bufV, List.cons_append, List.nil_append]
  refine CodeV.permR ?_
  refine K_fn (k := 5) (by rw [hK]; k_is) (by rw [hK]; k_is) ["self", "source"] [] [] [] (fun s vs _ h => by refine bnd2 h fun a b => ?_; exact .of_eq rfl) rfl (by decide) (by decide) (by decide) (by decide) rfl rfl rfl (by simp) ?_
  intro i hg
  conv => arg 6; whnf
  simp only [locals0, List.zip_cons_cons, List.zip_nil_right, List.map_cons, List.map_nil, List.append_nil, List.cons_append, List.nil_append]
  keq_rows
  refine' EV_attr (PE.ev ?o (A_bound (f := 113) ?_ ?_ ?_ ?_ ?_ ?_ ?_ ?_ ?_ ?_ ?q))
  case o => kcf_all
  kqd_all
  · rw [hK]; k_is
  · rw [hK]; k_is
  · decide
  intro bm
  keq_rows
  refine ⟨by simp, fun nl => ?_⟩
  keq_rows
  refine' EV_instM ?_ ?_ ?_ ?_ ?_ ?_ ?_ ?_ ?_ ((open_spec hK (A := i.A) (src := src) (by simp)).level (by decide) |>.mono ?q2)
  kqd_all
  rintro v cs' ⟨ds, dd, rfl, rfl⟩
  keq_rows
  have hr := reset_spec hK (A := i.A) (st := st) (sd := sd) (rce := some (.ref bm)) (nl := some (.ref nl)) (ds := some (.ref ds)) (ch := none) (cz := none) (co := none) (er := none) (pl := none) (pc := none) (bf := none) (dc := none)
  simp only [fldG] at hr
  refine' EV_instM0 ?_ ?_ ?_ ?_ ?_ ?_ ?_ ?_ (CodeV.by hr ?_ ?_ ?q3)
  kqd_all
  rintro v F' ⟨er, rfl, rfl⟩
  simp only [List.cons_append, List.nil_append]
  refine Then_next (EXS_nil ?_)
  refine' ⟨[(st, ?e1), (sd, ?e2), (ds, ?e3), (dd, ?e4), (er, ?e5), (bm, ?e6), (nl, ?e7)], ?e8, ?t, rfl, ds, dd, er, bm, nl, ?r⟩
  case t => kct_strs
  case r => rfl
/-- the stream's class called -/
theorem stream_new {c : Cx} (hK : c.K = heapW c.w.params) [pf : PF c] {A : Around} {src : List Nat} {cs : List Chunk} (hne : cs ≠ []) :
    CodeV c A 7 cs (.ref 131) [strV src] (fun v cs' => ∃ a nl, v = .ref a.st ∧ cs' = stmD a ⟨src, 0, [], 0, 0, 0, 0, [], 0⟩ nl none ++ (nl, .list [.int 0 0]) :: cs) := by
  refine K_new (k := 6) (names := ["reportCharacterErrors", "newLines", "dataStream", "chunk", "chunkSize", "chunkOffset", "errors", "prevNumLines", "prevNumCols", "_bufferedCharacter", "_defaultChunkSize", "reset", "openStream", "_position", "position", "char", "readChunk", "characterErrorsUCS4", "charsUntil", "unget"]) PF.k_S PF.i_S (by rw [hK]; k_is) (by decide) hne ?_
  intro A x d
  refine (init_spec hK (A := A) (src := src) (st := x) (sd := d) (cs := cs)).mono ?_
  rintro v cs' ⟨rfl, ds, dd, er, bm, nl, rfl⟩
  exact ⟨rfl, ⟨x, d, ds, dd, er, bm⟩, nl, rfl, rfl⟩
/- ## law 02, in plain lists -/
abbrev oneV (x : Nat) : Value := strV [x]
noncomputable def NoSur (text : List Nat) : Prop := ∀ x ∈ text, x < 55296 ∨ 57343 < x
/-- what the law's hand holds -/
structure H2 where
  rest : List Nat
  ahead : List Nat
  done : List Nat
  gone : List Nat
  held : Nat
  snc : Nat
  errs : Nat
/-- the signs of a piece, its line ends mended -/
noncomputable def mend : Option Nat → List Nat → List Nat
  | _, [] => []
  | p, x :: r => if x ≠ 10 ∨ p ≠ some 13 then (if x = 13 then 10 else x) :: mend (some x) r else mend (some x) r
theorem mend_cons (p : Option Nat) (x : Nat) (r : List Nat) : mend p (x :: r) = if x ≠ 10 ∨ p ≠ some 13 then (if x = 13 then 10 else x) :: mend (some x) r else mend (some x) r := by rw [mend]
theorem mend_snoc : ∀ (L : List Nat) (p : Option Nat) (x : Nat), mend p (L ++ [x]) = mend p L ++ (if x ≠ 10 ∨ (L.getLast?.or p) ≠ some 13 then [if x = 13 then 10 else x] else [])
  | [], p, x => by
    show mend p [x] = _
    by_cases h : x ≠ 10 ∨ p ≠ some 13
    · rw [mend_cons, if_pos h, List.getLast?_nil, Option.none_or, if_pos h]; rfl
    · rw [mend_cons, if_neg h, List.getLast?_nil, Option.none_or, if_neg h]; rfl
  | y :: L, p, x => by
    have ih := mend_snoc L (some y) x
    have e : ((y :: L).getLast?.or p) = (L.getLast?.or (some y)) := by
      cases L with
      | nil => rfl
      | cons z r => rw [List.getLast?_cons_cons]; cases h : (z :: r).getLast? with
        | none => simp at h
        | some v => rfl
    show mend p (y :: (L ++ [x])) = _
    rw [mend_cons, ih, e, mend_cons]
    split <;> simp
theorem mend_le : ∀ (L : List Nat) (p : Option Nat), (mend p L).length ≤ L.length
  | [], _ => Nat.le_refl _
  | x :: r, p => by
    have := mend_le r (some x)
    rw [mend]
    split <;> simp <;> omega
theorem mend_ne {p : Option Nat} (h : p ≠ some 13) (x : Nat) (r : List Nat) : mend p (x :: r) = crf x :: mend (some x) r := by
  rw [mend_cons, if_pos (.inr h)]; rfl
theorem mend_x {p : Option Nat} {x : Nat} (h : x ≠ 10) (r : List Nat) : mend p (x :: r) = crf x :: mend (some x) r := by
  rw [mend_cons, if_pos (.inl h)]; rfl
theorem mend_norm_aux : ∀ (n : Nat) (l : List Nat), l.length ≤ n → ∀ p : Option Nat, p ≠ some 13 → mend p l = (rep2 l).map crf
  | _, [], _, _, _ => rfl
  | _, [a], _, p, hp => by rw [mend_ne hp]; rfl
  | 0, a :: b :: r, h, _, _ => by simp at h
  | n + 1, a :: b :: r, h, p, hp => by
    simp only [List.length_cons] at h
    rw [mend_ne hp, rep2_cc]
    by_cases ha : a = 13
    · subst ha
      by_cases hb : b = 10
      · subst hb
        rw [if_pos ⟨rfl, rfl⟩, mend_cons, if_neg (by simp), mend_norm_aux n r (by omega) (some 10) (by simp)]
        rfl
      · rw [if_neg (fun q => hb q.2), mend_x hb, ← mend_ne (p := none) (by simp), mend_norm_aux n (b :: r) (by simp only [List.length_cons]; omega) none (by simp)]
        rfl
    · rw [if_neg (fun q => ha q.1), mend_norm_aux n (b :: r) (by simp only [List.length_cons]; omega) (some a) (by simpa using ha)]
      rfl
theorem mend_norm (l : List Nat) : mend none l = norm l := mend_norm_aux l.length l (Nat.le_refl _) none (by simp)
theorem mend_nil {l : List Nat} (h : mend none l = []) : l = [] := by
  cases l with
  | nil => rfl
  | cons x r => rw [mend_ne (by simp)] at h; cases h
theorem colOf_append (G l : List Nat) : colOf (G ++ l) 0 = colOf l (colOf G 0) := by
  unfold colOf
  by_cases h : 10 ∈ l
  · rw [if_pos (List.mem_append_right _ h), if_pos h]
    obtain ⟨v, u, e, hv⟩ := List.eq_append_cons_of_mem (List.mem_reverse.mpr h)
    have : (G ++ l).reverse = v ++ 10 :: (u ++ G.reverse) := by rw [List.reverse_append, e]; simp
    rw [this, e]
    have hp : ∀ x ∈ v, (x != 10) = true := fun x hx => by simp; exact fun q => hv (q ▸ hx)
    rw [List.takeWhile_append_of_pos hp, List.takeWhile_append_of_pos hp]
    simp
  · rw [if_neg h]
    by_cases hG : 10 ∈ G
    · rw [if_pos (List.mem_append_left _ hG), if_pos hG, List.reverse_append]
      have hp : ∀ x ∈ l.reverse, (x != 10) = true := fun x hx => by simp at hx ⊢; exact fun q => h (q ▸ hx)
      rw [List.takeWhile_append_of_pos hp, List.length_append, List.length_reverse]; omega
    · rw [if_neg (by simp [h, hG]), if_neg hG, List.length_append]; omega
theorem rest_split (mt : Nat → Bool) (l : List Nat) : (∀ y ∈ l, mt y = true) ∨ ∃ g x r, l = g ++ x :: r ∧ (∀ y ∈ g, mt y = true) ∧ mt x = false := by
  induction l with
  | nil => exact .inl (by simp)
  | cons a l ih =>
    cases ha : mt a with
    | false => exact .inr ⟨[], a, l, rfl, by simp, ha⟩
    | true =>
      rcases ih with ih | ⟨g, x, r, e, h1, h2⟩
      · exact .inl fun y hy => by
          rcases List.mem_cons.mp hy with rfl | hy
          · exact ha
          · exact ih y hy
      · refine .inr ⟨a :: g, x, r, by rw [e]; rfl, fun y hy => ?_, h2⟩
        rcases List.mem_cons.mp hy with rfl | hy
        · exact ha
        · exact h1 y hy
theorem rdc_off (z : SS) (k : Nat) : rdc { z with off := k } = rdc z := rfl
theorem rdc_dcs (z : SS) : (rdc z).2.dcs = z.dcs := by unfold rdc; simp only; split <;> rfl
theorem rdc_src (z : SS) : (rdc z).2.src = z.src := by unfold rdc; simp only; split <;> rfl
noncomputable def cut2 (d : List Nat) : Nat := if 1 < d.length ∧ d.getLast? = some 13 then d.length - 1 else d.length
theorem cut2_le (d : List Nat) : cut2 d ≤ d.length := by unfold cut2; split <;> omega
theorem cut2_pos {d : List Nat} (h : d ≠ []) : 0 < cut2 d := by
  have := List.length_pos_iff.mpr h
  unfold cut2; split <;> omega
theorem cut2_eq {d : List Nat} (ns : NoSur d) : cutD d = d.take (cut2 d) ∧ heldD d = d.drop (cut2 d) ∧ (d.drop (cut2 d) = [] ∨ d.drop (cut2 d) = [13]) := by
  have hh : holds d = decide (1 < d.length ∧ d.getLast? = some 13) := by
    unfold holds
    by_cases h1 : 1 < d.length
    · have hne : d ≠ [] := fun q => by rw [q] at h1; cases h1
      have hl : d.getLast? = some (d.getLast hne) := List.getLast?_eq_some_getLast hne
      have hd : d.getLastD 0 = d.getLast hne := by rw [List.getLastD_eq_getLast?, hl]; rfl
      have hs := ns _ (List.getLast_mem hne)
      rw [hd, hl]
      rw [Bool.eq_iff_iff]
      simp only [Bool.and_eq_true, decide_eq_true_eq, Bool.or_eq_true, beq_iff_eq, Option.some.injEq]
      omega
    · rw [decide_eq_false h1, decide_eq_false (fun q => h1 q.1)]; rfl
  unfold cutD heldD
  rw [hh]
  unfold cut2
  by_cases hq : 1 < d.length ∧ d.getLast? = some 13
  · rw [if_pos hq, decide_eq_true hq, if_pos rfl, if_pos rfl]
    have hne : d ≠ [] := fun q => by rw [q] at hq; cases hq.1
    have hl : d.getLast? = some (d.getLast hne) := List.getLast?_eq_some_getLast hne
    have e13 : d.getLast hne = 13 := by rw [hl] at hq; simpa using hq.2
    have hd : d.getLastD 0 = 13 := by rw [List.getLastD_eq_getLast?, hl, e13]; rfl
    have hdr : d.drop (d.length - 1) = [13] := by
      have := List.dropLast_concat_getLast hne
      rw [e13] at this
      have hlen : d.dropLast.length = d.length - 1 := List.length_dropLast
      rw [← hlen]
      have h2 := List.drop_left' (l₁ := d.dropLast) (l₂ := [13]) rfl
      rwa [this] at h2
    rw [hd, hdr]
    exact ⟨by rw [List.dropLast_eq_take], rfl, .inr rfl⟩
  · rw [if_neg hq, decide_eq_false hq, if_neg (by simp), if_neg (by simp)]
    simp
noncomputable def piece2 (size : Nat) (h : H2) : List Nat := h.rest.take (size + h.held)
noncomputable def fill2 (size : Nat) (h : H2) : H2 :=
  { h with rest := h.rest.drop (cut2 (piece2 size h)), held := (piece2 size h).length - cut2 (piece2 size h), ahead := h.ahead ++ mend none ((piece2 size h).take (cut2 (piece2 size h))), errs := h.errs + ((piece2 size h).take (cut2 (piece2 size h))).countP faulty, snc := 0 }
noncomputable def passA (h : H2) (g r : List Nat) : H2 := { h with ahead := r, done := h.done ++ g, gone := h.gone ++ g, snc := h.snc + g.length }
noncomputable def top2 (size : Nat) (h : H2) : H2 := if h.ahead = [] then fill2 size h else h
noncomputable def read2 (size : Nat) (h : H2) : Option Nat × H2 := match (top2 size h).ahead with
  | [] => (none, top2 size h)
  | x :: r => (some x, passA (top2 size h) [x] r)
noncomputable def back2 (h : H2) (d : List Nat) (x : Nat) : H2 := if 0 < h.snc then { h with ahead := x :: h.ahead, done := d, snc := h.snc - 1, gone := h.gone.dropLast } else { h with ahead := x :: h.ahead, done := d }
noncomputable def anew2 (l : List Nat) : H2 := ⟨l, [], [], [], 0, 0, 0⟩
/-- the hand, what is unread let go -/
noncomputable def letgo (h : H2) : H2 := { h with ahead := [], gone := h.gone ++ h.ahead }
/-- a sign put back into the stream -/
noncomputable def ung (z : SS) (x : Nat) : SS := if z.off = 0 then { z with chunk := x :: z.chunk } else { z with off := z.off - 1 }
/-- the stream and the hand, side by side -/
structure R2 (z : SS) (h : H2) : Prop where
  ns : NoSur z.src
  place : z.place ≤ z.src.length
  rest : h.rest = z.buf ++ z.src.drop z.place
  held : h.held = z.buf.length
  buf : z.buf = [] ∨ z.buf = [13]
  ahead : h.ahead = z.chunk.drop z.off
  off : z.off ≤ z.chunk.length
  snc : h.snc = z.off
  gone : ∃ G, h.gone = G ++ z.chunk.take z.off ∧ z.pl = G.count 10 ∧ z.pc = colOf G 0
  done : ∃ D, h.done = D ++ z.chunk.take z.off
  errs : z.errs = h.errs
  low : z.errs + z.buf.length ≤ z.place
theorem R2.dcs {z : SS} {h : H2} (R : R2 z h) (k : Nat) : R2 { z with dcs := k } h := ⟨R.ns, R.place, R.rest, R.held, R.buf, R.ahead, R.off, R.snc, R.gone, R.done, R.errs, R.low⟩
theorem r2_piece {z : SS} {h : H2} (R : R2 z h) (size : Nat) : piece2 size h = z.buf ++ (z.src.drop z.place).take size := by
  unfold piece2
  rw [R.rest, R.held, List.take_append]
  congr 1
  · exact List.take_of_length_le (by omega)
  · congr 1; omega
theorem r2_read {z : SS} {h : H2} (R : R2 z h) :
    (rdc z).1 = decide (0 < (piece2 z.dcs h).length) ∧ R2 (rdc z).2 (fill2 z.dcs (letgo h)) ∧ ((rdc z).1 = true → (rdc z).2.chunk ≠ [] ∧ (rdc z).2.off = 0 ∧ (rdc z).2.buf.length + (z.src.length - (rdc z).2.place) < z.buf.length + (z.src.length - z.place)) ∧
      ((rdc z).1 = false → (fill2 z.dcs (letgo h)).ahead = [] ∧ (1 ≤ z.dcs → (fill2 z.dcs (letgo h)).rest = [])) := by
  have hp := r2_piece R z.dcs
  have hpl : piece2 z.dcs (letgo h) = piece2 z.dcs h := rfl
  obtain ⟨G, g1, g2, g3⟩ := R.gone
  have r1 := R.rest
  have r2 := R.place
  have r3 := R.low
  have r4 := R.ahead
  have hgone : (letgo h).gone = G ++ z.chunk := by
    show h.gone ++ h.ahead = _
    rw [g1, r4, List.append_assoc, List.take_append_drop]
  have hpart : ((z.src.drop z.place).take z.dcs).length = min z.dcs (z.src.length - z.place) := by rw [List.length_take, List.length_drop]
  have hdrop : z.src.drop z.place = (z.src.drop z.place).take z.dcs ++ z.src.drop (min (z.place + z.dcs) z.src.length) := by
    have e1 := List.take_append_drop z.dcs (z.src.drop z.place)
    rw [List.drop_drop] at e1
    by_cases q : z.place + z.dcs ≤ z.src.length
    · rw [Nat.min_eq_left q]; exact e1.symm
    · rw [Nat.min_eq_right (by omega), List.drop_length]
      rw [List.drop_eq_nil_of_le (by omega : z.src.length ≤ z.place + z.dcs)] at e1
      exact e1.symm
  have nsd : NoSur (z.buf ++ (z.src.drop z.place).take z.dcs) := by
    intro x hx
    rcases List.mem_append.mp hx with q | q
    · rcases R.buf with e | e <;> rw [e] at q <;> simp at q
      omega
    · exact R.ns x (List.mem_of_mem_drop (List.mem_of_mem_take q))
  have hdl := congrArg List.length hp
  rw [List.length_append, hpart] at hdl
  have hrest : h.rest = piece2 z.dcs h ++ z.src.drop (min (z.place + z.dcs) z.src.length) := by
    rw [hp, List.append_assoc, ← hdrop]; exact r1
  have hpc : colOf z.chunk z.pc = colOf (G ++ z.chunk) 0 := by rw [g3, colOf_append]
  have hpn : z.pl + z.chunk.count 10 = (G ++ z.chunk).count 10 := by rw [g2, List.count_append]
  rw [← hp] at nsd
  unfold fill2
  rw [hpl]
  unfold rdc
  simp only [← hp]
  by_cases hemp : piece2 z.dcs h = []
  · rw [if_pos hemp]
    rw [hemp] at hdl hrest
    simp only [List.length_nil] at hdl
    have hb : z.buf = [] := List.length_eq_zero_iff.mp (by omega)
    have hpl' : min (z.place + z.dcs) z.src.length = z.place := by omega
    refine ⟨by rw [hemp]; rfl, ⟨R.ns, Nat.min_le_right _ _, ?_, ?_, .inl rfl, ?_, Nat.zero_le _, rfl, ⟨G ++ z.chunk, ?_, hpn, hpc⟩, ⟨h.done, ?_⟩, ?_, ?_⟩, by simp, fun _ => ⟨?_, fun hd => ?_⟩⟩
    · show h.rest.drop (cut2 (piece2 z.dcs h)) = [] ++ z.src.drop (min (z.place + z.dcs) z.src.length)
      rw [hemp]; exact hrest
    · show (piece2 z.dcs h).length - _ = 0
      rw [hemp]; rfl
    · show [] ++ mend none ((piece2 z.dcs h).take _) = ([] : List Nat).drop 0
      rw [hemp]; rfl
    · show (letgo h).gone = _
      rw [hgone]; simp
    · show h.done = _
      simp
    · show z.errs = h.errs + _
      rw [R.errs, hemp]; rfl
    · show z.errs + 0 ≤ min (z.place + z.dcs) z.src.length
      omega
    · show [] ++ mend none ((piece2 z.dcs h).take _) = []
      rw [hemp]; rfl
    · show h.rest.drop (cut2 (piece2 z.dcs h)) = []
      rw [hemp, hrest, List.nil_append, hpl']
      show z.src.drop z.place = []
      exact List.drop_eq_nil_of_le (by omega)
  · rw [if_neg hemp]
    obtain ⟨c1, c2, c3⟩ := cut2_eq nsd
    have hc := cut2_le (piece2 z.dcs h)
    have hc0 := cut2_pos hemp
    have hlen := List.length_pos_iff.mpr hemp
    have hheld : (heldD (piece2 z.dcs h)).length = (piece2 z.dcs h).length - cut2 (piece2 z.dcs h) := by rw [c2, List.length_drop]
    refine ⟨(decide_eq_true hlen).symm, ⟨R.ns, Nat.min_le_right _ _, ?_, hheld.symm, by show heldD _ = [] ∨ heldD _ = [13]; rw [c2]; exact c3, ?_, Nat.zero_le _, rfl, ⟨G ++ z.chunk, ?_, hpn, hpc⟩, ⟨h.done, ?_⟩, ?_, ?_⟩, fun _ => ⟨?_, rfl, ?_⟩, by simp⟩
    · show h.rest.drop _ = heldD _ ++ z.src.drop (min (z.place + z.dcs) z.src.length)
      rw [c2, hrest, List.drop_append_of_le_length hc]
    · show [] ++ mend none _ = (norm (cutD _)).drop 0
      rw [mend_norm, c1]; rfl
    · show (letgo h).gone = _
      rw [hgone]; simp
    · show h.done = _
      simp
    · show z.errs + (cutD _).countP faulty = h.errs + _
      rw [c1, R.errs]
    · show z.errs + (cutD _).countP faulty + (heldD _).length ≤ min (z.place + z.dcs) z.src.length
      have : (cutD (piece2 z.dcs h)).countP faulty ≤ cut2 (piece2 z.dcs h) := by
        rw [c1]
        refine Nat.le_trans List.countP_le_length ?_
        rw [List.length_take]; omega
      omega
    · show norm (cutD _) ≠ []
      rw [c1, ← mend_norm]
      intro q
      have := congrArg List.length (mend_nil q)
      rw [List.length_take, List.length_nil, Nat.min_eq_left hc] at this
      omega
    · show (heldD (piece2 z.dcs h)).length + (z.src.length - min (z.place + z.dcs) z.src.length) < z.buf.length + (z.src.length - z.place)
      rw [hheld]
      clear g1 g2 g3 hpn hpc r1 r4 hgone hdrop hrest hp hpl hheld c1 c2 c3 r3
      omega
theorem letgo_nil {h : H2} (e : h.ahead = []) : letgo h = h := by
  obtain ⟨a, b, c, d, f, g, i⟩ := h
  simp only at e
  subst e
  show (⟨a, [], c, d ++ [], f, g, i⟩ : H2) = _
  rw [List.append_nil]
theorem r2_pass {z : SS} {h : H2} {g r : List Nat} (R : R2 z h) (e : h.ahead = g ++ r) : R2 { z with off := z.off + g.length } (passA h g r) := by
  have ea := R.ahead
  rw [e] at ea
  have ht : z.chunk.take (z.off + g.length) = z.chunk.take z.off ++ g := by
    rw [List.take_add, ← ea, List.take_left']
    rfl
  have hl := congrArg List.length ea
  rw [List.length_append, List.length_drop] at hl
  have ho := R.off
  obtain ⟨G, g1, g2, g3⟩ := R.gone
  obtain ⟨D, d1⟩ := R.done
  refine ⟨R.ns, R.place, R.rest, R.held, R.buf, ?_, ?_, ?_, ⟨G, ?_, g2, g3⟩, ⟨D, ?_⟩, R.errs, R.low⟩
  · show r = z.chunk.drop (z.off + g.length)
    rw [← List.drop_drop, ← ea, List.drop_left']
    rfl
  · show z.off + g.length ≤ z.chunk.length
    omega
  · show h.snc + g.length = z.off + g.length
    rw [R.snc]
  · show h.gone ++ g = G ++ z.chunk.take (z.off + g.length)
    rw [g1, ht, List.append_assoc]
  · show h.done ++ g = D ++ z.chunk.take (z.off + g.length)
    rw [d1, ht, List.append_assoc]
theorem r2_back {z : SS} {h : H2} {d : List Nat} {x : Nat} (R : R2 z h) (hd : h.done = d ++ [x]) : (z.off = 0 ∨ z.chunk[z.off - 1]? = some x) ∧ (0 < h.snc → h.gone ≠ []) ∧ R2 (ung z x) (back2 h d x) := by
  obtain ⟨G, g1, g2, g3⟩ := R.gone
  obtain ⟨D, d1⟩ := R.done
  have hs2 := R.snc
  have ho := R.off
  by_cases h0 : z.off = 0
  · refine ⟨.inl h0, fun q => by omega, ?_⟩
    unfold ung back2
    rw [if_pos h0, if_neg (by omega)]
    refine ⟨R.ns, R.place, R.rest, R.held, R.buf, ?_, ?_, hs2, ⟨G, ?_, g2, g3⟩, ⟨d, ?_⟩, R.errs, R.low⟩
    · show x :: h.ahead = (x :: z.chunk).drop z.off
      rw [R.ahead, h0]; rfl
    · show z.off ≤ (x :: z.chunk).length
      omega
    · show h.gone = G ++ (x :: z.chunk).take z.off
      rw [g1, h0]; rfl
    · show d = d ++ (x :: z.chunk).take z.off
      rw [h0]; simp
  · obtain ⟨n, hn⟩ : ∃ n, z.off = n + 1 := ⟨z.off - 1, by omega⟩
    have hlt : n < z.chunk.length := by omega
    have ht : z.chunk.take (n + 1) = z.chunk.take n ++ [z.chunk[n]] := by
      rw [List.take_succ, List.getElem?_eq_getElem hlt]; rfl
    rw [hn, ht, ← List.append_assoc] at g1 d1
    rw [hd] at d1
    obtain ⟨q1, q2⟩ := List.append_inj' d1 rfl
    have hx : x = z.chunk[n] := by simpa using q2
    refine ⟨.inr ?_, fun _ q => by rw [g1] at q; simp at q; rw [q.2] at hlt; simp at hlt, ?_⟩
    · rw [hn, hx]; exact List.getElem?_eq_getElem hlt
    unfold ung back2
    rw [if_neg h0, if_pos (by omega)]
    refine ⟨R.ns, R.place, R.rest, R.held, R.buf, ?_, ?_, ?_, ⟨G, ?_, g2, g3⟩, ⟨D, ?_⟩, R.errs, R.low⟩
    · show x :: h.ahead = z.chunk.drop (z.off - 1)
      rw [R.ahead, hn, show n + 1 - 1 = n by omega, List.drop_eq_getElem_cons hlt, hx]
    · show z.off - 1 ≤ z.chunk.length
      omega
    · show h.snc - 1 = z.off - 1
      omega
    · show h.gone.dropLast = G ++ z.chunk.take (z.off - 1)
      rw [g1, hn, List.dropLast_concat]; rfl
    · show d = D ++ z.chunk.take (z.off - 1)
      rw [q1, hn]; rfl
theorem r2_pos {z : SS} {h : H2} (R : R2 z h) : z.pl + (z.chunk.take z.off).count 10 = h.gone.count 10 ∧ colOf (z.chunk.take z.off) z.pc = colOf h.gone 0 := by
  obtain ⟨G, g1, g2, g3⟩ := R.gone
  rw [g1, g2, g3, List.count_append, colOf_append]
  exact ⟨rfl, rfl⟩
theorem ung_dcs (z : SS) (x : Nat) : (ung z x).dcs = z.dcs := by unfold ung; split <;> rfl
theorem ung_src (z : SS) (x : Nat) : (ung z x).src = z.src := by unfold ung; split <;> rfl
theorem chr1_dcs (z : SS) : (chr1 z).2.dcs = z.dcs := by
  unfold chr1
  split
  · rfl
  · split
    · exact rdc_dcs z
    · exact rdc_dcs z
theorem chr1_src (z : SS) : (chr1 z).2.src = z.src := by
  unfold chr1
  split
  · rfl
  · split
    · exact rdc_src z
    · exact rdc_src z
theorem r2_top {z : SS} {h : H2} (R : R2 z h) (e : h.ahead = []) : (rdc z).1 = decide (0 < (piece2 z.dcs h).length) ∧ R2 (rdc z).2 (fill2 z.dcs h) ∧ ((rdc z).1 = true → (rdc z).2.chunk ≠ [] ∧ (rdc z).2.off = 0 ∧ (rdc z).2.buf.length + (z.src.length - (rdc z).2.place) < z.buf.length + (z.src.length - z.place)) ∧
      ((rdc z).1 = false → (fill2 z.dcs h).ahead = [] ∧ (1 ≤ z.dcs → (fill2 z.dcs h).rest = [])) := by
  have := r2_read R
  rwa [letgo_nil e] at this
theorem r2_char {z : SS} {h : H2} (R : R2 z h) : (chr1 z).1 = (read2 z.dcs h).1 ∧ R2 (chr1 z).2 (read2 z.dcs h).2 := by
  cases ha : h.ahead with
  | cons x r =>
    have ea := R.ahead
    rw [ha] at ea
    have hx : z.chunk[z.off]? = some x := by
      have : (z.chunk.drop z.off)[0]? = some x := by rw [← ea]; rfl
      rwa [List.getElem?_drop] at this
    have et : top2 z.dcs h = h := by unfold top2; rw [if_neg (by rw [ha]; simp)]
    have er : read2 z.dcs h = (some x, passA h [x] r) := by unfold read2; rw [et, ha]
    have ec : chr1 z = (some x, { z with off := z.off + 1 }) := by unfold chr1; rw [hx]
    rw [er, ec]
    exact ⟨rfl, r2_pass (g := [x]) R ha⟩
  | nil =>
    obtain ⟨q1, q2, q3, q4⟩ := r2_top R ha
    have ea := R.ahead
    rw [ha] at ea
    have ho : z.chunk.length ≤ z.off := List.drop_eq_nil_iff.mp ea.symm
    have hx : z.chunk[z.off]? = none := List.getElem?_eq_none ho
    have et : top2 z.dcs h = fill2 z.dcs h := by unfold top2; rw [if_pos ha]
    cases hr : (rdc z).1 with
    | false =>
      have ec : chr1 z = (none, (rdc z).2) := by unfold chr1; rw [hx]; simp only; rw [if_neg (by rw [hr]; simp)]
      have er : read2 z.dcs h = (none, fill2 z.dcs h) := by unfold read2; rw [et, (q4 hr).1]
      rw [er, ec]
      exact ⟨rfl, q2⟩
    | true =>
      obtain ⟨c1, c2, -⟩ := q3 hr
      obtain ⟨x, r, hxr⟩ := List.exists_cons_of_ne_nil c1
      have eb := q2.ahead
      rw [c2, hxr] at eb
      have er : read2 z.dcs h = (some x, passA (fill2 z.dcs h) [x] r) := by unfold read2; rw [et, eb]; rfl
      have ec : chr1 z = (some x, { (rdc z).2 with off := 1 }) := by unfold chr1; rw [hx]; simp only; rw [if_pos hr, hxr]; rfl
      rw [er, ec]
      refine ⟨rfl, ?_⟩
      have := r2_pass (g := [x]) (r := r) q2 (by rw [eb]; rfl)
      rw [c2] at this
      exact this
/-- the hand's run, sign by sign -/
inductive RU (mt : Nat → Bool) (size : Nat) : Nat → H2 → List Nat → H2 → Prop
  | eof {n : Nat} {h : H2} (e : (top2 size h).ahead = []) : RU mt size n h [] (top2 size h)
  | stop {n : Nat} {h : H2} {x : Nat} {r : List Nat} (e : (top2 size h).ahead = x :: r) (hx : mt x = false) : RU mt size n h [] (top2 size h)
  | pass {n : Nat} {h h' : H2} {x : Nat} {r got : List Nat} (e : (top2 size h).ahead = x :: r) (hx : mt x = true) (k : RU mt size n (passA (top2 size h) [x] r) got h') : RU mt size (n + 1) h (x :: got) h'
theorem top2_ne {size : Nat} {h : H2} (e : h.ahead ≠ []) : top2 size h = h := by unfold top2; rw [if_neg e]
theorem passA_passA (h : H2) (a b r : List Nat) (x : List Nat) : passA (passA h a x) b r = passA h (a ++ b) r := by
  unfold passA
  simp only [List.append_assoc, List.length_append, Nat.add_assoc]
theorem ru_all {mt : Nat → Bool} {size : Nat} : ∀ (g : List Nat) {n : Nat} {h h' : H2} {r got : List Nat}, h.ahead = g ++ r → (∀ y ∈ g, mt y = true) → g ≠ [] → RU mt size n (passA h g r) got h' → RU mt size (n + g.length) h (g ++ got) h'
  | [], _, _, _, _, _, _, _, hne, _ => absurd rfl hne
  | [x], n, h, h', r, got, e, hg, _, k => by
    have et : top2 size h = h := top2_ne (by rw [e]; simp)
    exact RU.pass (r := r) (by rw [et, e]; rfl) (hg x (by simp)) (by rw [et]; exact k)
  | x :: y :: g, n, h, h', r, got, e, hg, _, k => by
    have et : top2 size h = h := top2_ne (by rw [e]; simp)
    have ih := ru_all (y :: g) (n := n) (h := passA h [x] (y :: g ++ r)) (h' := h') (r := r) (got := got) rfl (fun z hz => hg z (List.mem_cons_of_mem _ hz)) (by simp) (by rw [passA_passA]; exact k)
    exact RU.pass (r := y :: g ++ r) (by rw [et, e]; rfl) (hg x (by simp)) (by rw [et]; exact ih)
theorem ru_top {mt : Nat → Bool} {size n : Nat} {h h1 h' : H2} {got : List Nat} (e : top2 size h = top2 size h1) (k : RU mt size n h1 got h') : RU mt size n h got h' := by
  cases k with
  | eof q => rw [← e] at q ⊢; exact .eof q
  | stop q hx => rw [← e] at q ⊢; exact .stop q hx
  | pass q hx k => rw [← e] at q k; exact .pass q hx k
theorem passA_nil {h : H2} {r : List Nat} (e : h.ahead = r) : passA h [] r = h := by
  obtain ⟨a, b, c, d, f, g, i⟩ := h
  simp only at e
  subst e
  unfold passA
  simp
theorem ru_glue {mt : Nat → Bool} {size m : Nat} {h h' : H2} {g r got : List Nat} (e : h.ahead = g ++ r) (hg : ∀ y ∈ g, mt y = true) (k : RU mt size m (passA h g r) got h') : RU mt size (m + g.length) h (g ++ got) h' := by
  cases g with
  | nil =>
    rw [passA_nil (by simpa using e)] at k
    simpa using k
  | cons x g => exact ru_all (x :: g) e hg (by simp) k
theorem r2_run {mt : Nat → Bool} : ∀ (n : Nat) {z : SS} {h : H2}, z.buf.length + (z.src.length - z.place) ≤ n → R2 z h →
    ∃ j m res z2 h2, j ≤ n ∧ CU mt j z res z2 ∧ RU mt z.dcs m h res h2 ∧ R2 z2 h2 ∧ z2.dcs = z.dcs ∧ z2.src = z.src := by
  intro n
  induction n with
  | zero =>
    intro z h hn R
    have ea := R.ahead
    rcases rest_split mt (z.chunk.drop z.off) with hall | ⟨g, x, r, e, hg, hx⟩
    · rw [← ea] at hall
      have R1 := r2_pass (g := h.ahead) (r := []) R (by simp)
      obtain ⟨q1, q2, q3, q4⟩ := r2_top R1 rfl
      rw [rdc_off] at q1 q2 q3 q4
      cases hr : (rdc z).1 with
      | true =>
        have := (q3 hr).2.2
        simp only at this
        omega
      | false =>
        have et : top2 z.dcs (passA h h.ahead []) = fill2 z.dcs (passA h h.ahead []) := by unfold top2; exact if_pos rfl
        have hru := ru_glue (h := h) (g := h.ahead) (size := z.dcs) (m := 0) (r := []) (got := []) (by simp) hall (RU.eof (n := 0) (by rw [et]; exact (q4 hr).1))
        rw [et, List.append_nil] at hru
        exact ⟨0, _, h.ahead, _, _, Nat.le_refl _, by rw [ea] at hall ⊢; exact .eof hall hr, hru, q2, rdc_dcs z, rdc_src z⟩
    · have eh : h.ahead = g ++ x :: r := by rw [ea]; exact e
      have R1 := r2_pass R eh
      have et : top2 z.dcs (passA h g (x :: r)) = passA h g (x :: r) := top2_ne (by simp [passA])
      have hru := ru_glue (size := z.dcs) (m := 0) (got := []) eh hg (RU.stop (n := 0) (x := x) (r := r) (by rw [et]; rfl) hx)
      rw [et, List.append_nil] at hru
      exact ⟨0, _, g, _, _, Nat.le_refl _, .stop e hg hx, hru, R1, rfl, rfl⟩
  | succ n ih =>
    intro z h hn R
    have ea := R.ahead
    rcases rest_split mt (z.chunk.drop z.off) with hall | ⟨g, x, r, e, hg, hx⟩
    · rw [← ea] at hall
      have R1 := r2_pass (g := h.ahead) (r := []) R (by simp)
      obtain ⟨q1, q2, q3, q4⟩ := r2_top R1 rfl
      rw [rdc_off] at q1 q2 q3 q4
      have et : top2 z.dcs (passA h h.ahead []) = fill2 z.dcs (passA h h.ahead []) := by unfold top2; exact if_pos rfl
      cases hr : (rdc z).1 with
      | true =>
        obtain ⟨c1, c2, c3⟩ := q3 hr
        simp only at c3
        obtain ⟨j, m, t, z2, h2, hj, cu, ru, R2', d2, s2⟩ := ih (by rw [rdc_src]; omega) q2
        rw [rdc_dcs] at ru d2
        rw [rdc_src] at s2
        have et2 : top2 z.dcs (fill2 z.dcs (passA h h.ahead [])) = fill2 z.dcs (passA h h.ahead []) := top2_ne (by
          have eb := q2.ahead
          rw [c2] at eb
          rw [eb]
          exact c1)
        have ru1 := ru_top (h := passA h h.ahead []) (et.trans et2.symm) ru
        have hru := ru_glue (h := h) (g := h.ahead) (size := z.dcs) (r := []) (by simp) hall ru1
        exact ⟨j + 1, _, h.ahead ++ t, z2, h2, Nat.succ_le_succ hj, by rw [ea] at hall ⊢; exact .more hall hr cu, hru, R2', d2, s2⟩
      | false =>
        have hru := ru_glue (h := h) (g := h.ahead) (size := z.dcs) (m := 0) (r := []) (got := []) (by simp) hall (RU.eof (n := 0) (by rw [et]; exact (q4 hr).1))
        rw [et, List.append_nil] at hru
        exact ⟨0, _, h.ahead, _, _, Nat.zero_le _, by rw [ea] at hall ⊢; exact .eof hall hr, hru, q2, rdc_dcs z, rdc_src z⟩
    · have eh : h.ahead = g ++ x :: r := by rw [ea]; exact e
      have R1 := r2_pass R eh
      have et : top2 z.dcs (passA h g (x :: r)) = passA h g (x :: r) := top2_ne (by simp [passA])
      have hru := ru_glue (size := z.dcs) (m := 0) (got := []) eh hg (RU.stop (n := 0) (x := x) (r := r) (by rw [et]; rfl) hx)
      rw [et, List.append_nil] at hru
      exact ⟨0, _, g, _, _, Nat.zero_le _, .stop e hg hx, hru, R1, rfl, rfl⟩
/-- a stream just made over a text -/
theorem r2_start {src : List Nat} (ns : NoSur src) (k : Nat) : R2 ⟨src, 0, [], 0, 0, 0, 0, [], k⟩ (anew2 src) :=
  ⟨ns, Nat.zero_le _, rfl, rfl, .inl rfl, rfl, Nat.le_refl _, rfl, ⟨[], rfl, rfl, rfl⟩, ⟨[], rfl⟩, rfl, Nat.le_refl _⟩
noncomputable def zres (z : SS) : SS := { z with chunk := [], off := 0, errs := 0, pl := 0, pc := 0, buf := [] }
/-- begun anew over what the source still holds -/
theorem r2_reset {z : SS} {h : H2} (R : R2 z h) : R2 (zres z) (anew2 (h.rest.drop h.held)) := by
  have e : h.rest.drop h.held = z.src.drop z.place := by rw [R.rest, R.held, List.drop_left']; rfl
  rw [e]
  exact ⟨R.ns, R.place, rfl, rfl, .inl rfl, rfl, Nat.le_refl _, rfl, ⟨[], rfl, rfl, rfl⟩, ⟨[], rfl⟩, rfl, Nat.zero_le _⟩
/-- signs taken out of the source -/
theorem r2_take {z : SS} {h : H2} (R : R2 z h) (k : Nat) : (h.rest.drop h.held).take k = (z.src.drop z.place).take k ∧ R2 { z with place := min (z.place + k) z.src.length } { h with rest := h.rest.take h.held ++ h.rest.drop (h.held + k) } := by
  have e : h.rest.drop h.held = z.src.drop z.place := by rw [R.rest, R.held, List.drop_left']; rfl
  have e1 : h.rest.take h.held = z.buf := by rw [R.rest, R.held, List.take_left']; rfl
  have e2 : h.rest.drop (h.held + k) = z.src.drop (min (z.place + k) z.src.length) := by
    rw [← List.drop_drop, e, List.drop_drop]
    by_cases q : z.place + k ≤ z.src.length
    · rw [Nat.min_eq_left q]
    · rw [Nat.min_eq_right (by omega), List.drop_length, List.drop_eq_nil_of_le (by omega)]
  have hl := R.low
  have hp := R.place
  refine ⟨by rw [e], R.ns, Nat.min_le_right _ _, ?_, R.held, R.buf, R.ahead, R.off, R.snc, R.gone, R.done, R.errs, ?_⟩
  · show h.rest.take h.held ++ h.rest.drop (h.held + k) = z.buf ++ z.src.drop (min (z.place + k) z.src.length)
    rw [e1, e2]
  · show z.errs + z.buf.length ≤ min (z.place + k) z.src.length
    omega
/-- how long the hand's lists may be -/
structure S2 (j : Nat) (h : H2) : Prop where
  dn : h.done.length + h.rest.length + h.ahead.length ≤ 40
  gn : h.gone.length + h.rest.length + h.ahead.length ≤ 40 + j
  sn : h.snc ≤ h.done.length
  er : h.errs + h.rest.length ≤ 40
  hd : h.held ≤ 1
  ns : NoSur h.rest
theorem s2_anew {l : List Nat} (hl : l.length ≤ 40) (ns : NoSur l) (j : Nat) : S2 j (anew2 l) := ⟨by simp [anew2]; exact hl, by simp [anew2]; omega, Nat.le_refl _, by simp [anew2]; exact hl, by simp [anew2], ns⟩
theorem S2.le {j k : Nat} {h : H2} (S : S2 j h) (hj : j ≤ k) : S2 k h := ⟨S.dn, Nat.le_trans S.gn (by omega), S.sn, S.er, S.hd, S.ns⟩
theorem s2_fill {j size : Nat} {h : H2} (S : S2 j h) : S2 j (fill2 size h) := by
  have hc := cut2_le (piece2 size h)
  have hp : (piece2 size h).length ≤ h.rest.length := by unfold piece2; rw [List.length_take]; omega
  have hm := mend_le ((piece2 size h).take (cut2 (piece2 size h))) none
  have hq : ((piece2 size h).take (cut2 (piece2 size h))).countP faulty ≤ _ := List.countP_le_length
  rw [List.length_take, Nat.min_eq_left hc] at hm hq
  have h1 := S.dn
  have h2 := S.gn
  have h3 := S.er
  unfold fill2
  refine ⟨?_, ?_, Nat.zero_le _, ?_, ?_, fun x hx => S.ns x (List.mem_of_mem_drop hx)⟩
  · show h.done.length + (h.rest.drop _).length + (h.ahead ++ _).length ≤ 40
    rw [List.length_append, List.length_drop]; omega
  · show h.gone.length + (h.rest.drop _).length + (h.ahead ++ _).length ≤ 40 + j
    rw [List.length_append, List.length_drop]; omega
  · show h.errs + _ + (h.rest.drop _).length ≤ 40
    rw [List.length_drop]; omega
  · show (piece2 size h).length - cut2 (piece2 size h) ≤ 1
    unfold cut2; split <;> omega
theorem s2_top {j size : Nat} {h : H2} (S : S2 j h) : S2 j (top2 size h) := by
  unfold top2; split
  · exact s2_fill S
  · exact S
theorem s2_pass {j : Nat} {h : H2} {g r : List Nat} (S : S2 j h) (e : h.ahead = g ++ r) : S2 j (passA h g r) := by
  have h1 := S.dn
  have h2 := S.gn
  have h3 := S.sn
  rw [e, List.length_append] at h1 h2
  refine ⟨?_, ?_, ?_, S.er, S.hd, S.ns⟩
  · show (h.done ++ g).length + h.rest.length + r.length ≤ 40
    rw [List.length_append]; omega
  · show (h.gone ++ g).length + h.rest.length + r.length ≤ 40 + j
    rw [List.length_append]; omega
  · show h.snc + g.length ≤ (h.done ++ g).length
    rw [List.length_append]; omega
theorem s2_read {j size : Nat} {h : H2} (S : S2 j h) : S2 j (read2 size h).2 := by
  unfold read2
  split
  · exact s2_top S
  · rename_i x r e
    exact s2_pass (g := [x]) (s2_top S) e
theorem s2_letgo {j : Nat} {h : H2} (S : S2 j h) : S2 j (letgo h) := by
  have h1 := S.dn
  have h2 := S.gn
  refine ⟨?_, ?_, S.sn, S.er, S.hd, S.ns⟩
  · show h.done.length + h.rest.length + 0 ≤ 40
    omega
  · show (h.gone ++ h.ahead).length + h.rest.length + 0 ≤ 40 + j
    rw [List.length_append]; omega
theorem s2_take {j k : Nat} {h : H2} (S : S2 j h) : S2 j { h with rest := h.rest.take h.held ++ h.rest.drop (h.held + k) } := by
  have h1 := S.dn
  have h2 := S.gn
  have h3 := S.er
  have hl : (h.rest.take h.held ++ h.rest.drop (h.held + k)).length ≤ h.rest.length := by rw [List.length_append, List.length_take, List.length_drop]; omega
  refine ⟨?_, ?_, S.sn, ?_, S.hd, fun x hx => ?_⟩
  · show h.done.length + (h.rest.take h.held ++ h.rest.drop (h.held + k)).length + h.ahead.length ≤ 40
    omega
  · show h.gone.length + (h.rest.take h.held ++ h.rest.drop (h.held + k)).length + h.ahead.length ≤ 40 + j
    omega
  · show h.errs + (h.rest.take h.held ++ h.rest.drop (h.held + k)).length ≤ 40
    omega
  · rcases List.mem_append.mp hx with q | q
    · exact S.ns x (List.mem_of_mem_take q)
    · exact S.ns x (List.mem_of_mem_drop q)
theorem s2_back {j : Nat} {h : H2} {d : List Nat} {x : Nat} (S : S2 j h) (e : h.done = d ++ [x]) (hg : 0 < h.snc → h.gone ≠ []) : S2 (j + 1) (back2 h d x) := by
  have h1 := S.dn
  have h2 := S.gn
  have h3 := S.sn
  rw [e, List.length_append, List.length_singleton] at h1 h3
  unfold back2
  split
  · rename_i q
    have := List.length_pos_iff.mpr (hg q)
    refine ⟨?_, ?_, ?_, S.er, S.hd, S.ns⟩
    · show d.length + h.rest.length + (x :: h.ahead).length ≤ 40
      rw [List.length_cons]; omega
    · show h.gone.dropLast.length + h.rest.length + (x :: h.ahead).length ≤ 40 + (j + 1)
      rw [List.length_cons, List.length_dropLast]; omega
    · show h.snc - 1 ≤ d.length
      omega
  · refine ⟨?_, ?_, ?_, S.er, S.hd, S.ns⟩
    · show d.length + h.rest.length + (x :: h.ahead).length ≤ 40
      rw [List.length_cons]; omega
    · show h.gone.length + h.rest.length + (x :: h.ahead).length ≤ 40 + (j + 1)
      rw [List.length_cons]; omega
    · show h.snc ≤ d.length
      omega
/-- nothing in the piece, nothing ahead -/
theorem fill2_nil {size : Nat} {h : H2} (e : h.ahead = []) : (fill2 size h).ahead = [] ↔ ¬ 0 < (piece2 size h).length := by
  show h.ahead ++ mend none _ = [] ↔ _
  rw [e, List.nil_append]
  constructor
  · intro q hl
    have hne : piece2 size h ≠ [] := List.length_pos_iff.mp hl
    have hc := cut2_pos hne
    have := congrArg List.length (mend_nil q)
    rw [List.length_take, Nat.min_eq_left (cut2_le _), List.length_nil] at this
    omega
  · intro hl
    have : piece2 size h = [] := List.length_eq_zero_iff.mp (by omega)
    rw [this]; rfl
theorem s2_run {mt : Nat → Bool} {size n j : Nat} {h h2 : H2} {got : List Nat} (S : S2 j h) (k : RU mt size n h got h2) : S2 j h2 := by
  induction k with
  | eof e => exact s2_top S
  | stop e hx => exact s2_top S
  | pass e hx k ih => exact ih (s2_pass (g := [_]) (s2_top S) e)
theorem top2_done (size : Nat) (h : H2) : (top2 size h).done = h.done := by unfold top2; split <;> rfl
theorem ru_done {mt : Nat → Bool} {size n : Nat} {h h2 : H2} {got : List Nat} (k : RU mt size n h got h2) : h2.done = h.done ++ got := by
  induction k with
  | eof e => rw [top2_done]; simp
  | stop e hx => rw [top2_done]; simp
  | pass e hx k ih =>
    rw [ih]
    show (top2 size _).done ++ [_] ++ _ = _
    rw [top2_done]; simp
theorem ru_len {mt : Nat → Bool} {size n j : Nat} {h h2 : H2} {got : List Nat} (S : S2 j h) (k : RU mt size n h got h2) : got.length ≤ 40 := by
  have h1 := (s2_run S k).dn
  rw [ru_done k, List.length_append] at h1
  omega
theorem r2_good {j : Nat} {z : SS} {h : H2} (R : R2 z h) (S : S2 j h) (hs : z.src.length ≤ 100) (hd : z.dcs ≤ 100) : Good z := by
  have h1 := S.dn
  have h2 := R.off
  have h3 : z.chunk.length ≤ 40 := by
    obtain ⟨D, d1⟩ := R.done
    have e1 := congrArg List.length d1
    have e2 := congrArg List.length R.ahead
    rw [List.length_append, List.length_take] at e1
    rw [List.length_drop] at e2
    omega
  have h4 : z.buf.length ≤ 1 := by rcases R.buf with e | e <;> rw [e] <;> simp
  exact ⟨by omega, R.place, by omega, R.low, h4, by omega, h2⟩
local macro_rules | `(tactic| kat_tups) => `(tactic| with_reducible (first
  | exact PL2.SIGNS | exact PL2.ROWS | exact PL2.sign | exact PL2.faulty | exact PL2.anew | exact PL2.fill | exact PL2.pass_ | exact PL2.read | exact PL2.run | exact PL2.back | exact PL2.right | exact PL2.stream | exact PL2.g_chr | exact PL2.g_min | exact PL2.g_range))
local macro_rules | `(tactic| kqd_sub) => `(tactic| ((with_reducible show keepIn _ _ = true); first | exact PL2.k_SIGNS | exact PL2.k_sign | exact PL2.k_faulty | exact PL2.k_anew | exact PL2.k_fill | exact PL2.k_pass_ | exact PL2.k_read | exact PL2.k_run | exact PL2.k_back | exact PL2.k_right))
local macro_rules | `(tactic| kcf_m) => `(tactic| first | exact lit_a | exact lit_b | exact lit_amp | exact lit_us | exact lit_ab)
local macro_rules | `(tactic| kcj_in) => `(tactic| first | ((with_reducible refine' B_fdiv ?h ?h2); (case h => decide); (case h2 => decide +kernel)))
local macro_rules | `(tactic| kcf_all) => `(tactic| first
  | ((with_reducible show PE _ _ _ _ _ (.IfExp _ _ _ _) _); refine' PE_ifexpI ?h ?h1 ?h2; (case h => kd_in); (case h1 => kcf_all); (case h2 => kcf_all))
  | ((with_reducible show PE _ _ _ _ _ (.IfExp _ _ _ _) _); refine' PE_ifexpS ?h ?h1 ?h2; (case h => kd_in); (case h1 => kcf_all); (case h2 => kcf_all))
  | ((with_reducible show PE _ _ _ _ _ (.Call (.Name (Str.ofString "chr") _) _ _ _) _); refine' PE_chr ?hg ?hx ?h ?h0 ?h1 PL2.g_chr; (case hg => assumption); (case hx => kba_ints); (case h => kcf_all); (case h0 => first | assumption | omega); (case h1 => first | assumption | omega))
  | ((with_reducible show PE _ _ _ _ _ (.Call (.Name (Str.ofString "min") _) _ _ _) _); refine' PE_min ?hg ?hx ?h ?h2 PL2.g_min; (case hg => assumption); (case hx => kba_ints); (case h => kcf_all); (case h2 => kcf_all))
  | ((with_reducible show PE _ _ _ _ _ (.Call (.Name (Str.ofString "len") _) _ _ _) _); refine' PE_lenL ?hg ?hx ?h ?h2 ?hz PF.g_len; (case hg => assumption); (case hx => kba_ints); (case h => kcf_all); (case h2 => kba_ints); (case hz => kas_types)))
local macro_rules | `(tactic| keq_hits) => `(tactic| first
  | ((with_reducible show Op3 _ _ _ _ (fun a b d => setItem a b d) (.ref _) (.int 0 _) _ _ _); refine' O_setL (n := 0) ?h1 ?h2 ?h3 ?h4 ?q; (case h1 => kba_ints); (case h2 => kas_types); (case h3 => kas_types); (case h4 => kbo_bools))
  | ((with_reducible show Op3 _ _ _ _ (fun a b d => setItem a b d) (.ref _) (.int 1 _) _ _ _); refine' O_setL (n := 1) ?h1 ?h2 ?h3 ?h4 ?q; (case h1 => kba_ints); (case h2 => kas_types); (case h3 => kas_types); (case h4 => kbo_bools))
  | ((with_reducible show Op3 _ _ _ _ (fun a b d => setItem a b d) (.ref _) (.int 2 _) _ _ _); refine' O_setL (n := 2) ?h1 ?h2 ?h3 ?h4 ?q; (case h1 => kba_ints); (case h2 => kas_types); (case h3 => kas_types); (case h4 => kbo_bools)))
local macro_rules | `(tactic| kcj_in) => `(tactic| first
  | ((with_reducible show Op2 _ _ _ _ (subscriptTail _ _) (.ref _) (.int 0 _) _ _); refine' S_list ?h ?h0 ?hz ?he; (case h => kba_ints); (case h0 => decide); (case hz => kas_types); (case he => rfl))
  | ((with_reducible show Op2 _ _ _ _ (subscriptTail _ _) (.ref _) (.int 1 _) _ _); refine' S_list ?h ?h0 ?hz ?he; (case h => kba_ints); (case h0 => decide); (case hz => kas_types); (case he => rfl))
  | ((with_reducible show Op2 _ _ _ _ (subscriptTail _ _) (.ref _) (.int 2 _) _ _); refine' S_list ?h ?h0 ?hz ?he; (case h => kba_ints); (case h0 => decide); (case hz => kas_types); (case he => rfl)))
local macro_rules | `(tactic| kcj_in) => `(tactic| ((with_reducible show Op2 _ _ _ _ (subscriptTail _ _) (.str _ _) (.int _ _) _ _); refine' G_strI ?h ?hy ?hz; (case h => assumption); (case hy => omega); (case hz => kas_types)))
local macro_rules | `(tactic| kcj_in) => `(tactic| first
  | ((with_reducible show Op2 _ _ _ _ getItem (.ref _) (.int 0 _) _ _); refine' G_list ?h ?h0 ?hz ?he; (case h => kba_ints); (case h0 => decide); (case hz => kas_types); (case he => rfl))
  | ((with_reducible show Op2 _ _ _ _ getItem (.ref _) (.int 1 _) _ _); refine' G_list ?h ?h0 ?hz ?he; (case h => kba_ints); (case h0 => decide); (case hz => kas_types); (case he => rfl))
  | ((with_reducible show Op2 _ _ _ _ getItem (.ref _) (.int 2 _) _ _); refine' G_list ?h ?h0 ?hz ?he; (case h => kba_ints); (case h0 => decide); (case hz => kas_types); (case he => rfl)))
local macro_rules | `(tactic| kcj_in) => `(tactic| ((with_reducible show Op2 _ _ _ _ (subscriptTail _ _) (.ref _) (.int (-1) _) _ _); refine' S_list_last ?h ?hz; (case h => kba_ints); (case hz => kas_types)))
local macro_rules | `(tactic| kcf_all) => `(tactic| ((with_reducible show PE _ _ _ _ _ (.UnaryOp .Not _ _) _); refine' PE_notv ?h1 ?h2; (case h1 => kcf_all); (case h2 => kcj_in)))
local macro_rules | `(tactic| kcj_in) => `(tactic| ((with_reducible show Op2 _ _ _ _ (subscriptTail _ _) (.ref _) (.int _ _) _ _); refine' S_tupS (.inl ?h) ?h0 ?h1 ?hk ?he; (case h => kba_ints); (case h0 => decide); (case h1 => decide); (case hk => rfl); (case he => rfl)))
/- ## the second law's own functions -/
noncomputable def signs : List (List Nat) := [[97], [13], [10], [98], [13, 10], [38], [31]]
theorem signs_spec {c : Cx} (hK : c.K = heapW c.w.params) [pf : PF c] [pl : PL2 c] {A : Around} {cs : List Chunk} (hne : cs ≠ []) :
    CodeV c A 2 cs (.ref 142) [] (fun v cs' => ∃ t, v = .ref t ∧ cs' = (t, .list (signs.map strV)) :: cs) := by
  refine K_fn (k := 1) (by rw [hK]; k_is) (by rw [hK]; k_is) [] [] [] [] (fun s vs _ h => by refine bnd0 h ?_; exact .of_eq rfl) rfl (by decide) (by decide) (by decide) (by decide) rfl rfl rfl hne ?_
  intro i hg
  conv => arg 6; whnf
  simp only [locals0, List.zip_cons_cons, List.zip_nil_right, List.map_cons, List.map_nil, List.append_nil, List.cons_append, List.nil_append]
  keq_rows
  exact ⟨by simp, fun t => ⟨t, rfl, rfl⟩⟩
/-- the sign of a number -/
noncomputable def signL (n : Int) : List Nat :=
  if n.fmod 8 < 7 then signs.getD (n.fmod 8).toNat []
  else let p := (n.fdiv 8).fmod 1112064; [(if p < 55296 then p else p + 2048).toNat]
theorem sign_spec {c : Cx} (hK : c.K = heapW c.w.params) [pf : PF c] [pl : PL2 c] {A : Around} {n : Int} {cs : List Chunk} (hne : cs ≠ []) :
    CodeV c A 3 cs (.ref 153) [.int n 0] (fun v cs' => v = strV (signL n) ∧ cs' = cs) := by
  refine K_fn (k := 2) (by rw [hK]; k_is) (by rw [hK]; k_is) ["n"] ["point"] ["_law_SIGNS", "chr"] [] (fun s vs _ h => by refine bnd1 h fun a => ?_; exact .of_eq rfl) rfl (by decide) (by decide) (by decide) (by decide) rfl rfl rfl hne ?_
  intro i hg
  conv => arg 6; whnf
  simp only [locals0, List.zip_cons_cons, List.zip_nil_right, List.map_cons, List.map_nil, List.append_nil, List.cons_append, List.nil_append]
  have h0 : 0 ≤ n.fmod 8 := Int.fmod_nonneg_of_pos _ (by decide)
  keq_rows
  kpf_c
  refine ⟨fun e => ?_, fun e => ?_⟩
  · have e1 : n.fmod 8 < 7 := of_decide_eq_true e
    keq_rows
    refine EV.drop (EV_sub (EV_callK0' ?_ PL2.k_SIGNS ((signs_spec hK hne).mono ?_)))
    · kcf_all
    rintro v cs' ⟨t, rfl, rfl⟩
    keq_hits
    have hv : (signs.map strV)[(n.fmod 8).toNat]? = some (strV (signL n)) := by
      unfold signL
      rw [if_pos e1, List.getElem?_map]
      have h7 : (n.fmod 8).toNat < signs.length := by show _ < 7; omega
      simp [List.getD, h7]
    refine Op2.is (S_list (by kba_ints) h0 (by decide) hv) ?_
    refine ⟨_, _, .head, ?_⟩
    keq_rows
    exact ⟨rfl, rfl⟩
  · have e1 : ¬ n.fmod 8 < 7 := of_decide_eq_false e
    have b0 : 0 ≤ (n.fdiv 8).fmod 1112064 := Int.fmod_nonneg_of_pos _ (by decide)
    have b1 : (n.fdiv 8).fmod 1112064 < 1112064 := Int.fmod_lt_of_pos _ (by decide)
    have c0 : 0 ≤ (if decide ((n.fdiv 8).fmod 1112064 < 55296) = true then (n.fdiv 8).fmod 1112064 else (n.fdiv 8).fmod 1112064 + 2048) := by split <;> omega
    have c1 : (if decide ((n.fdiv 8).fmod 1112064 < 55296) = true then (n.fdiv 8).fmod 1112064 else (n.fdiv 8).fmod 1112064 + 2048) ≤ 0x10FFFF := by split <;> omega
    keq_rows
    refine ⟨?_, rfl⟩
    unfold signL
    rw [if_neg e1]
    simp only [decide_eq_true_eq]
    rfl
theorem faulty_low2 (n : Nat) (h : n < 160) : ((decide ((126 : Int) < n)) || ((decide ((0 : Int) < n) && decide ((n : Int) < 32)) && (!([9, 10, 12, 13].any (· == (n : Int)))))) = faulty n := by
  have : ∀ m : Nat, m < 160 → ((decide ((126 : Int) < m)) || ((decide ((0 : Int) < m) && decide ((m : Int) < 32)) && (!([9, 10, 12, 13].any (· == (m : Int)))))) = faulty m := by decide +kernel
  exact this n h
theorem faulty_high2 (n : Nat) (e3 : (n : Int).fmod 65536 = (n % 65536 : Nat)) (h : ¬ n < 160) (hs : n < 55296 ∨ 57343 < n) :
    ((decide ((64976 : Int) ≤ n) && decide ((n : Int) < 65008)) || decide ((65533 : Int) < (n : Int).fmod 65536)) = faulty n := by
  unfold faulty faultyI
  have a1 : decide ((n : Int) ≤ 8) = false := decide_eq_false (by omega)
  have a2 : ((n : Int) == 11) = false := beq_eq_false_iff_ne.mpr (by omega)
  have a3 : decide ((n : Int) ≤ 31) = false := decide_eq_false (by omega)
  have a4 : decide ((n : Int) ≤ 159) = false := decide_eq_false (by omega)
  have a5 : decide ((n : Int) ≤ 65007) = decide ((n : Int) < 65008) := decide_eq_decide.mpr ⟨fun q => by omega, fun q => by omega⟩
  have a6 : (decide (55296 ≤ (n : Int)) && decide ((n : Int) ≤ 57343)) = false := by
    rcases hs with hs | hs
    · rw [decide_eq_false (show ¬ (55296 : Int) ≤ n by omega)]; rfl
    · rw [decide_eq_false (show ¬ (n : Int) ≤ 57343 by omega), Bool.and_false]
  have a7 : [65534, 65535].any (· == (n : Int).fmod 65536) = decide ((65533 : Int) < (n : Int).fmod 65536) := by
    rw [e3]
    have hm : n % 65536 < 65536 := Nat.mod_lt _ (by decide)
    generalize n % 65536 = m at hm
    by_cases q : m = 65534
    · subst q; rfl
    · by_cases q2 : m = 65535
      · subst q2; rfl
      · rw [decide_eq_false (by omega)]
        simp only [List.any_cons, List.any_nil, Bool.or_false]
        rw [beq_eq_false_iff_ne.mpr (by omega), beq_eq_false_iff_ne.mpr (by omega)]; rfl
  rw [a1, a2, a3, a4, a5, a6, a7, Bool.and_false, Bool.and_false, Bool.or_false, Bool.false_or, Bool.false_or, Bool.and_false, Bool.false_or, Bool.false_or]
theorem faulty_spec {c : Cx} (hK : c.K = heapW c.w.params) [pf : PF c] [pl : PL2 c] {A : Around} {n : Nat} {cs : List Chunk} (hs : n < 55296 ∨ 57343 < n) (hne : cs ≠ []) :
    CodeV c A 2 cs (.ref 160) [.int n 0] (fun v cs' => v = .bool (faulty n) ∧ cs' = cs) := by
  refine K_fn (k := 1) (by rw [hK]; k_is) (by rw [hK]; k_is) ["point"] [] [] [] (fun s vs _ h => by refine bnd1 h fun a => ?_; exact .of_eq rfl) rfl (by decide) (by decide) (by decide) (by decide) rfl rfl rfl hne ?_
  intro i hg
  conv => arg 6; whnf
  simp only [locals0, List.zip_cons_cons, List.zip_nil_right, List.map_cons, List.map_nil, List.append_nil, List.cons_append, List.nil_append]
  have e3 : (n : Int).fmod 65536 = (n % 65536 : Nat) := by rw [Int.fmod_eq_emod_of_nonneg _ (by omega)]; omega
  keq_rows
  kpf_c
  refine ⟨fun e => ?_, fun e => ?_⟩
  · have e1 : (n : Int) < 160 := of_decide_eq_true e
    keq_rows
    refine' PE.ev (PE_or ?x1 fun _ => PE_one (PE_and ?x2 fun _ => PE_one (PE_notinT (x := (n : Int)) [9, 10, 12, 13] ?x3 ?x4 (by decide)))) ?x5
    case x1 => kcf_all
    case x2 => kcf_all
    case x3 => kcf_all
    case x4 => kst_facts
    case x5 =>
    keq_rows
    refine ⟨?_, rfl⟩
    show Value.bool _ = _
    congr 1
    exact faulty_low2 n (Int.ofNat_lt.mp e1)
  · have e1 : ¬ (n : Int) < 160 := of_decide_eq_false e
    keq_rows
    refine ⟨?_, rfl⟩
    show Value.bool _ = _
    congr 1
    exact faulty_high2 n e3 (fun q => e1 (Int.ofNat_lt.mpr q)) hs
structure A2 where
  hd : Addr
  rs : Addr
  ah : Addr
  dn : Addr
  gn : Addr
  st : Addr
noncomputable def hnd (a : A2) (h : H2) : List Chunk := [(a.hd, .tup [.ref a.rs, .ref a.ah, .ref a.dn, .ref a.gn, .ref a.st]), (a.rs, .list (h.rest.map oneV)), (a.ah, .list (h.ahead.map oneV)), (a.dn, .list (h.done.map oneV)), (a.gn, .list (h.gone.map oneV)), (a.st, .list [.int h.held 0, .int h.snc 0, .int h.errs 0])]
section
variable {c : Cx} {i : Fi} {k : Nat} {m : Fields} {cs : List Chunk}
/-- a loop over a list that the head makes -/
theorem EX_for_listE {t iter : Expr} {body : List Stmt} {pos : Pos} {Q : Flow → Fields → List Chunk → Prop}
    (h : EV c i k m cs iter (fun v cs2 => ∃ (a : Addr) (vs : List Value) (I : Nat → Fields → List Chunk → Prop), v = .ref a ∧ I 0 m cs2 ∧ (∀ j m1 cs1, I j m1 cs1 → (a, .list vs) ∈ cs1) ∧
      (∀ j x m1 cs1, vs[j]? = some x → SameKeys m m1 → I j m1 cs1 → AS c i k m1 cs1 t x (fun m2 cs2 => EXS c i k m2 cs2 body (Turn (I (j + 1)) Q))) ∧ (∀ m1 cs1, SameKeys m m1 → I vs.length m1 cs1 → Q .next m1 cs1)))
    (hf : ∀ env x, foldedSetIterable iter env x = pure x := by intro _ _; rfl) : EX c i k m cs (.For t iter body [] pos) Q := by
  refine EX_for (h.mono fun v cs2 => ?_) hf
  rintro ⟨a, vs, I, rfl, h0, hm, turn, fin⟩
  refine I_list (List.ne_nil_of_mem (hm _ _ _ h0)) (hm _ _ _ h0) fun it => ?_
  refine FOR_any (listIt a) vs.length (fun j => vs.getD j .none) I ?_ ?_ ?_ fin h0
  · rintro j o ⟨hc, -⟩
    exact ⟨_, hc, by decide⟩
  · intro j m1 cs1 hj hI hA R s it' hit hs
    refine noE (N_list (hm _ _ _ hI) hA R s it' hit hs) ?_
    rintro r s2 ⟨cs2, h2, q2⟩
    refine ⟨cs2, h2, ?_⟩
    cases hr : r.map nv with
    | none => rw [hr] at q2; exact ⟨Nat.le_antisymm hj q2.1, q2.2⟩
    | some v => rw [hr] at q2; exact ⟨q2.1, by simp [q2.2.1], q2.2.2⟩
  · intro j m1 cs1 hj z hI
    exact turn j (vs.getD j .none) m1 cs1 (by simp [hj]) z hI
end
theorem pass_spec {c : Cx} (hK : c.K = heapW c.w.params) [pf : PF c] [pl : PL2 c] {A : Around} {a : A2} {h : H2} {x : Nat} {r : List Nat} (hx : h.ahead = x :: r) (h1 : r.length ≤ 5000) (h2 : h.done.length ≤ 5000) (h3 : h.gone.length ≤ 5000) :
    CodeV c A 2 (hnd a h) (.ref 181) [.ref a.hd] (fun v cs' => v = strV [x] ∧ cs' = hnd a (passA h [x] r)) := by
  obtain ⟨hd, rs, ah, dn, gn, st⟩ := a
  obtain ⟨rest, ahead, done, gone, held, snc, errs⟩ := h
  simp only at hx h2 h3
  subst hx
  simp only [hnd, passA, List.map_cons, List.map_append, List.map_nil, List.length_cons, List.length_nil]
  refine K_fn (k := 1) (by rw [hK]; k_is) (by rw [hK]; k_is) ["hand"] ["rest", "ahead", "done", "gone", "state", "sign"] [] [] (fun s vs _ h => by refine bnd1 h fun a => ?_; exact .of_eq rfl) rfl (by decide) (by decide) (by decide) (by decide) rfl rfl rfl (by simp) ?_
  intro i hg
  conv => arg 6; whnf
  simp only [locals0, List.zip_cons_cons, List.zip_nil_right, List.map_cons, List.map_nil, List.append_nil, List.cons_append, List.nil_append]
  keq_rows
  refine' EV_pop0 ?a1 ?a2 ?a3 ?a4 ?a5
  case a1 => kcf_all
  case a2 => kba_ints
  case a3 => kbo_bools
  case a4 => kas_types
  keq_rows
  exact ⟨rfl, rfl⟩
theorem unget_spec {c : Cx} (hK : c.K = heapW c.w.params) [pf : PF c] {A : Around} {a : SA} {z : SS} {nl : Addr} {x : Nat} (hz : z.chunk.length ≤ 100000) (h0 : z.off = 0 ∨ z.chunk[z.off - 1]? = some x) :
    CodeV c A 2 (stmO a z nl) (.ref 128) [.ref a.st, strV [x]] (fun v cs' => v = .none ∧ cs' = stmO a (ung z x) nl) := by
  by_cases h : z.off = 0
  · unfold ung; rw [if_pos h]
    have := unget_front hK (A := A) (a := a) (nl := nl) (x := x) hz h
    exact this
  · unfold ung; rw [if_neg h]
    exact unget_back hK (A := A) (a := a) (nl := nl) (x := x) (n := z.off - 1) hz (by omega) (h0.resolve_left h)
theorem back_spec {c : Cx} (hK : c.K = heapW c.w.params) [pf : PF c] [pl : PL2 c] {A : Around} {a : A2} {h : H2} {sa : SA} {z : SS} {nl : Addr} {x : Nat} {d : List Nat} (hx : h.done = d ++ [x]) (h1 : h.ahead.length ≤ 5000) (h2 : d.length ≤ 5000) (h3 : h.gone.length ≤ 5000)
    (h4 : 0 < h.snc → h.gone ≠ []) (hz : z.chunk.length ≤ 1000) (h0 : z.off = 0 ∨ z.chunk[z.off - 1]? = some x) :
    CodeV c A 3 (hnd a h ++ stmO sa z nl) (.ref 202) [.ref sa.st, .ref a.hd] (fun v cs' => v = .none ∧ cs' = hnd a (back2 h d x) ++ stmO sa (ung z x) nl) := by
  have hu := fun A => unget_spec hK (A := A) (a := sa) (nl := nl) (by omega) h0
  obtain ⟨hd, rs, ah, dn, gn, st⟩ := a
  obtain ⟨rest, ahead, done, gone, held, snc, errs⟩ := h
  simp only at hx h1 h2 h3 h4
  subst hx
  generalize ung z x = z1 at hu ⊢
  simp only [hnd, stmO, fldS, fldG, List.map_cons, List.map_append, List.map_nil, List.cons_append, List.nil_append] at hu ⊢
  refine CodeV.perm ?_
  refine K_fn (k := 2) (by rw [hK]; k_is) (by rw [hK]; k_is) ["stream", "hand"] ["rest", "ahead", "done", "gone", "state", "sign"] [] [] (fun s vs _ h => by refine bnd2 h fun a b => ?_; exact .of_eq rfl) rfl (by decide) (by decide) (by decide) (by decide) rfl rfl rfl (by simp) ?_
  intro i hg
  conv => arg 6; whnf
  simp only [locals0, List.zip_cons_cons, List.zip_nil_right, List.map_cons, List.map_nil, List.append_nil, List.cons_append, List.nil_append]
  keq_rows
  refine' EV_pop ?a1 ?a2 ?a3 ?a4 ?a5
  case a1 => kcf_all
  case a2 => kba_ints
  case a3 => kbo_bools
  case a4 => kas_types
  keq_rows
  refine' EV_insert0 ?b1 ?b2 ?b3 ?b4 ?b5 ?b6
  case b1 => kcf_all
  case b2 => kcf_all
  case b3 => kba_ints
  case b4 => kbo_bools
  case b5 => kas_types
  keq_rows
  by_cases hs2 : 0 < snc
  · obtain ⟨g, y, rfl⟩ : ∃ g y, gone = g ++ [y] := ⟨gone.dropLast, gone.getLast (h4 hs2), (List.dropLast_concat_getLast (h4 hs2)).symm⟩
    have es : ((snc : Int) - 1) = (snc - 1 : Nat) := by omega
    simp only [back2, if_pos hs2, List.map_append, List.map_cons, List.map_nil, List.dropLast_concat]
    kpf_c
    refine ⟨fun _ => ?_, fun e => by simp at e; omega⟩
    keq_rows
    rw [es]
    refine' EV_pop ?c1 ?c2 ?c3 ?c4 ?c5
    case c1 => kcf_all
    case c2 => kba_ints
    case c3 => kbo_bools
    case c4 => kas_types
    keq_rows
    refine' EV_instM ?_ ?_ ?_ ?_ ?_ ?_ ?_ ?_ ?_ (CodeV.by (hu i.A) ?_ ?_ ?q)
    kqd_all
    rintro v F' ⟨rfl, rfl⟩
    simp only [List.cons_append, List.nil_append]
    keq_rows
    (refine' ⟨[(hd, ?eA1), (rs, ?eA8), (ah, ?eA3), (dn, ?eA4), (gn, ?eA5), (st, ?eA2), (sa.st, ?eA6), (sa.sd, ?eA7)], ?tA, ?rA1, ?rA2⟩; (case tA => kct_strs); (case rA1 => rfl); (case rA2 => rfl))
  · simp only [back2, if_neg hs2, List.map_append, List.map_cons, List.map_nil]
    kpf_c
    refine ⟨fun e => by simp at e; omega, fun _ => ?_⟩
    keq_rows
    refine' EV_instM ?_ ?_ ?_ ?_ ?_ ?_ ?_ ?_ ?_ (CodeV.by (hu i.A) ?_ ?_ ?q2)
    kqd_all
    rintro v F' ⟨rfl, rfl⟩
    simp only [List.cons_append, List.nil_append]
    keq_rows
    (refine' ⟨[(hd, ?eB1), (rs, ?eB8), (ah, ?eB3), (dn, ?eB4), (gn, ?eB5), (st, ?eB2), (sa.st, ?eB6), (sa.sd, ?eB7)], ?tB, ?rB1, ?rB2⟩; (case tB => kct_strs); (case rB1 => rfl); (case rB2 => rfl))
noncomputable def lastL (l : List Nat) : List Nat := l.getLast?.toList
theorem lastL_snoc (l : List Nat) (x : Nat) : lastL (l ++ [x]) = [x] := by unfold lastL; simp
noncomputable def fm (hd : Addr) (size : Nat) (rs ah dn gn st : Addr) (piece last sign : Option Value) : Fields := [("hand", some (.ref hd)), ("size", some (.int size 0)), ("rest", some (.ref rs)), ("ahead", some (.ref ah)), ("done", some (.ref dn)), ("gone", some (.ref gn)), ("state", some (.ref st)), ("piece", piece), ("last", last), ("sign", sign)]
theorem fill_spec {c : Cx} (hK : c.K = heapW c.w.params) [pf : PF c] [pl : PL2 c] {A : Around} {a : A2} {h : H2} {size j : Nat} (S : S2 j h) (hs : size ≤ 100) :
    CodeV c A 3 (hnd a h) (.ref 174) [.ref a.hd, .int size 0] (fun v cs' => v = .bool (decide (0 < (piece2 size h).length)) ∧ cs' = hnd a (fill2 size h)) := by
  have s1 := S.dn
  have ns := S.ns
  have hh := S.hd
  have he : h.errs ≤ 1000 := by have := S.er; omega
  have hsn : h.snc ≤ 1000 := by have := S.sn; omega
  obtain ⟨hd, rs, ah, dn, gn, st⟩ := a
  obtain ⟨rest, ahead, done, gone, held, snc, errs⟩ := h
  simp only at ns hh he hsn s1
  have hpn : NoSur (piece2 size ⟨rest, ahead, done, gone, held, snc, errs⟩) := fun x hx => ns x (List.mem_of_mem_take hx)
  have hpl : (piece2 size ⟨rest, ahead, done, gone, held, snc, errs⟩).length ≤ rest.length := by show (rest.take (size + held)).length ≤ _; rw [List.length_take]; exact Nat.min_le_right _ _
  have hp0 : piece2 size ⟨rest, ahead, done, gone, held, snc, errs⟩ = rest.take (size + held) := rfl
  unfold fill2
  simp only [hnd]
  generalize piece2 size ⟨rest, ahead, done, gone, held, snc, errs⟩ = piece at hpn hpl hp0 ⊢
  refine CodeV.drop (CodeV.drop ?_)
  refine K_fn (k := 2) (by rw [hK]; k_is) (by rw [hK]; k_is) ["hand", "size"] ["rest", "ahead", "done", "gone", "state", "piece", "last", "sign"] ["len", "_law_faulty", "ord"] [] (fun s vs _ h => by refine bnd2 h fun a b => ?_; exact .of_eq rfl) rfl (by decide) (by decide) (by decide) (by decide) rfl rfl rfl (by simp) ?_
  intro i hg
  conv => arg 6; whnf
  simp only [locals0, List.zip_cons_cons, List.zip_nil_right, List.map_cons, List.map_nil, List.append_nil, List.cons_append, List.nil_append]
  keq_rows
  refine' EV_slice_list (lo := none) (hi := some ((size : Int) + held)) ?b1 ?b2 ?b3 ?b4 ?b5 ?b6
  case b1 => kcf_all
  case b2 => kba_ints
  case b3 => kcj_m
  case b4 => kcj_m
  case b5 => rw [List.length_map]; omega
  intro pc
  have esl : sl (rest.map oneV) none (some ((size : Int) + held)) = piece.map oneV := by
    rw [hp0, List.map_take]
    exact sl__n (rest.map oneV) (size + held)
  rw [esl]
  keq_rows
  -- a CR at the end is held
  have hc := cut2_le piece
  have hcd : piece.length - cut2 piece ≤ 1 := by unfold cut2; split <;> omega
  refine' PE.ev (v := .int (piece.length - cut2 piece : Nat) 0) ?P ?K
  case P =>
    by_cases c1 : 1 < piece.length
    · obtain ⟨d, x, rfl⟩ : ∃ d x, piece = d ++ [x] := by
        have hne : piece ≠ [] := fun q => by rw [q] at c1; cases c1
        exact ⟨piece.dropLast, piece.getLast hne, (List.dropLast_concat_getLast hne).symm⟩
      have ev : ∀ b : Bool, b = decide (x = 13) → Value.int ((d ++ [x]).length - cut2 (d ++ [x]) : Nat) 0 = .int (if b = true then (1 : Int) else 0) 0 := by
        intro b hb
        subst hb
        unfold cut2
        by_cases q : x = 13
        · rw [if_pos ⟨c1, by simp [q]⟩, if_pos (by simp [q])]; congr 1; omega
        · rw [if_neg (by simp [q]), if_neg (by simp [q])]; congr 1; omega
      have hml : ((d ++ [x]).map oneV) = d.map oneV ++ [oneV x] := by simp
      rw [hml]
      have hdl : (d.map oneV).length ≤ 1000 := by rw [List.length_map]; rw [List.length_append] at hpl; omega
      rw [ev _ ?E]
      kcf_all
      case E =>
        rw [Bool.eq_iff_iff]
        simp only [Bool.and_eq_true, Bool.and_true, decide_eq_true_eq, beq_iff_eq, List.cons.injEq, and_true, List.length_append, List.length_map, List.length_cons, List.length_nil] at c1 ⊢
        omega
    · have e1 : (piece.length - cut2 piece : Nat) = 0 := by unfold cut2; rw [if_neg (fun q => c1 q.1)]; omega
      have e2 : decide ((1 : Int) < ((piece.map oneV).length : Nat)) = false := decide_eq_false (by rw [List.length_map]; omega)
      have hdl : (piece.map oneV).length ≤ 1000 := by rw [List.length_map]; omega
      rw [e1]
      refine' (show PE _ _ _ _ _ _ (.int (if (decide ((1 : Int) < ((piece.map oneV).length : Nat)) && false) = true then (1 : Int) else 0) 0) → _ from fun z => by rw [e2] at z; exact z) (PE_ifexpI (PT_and ?t1 (fun q => absurd q (by rw [e2]; simp))) ?t2 ?t3)
      case t1 => kd_in
      case t2 => kcf_all
      case t3 => kcf_all
  case K =>
  keq_rows
  dsimp only [List.set_cons_zero]
  obtain ⟨hn, ehn⟩ : ∃ hn, hn = piece.length - cut2 piece := ⟨_, rfl⟩
  rw [← ehn] at hcd ⊢
  have hpml : (piece.map oneV).length ≤ 1000 := by rw [List.length_map]; omega
  refine EX_for_listE (EV_slice_list (a := pc) (lo := none) (hi := some (((piece.map oneV).length : Nat) - (hn : Nat) : Int)) ?d1 ?d2 ?d3 ?d4 (Nat.le_trans hpml (by decide)) ?d6)
  case d1 => kcf_all
  case d2 => kba_ints
  case d3 => kcj_m
  case d4 => kcj_m
  case d6 =>
  intro b
  have esl2 : sl (piece.map oneV) none (some (((piece.map oneV).length : Nat) - (hn : Nat) : Int)) = (piece.take (cut2 piece)).map oneV := by
    have : (((piece.map oneV).length : Nat) - (hn : Nat) : Int) = (cut2 piece : Nat) := by rw [List.length_map]; omega
    rw [this, sl__n, List.map_take]
  rw [esl2]
  have hPs : NoSur (piece.take (cut2 piece)) := fun x hx => hpn x (List.mem_of_mem_take hx)
  have hPl : (piece.take (cut2 piece)).length = cut2 piece := by rw [List.length_take]; omega
  have hcr : cut2 piece ≤ rest.length := Nat.le_trans hc hpl
  generalize hP : piece.take (cut2 piece) = P at hPs hPl ⊢
  have hPle : P.length ≤ rest.length := by omega
  refine ⟨b, P.map oneV, fun j m1 cs1 => ∃ o, m1 = fm hd size rs ah dn gn st (some (.ref pc)) (some (strV (lastL (P.take j)))) o ∧
    cs1 = [(b, .list (P.map oneV)), (pc, .list (piece.map oneV)), (hd, .tup [.ref rs, .ref ah, .ref dn, .ref gn, .ref st]), (rs, .list ((rest.drop j).map oneV)), (ah, .list ((ahead ++ mend none (P.take j)).map oneV)), (dn, .list (done.map oneV)), (gn, .list (gone.map oneV)),
      (st, .list [.int hn 0, .int snc 0, .int (errs + (P.take j).countP faulty : Nat) 0])], rfl, ⟨none, rfl, by simp [mend]⟩, ?mem, ?turn, ?fin⟩
  case mem =>
    rintro j m1 cs1 ⟨o, rfl, rfl⟩
    exact mem_hd
  case turn =>
    rintro j x m1 cs1 hx z ⟨o, rfl, rfl⟩
    obtain ⟨x, hxx, rfl⟩ : ∃ y, P[j]? = some y ∧ oneV y = x := by
      rw [List.getElem?_map] at hx
      cases q : P[j]? with
      | none => rw [q] at hx; cases hx
      | some v => rw [q] at hx; exact ⟨v, rfl, by simpa using hx⟩
    have hj := (List.getElem?_eq_some_iff.mp hxx).1
    have hxs := hPs x (List.mem_of_getElem? hxx)
    have hdr : rest.drop j = rest[j] :: rest.drop (j + 1) := List.drop_eq_getElem_cons (by omega)
    have hml : (mend none (P.take j)).length ≤ 100 := Nat.le_trans (mend_le _ _) (by rw [List.length_take]; omega)
    have hsn2 : mend none (P.take (j + 1)) = mend none (P.take j) ++ (if x ≠ 10 ∨ ((P.take j).getLast?.or none) ≠ some 13 then [if x = 13 then 10 else x] else []) := by
      rw [List.take_succ, hxx]; exact mend_snoc _ _ _
    have hct := countP_take faulty P j x hxx
    have hcl : (P.take j).countP faulty ≤ 100 := Nat.le_trans List.countP_le_length (by rw [List.length_take]; omega)
    have hla : lastL (P.take (j + 1)) = [x] := by rw [List.take_succ, hxx]; exact lastL_snoc _ _
    have hlast : (lastL (P.take j) != [13]) = decide (((P.take j).getLast?.or none) ≠ some 13) := by
      unfold lastL
      cases (P.take j).getLast? with
      | none => rfl
      | some y => rw [Bool.eq_iff_iff]; simp
    have hll : (lastL (P.take j)).length ≤ 1 := by unfold lastL; cases (P.take j).getLast? <;> simp
    generalize lastL (P.take j) = L at hlast hll ⊢
    rw [hdr, List.map_cons]
    dsimp only [fm]
    keq_rows
    have hrl : ((rest.drop (j + 1)).map oneV).length ≤ 100 := by rw [List.length_map, List.length_drop]; omega
    refine' EV_pop0 (a := rs) (v := oneV rest[j]) (vs := (rest.drop (j + 1)).map oneV) ?p1 ?p2 ?p3 (Nat.le_trans hrl (by decide)) ?p5
    case p1 => kcf_all
    case p2 => kba_ints
    case p3 => kbo_bools
    case p5 =>
    keq_rows
    refine EX_thenR (m₁ := fm hd size rs ah dn gn st (some (.ref pc)) (some (strV L)) (some (oneV x)))
      (cs₁ := [(b, .list (P.map oneV)), (pc, .list (piece.map oneV)), (hd, .tup [.ref rs, .ref ah, .ref dn, .ref gn, .ref st]), (rs, .list ((rest.drop (j + 1)).map oneV)), (ah, .list ((ahead ++ mend none (P.take (j + 1))).map oneV)), (dn, .list (done.map oneV)), (gn, .list (gone.map oneV)),
        (st, .list [.int hn 0, .int snc 0, .int (errs + (P.take j).countP faulty : Nat) 0])]) ?i1 ?i2
    case i1 =>
      kpf_c
      refine ⟨fun e => ?_, fun e => ?_⟩
      · have hcc : x ≠ 10 ∨ ((P.take j).getLast?.or none) ≠ some 13 := by
          rw [hlast] at e
          simpa using e
        rw [if_pos hcc] at hsn2
        keq_rows
        refine ⟨rfl, rfl, ?_⟩
        rw [hsn2]
        simp only [← List.append_assoc, List.map_append, List.map_cons, List.map_nil]
        by_cases hx13 : x = 13
        · subst hx13; rfl
        · have : ([x] == [13]) = false := by simpa using hx13
          rw [this, if_neg hx13]; rfl
      · have hcc : ¬ (x ≠ 10 ∨ ((P.take j).getLast?.or none) ≠ some 13) := by
          rw [hlast] at e
          simpa using e
        rw [if_neg hcc, List.append_nil] at hsn2
        keq_rows
        exact ⟨rfl, rfl, by rw [hsn2]⟩
    case i2 =>
    dsimp only [fm]
    keq_rows
    refine PE.ev (v := .int (if faulty x = true then 1 else 0) 0) (PE_ifexpI (PT_plain (PE_callK (vs := [.int (x : Nat) 0]) ?f1 PL2.k_faulty ?f2 ((faulty_spec hK hxs (by simp)).level (by decide))) T_bool) PE_int PE_int) ?f3
    case f1 => kcf_all
    case f2 => kst_facts
    case f3 =>
    keq_rows
    refine ⟨_, by rw [hla], ?_⟩
    have hee : ((errs + (P.take j).countP faulty : Nat) : Int) + (if faulty x = true then 1 else 0) = ((errs + (P.take (j + 1)).countP faulty : Nat) : Int) := by
      rw [hct]; split <;> omega
    rw [← hee]
    rfl
  case fin =>
  rintro m1 cs1 z ⟨o, rfl, rfl⟩
  rw [List.length_map, List.take_length]
  dsimp only [fm]
  keq_rows
  simp only [List.length_map]
  refine ⟨_, _, .head, _, _, .head, ?_, ?_⟩
  · show Value.bool _ = Value.bool _
    congr 1
    exact decide_eq_decide.mpr (by omega)
  · rw [hPl]; rfl
theorem read_spec2 {c : Cx} (hK : c.K = heapW c.w.params) [pf : PF c] [pl : PL2 c] {A : Around} {a : A2} {h : H2} {size j : Nat} (S : S2 j h) (hj : j ≤ 1000) (hs : size ≤ 100) :
    CodeV c A 4 (hnd a h) (.ref 188) [.ref a.hd, .int size 0] (fun v cs' => v = optV (read2 size h).1 ∧ cs' = hnd a (read2 size h).2) := by
  have hfs := fun A => fill_spec hK (A := A) (a := a) (size := size) S hs
  have St := s2_top (size := size) S
  have s1 := S.dn
  have t1 := St.dn
  have t2 := St.gn
  have hps := fun A x r (e : (top2 size h).ahead = x :: r) => pass_spec hK (A := A) (a := a) (h := top2 size h) (x := x) (r := r) e (by rw [e, List.length_cons] at t1; omega) (by omega) (by omega)
  obtain ⟨hd, rs, ah, dn, gn, st⟩ := a
  refine K_fn (k := 3) (by rw [hK]; k_is) (by rw [hK]; k_is) ["hand", "size"] [] ["_law_fill", "_law_pass"] [] (fun s vs _ h => by refine bnd2 h fun a b => ?_; exact .of_eq rfl) rfl (by decide) (by decide) (by decide) (by decide) rfl rfl rfl (by simp [hnd]) ?_
  intro i hg
  conv => arg 6; whnf
  simp only [locals0, List.zip_cons_cons, List.zip_nil_right, List.map_cons, List.map_nil, List.append_nil, List.cons_append, List.nil_append]
  keq_hits
  refine EX_thenR (m₁ := [("hand", some (.ref hd)), ("size", some (.int size 0))]) (cs₁ := hnd ⟨hd, rs, ah, dn, gn, st⟩ (top2 size h)) ?x1 ?x2
  case x1 =>
    have hal : (h.ahead.map oneV).length ≤ 100 := by rw [List.length_map]; omega
    have hfs := hfs i.A
    by_cases e : h.ahead = []
    · have et : top2 size h = fill2 size h := by unfold top2; rw [if_pos e]
      rw [et]
      generalize fill2 size h = h2 at hfs ⊢
      simp only [hnd] at hfs ⊢
      kpf_c
      refine ⟨fun _ => ?_, fun q => by simp [e] at q⟩
      keq_rows
      refine' EV_callK' ?b1 PL2.k_fill ?b2 (CodeV.by hfs (R₀ := []) ?b3 (by decide) ?b4)
      case b1 => kcf_all
      case b2 => kst_facts
      case b3 => exact Take.all
      rintro v F' ⟨rfl, rfl⟩
      rw [List.append_nil]
      keq_rows
      exact ⟨rfl, rfl, rfl⟩
    · have et : top2 size h = h := top2_ne e
      rw [et]
      simp only [hnd]
      kpf_c
      refine ⟨fun q => ?_, fun q => ?_⟩
      · exfalso
        cases hh : h.ahead with
        | nil => exact e hh
        | cons x r => rw [hh] at q; simp at q
      · keq_rows
        exact ⟨rfl, rfl, rfl⟩
  case x2 =>
  have hal : ((top2 size h).ahead.map oneV).length ≤ 100 := by rw [List.length_map]; omega
  unfold read2
  generalize top2 size h = h1 at hps hal ⊢
  keq_hits
  cases e : h1.ahead with
  | nil =>
    simp only [hnd] at hal ⊢
    rw [e] at hal ⊢
    refine' EX_return (EV_ifexp (PT.tv ?c1 ?c9))
    case c1 => kd_in
    case c9 =>
    refine ⟨fun q => by simp at q, fun _ => ?_⟩
    keq_rows
    exact ⟨rfl, rfl⟩
  | cons x r =>
    have hp := hps i.A x r e
    simp only
    generalize passA h1 [x] r = h2 at hp ⊢
    simp only [hnd] at hal hp ⊢
    rw [e] at hal hp ⊢
    refine' EX_return (EV_ifexp (PT.tv ?c2 ?c8))
    case c2 => kd_in
    case c8 =>
    refine ⟨fun _ => ?_, fun q => by simp at q⟩
    refine' EV_callK' ?d1 PL2.k_pass_ ?d2 (CodeV.by hp (R₀ := []) ?d3 (by decide) ?d4)
    case d1 => kcf_all
    case d2 => kst_facts
    case d3 => exact Take.all
    rintro v F' ⟨rfl, rfl⟩
    rw [List.append_nil]
    keq_rows
    exact ⟨rfl, rfl⟩
theorem run_spec2 {c : Cx} (hK : c.K = heapW c.w.params) [pf : PF c] [pl : PL2 c] {A : Around} {a : A2} {h hf : H2} {X : List Chunk} {row : Value} {f : Nat → Bool} {along : Bool} {size j n : Nat} {res : List Nat} (hrow : Row c X row f) (S : S2 j h) (hj : j ≤ 1000) (hs : size ≤ 100)
    (hru : RU (fun x => f x == along) size n h res hf) :
    CodeV c A 5 (hnd a h ++ X) (.ref 195) [.ref a.hd, .int size 0, row, .bool along] (fun v cs' => v = strV res ∧ cs' = hnd a hf ++ X) := by
  have hlen := ru_len S hru
  obtain ⟨hd, rs, ah, dn, gn, st⟩ := a
  refine K_fn (k := 4) (by rw [hK]; k_is) (by rw [hK]; k_is) ["hand", "size", "row", "along"] ["got"] ["_law_fill", "_law_pass"] [] (fun s vs _ h => by refine bnd4 h fun a b d e => ?_; exact .of_eq rfl) rfl (by decide) (by decide) (by decide) (by decide) rfl rfl rfl (by simp [hnd]) ?_
  intro i hg
  conv => arg 6; whnf
  simp only [locals0, List.zip_cons_cons, List.zip_nil_right, List.map_cons, List.map_nil, List.append_nil, List.cons_append, List.nil_append]
  keq_rows
  refine EX_thenR (m₁ := [("hand", some (.ref hd)), ("size", some (.int size 0)), ("row", some row), ("along", some (.bool along)), ("got", some (strV res))])
    (cs₁ := hnd ⟨hd, rs, ah, dn, gn, st⟩ hf ++ X) ?_ ?_
  · refine EX_while (n := n) (fun q m1 cs1 => ∃ (h' : H2) (t u : List Nat), RU (fun x => f x == along) size q h' u hf ∧ t ++ u = res ∧ S2 j h' ∧
      m1 = ([("hand", some (.ref hd)), ("size", some (.int size 0)), ("row", some row), ("along", some (.bool along)), ("got", some (strV t))] : Fields) ∧
      cs1 = hnd ⟨hd, rs, ah, dn, gn, st⟩ h' ++ X) ⟨h, [], res, hru, rfl, S, rfl, rfl⟩ ?_
    rintro q m1 cs1 zz ⟨h', t, u, hru', e1, S', rfl, rfl⟩
    have hR : ∀ h0, Row c (hnd ⟨hd, rs, ah, dn, gn, st⟩ h0 ++ X) row f := fun h0 => Row_perm hrow (Y := hnd ⟨hd, rs, ah, dn, gn, st⟩ h0) List.perm_append_comm
    have hfs := fun A => fill_spec hK (A := A) (a := ⟨hd, rs, ah, dn, gn, st⟩) (size := size) S' hs
    have St := s2_top (size := size) S'
    have t1 := St.dn
    have t2 := St.gn
    have hps := fun A x r (e : (top2 size h').ahead = x :: r) => pass_spec hK (A := A) (a := ⟨hd, rs, ah, dn, gn, st⟩) (h := top2 size h') (x := x) (r := r) e (by rw [e, List.length_cons] at t1; omega) (by omega) (by omega)
    have s1 := S'.dn
    refine TV.mono (Q := fun b cs2 => b = decide ((top2 size h').ahead ≠ []) ∧ cs2 = hnd ⟨hd, rs, ah, dn, gn, st⟩ (top2 size h') ++ X) ?x1 ?x2
    case x1 =>
      have hal : (h'.ahead.map oneV).length ≤ 100 := by rw [List.length_map]; omega
      have hfs := hfs i.A
      refine TV_or ?_
      by_cases e : h'.ahead = []
      · have et : top2 size h' = fill2 size h' := by unfold top2; rw [if_pos e]
        have en := fill2_nil (size := size) e
        rw [et]
        generalize hp : piece2 size h' = pc at hfs en
        generalize fill2 size h' = h2 at hfs en ⊢
        simp only [hnd, List.cons_append, List.nil_append] at hfs ⊢
        refine' PT.tv ?a1 ?a2
        case a1 => kd_in
        refine ⟨fun q => by simp [e] at q, fun _ => ?_⟩
        refine TV_or ?_
        refine TV_plain ?_
        refine' EV_callK' ?b1 PL2.k_fill ?b2 (CodeV.by hfs ?b3 (by decide) ?b4)
        case b1 => kcf_all
        case b2 => kst_facts
        kqd_all
        rintro v F' ⟨rfl, rfl⟩
        simp only [List.cons_append, List.nil_append]
        keq_rows
        refine ⟨fun q => ⟨?_, rfl⟩, fun q => TV_or_nil ⟨?_, rfl⟩⟩
        · symm; rw [decide_eq_true_eq]; exact fun q2 => en.mp q2 (of_decide_eq_true q)
        · symm; rw [decide_eq_false_iff_not]; exact fun q2 => q2 (en.mpr (of_decide_eq_false q))
      · have et : top2 size h' = h' := top2_ne e
        rw [et]
        simp only [hnd, List.cons_append, List.nil_append]
        refine' PT.tv ?a3 ?a4
        case a3 => kd_in
        refine ⟨fun q => ⟨(decide_eq_true e).symm, rfl⟩, fun q => ?_⟩
        exfalso
        cases hh : h'.ahead with
        | nil => exact e hh
        | cons x r => rw [hh] at q; simp at q
    case x2 =>
    rintro b cs2 ⟨rfl, rfl⟩
    cases hru' with
    | eof e =>
      refine ⟨fun q => by simp [e] at q, fun _ => ?_⟩
      rw [List.append_nil] at e1
      subst e1
      exact ⟨rfl, rfl, rfl⟩
    | stop e hx =>
      rename_i x r
      refine ⟨fun _ => ?_, fun q => by simp [e] at q⟩
      rw [List.append_nil] at e1
      subst e1
      have hR' := hR (top2 size h')
      have hal : ((top2 size h').ahead.map oneV).length ≤ 100 := by rw [List.length_map]; omega
      simp only [hnd, List.cons_append, List.nil_append] at hR' ⊢
      rw [e] at hal hR' ⊢
      simp only [List.map_cons] at hal hR' ⊢
      keq_hits
      refine' EX_if (PT.tv ?n5 ?n6)
      case n5 =>
        refine' PT_cmp (PE_cmp ?n1 ?n2 (hR' _ _ x)) ?n3 C_neb
        case n1 => kcf_all
        case n2 => kcf_all
        case n3 => kcf_all
      case n6 =>
      refine ⟨fun _ => ?_, fun q => ?_⟩
      · keq_rows
        exact ⟨rfl, rfl, rfl⟩
      · exfalso
        cases hf1 : f x <;> cases along <;> simp [hf1] at q hx
    | pass e hx k =>
      rename_i n' x r got
      refine ⟨fun _ => ?_, fun q => by simp [e] at q⟩
      have hR' := hR (top2 size h')
      have hal : ((top2 size h').ahead.map oneV).length ≤ 100 := by rw [List.length_map]; omega
      have hp := hps i.A x r e
      have Sp := s2_pass (g := [x]) St e
      have htl : t.length ≤ 40 := by have := congrArg List.length e1; rw [List.length_append] at this; omega
      generalize passA (top2 size h') [x] r = h2 at hp Sp k
      simp only [hnd, List.cons_append, List.nil_append] at hR' hp ⊢
      rw [e] at hal hR' hp ⊢
      simp only [List.map_cons] at hal hR' hp ⊢
      keq_hits
      refine' EX_if (PT.tv ?o5 ?o6)
      case o5 =>
        refine' PT_cmp (PE_cmp ?o1 ?o2 (hR' _ _ x)) ?o3 C_neb
        case o1 => kcf_all
        case o2 => kcf_all
        case o3 => kcf_all
      case o6 =>
      refine ⟨fun q => ?_, fun _ => ?_⟩
      · exfalso
        cases hf1 : f x <;> cases along <;> simp [hf1] at q hx
      · keq_rows
        refine' EV_callK' ?f1 PL2.k_pass_ ?f2 (CodeV.by hp ?f3 ?f4 ?f5)
        kqd_all
        rintro v F' ⟨rfl, rfl⟩
        simp only [List.cons_append, List.nil_append]
        keq_rows
        exact ⟨n', by omega, h2, t ++ [x], got, k, by rw [← e1]; simp, Sp, rfl, rfl⟩
  · simp only [hnd, List.cons_append, List.nil_append]
    keq_rows
    exact ⟨rfl, rfl⟩
/- ## the stream's methods, its chunks kept folded -/
section
variable {c : Cx} {i : Fi} {k : Nat} {m : Fields} {X : List Chunk} {a : SA} {z : SS} {nl : Addr} {o : Expr} {apos pos : Pos} {Q : Value → List Chunk → Prop}
theorem stm_hx : (a.st, AO.inst 131 a.sd) ∈ stm a z nl ++ X := List.mem_append_left _ mem_hd
theorem stm_hd : (a.sd, AO.obj (fldS a z nl)) ∈ stm a z nl ++ X := List.mem_append_left _ (mem_tl mem_hd)
theorem EV_charS (hK : c.K = heapW c.w.params) [pf : PF c] (hk : 5 ≤ k) (ho : PE c i k m (stm a z nl ++ X) o (.ref a.st)) (G : Good z) (q : Q (optV (chr1 z).1) (stm a (chr1 z).2 nl ++ X))
    (hc : MCall o "char" [] apos pos := by intro _; exact ⟨_, rfl⟩) : EV c i k m (stm a z nl ++ X) (.Call (.Attribute o "char" apos) [] [] pos) Q := by
  refine EV_instM0 (x := a.st) (C := 131) (d := a.sd) (f := 98) (fm := fldS a z nl) ho stm_hx stm_hd ?_ (PF.S.get _) PF.m_char (PF.fn _ (by decide)).1 (PF.fn _ (by decide)).2.1 (CodeV.by (char_spec hK (nl := nl) G) (R₀ := X) (List.Perm.refl _) hk ?_) hc
  · unfold fldS fldG; kba_ints
  · rintro v F' ⟨rfl, rfl⟩; exact q
end
theorem position_specD {c : Cx} (hK : c.K = heapW c.w.params) [pf : PF c] {A : Around} {a : SA} {z : SS} {nl : Addr} {dc : Option Value} (hz : z.chunk.length ≤ 100000) (hn : z.off ≤ z.chunk.length) :
    CodeV c A 3 (stmP a z nl dc) (.ref 91) [.ref a.st]
      (fun v cs' => ∃ t, v = .ref t ∧ cs' = (t, .tup [.int (z.pl + (z.chunk.take z.off).count 10 + 1 : Nat) 0, .int (colOf (z.chunk.take z.off) z.pc : Nat) 0]) :: stmP a z nl dc) := by
  have hp := fun A => pos__specD hK (A := A) (a := a) (z := z) (nl := nl) (dc := dc) hz hn
  simp only [stmP, fldG] at hp ⊢
  refine K_fn (k := 2) (by rw [hK]; k_is) (by rw [hK]; k_is) ["self"] ["line", "col"] [] [] (fun s vs _ h => by refine bnd1 h fun a => ?_; exact .of_eq rfl) rfl (by decide) (by decide) (by decide) (by decide) rfl rfl rfl (by simp) ?_
  intro i hg
  conv => arg 6; whnf
  simp only [locals0, List.zip_cons_cons, List.zip_nil_right, List.map_cons, List.map_nil, List.append_nil, List.cons_append, List.nil_append]
  keq_rows
  refine' EV_instM ?_ ?_ ?_ ?_ ?_ ?_ ?_ ?_ ?_ (CodeV.by (hp i.A) ?_ ?_ ?q)
  kqd_all
  rintro v F' ⟨t, rfl, rfl⟩
  simp only [List.cons_append, List.nil_append]
  refine AS_tupleD .head ?_
  keq_rows
  exact ⟨by simp, fun t2 => ⟨t2, rfl, rfl⟩⟩

theorem colOf_zero (l : List Nat) : colOf l 0 = (l.reverse.takeWhile (· != 10)).length := by
  unfold colOf
  split
  · rfl
  · rename_i h
    have := List.takeWhile_append_of_pos (p := (· != 10)) (l₁ := l.reverse) (l₂ := []) (by intro x hx; simp at hx ⊢; exact fun e => h (e ▸ hx))
    have e : l.reverse.takeWhile (· != 10) = l.reverse := by simpa using this
    rw [e]; simp
theorem ones_flat (l : List Nat) : (l.map fun x => [x]).flatten = l := by
  induction l with
  | nil => rfl
  | cons a r ih => simp [ih]
/-- the hand made anew over a text -/
theorem anewS_spec {c : Cx} (hK : c.K = heapW c.w.params) [pf : PF c] [pl : PL2 c] {A : Around} {cs : List Chunk} {l : List Nat} (hne : cs ≠ []) (hz : l.length ≤ 1000) :
    CodeV c A 3 cs (.ref 167) [strV l] (fun v cs' => ∃ a : A2, v = .ref a.hd ∧ cs' = hnd a (anew2 l) ++ cs) := by
  refine CodeV.permR ?_
  refine K_fn (k := 2) (by rw [hK]; k_is) (by rw [hK]; k_is) ["text"] [] ["list"] [] (fun s vs _ h => by refine bnd1 h fun a => ?_; exact .of_eq rfl) rfl (by decide) (by decide) (by decide) (by decide) rfl rfl rfl hne ?_
  intro i hg
  conv => arg 6; whnf
  simp only [locals0, List.zip_cons_cons, List.zip_nil_right, List.map_cons, List.map_nil, List.append_nil, List.cons_append, List.nil_append]
  keq_rows
  refine EV_callT (f := "list") (PE_bi (v := .type "list") hg (by kba_ints) PL2.g_list (by boot_fast) (by decide)) ((PEs_cons ?e1 PEs_nil).evs (K_listS (l := l) hne (by omega) fun rs => ?_))
  case e1 => kcf_all
  keq_rows
  refine ⟨by simp, fun ah => ?_⟩
  keq_rows
  refine ⟨by simp, fun dn => ?_⟩
  keq_rows
  refine ⟨by simp, fun gn => ?_⟩
  keq_rows
  refine ⟨by simp, fun st => ?_⟩
  keq_rows
  refine ⟨by simp, fun hd => ?_⟩
  keq_rows
  refine ⟨hnd ⟨hd, rs, ah, dn, gn, st⟩ (anew2 l), cs, ?tt, ⟨hd, rs, ah, dn, gn, st⟩, rfl, rfl⟩
  case tt =>
    simp only [hnd, anew2, List.map_nil, Int.cast_ofNat_Int]
    kct_strs
theorem anewL_spec {c : Cx} (hK : c.K = heapW c.w.params) [pf : PF c] [pl : PL2 c] {A : Around} {cs : List Chunk} {l : List Nat} {b : Addr} (hb : (b, .list (l.map oneV)) ∈ cs) (hz : l.length ≤ 1000) :
    CodeV c A 3 cs (.ref 167) [.ref b] (fun v cs' => ∃ a : A2, v = .ref a.hd ∧ cs' = hnd a (anew2 l) ++ cs) := by
  have hne : cs ≠ [] := List.ne_nil_of_mem hb
  refine CodeV.permR ?_
  refine K_fn (k := 2) (by rw [hK]; k_is) (by rw [hK]; k_is) ["text"] [] ["list"] [] (fun s vs _ h => by refine bnd1 h fun a => ?_; exact .of_eq rfl) rfl (by decide) (by decide) (by decide) (by decide) rfl rfl rfl hne ?_
  intro i hg
  conv => arg 6; whnf
  simp only [locals0, List.zip_cons_cons, List.zip_nil_right, List.map_cons, List.map_nil, List.append_nil, List.cons_append, List.nil_append]
  keq_rows
  refine EV_callT (f := "list") (PE_bi (v := .type "list") hg (by kba_ints) PL2.g_list (by boot_fast) (by decide)) ((PEs_cons ?e1 PEs_nil).evs (K_listL hb (by rw [List.length_map]; omega) fun rs => ?_))
  case e1 => kcf_all
  keq_rows
  refine ⟨by simp, fun ah => ?_⟩
  keq_rows
  refine ⟨by simp, fun dn => ?_⟩
  keq_rows
  refine ⟨by simp, fun gn => ?_⟩
  keq_rows
  refine ⟨by simp, fun st => ?_⟩
  keq_rows
  refine ⟨by simp, fun hd => ?_⟩
  keq_rows
  refine ⟨hnd ⟨hd, rs, ah, dn, gn, st⟩ (anew2 l), cs, ?tt, ⟨hd, rs, ah, dn, gn, st⟩, rfl, rfl⟩
  case tt =>
    simp only [hnd, anew2, List.map_nil, Int.cast_ofNat_Int]
    kct_strs
theorem errs_flat (n : Nat) : (List.replicate n [strV errT]).flatten = (List.replicate n errT).map strV := by
  rw [List.map_replicate]
  induction n with
  | zero => rfl
  | succ q ih => rw [List.replicate_succ, List.replicate_succ, List.flatten_cons, ih]; rfl
theorem right_spec {c : Cx} (hK : c.K = heapW c.w.params) [pf : PF c] [pl : PL2 c] {A : Around} {a : A2} {h : H2} {sa : SA} {z : SS} {nl : Addr} {dc : Option Value} {j : Nat} (R : R2 z h) (S : S2 j h) (hj : j ≤ 1000) :
    CodeV c A 5 (stmD sa z nl dc ++ hnd a h) (.ref 209) [.ref sa.st, .ref a.hd] (fun v cs' => v = .bool true ∧ cs' = stmD sa z nl dc ++ hnd a h) := by
  obtain ⟨e1, e2⟩ := r2_pos R
  have e3 := R.errs
  have hz : z.chunk.length ≤ 1000 := by
    obtain ⟨D, d1⟩ := R.done
    have q1 := congrArg List.length d1
    have q2 := congrArg List.length R.ahead
    have q3 := S.dn
    rw [List.length_append, List.length_take] at q1
    rw [List.length_drop] at q2
    have := R.off
    omega
  have hge : h.gone.length ≤ 1040 := by have := S.gn; omega
  have her : h.errs ≤ 40 := by have := S.er; omega
  have hp := fun A => position_specD hK (A := A) (a := sa) (z := z) (nl := nl) (dc := dc) (by omega) R.off
  rw [e1, e2] at hp
  have hm : h.gone.map oneV = (h.gone.map fun x => [x]).map strV := by simp
  obtain ⟨ps, p, p1, p2⟩ := spl_last 10 h.gone
  have hlen : (spl 10 h.gone).length ≤ 1041 := by
    rw [spl_len]
    have : h.gone.count 10 ≤ h.gone.length := List.count_le_length
    omega
  have hpp : p.length ≤ 1040 := by
    rw [p2]
    exact Nat.le_trans (List.takeWhile_sublist _).length_le (by rw [List.length_reverse]; exact hge)
  obtain ⟨hd, rs, ah, dn, gn, st⟩ := a
  obtain ⟨rest, ahead, done, gone, held, snc, errs⟩ := h
  obtain ⟨st', sd, ds, dd, er, bm⟩ := sa
  simp only at e3 hp hm p1 p2 hlen hge her
  subst e3
  simp only [stmD, stmP, hnd, fldG, fldT, List.cons_append, List.nil_append] at hp ⊢
  refine K_fn (k := 4) (by rw [hK]; k_is) (by rw [hK]; k_is) ["stream", "hand"] ["lines"] ["len"] [] (fun s vs _ h => by refine bnd2 h fun a b => ?_; exact .of_eq rfl) rfl (by decide) (by decide) (by decide) (by decide) rfl rfl rfl (by simp) ?_
  intro i hg
  conv => arg 6; whnf
  simp only [locals0, List.zip_cons_cons, List.zip_nil_right, List.map_cons, List.map_nil, List.append_nil, List.cons_append, List.nil_append]
  refine EXS.less ?_
  keq_hits
  keq_hits
  refine' EV_split (l := (gone.map fun x => [x]).flatten) (a := 10) (PE_join0 (a := gn) ?a1 ?a2 ?a3 ?a4 ?a5) ?a6 ?a7 ?a8 ?a9
  case a1 => kcf_all
  case a2 => kcf_all
  case a3 => rw [hm]; kba_ints
  case a4 => rw [ones_flat]; omega
  case a5 => simp; omega
  case a6 => kcf_all
  case a7 => simp
  case a8 => rw [ones_flat]; omega
  case a9 =>
  intro r
  have hl1 : (ps.map strV ++ [strV p]).length = gone.count 10 + 1 := by
    have := spl_len 10 gone
    rw [p1] at this
    simpa using this
  have hpl : ps.length ≤ 1041 := by simp at hl1; have : gone.count 10 ≤ gone.length := List.count_le_length; omega
  rw [ones_flat, p1, List.map_append, List.map_cons, List.map_nil]
  keq_rows
  refine' EX_if (TV_cmp (EV_instM0 ?b1 ?b2 ?b3 ?b4 ?b5 ?b6 ?b7 ?b8 (CodeV.by (hp i.A) ?b9 (by decide) ?b10)))
  kqd_all
  rintro v F' ⟨t1, rfl, rfl⟩
  simp only [List.cons_append, List.nil_append]
  keq_rows
  rw [hl1]
  refine ⟨by simp, fun t2 => ?_⟩
  refine Op2.is (C_neT (ls := [((gone.count 10 + 1 : Nat) : Int), ((colOf gone 0 : Nat) : Int)]) (ms := [((gone.count 10 + 1 : Nat) : Int), ((colOf gone 0 : Nat) : Int)]) ?c1 ?c2) ?_
  case c1 =>
    simp only [List.map_cons, List.map_nil]
    kba_ints
  case c2 =>
    have ep : p.length = colOf gone 0 := by rw [colOf_zero, ← p2]
    rw [ep]
    simp only [List.map_cons, List.map_nil]
    kba_ints
  refine Op1.is T_bool ⟨fun q => (by simp at q), fun _ => EXS_nil ?_⟩
  refine Then_next ?_
  keq_hits
  keq_hits
  refine EV_cmp (PE.ev (v := .ref er) ?d1 (EV_bin (EV_list (PEs.evs (vs := [strV errT]) ?d2 ⟨by simp, fun er1 => ?_⟩))))
  case d1 => kcf_all
  case d2 => kst_facts
  refine PE.ev (v := .int (z.errs : Nat) 0) ?d3 ?_
  case d3 => kcf_all
  refine B_mulL mem_hd (by simp; omega) (by omega) fun er2 => ?_
  rw [errs_flat]
  refine Op2.is (C_eqL (ls := List.replicate z.errs errT) (ms := List.replicate z.errs errT) ?f1 mem_hd ?f2 ?f2) ?_
  case f1 =>
    rw [List.map_replicate]
    kba_ints
  case f2 =>
    intro l hl
    rw [List.eq_of_mem_replicate hl]
    decide
  keq_rows
  refine' ⟨_, ?LL, ?tt, (by simp; rfl), rfl⟩
  case tt => kct_strs
theorem Take.one {x : Chunk} {l : List Chunk} : Take (x :: l) l [x] := List.perm_append_comm (l₁ := [x])
theorem Take.two {x y : Chunk} {l : List Chunk} : Take (x :: y :: l) l [x, y] := List.perm_append_comm (l₁ := [x, y])
local macro_rules | `(tactic| kct_strs) => `(tactic| with_reducible (first | exact Take.all | exact Take.one | exact Take.two))
/- ## the stream's other methods, its chunks kept folded -/
section
variable {c : Cx} {i : Fi} {k : Nat} {m : Fields} {X : List Chunk} {a : SA} {z : SS} {nl : Addr} {o : Expr} {apos pos : Pos} {Q : Value → List Chunk → Prop}
theorem EV_untilV (hK : c.K = heapW c.w.params) [pf : PF c] (hk : 6 ≤ k) {e e2 : Expr} {row : Value} {f : Nat → Bool} {opp : Bool} {n : Nat} {res : List Nat} {z2 : SS} (ho : PE c i k m (stm a z nl ++ X) o (.ref a.st)) (G : Good z) (hn : n ≤ 5000) (hres : res.length ≤ 100000) (hcu : CU (fun x => f x == opp) n z res z2)
    (he : PE c i k m (stm a z nl ++ X) e row) (he2 : PE c i k m (stm a z nl ++ X) e2 (.bool opp)) (hrow : Row c X row f) (hrv : nv row = row) (q : Q (strV res) (stm a z2 nl ++ X))
    (hc : MCall o "charsUntil" [e, e2] apos pos := by intro _; exact ⟨_, rfl⟩) (hs : ∀ env, starEach [e, e2] env = (false, eval e env) :: starEach [e2] env := by intro _; rfl)
    (hs2 : ∀ env, starEach [e2] env = (false, eval e2 env) :: starEach [] env := by intro _; rfl)
    (hp : ∀ pos env, (backTo pos (starEach [e2] env)).any (·.1) = false := by intro _ _; rfl) : EV c i k m (stm a z nl ++ X) (.Call (.Attribute o "charsUntil" apos) [e, e2] [] pos) Q := by
  refine EV_instM (x := a.st) (C := 131) (d := a.sd) (f := 121) (fm := fldS a z nl) ho (PEs_cons he (PEs_cons he2 PEs_nil hs2) hs) stm_hx stm_hd ?_ (PF.S.get _) PF.m_charsUntil (PF.fn _ (by decide)).1 (PF.fn _ (by decide)).2.1
    (CodeV.by (charsUntil_any hK (nl := nl) (args := [.ref a.st, row, .bool opp]) (dfl := []) (.inl ⟨rfl, rfl⟩) hrow hrv G hn hres hcu) (R₀ := []) Take.all hk ?_) hc hs hp
  · unfold fldS fldG; kba_ints
  · rintro v F' ⟨rfl, rfl⟩; rw [List.append_nil]; exact q
theorem EV_readChunk0 (hK : c.K = heapW c.w.params) [pf : PF c] (hk : 4 ≤ k) (ho : PE c i k m (stm a z nl ++ X) o (.ref a.st)) (G : Good z) (q : Q (.bool (rdc z).1) (stm a (rdc z).2 nl ++ X))
    (hc : MCall o "readChunk" [] apos pos := by intro _; exact ⟨_, rfl⟩) : EV c i k m (stm a z nl ++ X) (.Call (.Attribute o "readChunk" apos) [] [] pos) Q := by
  have g1 := G.src
  have g2 := G.errs
  have g3 := G.place
  have g4 := G.dcs
  refine EV_instM0 (x := a.st) (C := 131) (d := a.sd) (f := 106) (fm := fldS a z nl) ho stm_hx stm_hd ?_ (PF.S.get _) PF.m_readChunk (PF.fn _ (by decide)).1 (PF.fn _ (by decide)).2.1 (CodeV.by (readChunk_spec hK (nl := nl) G.chunk (by omega) G.place (by omega) (by omega) G.buf) (R₀ := X) (List.Perm.refl _) hk ?_) hc
  · unfold fldS fldG; kba_ints
  · rintro v F' ⟨rfl, rfl⟩; exact q
theorem EV_readChunk1 (hK : c.K = heapW c.w.params) [pf : PF c] (hk : 4 ≤ k) {e : Expr} (ho : PE c i k m (stm a z nl ++ X) o (.ref a.st)) (he : PE c i k m (stm a z nl ++ X) e (.int z.dcs 0)) (G : Good z) (q : Q (.bool (rdc z).1) (stm a (rdc z).2 nl ++ X))
    (hc : MCall o "readChunk" [e] apos pos := by intro _; exact ⟨_, rfl⟩) (hs : ∀ env, starEach [e] env = (false, eval e env) :: starEach [] env := by intro _; rfl) : EV c i k m (stm a z nl ++ X) (.Call (.Attribute o "readChunk" apos) [e] [] pos) Q := by
  have g1 := G.src
  have g2 := G.errs
  have g3 := G.place
  have g4 := G.dcs
  refine EV_instM (x := a.st) (C := 131) (d := a.sd) (f := 106) (fm := fldS a z nl) ho (PEs_cons he PEs_nil hs) stm_hx stm_hd ?_ (PF.S.get _) PF.m_readChunk (PF.fn _ (by decide)).1 (PF.fn _ (by decide)).2.1 (CodeV.by (readChunk_arg hK (nl := nl) G.chunk (by omega) G.place (by omega) (by omega) G.buf) (R₀ := X) (List.Perm.refl _) hk ?_) hc hs
  · unfold fldS fldG; kba_ints
  · rintro v F' ⟨rfl, rfl⟩; exact q
theorem EV_dsRead (hK : c.K = heapW c.w.params) [pf : PF c] (hk : 2 ≤ k) {e : Expr} {n : Nat} (ho : PE c i k m (stm a z nl ++ X) o (.ref a.ds)) (he : PE c i k m (stm a z nl ++ X) e (.int n 0)) (hn : n ≤ 1000) (G : Good z) (q : Q (strV ((z.src.drop z.place).take n)) (stm a { z with place := min (z.place + n) z.src.length } nl ++ X))
    (hc : MCall o "read" [e] apos pos := by intro _; exact ⟨_, rfl⟩) (hs : ∀ env, starEach [e] env = (false, eval e env) :: starEach [] env := by intro _; rfl) : EV c i k m (stm a z nl ++ X) (.Call (.Attribute o "read" apos) [e] [] pos) Q := by
  have g1 := G.src
  refine EV.mono (Q := fun v cs' => ∃ F R₀, Take cs' F R₀ ∧ v = strV ((z.src.drop z.place).take n) ∧ F = stm a { z with place := min (z.place + n) z.src.length } nl ++ X ∧ R₀ = []) ?_ ?_ |> EV.less
  · refine EV_instM (x := a.ds) (C := 38) (d := a.dd) (f := 35) (fm := fldT z) ho (PEs_cons he PEs_nil hs) (List.mem_append_left _ (by simp [stm])) (List.mem_append_left _ (by simp [stm])) ?_ (PF.T.get _) PF.m_read (PF.fn _ (by decide)).1 (PF.fn _ (by decide)).2.1
      (CodeV.by (read_spec hK (ds := a.ds) (dd := a.dd) (by omega) G.place hn) (R₀ := (a.st, .inst 131 a.sd) :: (a.sd, .obj (fldS a z nl)) :: (a.er, .list (List.replicate z.errs (strV errT))) :: (a.bm, .bm 113 a.st) :: X) ?_ hk ?_) hc hs
    · unfold fldT; kba_ints
    · unfold stm fldT
      simp only [List.cons_append, List.nil_append]
      kct_strs
    · rintro v F' ⟨rfl, rfl⟩
      refine ⟨_, [], ?_, rfl, rfl, rfl⟩
      unfold stm fldT fldS
      simp only [List.cons_append, List.nil_append]
      kct_strs
  · rintro v cs' ⟨F, R₀, t, rfl, rfl, rfl⟩
    exact ⟨_, _, t, q⟩
theorem EV_resetS (hK : c.K = heapW c.w.params) [pf : PF c] (hk : 2 ≤ k) (ho : PE c i k m (stm a z nl ++ X) o (.ref a.st)) (q : ∀ er, Q .none (stm { a with er := er } (zres z) nl ++ X))
    (hc : MCall o "reset" [] apos pos := by intro _; exact ⟨_, rfl⟩) : EV c i k m (stm a z nl ++ X) (.Call (.Attribute o "reset" apos) [] [] pos) Q := by
  have hr := reset_spec hK (A := i.A) (st := a.st) (sd := a.sd) (rce := some (.ref a.bm)) (nl := some (.ref nl)) (ds := some (.ref a.ds)) (ch := some (.str ⟨z.chunk.toArray⟩ 0)) (cz := some (.int z.chunk.length 0)) (co := some (.int z.off 0)) (er := some (.ref a.er)) (pl := some (.int z.pl 0)) (pc := some (.int z.pc 0)) (bf := some (bufV z.buf)) (dc := some (.int z.dcs 0))
  refine EV.less ?_
  refine EV_instM0 (x := a.st) (C := 131) (d := a.sd) (f := 70) (fm := fldS a z nl) ho stm_hx stm_hd ?_ (PF.S.get _) PF.m_reset (PF.fn _ (by decide)).1 (PF.fn _ (by decide)).2.1 (CodeV.by hr (R₀ := (a.ds, .inst 38 a.dd) :: (a.dd, .obj (fldT z)) :: (a.er, .list (List.replicate z.errs (strV errT))) :: (a.bm, .bm 113 a.st) :: X) ?_ hk ?_) hc
  · unfold fldS fldG; kba_ints
  · exact List.Perm.refl _
  · rintro v F' ⟨er, rfl, rfl⟩
    refine' ⟨_, ?rr, ?tt, q er⟩
    case tt =>
      simp only [stm, fldT, fldS, zres, bufV, List.length_nil, List.replicate_zero, Int.cast_ofNat_Int, List.cons_append, List.nil_append]
      kct_strs
theorem EX_openS (hK : c.K = heapW c.w.params) [pf : PF c] (hk : 4 ≤ k) {e : Expr} {l : List Nat} {opos tpos : Pos} {QF : Flow → Fields → List Chunk → Prop} {o2 : Expr} (ho : PE c i k m (stm a z nl ++ X) o (.ref a.st)) (ho2 : ∀ cs', PE c i k m cs' o2 (.ref a.st)) (he : PE c i k m (stm a z nl ++ X) e (strV l))
    (q : ∀ ds dd, QF .next m (stm { a with ds := ds, dd := dd } { z with src := l, place := 0 } nl ++ X))
    (hc : MCall o "openStream" [e] apos pos := by intro _; exact ⟨_, rfl⟩) (hs : ∀ env, starEach [e] env = (false, eval e env) :: starEach [] env := by intro _; rfl)
    (hsw : ∀ env, swapsWithSole [.Attribute o2 "dataStream" opos] (.Call (.Attribute o "openStream" apos) [e] [] pos) tpos.line env = pure false := by intro _; rfl)
    (hst : ∀ env, swappedStores [.Attribute o2 "dataStream" opos] (.Call (.Attribute o "openStream" apos) [e] [] pos) env = pure none := by intro _; rfl)
    (ha : ∀ env, (assignEach [.Attribute o2 "dataStream" opos] env).map (·.2) = [assign (.Attribute o2 "dataStream" opos) env] := by intro _; rfl) :
    EX c i k m (stm a z nl ++ X) (.Assign [.Attribute o2 "dataStream" opos] (.Call (.Attribute o "openStream" apos) [e] [] pos) tpos) QF := by
  refine EX.less ?_
  refine EX_assign ?_ hsw hst ha
  refine EV_instM (x := a.st) (C := 131) (d := a.sd) (f := 77) (fm := fldS a z nl) ho (PEs_cons he PEs_nil hs) stm_hx stm_hd ?_ (PF.S.get _) PF.m_open (PF.fn _ (by decide)).1 (PF.fn _ (by decide)).2.1
    (((open_spec hK (A := i.A) (src := l) (st := a.st) (cs := stm a z nl ++ X) (by simp [stm])).level hk).mono ?_) hc hs
  · unfold fldS fldG; kba_ints
  rintro v cs' ⟨ds, dd, rfl, rfl⟩
  refine AS_attr (PE.ev (ho2 _) ?_)
  unfold stm fldS fldG
  simp only [List.cons_append, List.nil_append]
  keq_hits
  refine' ⟨_, ?rr, ?tt, q ds dd⟩
  case tt =>
    simp only [stm, fldT, fldS, fldG, Int.cast_ofNat_Int, List.cons_append, List.nil_append]
    kct_strs
end
noncomputable def gS : Value → Value
  | .int n _ => strV (signL n)
  | v => v
abbrev intV (n : Int) : Value := .int n 0
/-- the numbers of the script that count -/
noncomputable def nums2 (ns : List Int) : List Int := (if ns = [] then [136, 33, 12, 23] else ns).take 16
noncomputable def whole2 (ns : List Int) : List Nat := ((nums2 ns).map signL).flatten
theorem nums2_len (ns : List Int) : (nums2 ns).length ≤ 16 := by unfold nums2; rw [List.length_take]; omega
theorem nums2_pos (ns : List Int) : 0 < (nums2 ns).length := by
  unfold nums2; rw [List.length_take]
  split
  · decide
  · rename_i h
    have := List.length_pos_iff.mpr h
    omega
theorem sign_len (n : Int) : (signL n).length ≤ 2 := by
  unfold signL
  split
  · have : ∀ j, (signs.getD j []).length ≤ 2 := fun j => by
      match j with
      | 0 => decide
      | 1 => decide
      | 2 => decide
      | 3 => decide
      | 4 => decide
      | 5 => decide
      | 6 => decide
      | j + 7 => simp [signs]
    exact this _
  · simp
theorem flat_len (l : List Int) : ((l.map signL).flatten).length ≤ 2 * l.length := by
  induction l with
  | nil => simp
  | cons a l ih => have := sign_len a; simp only [List.map_cons, List.flatten_cons, List.length_append, List.length_cons]; omega
theorem whole2_len (ns : List Int) : (whole2 ns).length ≤ 32 := by have := flat_len (nums2 ns); have := nums2_len ns; unfold whole2; omega
theorem signL_ne (n : Int) : signL n ≠ [] := by
  unfold signL
  split
  · rename_i h
    have h0 : 0 ≤ n.fmod 8 := Int.fmod_nonneg_of_pos _ (by decide)
    have : ∀ j, j < 7 → signs.getD j [] ≠ [] := by decide
    exact this _ (by omega)
  · simp
theorem whole2_ne (ns : List Int) : 0 < (whole2 ns).length := by
  have h := nums2_pos ns
  unfold whole2
  cases e : nums2 ns with
  | nil => rw [e] at h; cases h
  | cons a l =>
    have := List.length_pos_iff.mpr (signL_ne a)
    simp only [List.map_cons, List.flatten_cons, List.length_append]
    omega
theorem sign_sur (n : Int) : NoSur (signL n) := by
  unfold signL
  split
  · intro x hx
    have : ∀ j, ∀ x ∈ signs.getD j [], x < 55296 := fun j => by
      match j with
      | 0 => decide
      | 1 => decide
      | 2 => decide
      | 3 => decide
      | 4 => decide
      | 5 => decide
      | 6 => decide
      | j + 7 => simp [signs]
    exact .inl (this _ x hx)
  · intro x hx
    have b0 : 0 ≤ (n.fdiv 8).fmod 1112064 := Int.fmod_nonneg_of_pos _ (by decide)
    simp only [List.mem_singleton] at hx
    subst hx
    split <;> omega
theorem whole2_sur (ns : List Int) : NoSur (whole2 ns) := by
  intro x hx
  unfold whole2 at hx
  obtain ⟨l, hl, hx⟩ := List.mem_flatten.mp hx
  obtain ⟨n, -, rfl⟩ := List.mem_map.mp hl
  exact sign_sur n x hx
theorem signs_map (l : List Int) : (l.map intV).map gS = (l.map signL).map strV := by
  simp only [List.map_map]
  rfl
theorem ints_nv {its : List Value} {ns : List Int} (h : IntsAre its ns) : its.toArray.toList.map nv = ns.map intV := by
  rw [List.toList_toArray]
  induction h with
  | nil => rfl
  | cons n t _ ih => rw [List.map_cons, List.map_cons, ih]; rfl
/- ## the rows -/
noncomputable def rows2 : List Value := [.ref 143, strV [97, 98], .ref 144, .ref 145]
noncomputable def rowL : Nat → List Nat
  | 0 => [38, 10]
  | 1 => [97, 98]
  | 2 => [31, 10, 97]
  | _ => [98, 10, 98]
theorem rows_seen {c : Cx} (hK : c.K = heapW c.w.params) {cs : List Chunk} : Seen c cs 146 rows2 := by
  refine seenB (by rw [hK]; k_is) ?_
  show [Value.ref 143, Value.str (Str.ofString "ab") 0, .ref 144, .ref 145] = rows2
  rw [lit_ab]; rfl
theorem setL_map : setL = [31, 10, 97].map fun x => (⟨[x].toArray⟩ : Str) := by decide +kernel
theorem row_of {c : Cx} (hK : c.K = heapW c.w.params) (hS : SetIs c.base 144 setL) {cs : List Chunk} {j : Nat} {v : Value} (h : rows2[j]? = some v) : Row c cs v fun x => decide (x ∈ rowL j) := by
  match j, h with
  | 0, h =>
    cases h
    refine Row_tupB (l := [38, 10]) (by rw [hK]; k_is) ?_
    show [Value.str (Str.ofString "&") 0, .str (Str.ofString "\n") 0] = _
    rw [lit_amp, lit_nl]; rfl
  | 1, h => cases h; exact Row_str
  | 2, h => cases h; exact Row_set hS setL_map (by rw [setL_map]; decide)
  | 3, h =>
    cases h
    refine Row_listS (l := [98, 10, 98]) (seenB (by rw [hK]; k_is) ?_)
    show [Value.str (Str.ofString "b") 0, .str (Str.ofString "\n") 0, .str (Str.ofString "b") 0] = _
    rw [lit_nl, lit_b]; rfl
  | n + 4, h => simp [rows2] at h
theorem row_nv {j : Nat} {v : Value} (h : rows2[j]? = some v) : nv v = v := by
  match j, h with
  | 0, h => cases h; rfl
  | 1, h => cases h; rfl
  | 2, h => cases h; rfl
  | 3, h => cases h; rfl
  | q + 4, h => simp [rows2] at h
/- ## the law's state -/
noncomputable def lm2 (a : Addr) (nums whole stream hand size n rest ahead done gone state deed more u row along came took turned turn : Option Value) : Fields :=
  [("script", some (.ref a)), ("numbers", nums), ("whole", whole), ("stream", stream), ("hand", hand), ("size", size), ("n", n), ("rest", rest), ("ahead", ahead), ("done", done), ("gone", gone), ("state", state), ("deed", deed), ("more", more), ("_", u), ("row", row), ("along", along), ("came", came), ("took", took), ("turned", turned), ("turn", turn)]
/-- the chunks of a stream and its hand, and the numbers -/
noncomputable def st2 (nb : Addr) (nums : List Int) (sa : SA) (z : SS) (nl : Addr) (ha : A2) (h : H2) : List Chunk := stm sa z nl ++ (hnd ha h ++ [(nb, .list (nums.map intV))])
theorem take_mid {A B C : List Chunk} : Take (A ++ (B ++ C)) B (A ++ C) := by
  unfold Take
  rw [← List.append_assoc, ← List.append_assoc]
  exact List.Perm.append_right _ List.perm_append_comm
theorem take_back {A B C : List Chunk} : Take (B ++ (A ++ C)) (A ++ (B ++ C)) [] := by
  unfold Take
  rw [List.append_nil, ← List.append_assoc, ← List.append_assoc]
  exact List.Perm.append_right _ List.perm_append_comm
noncomputable def lawSt (j : Nat) : Stmt := (fdBody (stAt 17)).getD j (.Pass ⟨0, 0, 0, 0⟩)
noncomputable def forBody : Stmt → List Stmt
  | .For _ _ b _ _ => b
  | _ => []
noncomputable def ifBody : Stmt → List Stmt
  | .If _ b _ _ => b
  | _ => []
noncomputable def ifElse : Stmt → List Stmt
  | .If _ _ b _ => b
  | _ => []
/-- the deeds' chain -/
noncomputable def deedSt : Nat → Stmt
  | 0 => (forBody (lawSt 6)).getD 4 (.Pass ⟨0, 0, 0, 0⟩)
  | j + 1 => (ifElse (deedSt j)).getD 0 (.Pass ⟨0, 0, 0, 0⟩)
noncomputable def gl2 : List Str := ["HTMLUnicodeInputStream", "_law_anew", "_law_right", "range", "_law_read", "_law_ROWS", "_law_run", "min", "len", "_law_back", "isinstance", "bool", "_law_fill"]
/-- what a deed leaves -/
structure DO (J sz : Nat) where
  sa : SA
  z : SS
  ha : A2
  h : H2
  R : R2 z h
  S : S2 J h
  src : z.src.length ≤ 32
  dcs : z.dcs = sz
  u : Option Value
  row : Option Value
  along : Option Value
  came : Option Value
  took : Option Value
  turned : Option Value
/-- what a deed's statements leave -/
noncomputable def DQ (a nb nl : Addr) (nums : List Int) (whole : List Nat) (n rest ahead done gone state deed more : Option Value) (J sz : Nat) (f : Flow) (m' : Fields) (cs' : List Chunk) : Prop :=
  f = .next ∧ ∃ o : DO J sz, m' = lm2 a (some (.ref nb)) (some (strV whole)) (some (.ref o.sa.st)) (some (.ref o.ha.hd)) (some (.int sz 0)) n rest ahead done gone state deed more o.u o.row o.along o.came o.took o.turned none ∧ cs' = st2 nb nums o.sa o.z nl o.ha o.h
/-- the locals at a deed's beginning -/
noncomputable def mD (a nb : Addr) (whole : List Nat) (sa : SA) (ha : A2) (sz : Nat) (n deed : Option Value) (more : Int) (u row along came took turned : Option Value) : Fields :=
  lm2 a (some (.ref nb)) (some (strV whole)) (some (.ref sa.st)) (some (.ref ha.hd)) (some (.int sz 0)) n (some (.ref ha.rs)) (some (.ref ha.ah)) (some (.ref ha.dn)) (some (.ref ha.gn)) (some (.ref ha.st)) deed (some (intV more)) u row along came took turned none
section
variable {c : Cx} {i : Fi} {k : Nat} {cs : List Chunk}
theorem C_ne_opt {A : Around} {o : Option Nat} : Op2 c A k cs (compareOp .NotEq) (optV o) (optV o) nv (Is cs (.bool false)) := by
  cases o with
  | none => exact C_ne_nn
  | some x =>
    have h := C_nes (c := c) (A := A) (k := k) (cs := cs) (a := [x]) (b := [x])
    simp at h
    exact h
end
theorem deed0 {c : Cx} (hK : c.K = heapW c.w.params) [pf : PF c] [pl : PL2 c] {i : Fi} (hg : GOk i gl2) {a nb nl : Addr} {nums : List Int} {whole : List Nat} {sa : SA} {z : SS} {ha : A2} {h : H2} {n deed u row along came took turned : Option Value} {more : Int} {J : Nat}
    (R : R2 z h) (S : S2 J h) (hJ : J ≤ 900) (hs : z.src.length ≤ 32) (hd : z.dcs ≤ 5) :
    EXS c i 8 (mD a nb whole sa ha z.dcs n deed more u row along came took turned) (st2 nb nums sa z nl ha h) (ifBody (deedSt 0))
      (DQ a nb nl nums whole n (some (.ref ha.rs)) (some (.ref ha.ah)) (some (.ref ha.dn)) (some (.ref ha.gn)) (some (.ref ha.st)) deed (some (intV more)) (J + 4) z.dcs) := by
  conv => arg 6; whnf
  unfold gl2 at hg
  obtain ⟨rn, hr1, hr2⟩ : ∃ r : Nat, (1 : Int) + more.fmod 3 = r ∧ r ≤ 9 := by
    have b0 : 0 ≤ more.fmod 3 := Int.fmod_nonneg_of_pos _ (by decide)
    have b1 : more.fmod 3 < 3 := Int.fmod_lt_of_pos _ (by decide)
    exact ⟨(1 + more.fmod 3).toNat, by omega, by omega⟩
  generalize hsz : z.dcs = sz at hd ⊢
  keq_hits
  refine EX_for_range (n := rn) (fun t m1 cs1 => ∃ (z : SS) (h : H2) (u : Option Value), R2 z h ∧ S2 J h ∧ z.src.length ≤ 32 ∧ z.dcs = sz ∧
    m1 = mD a nb whole sa ha sz n deed more u row along came took turned ∧ cs1 = st2 nb nums sa z nl ha h) hg (by kba_ints) PL2.g_range ?x1 (by omega) (by simp [st2, stm]) ⟨z, h, u, R, S, hs, hsz, rfl, rfl⟩ ?x2 ?x3
  case x1 => rw [← hr1]; dsimp only [mD, lm2]; kcf_all
  case x3 =>
    rintro m1 cs1 zk ⟨z, h, u, R, S, hs, hsz, rfl, rfl⟩
    exact Then_next (EXS_nil ⟨rfl, ⟨sa, z, ha, h, R, S.le (by omega), hs, hsz, u, row, along, came, took, turned⟩, rfl, rfl⟩)
  case x2 =>
  clear R S hs hsz h z
  rintro t m1 cs1 htn zk ⟨z, h, u, R, S, hs, hsz, rfl, rfl⟩
  subst hsz
  have G := r2_good R S (by omega) (by omega)
  obtain ⟨c1, R1⟩ := r2_char R
  have S1 := s2_read (size := z.dcs) S
  have cd := chr1_dcs z
  have cr := chr1_src z
  have hrd := read_spec2 hK (A := i.A) (a := ha) (size := z.dcs) S (by omega) (by omega)
  rw [← c1] at hrd
  dsimp only [mD, lm2]
  keq_hits
  refine EXS.less ?_
  keq_hits
  refine EX_if (TV_cmp (EV_charS hK (by decide) ?y1 G ?y2))
  case y1 => kcf_all
  case y2 =>
  refine' EV_callK' ?y3 PL2.k_read ?y4 (CodeV.by hrd take_mid (by decide) ?y5)
  case y3 => kcf_all
  case y4 => kst_facts
  rintro v F' ⟨rfl, rfl⟩
  refine Op2.is C_ne_opt (Op1.is T_bool ⟨fun q => (nomatch q), fun _ => EXS_nil (Then_next (EXS_nil ⟨_, _, take_back, Turn_next ⟨_, _, _, R1, S1, by rw [cr]; exact hs, cd, rfl, rfl⟩⟩))⟩)
theorem deed1 {c : Cx} (hK : c.K = heapW c.w.params) (hS : SetIs c.base 144 setL) [pf : PF c] [pl : PL2 c] {i : Fi} (hg : GOk i gl2) {a nb nl : Addr} {nums : List Int} {whole : List Nat} {sa : SA} {z : SS} {ha : A2} {h : H2} {n deed u row along came took turned : Option Value} {more : Int} {J : Nat}
    (R : R2 z h) (S : S2 J h) (hJ : J ≤ 900) (hs : z.src.length ≤ 32) (hd : z.dcs ≤ 5) :
    EXS c i 8 (mD a nb whole sa ha z.dcs n deed more u row along came took turned) (st2 nb nums sa z nl ha h) (ifBody (deedSt 1))
      (DQ a nb nl nums whole n (some (.ref ha.rs)) (some (.ref ha.ah)) (some (.ref ha.dn)) (some (.ref ha.gn)) (some (.ref ha.st)) deed (some (intV more)) (J + 4) z.dcs) := by
  conv => arg 6; whnf
  unfold gl2 at hg
  obtain ⟨jj, hj1, hj2⟩ : ∃ jj : Nat, (more.fdiv 2).fmod 4 = jj ∧ jj < 4 := by
    have b0 : 0 ≤ (more.fdiv 2).fmod 4 := Int.fmod_nonneg_of_pos _ (by decide)
    have b1 : (more.fdiv 2).fmod 4 < 4 := Int.fmod_lt_of_pos _ (by decide)
    exact ⟨((more.fdiv 2).fmod 4).toNat, by omega, by omega⟩
  obtain ⟨rv, hrv⟩ : ∃ rv, rows2[jj]? = some rv := ⟨rows2[jj]'(by show jj < 4; omega), List.getElem?_eq_getElem _⟩
  have hrn := row_nv hrv
  have hrow : ∀ cs, Row c cs rv fun x => decide (x ∈ rowL jj) := fun cs => row_of hK hS hrv
  generalize (fun x => decide (x ∈ rowL jj)) = fr at hrow
  obtain ⟨al, hal⟩ : ∃ al : Bool, al = (more.fmod 2 == 1) := ⟨_, rfl⟩
  have G := r2_good R S (by omega) (by omega)
  have hpl := R.place
  have hbl : z.buf.length ≤ 1 := by rcases R.buf with e | e <;> rw [e] <;> simp
  obtain ⟨q, m, res, z2, h2, hq, cu, ru, R', d2, s2⟩ := r2_run (mt := fun x => fr x == al) (z.buf.length + (z.src.length - z.place)) (Nat.le_refl _) R
  have hrl := ru_len S ru
  have S' := s2_run S ru
  have hrun := run_spec2 hK (A := i.A) (a := ha) (X := []) (row := rv) (hrow []) S (by omega) (by omega) ru
  rw [List.append_nil, List.append_nil] at hrun
  dsimp only [mD, lm2]
  keq_hits
  refine EX_assign2 ?a1 (by kba_ints) (by kba_ints)
  case a1 =>
  refine PE.ev (v := rv) (PE_sub (n := .int (jj : Nat) 0) (PE_globR hg (by kba_ints) PL2.ROWS) ?a2 (S_listS (n := (jj : Int)) (rows_seen hK) (by omega) (by decide) (by simpa using hrv))) ?_
  case a2 =>
    rw [← hj1]
    kcf_all
  keq_hits
  refine' ⟨?ma1, ?mb1, ?u1, ?u2, ?a3⟩
  case u1 => kbo_bools
  case u2 => kbo_bools
  case a3 =>
  rw [← hal]
  keq_hits
  refine EXS.less ?_
  keq_hits
  refine EX_if (TV_cmp (EV_untilV hK (by decide) ?b1 G (by omega) (by omega) cu ?b2 ?b3 (hrow _) hrn ?b4))
  case b1 => kcf_all
  case b2 => kcf_all
  case b3 => kcf_all
  case b4 =>
  refine' EV_callK' (vs := [.ref ha.hd, .int z.dcs 0, rv, .bool al]) ?b5 PL2.k_run ?b6 (CodeV.by hrun take_mid (by decide) ?b7)
  case b5 => kcf_all
  case b6 => kst_facts
  rintro v F' ⟨rfl, rfl⟩
  refine Op2.is C_nes (Op1.is T_bool ⟨fun q => (by simp at q), fun _ => EXS_nil (Then_next (EXS_nil ⟨_, _, take_back, rfl, ⟨sa, z2, ha, h2, R', S'.le (by omega), by rw [s2]; exact hs, d2, u, some rv, some (.bool al), came, took, turned⟩, rfl, rfl⟩))⟩)
theorem hnd_dn {sa : SA} {z : SS} {nl nb : Addr} {nums : List Int} {ha : A2} {h : H2} : (ha.dn, AO.list (h.done.map oneV)) ∈ st2 nb nums sa z nl ha h := by
  unfold st2 hnd
  exact List.mem_append_right _ (List.mem_append_left _ (mem_tl (mem_tl (mem_tl mem_hd))))
noncomputable def stmB (sa : SA) (z : SS) : List Chunk := [(sa.ds, .inst 38 sa.dd), (sa.dd, .obj (fldT z)), (sa.er, .list (List.replicate z.errs (strV errT))), (sa.bm, .bm 113 sa.st)]
theorem stm_OB (sa : SA) (z : SS) (nl : Addr) : stm sa z nl = stmO sa z nl ++ stmB sa z := rfl
theorem ung_B (sa : SA) (z : SS) (x : Nat) : stmB sa (ung z x) = stmB sa z := by unfold ung; split <;> rfl
theorem take_hs {A B C D : List Chunk} : Take ((A ++ B) ++ (C ++ D)) (C ++ A) (B ++ D) := by
  unfold Take
  have e1 : ((A ++ B) ++ (C ++ D)).Perm (C ++ ((A ++ B) ++ D)) := take_mid
  refine e1.trans ?_
  rw [List.append_assoc, List.append_assoc]
theorem take_sh {A B C D : List Chunk} : Take ((C ++ A) ++ (B ++ D)) ((A ++ B) ++ (C ++ D)) [] := by
  unfold Take
  rw [List.append_nil]
  have e1 : ((A ++ B) ++ (C ++ D)).Perm (C ++ ((A ++ B) ++ D)) := take_mid
  refine List.Perm.trans ?_ e1.symm
  rw [List.append_assoc, List.append_assoc]
theorem back2_done (h : H2) (d : List Nat) (x : Nat) : (back2 h d x).done = d := by unfold back2; split <;> rfl
theorem deed2 {c : Cx} (hK : c.K = heapW c.w.params) [pf : PF c] [pl : PL2 c] {i : Fi} (hg : GOk i gl2) {a nb nl : Addr} {nums : List Int} {whole : List Nat} {sa : SA} {z : SS} {ha : A2} {h : H2} {n deed u row along came took turned : Option Value} {more : Int} {J : Nat}
    (R : R2 z h) (S : S2 J h) (hJ : J ≤ 900) (hs : z.src.length ≤ 32) (hd : z.dcs ≤ 5) :
    EXS c i 8 (mD a nb whole sa ha z.dcs n deed more u row along came took turned) (st2 nb nums sa z nl ha h) (ifBody (deedSt 2))
      (DQ a nb nl nums whole n (some (.ref ha.rs)) (some (.ref ha.ah)) (some (.ref ha.dn)) (some (.ref ha.gn)) (some (.ref ha.st)) deed (some (intV more)) (J + 4) z.dcs) := by
  conv => arg 6; whnf
  unfold gl2 at hg
  have q0 := S.dn
  obtain ⟨rn, hr1, hr2, hr3⟩ : ∃ r : Nat, (if (1 : Int) + more.fmod 4 < ((h.done.map oneV).length : Nat) then (1 : Int) + more.fmod 4 else ((h.done.map oneV).length : Nat)) = r ∧ r ≤ 4 ∧ r ≤ h.done.length := by
    have b0 : 0 ≤ more.fmod 4 := Int.fmod_nonneg_of_pos _ (by decide)
    have b1 : more.fmod 4 < 4 := Int.fmod_lt_of_pos _ (by decide)
    rw [List.length_map]
    refine ⟨(if (1 : Int) + more.fmod 4 < (h.done.length : Nat) then (1 : Int) + more.fmod 4 else (h.done.length : Nat)).toNat, ?_, ?_, ?_⟩ <;> split <;> omega
  generalize hsz : z.dcs = sz at hd ⊢
  keq_hits
  refine EX_for_range (n := rn) (fun t m1 cs1 => ∃ (z : SS) (h' : H2) (u : Option Value), R2 z h' ∧ S2 (J + t) h' ∧ z.src.length ≤ 32 ∧ z.dcs = sz ∧ h'.done.length + t = h.done.length ∧
    m1 = mD a nb whole sa ha sz n deed more u row along came took turned ∧ cs1 = st2 nb nums sa z nl ha h') hg (by kba_ints) PL2.g_range ?x1 (by omega) (by simp [st2, stm]) ⟨z, h, u, R, S, hs, hsz, rfl, rfl, rfl⟩ ?x2 ?x3
  case x1 =>
    rw [← hr1]
    dsimp only [mD, lm2]
    refine PE_min hg (by kba_ints) (PE_lenL hg (by kba_ints) ?e1 hnd_dn (by rw [List.length_map]; omega) PF.g_len) ?e2 PL2.g_min
    case e1 => kcf_all
    case e2 => kcf_all
  case x3 =>
    rintro m1 cs1 zk ⟨z, h', u, R, S, hs, hsz, hl, rfl, rfl⟩
    exact Then_next (EXS_nil ⟨rfl, ⟨sa, z, ha, h', R, S.le (by omega), hs, hsz, u, row, along, came, took, turned⟩, rfl, rfl⟩)
  case x2 =>
  rintro t m1 cs1 htn zk ⟨z1, h', u, R', S', hs', hsz', hl, rfl, rfl⟩
  have p0 := S'.dn
  have p1 := S'.gn
  have G := r2_good R' S' (by omega) (by omega)
  have hne : h'.done ≠ [] := fun q => by rw [q] at hl; simp at hl; omega
  obtain ⟨dd', x, hdx⟩ : ∃ dd' x, h'.done = dd' ++ [x] := ⟨h'.done.dropLast, h'.done.getLast hne, (List.dropLast_concat_getLast hne).symm⟩
  obtain ⟨b1, b2, R2'⟩ := r2_back R' hdx
  have Sb := s2_back S' hdx b2
  have ud := ung_dcs z1 x
  have us := ung_src z1 x
  have uB := ung_B sa z1 x
  have hdl : dd'.length + 1 = h'.done.length := by rw [hdx]; simp
  have hbk := back_spec hK (A := i.A) (a := ha) (sa := sa) (nl := nl) hdx (by omega) (by omega) (by omega) b2 G.chunk b1
  have hd2 := back2_done h' dd' x
  dsimp only [mD, lm2]
  keq_hits
  refine EXS.less ?_
  unfold st2
  rw [stm_OB]
  keq_hits
  keq_hits
  refine' EV_callK' ?f1 PL2.k_back ?f2 (CodeV.by hbk take_hs (by decide) ?f3)
  case f1 => kcf_all
  case f2 => kst_facts
  rintro v F' ⟨rfl, rfl⟩
  refine Then_next (EXS_nil ⟨_, _, take_sh, Turn_next ⟨ung z1 x, back2 h' dd' x, _, R2', Sb, by rw [us]; exact hs', by rw [ud]; exact hsz', by rw [hd2]; omega, rfl, ?_⟩⟩)
  rw [stm_OB, uB]
section
variable {c : Cx} {i : Fi} {k : Nat} {m : Fields} {cs cs' : List Chunk}
theorem EV_appendE {o e : Expr} {apos pos : Pos} {a : Addr} {vs0 : List Value} {Q : Value → List Chunk → Prop} (ho : PE c i k m cs o (.ref a)) (h : (a, .list vs0) ∈ cs)
    (he : EV c i k m cs e (fun v cs1 => ∃ vs cs', (a, .list vs) ∈ cs1 ∧ Upd cs1 a (.list (vs ++ [v])) cs' ∧ vs.length ≤ 1000000 ∧ Q .none cs'))
    (hc : MCall o "append" [e] apos pos := by intro _; exact ⟨_, rfl⟩) (hs : ∀ env, starEach [e] env = (false, eval e env) :: starEach [] env := by intro _; rfl) :
    EV c i k m cs (.Call (.Attribute o "append" apos) [e] [] pos) Q := by
  refine EV_meth (ho.ev (M_list h F.slot_list_append F.type_list_append ⟨.inl ⟨_, rfl⟩, EVs_cons (he.mono fun v cs1 h => ?_) hs⟩)) hc hs
  obtain ⟨vs, cs', h1, U, hz, q⟩ := h
  exact EVs_nil (K_append h1 U hz q)
theorem EV_popN {o e : Expr} {apos pos : Pos} {a : Addr} {vs : List Value} {v : Value} {j : Int} {Q : Value → List Chunk → Prop} (ho : PE c i k m cs o (.ref a)) (he : PE c i k m cs e (.int j 0)) (h : (a, .list vs) ∈ cs) (hj : 0 ≤ j) (hv : vs[j.toNat]? = some v) (U : Upd cs a (.list (vs.eraseIdx j.toNat)) cs') (hz : vs.length ≤ 1000000) (q : Q v cs')
    (hc : MCall o "pop" [e] apos pos := by intro _; exact ⟨_, rfl⟩) (hs : ∀ env, starEach [e] env = (false, eval e env) :: starEach [] env := by intro _; rfl) :
    EV c i k m cs (.Call (.Attribute o "pop" apos) [e] [] pos) Q :=
  EV_methP ho (PEs_cons he PEs_nil hs) (M_list h F.slot_list_pop F.type_list_pop ⟨rfl, .inl ⟨_, rfl⟩, K_pop_at h hj hv U hz q⟩) hc hs
end
theorem deed3 {c : Cx} (hK : c.K = heapW c.w.params) [pf : PF c] [pl : PL2 c] {i : Fi} (hg : GOk i gl2) {a nb nl : Addr} {nums : List Int} {whole : List Nat} {sa : SA} {z : SS} {ha : A2} {h : H2} {n deed u row along came took turned : Option Value} {more : Int} {J : Nat}
    (R : R2 z h) (S : S2 J h) (hJ : J ≤ 900) (hs : z.src.length ≤ 32) (hd : z.dcs ≤ 5) :
    EXS c i 8 (mD a nb whole sa ha z.dcs n deed more u row along came took turned) (st2 nb nums sa z nl ha h) (ifBody (deedSt 3))
      (DQ a nb nl nums whole n (some (.ref ha.rs)) (some (.ref ha.ah)) (some (.ref ha.dn)) (some (.ref ha.gn)) (some (.ref ha.st)) deed (some (intV more)) (J + 4) z.dcs) := by
  conv => arg 6; whnf
  unfold gl2 at hg
  have G := r2_good R S (by omega) (by omega)
  have q0 := S.dn
  have q1 := S.gn
  obtain ⟨r1, r2, -, -⟩ := r2_read R
  have Sl := s2_letgo S
  have Sf := s2_fill (size := z.dcs) Sl
  have hfs := fill_spec hK (A := i.A) (a := ha) (h := letgo h) (size := z.dcs) Sl (by omega)
  have hpl : piece2 z.dcs (letgo h) = piece2 z.dcs h := rfl
  rw [hpl, ← r1] at hfs
  have rd := rdc_dcs z
  have rs := rdc_src z
  refine EXS.perm (take_mid (A := stm sa z nl) (B := hnd ha h) (C := [(nb, .list (nums.map intV))])) ?_
  keq_hits
  refine EX_thenR (m₁ := mD a nb whole sa ha z.dcs n deed more u row along came took turned) (cs₁ := hnd ha (letgo h) ++ (stm sa z nl ++ [(nb, .list (nums.map intV))])) ?x1 ?x2
  case x1 =>
    generalize stm sa z nl ++ [(nb, AO.list (nums.map intV))] = Y
    refine EX_while (n := h.ahead.length) (fun t m1 cs1 => ∃ g r, h.ahead = g ++ r ∧ t = r.length ∧ m1 = mD a nb whole sa ha z.dcs n deed more u row along came took turned ∧ cs1 = hnd ha { h with ahead := r, gone := h.gone ++ g } ++ Y) ⟨[], h.ahead, rfl, rfl, rfl, by simp⟩ ?_
    rintro t m1 cs1 zk ⟨g, r, e1, rfl, rfl, rfl⟩
    have el := congrArg List.length e1
    rw [List.length_append] at el
    dsimp only [mD, lm2, hnd]
    simp only [List.cons_append, List.nil_append]
    have hal : (r.map oneV).length ≤ 100 := by rw [List.length_map]; omega
    refine' PT.tv ?p1 ?p2
    case p1 => kd_in
    cases r with
    | nil =>
      refine ⟨fun q => by simp at q, fun _ => ⟨by trivial, by trivial, ?_⟩⟩
      have : g = h.ahead := by rw [e1, List.append_nil]
      subst this
      rfl
    | cons x r =>
      refine ⟨fun _ => ?_, fun q => by simp at q⟩
      simp only [List.map_cons] at hal ⊢
      keq_hits
      keq_hits
      refine EV_appendE (a := ha.gn) ?a1 (vs0 := (h.gone ++ g).map oneV) ?a2 ?a3
      case a1 => kcf_all
      case a2 => kba_ints
      case a3 =>
      refine' EV_pop0 ?b1 ?b2 ?b3 ?b4 ?b5
      case b1 => kcf_all
      case b2 => kba_ints
      case b3 => kbo_bools
      case b4 => kas_types
      case b5 =>
      refine' ⟨(h.gone ++ g).map oneV, ?c5, ?c1, ?c2, ?c3, ?c4⟩
      case c1 => kba_ints
      case c2 => kbo_bools
      case c3 => rw [List.length_map, List.length_append]; omega
      case c4 =>
      refine Then_next (EXS_nil (Turn_next ⟨r.length, by simp, g ++ [x], r, by rw [e1]; simp, rfl, rfl, ?_⟩))
      simp [hnd]
  case x2 =>
  refine EXS.perm (List.Perm.trans (take_back (A := stm sa z nl) (B := hnd ha (letgo h)) (C := [(nb, .list (nums.map intV))])) (by rw [List.append_nil])) ?_
  dsimp only [mD, lm2]
  keq_hits
  refine' EX_thenR (m₁ := mD a nb whole sa ha z.dcs n deed more u row along (some (.bool (rdc z).1)) took turned) (cs₁ := stm sa (rdc z).2 nl ++ (hnd ha (letgo h) ++ [(nb, .list (nums.map intV))])) ?y1 ?y2
  case y1 =>
    keq_hits
    refine' EV_ifexp (PT.tv ?d1 ?d2)
    case d1 => kd_in
    refine ⟨fun _ => ?_, fun _ => ?_⟩
    · refine EV_readChunk1 hK (by decide) ?e1 ?e2 G ?e3
      case e1 => kcf_all
      case e2 => kcf_all
      case e3 =>
      keq_rows
      exact ⟨rfl, rfl, rfl⟩
    · refine EV_readChunk0 hK (by decide) ?e4 G ?e5
      case e4 => kcf_all
      case e5 =>
      keq_rows
      exact ⟨rfl, rfl, rfl⟩
  case y2 =>
  dsimp only [mD, lm2]
  refine EXS.less ?_
  keq_hits
  refine EX_if (TV_or (TV_not (TV_plain (EV_callB (f := "isinstance") (PE_bi (v := .builtin "isinstance") hg (by kba_ints) PL2.g_isinstance (by boot_fast) (by decide)) ((PEs_cons (v := .bool (rdc z).1) ?f1 (PEs_cons (v := .type "bool") ?f2 PEs_nil)).evs (CallV.mono K_isbool ?f3))))))
  case f1 => kcf_all
  case f2 => exact PE_bi (v := .type "bool") hg (by kba_ints) PL2.g_bool (by boot_fast) (by decide)
  case f3 =>
  rintro v cs' ⟨rfl, rfl⟩
  refine Op1.is T_bool ⟨fun q => (nomatch q), fun _ => TV_or (TV_cmp (PE.ev (v := .bool (rdc z).1) ?g1 ?g2))⟩
  case g1 => kcf_all
  case g2 =>
  refine' EV_callK' (vs := [.ref ha.hd, .int z.dcs 0]) ?h1 PL2.k_fill ?h2 (CodeV.by hfs take_mid (by decide) ?h3)
  case h1 => kcf_all
  case h2 => kst_facts
  rintro v F' ⟨rfl, rfl⟩
  refine Op2.is C_neb (Op1.is T_bool ⟨fun q => (by simp at q), fun _ => TV_or_nil ⟨fun q => (nomatch q), fun _ => EXS_nil (Then_next (EXS_nil ⟨_, _, take_back, rfl, ⟨sa, (rdc z).2, ha, fill2 z.dcs (letgo h), r2, Sf.le (by omega), by rw [rs]; exact hs, rd, u, row, along, some (.bool (rdc z).1), took, turned⟩, rfl, rfl⟩))⟩⟩)
theorem pop_mid (l : List Nat) (k j : Nat) (h : k + j < l.length) : ∃ y, (l.take k ++ l.drop (k + j))[k]? = some y ∧ (l.take k ++ l.drop (k + j)).eraseIdx k = l.take k ++ l.drop (k + (j + 1)) := by
  have hk : (l.take k).length = k := by rw [List.length_take]; omega
  refine ⟨l[k + j], ?_, ?_⟩
  · rw [List.getElem?_append_right (by omega), hk, Nat.sub_self, List.getElem?_drop, Nat.add_zero]
    exact List.getElem?_eq_getElem h
  · rw [List.eraseIdx_append_of_length_le (by omega), hk, Nat.sub_self, List.drop_eq_getElem_cons h]
    rfl
theorem drop_min (l : List Nat) (k n : Nat) : l.drop (k + ((l.drop k).take n).length) = l.drop (k + n) := by
  rw [List.length_take, List.length_drop]
  by_cases h : n ≤ l.length - k
  · rw [Nat.min_eq_left h]
  · rw [Nat.min_eq_right (by omega), List.drop_eq_nil_of_le (by omega), List.drop_eq_nil_of_le (by omega)]
theorem take_drop1 {A B : List Chunk} {x : Chunk} : Take (A ++ (x :: B)) (A ++ B) [x] := by
  unfold Take
  exact List.perm_middle.trans (List.perm_append_comm (l₁ := [x]))
theorem deed4 {c : Cx} (hK : c.K = heapW c.w.params) [pf : PF c] [pl : PL2 c] {i : Fi} (hg : GOk i gl2) {a nb nl : Addr} {nums : List Int} {whole : List Nat} {sa : SA} {z : SS} {ha : A2} {h : H2} {n deed u row along came took turned : Option Value} {more : Int} {J : Nat}
    (R : R2 z h) (S : S2 J h) (hJ : J ≤ 900) (hs : z.src.length ≤ 32) (hd : z.dcs ≤ 5) :
    EXS c i 8 (mD a nb whole sa ha z.dcs n deed more u row along came took turned) (st2 nb nums sa z nl ha h) (ifBody (deedSt 4))
      (DQ a nb nl nums whole n (some (.ref ha.rs)) (some (.ref ha.ah)) (some (.ref ha.dn)) (some (.ref ha.gn)) (some (.ref ha.st)) deed (some (intV more)) (J + 4) z.dcs) := by
  conv => arg 6; whnf
  unfold gl2 at hg
  have G := r2_good R S (by omega) (by omega)
  have q0 := S.dn
  obtain ⟨rn, hr1, hr2⟩ : ∃ r : Nat, (1 : Int) + more.fmod 3 = r ∧ r ≤ 9 := by
    have b0 : 0 ≤ more.fmod 3 := Int.fmod_nonneg_of_pos _ (by decide)
    have b1 : more.fmod 3 < 3 := Int.fmod_lt_of_pos _ (by decide)
    exact ⟨(1 + more.fmod 3).toNat, by omega, by omega⟩
  obtain ⟨t1, t2⟩ := r2_take R rn
  have t3 := s2_take (k := rn) S
  have hrl : (h.rest.map oneV).length ≤ 100 := by rw [List.length_map]; omega
  have hll : ((h.rest.drop h.held).take rn).length ≤ 100 := by rw [List.length_take, List.length_drop]; omega
  have hsl : sl (h.rest.map oneV) (some (h.held : Int)) (some ((h.held + rn : Nat) : Int)) = ((h.rest.drop h.held).take rn).map oneV := by
    rw [sl_nn, List.map_take, List.map_drop, Nat.add_sub_cancel_left]
  refine EXS.perm (take_mid (A := stm sa z nl) (B := hnd ha h) (C := [(nb, .list (nums.map intV))])) ?_
  generalize hL : (h.rest.drop h.held).take rn = L at t1 hll hsl
  have hdm : h.rest.drop (h.held + L.length) = h.rest.drop (h.held + rn) := by rw [← hL]; exact drop_min _ _ _
  have hlr : h.held + L.length ≤ h.rest.length ∨ L.length = 0 := by
    rw [← hL, List.length_take, List.length_drop]; omega
  generalize hY : stm sa z nl ++ [(nb, AO.list (nums.map intV))] = Y
  dsimp only [mD, lm2, hnd]
  simp only [List.cons_append, List.nil_append]
  keq_hits
  keq_hits
  refine' EV_slice_list (lo := some (h.held : Int)) (hi := some ((h.held + rn : Nat) : Int)) (vs := h.rest.map oneV) ?a1 ?a2 ?a3 ?a4 ?a5 ?a6
  case a1 => kcf_all
  case a2 => kba_ints
  case a3 => kcj_m
  case a4 =>
    rw [show ((h.held + rn : Nat) : Int) = (h.held : Int) + 1 + more.fmod 3 from by omega]
    kcj_m
  case a5 => kas_types
  case a6 =>
  intro tk
  rw [hsl]
  keq_hits
  keq_hits
  refine EXS_cons ?_
  refine EX_for_list (a := tk) (vs := L.map oneV) (cs1 := (tk, .list (L.map oneV)) :: (hnd ha h ++ Y)) (fun j m1 cs1 => ∃ u, m1 = mD a nb whole sa ha z.dcs n deed more u row along came (some (.ref tk)) turned ∧
    cs1 = (tk, .list (L.map oneV)) :: (hnd ha { h with rest := h.rest.take h.held ++ h.rest.drop (h.held + j) } ++ Y)) ?b1 ⟨u, rfl, ?b2⟩ ?b3 ?b4 ?b5
  case b1 =>
    refine PE.ev (v := .ref tk) ?b6 ⟨rfl, rfl⟩
    case b6 => kcf_all
  case b2 => rw [Nat.add_zero, List.take_append_drop]
  case b3 =>
    rintro j m1 cs1 ⟨u, rfl, rfl⟩
    exact mem_hd
  case b4 =>
    rintro j x m1 cs1 hx zk ⟨u, rfl, rfl⟩
    have hj : j < L.length := by
      have := (List.getElem?_eq_some_iff.mp hx).1
      rwa [List.length_map] at this
    obtain ⟨y, y1, y2⟩ := pop_mid h.rest h.held j (by omega)
    have hl2 : ((h.rest.take h.held ++ h.rest.drop (h.held + j)).map oneV).length ≤ 100 := by
      rw [List.length_map, List.length_append, List.length_take, List.length_drop]; omega
    dsimp only [mD, lm2, hnd]
    simp only [List.cons_append, List.nil_append]
    keq_hits
    keq_hits
    keq_hits
    refine' EV_popN (j := (h.held : Int)) (v := oneV y) (vs := (h.rest.take h.held ++ h.rest.drop (h.held + j)).map oneV) ?c1 ?c2 ?c3 ?c4 ?c5 ?c6 ?c7 ?c8
    case c1 => kcf_all
    case c2 => kcf_all
    case c3 => kba_ints
    case c4 => omega
    case c5 => rw [Int.toNat_natCast, List.getElem?_map, y1]; rfl
    case c6 => kbo_bools
    case c7 => kas_types
    case c8 =>
    refine Then_next (EXS_nil (Turn_next ⟨_, rfl, ?_⟩))
    have e : ((h.rest.take h.held ++ h.rest.drop (h.held + j)).map oneV).eraseIdx h.held = (h.rest.take h.held ++ h.rest.drop (h.held + (j + 1))).map oneV := by
      rw [← y2, map_eraseIdx']
    rw [Int.toNat_natCast, e]
  case b5 =>
  rintro m1 cs1 zk ⟨u, rfl, rfl⟩
  rw [List.length_map, hdm]
  generalize ({ h with rest := h.rest.take h.held ++ h.rest.drop (h.held + rn) } : H2) = h2 at t2 t3 ⊢
  refine Then_next ?_
  rw [← hY]
  refine EXS.perm (List.Perm.trans (take_back (A := stm sa z nl) (B := (tk, .list (L.map oneV)) :: hnd ha h2) (C := [(nb, .list (nums.map intV))])) (by rw [List.append_nil])) ?_
  refine EXS.less ?_
  dsimp only [mD, lm2]
  keq_hits
  refine EX_if (TV_cmp (EV_dsRead hK (by decide) (n := rn) ?d1 ?d2 (by omega) G ?d3))
  case d1 =>
    refine PE_attr ?d4 (A_fld PF.S stm_hx stm_hd ?d5 PF.s_dataStream rfl)
    case d4 => kcf_all
    case d5 => unfold fldS fldG; kba_ints
  case d2 => rw [← hr1]; kcf_all
  case d3 =>
  rw [← t1]
  refine PE.ev (PE_join0 (a := tk) (ls := L.map fun x => [x]) ?e1 ?e2 ?e3 ?e4 ?e5) ?e6
  case e1 => kcf_all
  case e2 => kcf_all
  case e3 =>
    refine List.mem_append_right _ ?_
    rw [List.map_map]
    exact mem_hd
  case e4 => rw [ones_flat]; omega
  case e5 => rw [List.length_map]; omega
  case e6 =>
  rw [ones_flat]
  refine Op2.is C_nes (Op1.is T_bool ⟨fun q => (by simp at q), fun _ => EXS_nil (Then_next (EXS_nil ⟨_, _, take_drop1, rfl, ⟨sa, _, ha, h2, t2, t3.le (by omega), hs, rfl, u, row, along, came, some (.ref tk), turned⟩, rfl, rfl⟩))⟩)
theorem take_new {A B C D : List Chunk} : Take (A ++ (B ++ (C ++ D))) (C ++ (A ++ D)) B := by
  unfold Take
  have e1 : (A ++ (B ++ (C ++ D))).Perm (B ++ (A ++ (C ++ D))) := take_mid
  have e2 : (A ++ (C ++ D)).Perm (C ++ (A ++ D)) := take_mid
  exact (e1.trans (List.Perm.append_left B e2)).trans List.perm_append_comm
theorem take_new2 {A B C D : List Chunk} : Take (A ++ (C ++ (B ++ D))) (C ++ (A ++ D)) B := by
  have e1 : (C ++ (B ++ D)).Perm (B ++ (C ++ D)) := take_mid
  exact (List.Perm.append_left A e1).trans take_new
theorem deed5 {c : Cx} (hK : c.K = heapW c.w.params) [pf : PF c] [pl : PL2 c] {i : Fi} (hg : GOk i gl2) {a nb nl : Addr} {nums : List Int} {whole : List Nat} {sa : SA} {z : SS} {ha : A2} {h : H2} {n deed u row along came took turned : Option Value} {more : Int} {J : Nat}
    (R : R2 z h) (S : S2 J h) (hJ : J ≤ 900) (hs : z.src.length ≤ 32) (hd : z.dcs ≤ 5) :
    EXS c i 8 (mD a nb whole sa ha z.dcs n deed more u row along came took turned) (st2 nb nums sa z nl ha h) (ifBody (deedSt 5))
      (DQ a nb nl nums whole n (some (.ref ha.rs)) (some (.ref ha.ah)) (some (.ref ha.dn)) (some (.ref ha.gn)) (some (.ref ha.st)) deed (some (intV more)) (J + 4) z.dcs) := by
  conv => arg 6; whnf
  unfold gl2 at hg
  have q0 := S.dn
  have R' := r2_reset R
  have hrl : (h.rest.map oneV).length ≤ 100 := by rw [List.length_map]; omega
  have hll : (h.rest.drop h.held).length ≤ 40 := by rw [List.length_drop]; omega
  have S' : S2 (J + 4) (anew2 (h.rest.drop h.held)) := s2_anew hll (fun x hx => S.ns x (List.mem_of_mem_drop hx)) _
  have hsl : sl (h.rest.map oneV) (some (h.held : Int)) none = (h.rest.drop h.held).map oneV := by rw [sl_n_, List.map_drop]
  dsimp only [mD, lm2]
  keq_hits
  keq_hits
  refine EV_resetS hK (by decide) ?a1 fun er => ?a2
  case a1 => kcf_all
  case a2 =>
  refine Then_next ?_
  refine EXS.perm (take_mid (A := stm { sa with er := er } (zres z) nl) (B := hnd ha h) (C := [(nb, .list (nums.map intV))])) ?_
  refine EXS.less ?_
  generalize hY : stm { sa with er := er } (zres z) nl ++ [(nb, AO.list (nums.map intV))] = Y
  generalize hLr : h.rest.drop h.held = L at hsl hll R' S'
  dsimp only [hnd]
  simp only [List.cons_append, List.nil_append]
  keq_hits
  keq_hits
  refine EV_callK ?b1 PL2.k_anew (EVs_cons ?b2)
  case b1 => kcf_all
  case b2 =>
  refine' EV_slice_list (lo := some (h.held : Int)) (hi := none) (vs := h.rest.map oneV) ?c1 ?c2 ?c3 PO.no ?c5 ?c6
  case c1 => kcf_all
  case c2 => kba_ints
  case c3 => kcj_m
  case c5 => kas_types
  case c6 =>
  intro tk
  rw [hsl]
  refine EVs_nil (CodeV.call (((anewL_spec hK (l := L) mem_hd (by omega)).level (by decide)).mono ?_))
  rintro v cs' ⟨a', rfl, rfl⟩
  refine' AS_name ?d1 ?d2
  case d1 => kbo_bools
  case d2 =>
  refine Then_next (EXS_nil ⟨_, (tk, .list (L.map oneV)) :: hnd ha h, ?_, rfl, ⟨{ sa with er := er }, zres z, a', anew2 L, R', S', hs, rfl, u, row, along, came, took, turned⟩, rfl, rfl⟩)
  rw [← hY]
  exact take_new (A := hnd a' (anew2 L)) (B := (tk, .list (L.map oneV)) :: hnd ha h) (C := stm { sa with er := er } (zres z) nl) (D := [(nb, .list (nums.map intV))])
theorem deed6 {c : Cx} (hK : c.K = heapW c.w.params) [pf : PF c] [pl : PL2 c] {i : Fi} (hg : GOk i gl2) {a nb nl : Addr} {nums : List Int} {whole : List Nat} {sa : SA} {z : SS} {ha : A2} {h : H2} {n deed u row along came took turned : Option Value} {more : Int} {J : Nat}
    (hw : whole.length ≤ 32) (hw0 : 0 < whole.length) (hns : NoSur whole) :
    EXS c i 8 (mD a nb whole sa ha z.dcs n deed more u row along came took turned) (st2 nb nums sa z nl ha h) (ifElse (deedSt 5))
      (DQ a nb nl nums whole n (some (.ref ha.rs)) (some (.ref ha.ah)) (some (.ref ha.dn)) (some (.ref ha.gn)) (some (.ref ha.st)) deed (some (intV more)) (J + 4) z.dcs) := by
  conv => arg 6; whnf
  unfold gl2 at hg
  obtain ⟨kk, hk1, hk2⟩ : ∃ kk : Nat, more.fmod (whole.length : Int) = kk ∧ kk < whole.length := by
    have b0 : 0 ≤ more.fmod (whole.length : Int) := Int.fmod_nonneg_of_pos _ (by omega)
    have b1 : more.fmod (whole.length : Int) < whole.length := Int.fmod_lt_of_pos _ (by omega)
    exact ⟨(more.fmod (whole.length : Int)).toNat, by omega, by omega⟩
  dsimp only [mD, lm2]
  keq_hits
  keq_hits
  refine PE.ev (v := strV (whole.drop kk ++ whole.take kk)) (PE_bin (a := strV (whole.drop kk)) (b := strV (whole.take kk)) ?a1 ?a2 (B_adds ?a3)) ?a4
  case a1 =>
    rw [← sl_n_]
    refine PE_slice ?b1 (PO.yes ?b2) PO.no (by omega)
    case b1 => kcf_all
    case b2 =>
      rw [← hk1]
      refine PE_bin ?b3 (PE_len hg (by kba_ints) ?b4 (by omega) PF.g_len) (B_mod (by omega))
      case b3 => kcf_all
      case b4 => kcf_all
  case a2 =>
    rw [← sl__n]
    refine PE_slice ?b5 PO.no (PO.yes ?b6) (by omega)
    case b5 => kcf_all
    case b6 =>
      rw [← hk1]
      refine PE_bin ?b7 (PE_len hg (by kba_ints) ?b8 (by omega) PF.g_len) (B_mod (by omega))
      case b7 => kcf_all
      case b8 => kcf_all
  case a3 => rw [List.length_drop, List.length_take]; omega
  case a4 =>
  have htl : (whole.drop kk ++ whole.take kk).length ≤ 32 := by rw [List.length_append, List.length_drop, List.length_take]; omega
  have htn : NoSur (whole.drop kk ++ whole.take kk) := fun x hx => by
    rcases List.mem_append.mp hx with q | q
    · exact hns x (List.mem_of_mem_drop q)
    · exact hns x (List.mem_of_mem_take q)
  generalize whole.drop kk ++ whole.take kk = tu at htl htn ⊢
  refine' AS_name ?d1 ?d2
  case d1 => kbo_bools
  case d2 =>
  keq_hits
  refine EXS_cons ?_
  refine EX_openS (l := tu) hK (by decide) ?e1 ?e2 ?e3 fun ds dd => ?e4
  case e1 => kcf_all
  case e2 => intro cs'; kcf_all
  case e3 => kcf_all
  case e4 =>
  keq_hits
  keq_hits
  keq_hits
  refine EV_resetS hK (by decide) ?f1 fun er => ?f2
  case f1 => kcf_all
  case f2 =>
  refine Then_next ?_
  refine EXS.less ?_
  keq_hits
  keq_hits
  refine' EV_callK' ?g1 PL2.k_anew ?g2 (((anewS_spec hK (l := tu) (by simp [stm]) (by omega)).level (by decide)).mono ?g3)
  case g1 => kcf_all
  case g2 => kst_facts
  case g3 =>
  rintro v cs' ⟨a', rfl, rfl⟩
  refine' AS_name ?h1 ?h2
  case h1 => kbo_bools
  case h2 =>
  exact Then_next (EXS_nil ⟨_, hnd ha h, take_new2, rfl, ⟨⟨sa.st, sa.sd, ds, dd, er, sa.bm⟩, _, a', anew2 tu, r2_start htn z.dcs, s2_anew (by omega) htn _, htl, rfl, u, row, along, came, took, some (strV tu)⟩, rfl, rfl⟩)
theorem EX_only {c : Cx} {i : Fi} {k : Nat} {m : Fields} {cs : List Chunk} {st : Stmt} {P : Fields → List Chunk → Prop} (h : EX c i k m cs st (fun f m' cs' => f = .next ∧ P m' cs')) : EXS c i k m cs [st] (fun f m' cs' => f = .next ∧ P m' cs') :=
  EXS_cons (h.mono fun f m' cs' ⟨e, p⟩ => by subst e; exact Then_next (EXS_nil ⟨rfl, p⟩))
theorem right_cs {c : Cx} (hK : c.K = heapW c.w.params) [pf : PF c] [pl : PL2 c] {A : Around} {ha : A2} {h : H2} {sa : SA} {z : SS} {nl : Addr} {dc : Option Value} {j : Nat} {Y : List Chunk} (R : R2 z h) (S : S2 j h) (hj : j ≤ 1000) :
    CodeV c A 8 (stmD sa z nl dc ++ (hnd ha h ++ Y)) (.ref 209) [.ref sa.st, .ref ha.hd] (fun v cs' => v = .bool true ∧ cs' = stmD sa z nl dc ++ (hnd ha h ++ Y)) := by
  refine CodeV.by (right_spec hK R S hj) (R₀ := Y) (F := stmD sa z nl dc ++ hnd ha h) ?_ (by decide) ?_
  · unfold Take; rw [List.append_assoc]
  · rintro v F' ⟨rfl, rfl⟩
    exact ⟨rfl, by rw [List.append_assoc]⟩
theorem deeds {c : Cx} (hK : c.K = heapW c.w.params) (hS : SetIs c.base 144 setL) [pf : PF c] [pl : PL2 c] {i : Fi} (hg : GOk i gl2) {a nb nl : Addr} {nums : List Int} {whole : List Nat} {sa : SA} {z : SS} {ha : A2} {h : H2} {n u row along came took turned : Option Value} {d more : Int} {J : Nat}
    (R : R2 z h) (S : S2 J h) (hJ : J ≤ 900) (hs : z.src.length ≤ 32) (hd : z.dcs ≤ 5) (hw : whole.length ≤ 32) (hw0 : 0 < whole.length) (hns : NoSur whole) :
    EX c i 8 (mD a nb whole sa ha z.dcs n (some (intV d)) more u row along came took turned) (st2 nb nums sa z nl ha h) (deedSt 0)
      (DQ a nb nl nums whole n (some (.ref ha.rs)) (some (.ref ha.ah)) (some (.ref ha.dn)) (some (.ref ha.gn)) (some (.ref ha.st)) (some (intV d)) (some (intV more)) (J + 4) z.dcs) := by
  conv => arg 6; whnf
  refine' EX_if (PT.tv ?t0 ?r0)
  case t0 => dsimp only [mD, lm2]; kd_in
  refine ⟨fun _ => deed0 hK hg R S hJ hs hd, fun _ => EX_only ?_⟩
  refine' EX_if (PT.tv ?t1 ?r1)
  case t1 => dsimp only [mD, lm2]; kd_in
  refine ⟨fun _ => deed1 hK hS hg R S hJ hs hd, fun _ => EX_only ?_⟩
  refine' EX_if (PT.tv ?t2 ?r2)
  case t2 => dsimp only [mD, lm2]; kd_in
  refine ⟨fun _ => deed2 hK hg R S hJ hs hd, fun _ => EX_only ?_⟩
  refine' EX_if (PT.tv ?t3 ?r3)
  case t3 => dsimp only [mD, lm2]; kd_in
  refine ⟨fun _ => deed3 hK hg R S hJ hs hd, fun _ => EX_only ?_⟩
  refine' EX_if (PT.tv ?t4 ?r4)
  case t4 => dsimp only [mD, lm2]; kd_in
  refine ⟨fun _ => deed4 hK hg R S hJ hs hd, fun _ => EX_only ?_⟩
  refine' EX_if (PT.tv ?t5 ?r5)
  case t5 => dsimp only [mD, lm2]; kd_in
  exact ⟨fun _ => deed5 hK hg R S hJ hs hd, fun _ => deed6 hK hg hw hw0 hns⟩
/-- what the loop over the numbers leaves -/
structure LO where
  sa : SA
  z : SS
  ha : A2
  h : H2
  R : R2 z h
  S : S2 64 h
  src : z.src.length ≤ 32
  d1 : 1 ≤ z.dcs
  d5 : z.dcs ≤ 5
  n : Option Value
  rest : Option Value
  ahead : Option Value
  done : Option Value
  gone : Option Value
  state : Option Value
  deed : Option Value
  more : Option Value
  u : Option Value
  row : Option Value
  along : Option Value
  came : Option Value
  took : Option Value
  turned : Option Value
noncomputable def mL (a nb : Addr) (whole : List Nat) (o : LO) (turn : Option Value) : Fields :=
  lm2 a (some (.ref nb)) (some (strV whole)) (some (.ref o.sa.st)) (some (.ref o.ha.hd)) (some (.int o.z.dcs 0)) o.n o.rest o.ahead o.done o.gone o.state o.deed o.more o.u o.row o.along o.came o.took o.turned turn
theorem law_loop {c : Cx} (hK : c.K = heapW c.w.params) (hS : SetIs c.base 144 setL) [pf : PF c] [pl : PL2 c] {i : Fi} (hg : GOk i gl2) {a nb nl : Addr} {nums : List Int} {whole : List Nat} {sa : SA} {z : SS} {ha : A2} {h : H2}
    (R : R2 z h) (S : S2 0 h) (hs : z.src.length ≤ 32) (hn : nums.length ≤ 16) (hn0 : 0 < nums.length) (hw : whole.length ≤ 32) (hw0 : 0 < whole.length) (hns : NoSur whole) :
    EX c i 8 (lm2 a (some (.ref nb)) (some (strV whole)) (some (.ref sa.st)) (some (.ref ha.hd)) (some (intV 1)) none none none none none none none none none none none none none none none) (stmD sa z nl none ++ (hnd ha h ++ [(nb, .list (nums.map intV))])) (lawSt 6)
      (fun f m' cs' => f = .next ∧ ∃ o : LO, m' = mL a nb whole o none ∧ cs' = st2 nb nums o.sa o.z nl o.ha o.h) := by
  conv => arg 6; whnf
  refine EX_for_list (a := nb) (vs := nums.map intV) (cs1 := stmD sa z nl none ++ (hnd ha h ++ [(nb, .list (nums.map intV))]))
    (fun j m1 cs1 => ∃ (sa : SA) (z : SS) (dc : Option Value) (ha : A2) (h : H2) (sz : Int) (n rest ahead done gone state deed more u row along came took turned : Option Value), R2 z h ∧ S2 (4 * j) h ∧ z.src.length ≤ 32 ∧
      (0 < j → dc = some (.int z.dcs 0) ∧ sz = z.dcs ∧ 1 ≤ z.dcs ∧ z.dcs ≤ 5) ∧
      m1 = lm2 a (some (.ref nb)) (some (strV whole)) (some (.ref sa.st)) (some (.ref ha.hd)) (some (intV sz)) n rest ahead done gone state deed more u row along came took turned none ∧
      cs1 = stmD sa z nl dc ++ (hnd ha h ++ [(nb, .list (nums.map intV))])) ?x1 ⟨sa, z, none, ha, h, 1, none, none, none, none, none, none, none, none, none, none, none, none, none, none, R, S, hs, fun q => absurd q (by decide), rfl, rfl⟩ ?x2 ?x3 ?x4
  case x1 =>
    refine PE.ev (v := .ref nb) ?y1 ⟨rfl, rfl⟩
    case y1 => dsimp only [lm2]; kcf_all
  case x2 =>
    rintro j m1 cs1 ⟨sa, z, dc, ha, h, sz, n, rest, ahead, done, gone, state, deed, more, u, row, along, came, took, turned, R, S, hs, hdc, rfl, rfl⟩
    exact List.mem_append_right _ (List.mem_append_right _ mem_hd)
  case x4 =>
    rintro m1 cs1 zk ⟨sa, z, dc, ha, h, sz, n, rest, ahead, done, gone, state, deed, more, u, row, along, came, took, turned, R, S, hs, hdc, rfl, rfl⟩
    rw [List.length_map] at S hdc
    obtain ⟨rfl, rfl, d1, d5⟩ := hdc hn0
    exact ⟨rfl, ⟨sa, z, ha, h, R, S.le (by omega), hs, d1, d5, n, rest, ahead, done, gone, state, deed, more, u, row, along, came, took, turned⟩, rfl, rfl⟩
  case x3 =>
  clear R S hs h z
  rintro j x m1 cs1 hx zk ⟨sa, z, dc, ha, h, sz, n, rest, ahead, done, gone, state, deed, more, u, row, along, came, took, turned, R, S, hs, -, rfl, rfl⟩
  obtain ⟨n', -, rfl⟩ : ∃ n', nums[j]? = some n' ∧ intV n' = x := by
    rw [List.getElem?_map] at hx
    cases q : nums[j]? with
    | none => rw [q] at hx; cases hx
    | some v => rw [q] at hx; exact ⟨v, rfl, by simpa using hx⟩
  have hjl : j < nums.length := by
    have := (List.getElem?_eq_some_iff.mp hx).1
    rwa [List.length_map] at this
  obtain ⟨sz2, hs1, hs2, hs3⟩ : ∃ k : Nat, (1 : Int) + n'.fmod 5 = k ∧ 1 ≤ k ∧ k ≤ 5 := by
    have b0 : 0 ≤ n'.fmod 5 := Int.fmod_nonneg_of_pos _ (by decide)
    have b1 : n'.fmod 5 < 5 := Int.fmod_lt_of_pos _ (by decide)
    exact ⟨(1 + n'.fmod 5).toNat, by omega, by omega, by omega⟩
  have Rz := R.dcs sz2
  have ez : stmD sa z nl dc = stmD sa { z with dcs := sz2 } nl dc := rfl
  have es : ({ z with dcs := sz2 } : SS).src.length ≤ 32 := hs
  have ed : ({ z with dcs := sz2 } : SS).dcs = sz2 := rfl
  rw [ez]
  generalize ({ z with dcs := sz2 } : SS) = z0 at Rz ed es ⊢
  subst ed
  clear ez R hs
  have hg' := hg
  unfold gl2 at hg'
  have hD := deeds hK hS hg (a := a) (nb := nb) (nl := nl) (nums := nums) (sa := sa) (ha := ha) (n := some (intV n')) (u := u) (row := row) (along := along) (came := came) (took := took) (turned := turned) (d := n'.fmod 7) (more := n'.fdiv 7) Rz S (by omega) es hs3 hw hw0 hns
  dsimp only [lm2, hnd, stmD, fldG, fldT, List.cons_append, List.nil_append]
  keq_rows
  rw [hs1]
  keq_rows
  refine EX_assign2 ?a1 (by kba_ints) (by kba_ints)
  case a1 =>
  keq_rows
  refine' ⟨?ma1, ?mb1, ?u1, ?u2, ?a2⟩
  case u1 => kbo_bools
  case u2 => kbo_bools
  case a2 =>
  refine Then_next (EXS_cons ?_)
  refine EX_thenE (ι := DO (4 * j + 4) z0.dcs) (fun o => lm2 a (some (.ref nb)) (some (strV whole)) (some (.ref o.sa.st)) (some (.ref o.ha.hd)) (some (.int z0.dcs 0)) (some (intV n')) (some (.ref ha.rs)) (some (.ref ha.ah)) (some (.ref ha.dn)) (some (.ref ha.gn)) (some (.ref ha.st)) (some (intV (n'.fmod 7))) (some (intV (n'.fdiv 7))) o.u o.row o.along o.came o.took o.turned none)
    (fun o => st2 nb nums o.sa o.z nl o.ha o.h) hD ?b1
  case b1 =>
  rintro ⟨sa3, z3, ha3, h3, R3, S3, src3, dcs3, u3, row3, along3, came3, took3, turned3⟩
  simp only at R3 S3 src3 dcs3 ⊢
  unfold st2
  rw [← stmD_some, dcs3]
  dsimp only [lm2]
  keq_hits
  refine' EX_if (PT.tv (PT_not (PT_plain (PE_callK (vs := [.ref sa3.st, .ref ha3.hd]) ?c1 PL2.k_right ?c2 (right_cs hK R3 S3 (by omega))) T_bool)) ?c3)
  case c1 => exact PE_globR hg' (by kba_ints) PL2.right
  case c2 => kst_facts
  refine ⟨fun q => (nomatch q), fun _ => EXS_nil (Then_next (EXS_nil (Turn_next ⟨sa3, z3, some (.int z0.dcs 0), ha3, h3, z0.dcs, _, _, _, _, _, _, _, _, u3, row3, along3, came3, took3, turned3, R3, S3.le (by omega), src3, fun _ => ⟨by rw [dcs3], by rw [dcs3], by omega, by omega⟩, rfl, rfl⟩)))⟩
theorem TV.permC {c : Cx} {i : Fi} {k : Nat} {m : Fields} {cs cs₁ : List Chunk} {e : Expr} {Q : Bool → List Chunk → Prop} (p : cs.Perm cs₁) (h : TV c i k m cs₁ e Q) : TV c i k m cs e Q :=
  fun hF R s hs => h hF R s (hs.perm ((p.append_right R).cons _))
theorem EV_untilE {c : Cx} {i : Fi} {k : Nat} {m : Fields} {X : List Chunk} {a : SA} {z : SS} {nl : Addr} {o : Expr} {apos pos : Pos} {Q : Value → List Chunk → Prop} (hK : c.K = heapW c.w.params) [pf : PF c] (hk : 6 ≤ k) {e : Expr} {f : Nat → Bool} {n : Nat} {res : List Nat} {z2 : SS} (ho : PE c i k m (stm a z nl ++ X) o (.ref a.st)) (G : Good z) (hn : n ≤ 5000) (hres : res.length ≤ 100000) (hcu : CU (fun x => f x == false) n z res z2)
    (he : EV c i k m (stm a z nl ++ X) e (fun v cs2 => ∃ (r : Addr) (X2 : List Chunk), v = .ref r ∧ cs2 = stm a z nl ++ X2 ∧ Row c X2 (.ref r) f ∧ Q (strV res) (stm a z2 nl ++ X2)))
    (hc : MCall o "charsUntil" [e] apos pos := by intro _; exact ⟨_, rfl⟩) (hs : ∀ env, starEach [e] env = (false, eval e env) :: starEach [] env := by intro _; rfl) : EV c i k m (stm a z nl ++ X) (.Call (.Attribute o "charsUntil" apos) [e] [] pos) Q := by
  refine EV_meth (PE.ev ho (M_fn (f := 121) (m := fldS a z nl) stm_hx stm_hd ?_ (PF.S.get _) PF.m_charsUntil (PF.fn _ (by decide)).1 ⟨.inr ⟨121, rfl, (PF.fn _ (by decide)).2.1⟩, EVs_cons (he.mono fun v cs2 h => ?_) hs⟩)) hc hs
  · unfold fldS fldG; kba_ints
  · obtain ⟨r, X2, rfl, rfl, hR, q⟩ := h
    refine EVs_nil (CodeV.call (CodeV.by (charsUntil_any hK (nl := nl) (args := [.ref a.st, .ref r]) (dfl := [.bool false]) (.inr ⟨rfl, rfl, rfl⟩) hR rfl G hn hres hcu) (R₀ := []) ?_ hk ?_))
    · exact Take.all (l := stm a z nl ++ X2)
    · rintro v F' ⟨rfl, rfl⟩; rw [List.append_nil]; exact q
theorem take_tup {A B : List Chunk} {x : Chunk} : Take (x :: (A ++ B)) (A ++ (x :: B)) [] := by
  unfold Take
  rw [List.append_nil]
  exact List.perm_middle.symm
theorem take_run {A B C : List Chunk} {x y : Chunk} : Take (x :: (A ++ (y :: (B ++ C)))) (B ++ [x]) (A ++ (y :: C)) := by
  unfold Take
  rw [List.append_assoc]
  have e1 : (B ++ ([x] ++ (A ++ (y :: C)))).Perm (x :: (B ++ (A ++ (y :: C)))) := List.perm_middle
  have e2 : (B ++ (A ++ (y :: C))).Perm (A ++ (B ++ (y :: C))) := by have := take_mid (A := B) (B := A) (C := y :: C); exact this
  have e3 : (A ++ (B ++ (y :: C))).Perm (A ++ (y :: (B ++ C))) := List.Perm.append_left A List.perm_middle
  exact ((e1.trans (List.Perm.cons x (e2.trans e3)))).symm
theorem perm_run {A B C : List Chunk} {x y : Chunk} : ((B ++ [x]) ++ (A ++ (y :: C))).Perm (A ++ (x :: y :: (B ++ C))) := by
  have e1 : ((B ++ [x]) ++ (A ++ (y :: C))).Perm (A ++ ((B ++ [x]) ++ (y :: C))) := take_mid (A := B ++ [x]) (B := A) (C := y :: C)
  refine e1.trans (List.Perm.append_left A ?_)
  rw [List.append_assoc]
  exact take_mid (A := B) (B := [x, y]) (C := C)
theorem take_drop2 {A B : List Chunk} {x y : Chunk} : Take (A ++ (x :: y :: B)) (A ++ B) [x, y] := by
  unfold Take
  have e1 : (A ++ ([x, y] ++ B)).Perm ([x, y] ++ (A ++ B)) := take_mid (A := A) (B := [x, y]) (C := B)
  exact e1.trans List.perm_append_comm
theorem end_eof {size : Nat} {h : H2} (hs : 1 ≤ size) (e : (top2 size h).ahead = []) : (top2 size h).rest = [] ∧ (top2 size h).held = 0 ∧ (top2 size h).snc = 0 := by
  have ha : h.ahead = [] := Classical.byContradiction fun q => by rw [top2_ne q] at e; exact q e
  have et : top2 size h = fill2 size h := by unfold top2; rw [if_pos ha]
  rw [et] at e ⊢
  have hp : piece2 size h = [] := List.length_eq_zero_iff.mp (by have := (fill2_nil ha).mp e; omega)
  have hr : h.rest = [] := by
    cases hh : h.rest with
    | nil => rfl
    | cons x r =>
      unfold piece2 at hp
      rw [hh] at hp
      have := congrArg List.length hp
      rw [List.length_take] at this
      simp at this
      omega
  refine ⟨?_, ?_, rfl⟩
  · show h.rest.drop _ = []
    rw [hr, List.drop_nil]
  · show (piece2 size h).length - _ = 0
    rw [hp]; rfl
theorem end_run {size n : Nat} {h h2 : H2} {got : List Nat} (hs : 1 ≤ size) (k : RU (fun _ => true) size n h got h2) : h2.ahead = [] ∧ h2.rest = [] ∧ h2.held = 0 ∧ h2.snc = 0 := by
  induction k with
  | eof e => exact ⟨e, end_eof hs e⟩
  | stop e hx => cases hx
  | pass e hx k ih => exact ih
theorem end_read {size : Nat} {h : H2} (a : h.ahead = []) (b : h.rest = []) (c : h.held = 0) (d : h.snc = 0) : read2 size h = (none, h) := by
  obtain ⟨rest, ahead, done, gone, held, snc, errs⟩ := h
  simp only at a b c d
  subst a b c d
  have e : top2 size ⟨[], [], done, gone, 0, 0, errs⟩ = ⟨[], [], done, gone, 0, 0, errs⟩ := by
    unfold top2
    rw [if_pos rfl]
    have hp : piece2 size ⟨[], [], done, gone, 0, 0, errs⟩ = [] := by unfold piece2; rw [List.take_nil]
    unfold fill2
    rw [hp]
    rfl
  unfold read2
  rw [e]
theorem take_in {A B C D : List Chunk} : Take (C ++ (A ++ (B ++ D))) (C ++ (A ++ D)) B := by
  have e1 : (C ++ (A ++ (B ++ D))).Perm (A ++ (C ++ (B ++ D))) := take_mid
  exact e1.trans take_new2
theorem law_end {c : Cx} (hK : c.K = heapW c.w.params) [pf : PF c] [pl : PL2 c] {i : Fi} (hg : GOk i gl2) {a nb nl : Addr} {nums : List Int} {whole : List Nat} (o : LO) (hw : whole.length ≤ 32) (hns : NoSur whole) :
    EX c i 8 (mL a nb whole o none) (st2 nb nums o.sa o.z nl o.ha o.h) (lawSt 7)
      (fun f m' cs' => f = .next ∧ ∃ (o2 : LO) (tu : Option Value), o2.h = anew2 [] ∧ m' = mL a nb whole o2 tu ∧ cs' = st2 nb nums o2.sa o2.z nl o2.ha o2.h) := by
  conv => arg 6; whnf
  have hg' := hg
  unfold gl2 at hg'
  refine EX_for_range (n := 3) (fun t m1 cs1 => ∃ (o : LO) (tu : Option Value), (t = 3 → o.h = anew2 []) ∧ m1 = mL a nb whole o tu ∧ cs1 = st2 nb nums o.sa o.z nl o.ha o.h) hg' (by kba_ints) PL2.g_range PE_int (by decide) (by simp [st2, stm]) ⟨o, none, fun q => absurd q (by decide), rfl, rfl⟩ ?x1 ?x2
  case x2 =>
    rintro m1 cs1 zk ⟨o2, tu, e, rfl, rfl⟩
    exact ⟨rfl, o2, tu, e rfl, rfl, rfl⟩
  case x1 =>
  rintro t m1 cs1 ht zk ⟨⟨sa, z, ha, h, R, S, hs, hd1, hd5, n, rest, ahead, done, gone, state, deed, more, u, row, along, came, took, turned⟩, tu, -, rfl, rfl⟩
  simp only
  have G := r2_good R S (by omega) (by omega)
  have hpl := R.place
  have hbl : z.buf.length ≤ 1 := by rcases R.buf with e | e <;> rw [e] <;> simp
  obtain ⟨q, mm, res, z2, h2, hq, cu, ru, R', d2, s2⟩ := r2_run (mt := fun x => decide (x ∈ ([] : List Nat)) == false) (z.buf.length + (z.src.length - z.place)) (Nat.le_refl _) R
  have hmt : (fun x : Nat => (decide (x ∈ ([] : List Nat)) == false)) = fun _ => true := by funext x; simp
  obtain ⟨n1, n2, n3, n4⟩ := end_run hd1 (hmt ▸ ru)
  have hrl := ru_len S ru
  have S' := s2_run S ru
  have hd2 : z2.dcs ≤ 5 := by rw [d2]; exact hd5
  have hs2 : z2.src.length ≤ 32 := by rw [s2]; exact hs
  have G2 := r2_good R' S' (by omega) (by omega)
  obtain ⟨c1, R3⟩ := r2_char R'
  have er := end_read (size := z2.dcs) n1 n2 n3 n4
  rw [er] at c1 R3
  simp only at c1 R3
  have d3 := chr1_dcs z2
  have s3 := chr1_src z2
  dsimp only [mL, lm2]
  keq_hits
  keq_hits
  refine EX.less ?_
  refine EX_if (TV_or (TV_cmp (EV_untilE (f := fun x => decide (x ∈ ([] : List Nat))) hK (by decide) ?a1 G (by omega) (by omega) cu (EV.less (EV_tuple (EVs_nil ⟨by simp, fun r => ⟨_, _, take_tup, r, _, rfl, rfl, Row_tup (l := []) mem_hd, ?a2⟩⟩))))))
  case a1 => kcf_all
  case a2 =>
  refine EV_callK ?b1 PL2.k_run ?b2
  case b1 => exact PE_globR hg' (by kba_ints) PL2.run
  case b2 =>
  keq_rows
  refine ⟨by simp, fun r2 => ?_⟩
  keq_rows
  refine CodeV.call (CodeV.by (run_spec2 hK (a := ha) (X := [(r2, .tup [])]) (f := fun x => decide (x ∈ ([] : List Nat))) (Row_tup (l := []) mem_hd) S (by omega) (by omega) ru) take_run (by decide) ?b3)
  rintro v F' ⟨rfl, rfl⟩
  refine Op2.is C_nes (Op1.is T_bool ⟨fun q => (by simp at q), fun _ => TV.permC perm_run (TV_or (TV_cmp (EV_charS hK (by decide) ?c1 G2 ?c2)))⟩)
  case c1 => kcf_all
  case c2 =>
  rw [c1]
  refine PE.ev (v := .none) PE_none (Op2.is C_isnot (Op1.is T_bool ⟨fun q => (nomatch q), fun _ => TV_or_nil ⟨fun q => (nomatch q), fun _ => EXS_nil ⟨_, _, take_drop2, Then_next ?c3⟩⟩⟩))
  generalize (chr1 z2).2 = z3 at R3 d3 s3 ⊢
  rw [d2] at d3
  rw [s2] at s3
  clear c1 er G2 hd2 hs2 R' cu ru hmt G R S q hq hpl hbl d2 s2 zk
  -- the line and the column
  rw [← stmD_some]
  keq_hits
  refine' EX_if (PT.tv (PT_not (PT_plain (PE_callK (vs := [.ref sa.st, .ref ha.hd]) ?e1 PL2.k_right ?e2 (right_cs hK R3 S' (by omega))) T_bool)) ?e3)
  case e1 => exact PE_globR hg' (by kba_ints) PL2.right
  case e2 => kst_facts
  refine ⟨fun q => (nomatch q), fun _ => EXS_nil (Then_next (EXS_cons ?_))⟩
  rw [stmD_some]
  -- a source of the whole text
  refine EX_thenE (ι := { p : SA × SS // p.1.st = sa.st ∧ R2 (zres p.2) (anew2 (if ((t : Int) == 1) = true then whole else [])) ∧ p.2.src.length ≤ 32 ∧ p.2.dcs = z.dcs })
    (fun _ => lm2 a (some (.ref nb)) (some (strV whole)) (some (.ref sa.st)) (some (.ref ha.hd)) (some (.int z.dcs 0)) n rest ahead done gone state deed more u row along came took turned (some (.int t 0)))
    (fun p => stm p.1.1 p.1.2 nl ++ (hnd ha h2 ++ [(nb, .list (nums.map intV))])) ?f1 ?f2
  case f1 =>
    refine' EX_if (PT.tv ?g1 ?g2)
    case g1 => kd_in
    refine ⟨fun e => ?_, fun e => ?_⟩
    · refine EXS_cons ?_
      refine EX_openS (l := whole) hK (by decide) ?h1 ?h2 ?h3 fun ds dd => ?h4
      case h1 => kcf_all
      case h2 => intro cs'; kcf_all
      case h3 => kcf_all
      case h4 =>
      refine Then_next (EXS_nil ⟨rfl, ⟨(⟨sa.st, sa.sd, ds, dd, sa.er, sa.bm⟩, { z3 with src := whole, place := 0 }), rfl, ?_, hw, d3⟩, rfl, rfl⟩)
      rw [e, if_pos rfl]
      exact r2_start hns z3.dcs
    · refine EXS_nil ⟨rfl, ⟨(sa, z3), rfl, ?_, by rw [s3]; exact hs, d3⟩, rfl, rfl⟩
      rw [e, if_neg Bool.false_ne_true]
      have := r2_reset R3
      rw [n2, List.drop_nil] at this
      exact this
  case f2 =>
  rintro ⟨⟨sa5, z5⟩, p1, p2, p3, p4⟩
  simp only at p1 p2 p3 p4 ⊢
  rw [← p1, ← p4]
  have hel : (if ((t : Int) == 1) = true then whole else []).length ≤ 32 := by
    split
    · exact hw
    · exact Nat.zero_le _
  have hen : NoSur (if ((t : Int) == 1) = true then whole else []) := by
    split
    · exact hns
    · intro x hx; simp at hx
  have het : t + 1 = 3 → (if ((t : Int) == 1) = true then whole else []) = [] := fun q => by
    rw [show ((t : Int) == 1) = false from beq_eq_false_iff_ne.mpr (by omega), if_neg Bool.false_ne_true]
  have S5 := s2_anew (l := if ((t : Int) == 1) = true then whole else []) (by omega) hen 64
  dsimp only [lm2]
  keq_hits
  keq_hits
  refine EV_resetS hK (by decide) ?i1 fun er => ?i2
  case i1 => kcf_all
  case i2 =>
  refine Then_next ?_
  refine EXS.less ?_
  keq_hits
  keq_hits
  refine' EV_callK' (vs := [strV (if ((t : Int) == 1) = true then whole else [])]) ?j1 PL2.k_anew ?j2 (((anewS_spec hK (by simp [stm]) (by omega)).level (by decide)).mono ?j3)
  case j1 => exact PE_globR hg' (by kba_ints) PL2.anew
  case j2 =>
    refine PEs_cons (PE_ifexpS ?k1 ?k2 ?k3) PEs_nil
    case k1 => kd_in
    case k2 => kcf_all
    case k3 => kcf_all
  case j3 =>
  generalize (if ((t : Int) == 1) = true then whole else []) = L at *
  rintro v cs' ⟨a', rfl, rfl⟩
  refine' AS_name ?l1 ?l2
  case l1 => kbo_bools
  case l2 =>
  refine Then_next ?_
  refine EXS.perm (take_mid (A := hnd a' (anew2 L)) (B := stm { sa5 with er := er } (zres z5) nl)) ?_
  rw [← stmD_some]
  keq_hits
  refine' EX_if (PT.tv (PT_not (PT_plain (PE_callK (vs := [.ref sa5.st, .ref a'.hd]) ?m1 PL2.k_right ?m2 (right_cs (sa := { sa5 with er := er }) (z := zres z5) hK p2 S5 (by omega))) T_bool)) ?m3)
  case m1 => exact PE_globR hg' (by kba_ints) PL2.right
  case m2 => kst_facts
  refine ⟨fun q => (nomatch q), fun _ => EXS_nil (Then_next (EXS_nil ⟨_, hnd ha h2, take_in, Turn_next ⟨⟨{ sa5 with er := er }, zres z5, a', anew2 L, p2, S5, p3, by show 1 ≤ z5.dcs; omega, by show z5.dcs ≤ 5; omega, n, rest, ahead, done, gone, state, deed, more, u, row, along, came, took, turned⟩, some (.int t 0), fun q => congrArg anew2 (het q), rfl, rfl⟩⟩))⟩
example (w : World) : (heapW w.params) = (heapW w.params) ∧ PySem.Challenge.rw_im0056_02 = PySem.Challenge.rw_im0056_02 := by k_fill; exact ⟨rfl, rfl⟩
/-- a call by its code, from the base alone -/
theorem K_fn0 {c : Cx} {A : Around} {k : Nat} {fa : Addr} {oc : Value} {od : Option Addr} {name qual : Str} {params : Arguments} {body : List Stmt} {scope : Scope} {dV kV doc pm cdv ct : Value} {an : Option Addr} {osl : Array (Option Value)} {args : List Value}
    (ho : c.K.lookup fa = some ⟨oc, od, .func (fnOf name qual params body scope dV kV doc pm an cdv ct), osl⟩) (hcd : codeIn c.K cdv qual = true) (ps rest gl : List Str) (dfl : List Value)
    (hb : ∀ (s : Shared) vs, c.K.In s.heap → vs.length = args.length → BindsTo s (fnOf name qual params body scope dV kV doc pm an cdv ct) ⟨vs, []⟩ (ps.zip (vs ++ dfl)))
    (hl : ps.length = args.length + dfl.length) (hn : (ps ++ rest).Nodup) (hloc : ∀ x ∈ ps ++ rest, scope.names.lookup x = some .local) (hgl : ∀ x ∈ gl, scope.names.lookup x = some .globalImplicit)
    (hcell : ∀ x ∈ scope.names, x.2 ≠ .cell) (hco : scope.isCoroutine = false) (hgen : scope.isGenerator = false) (hk : scope.kind = .function) (hne : ps ≠ [])
    {Q : Value → List Chunk → Prop} (h : ∀ i : Fi, GOk i gl → EXS c i k (locals0 ps rest (args ++ dfl.map nv)) [] body (fun fl _ cs' => Q (retv fl) cs')) (hA : AOk A (k + 1))
    {s : Shared} {vs : List Value} (hvs : vs.map nv = args) (hg : s.gens = #[]) (hos : s.os = c.os) (hh : s.heap = c.base) :
    codeAny (model c.prog c.w) A (.call (.ref fa) ⟨vs, []⟩) (fun r s' => match r with
      | .ok (.ret v) => ∃ cs', St c cs' s' ∧ Q (nv v) cs'
      | _ => False) s := by
  have hlen : vs.length = args.length := by rw [← hvs, List.length_map]
  have hwl : (vs ++ dfl).map nv = args ++ dfl.map nv := by rw [List.map_append, hvs]
  have hpl : ps.length = (args ++ dfl.map nv).length := by rw [List.length_append, List.length_map, hl]
  have hk1 : (ps.zip (vs ++ dfl)).map Prod.fst = ps := List.map_fst_zip (by rw [List.length_append]; omega)
  have hin : c.K.In s.heap := by rw [hh]; exact c.inK
  have hnl : s.heap.NoLimit := by rw [hh]; exact c.top.nolimit
  refine codeAny_call_def (fd := fnOf name qual params body scope dV kV doc pm an cdv ct) (body := body) (binds := ps.zip (vs ++ dfl)) (by have := hA.2.1; unfold recursionLimit; omega)
    (hin _ _ ho) rfl hnl (codeRec_of hin hcd) rfl (hb s vs hin hlen) hcell (fun x hx => hloc _ (List.mem_append_left _ (by rw [← hk1]; exact List.mem_map_of_mem hx))) (fun h₀ N hk₀ => ?_) hco hgen hk
  obtain ⟨z1, z2⟩ := locals0_at hwl hpl hn
  have F : FOk ⟨A.deeper (envOf qual scope s.heap.objs.size fa cdv), envOf qual scope s.heap.objs.size fa cdv, s.heap.objs.size⟩ k (locals0 ps rest (args ++ dfl.map nv)) := by
    refine ⟨⟨hk, rfl, rfl, rfl⟩, fun p hp => hloc _ ?_, hA.deeper⟩
    have : p.1 ∈ (locals0 ps rest (args ++ dfl.map nv)).map Prod.fst := List.mem_map_of_mem hp
    unfold locals0 at this
    rw [List.map_append, List.map_fst_zip (by simp only [List.length_map, List.length_append] at hpl ⊢; omega), List.map_map] at this
    rcases List.mem_append.mp this with q | q
    · exact List.mem_append_left _ q
    · refine List.mem_append_right _ ?_
      obtain ⟨y, hy, e⟩ := List.mem_map.mp q
      rw [← e]; exact hy
  obtain ⟨o, es, ep, hoL, hd, hsk, hf⟩ := N
  have hzl : 0 < (ps.zip (vs ++ dfl)).length := by
    rw [← List.length_map (f := Prod.fst), hk1]
    exact List.length_pos_iff.mpr hne
  have ow : Own c.base [] s.heap := ⟨fun b o e => by rw [hh]; exact e, by simp, by simp⟩
  have h1 : St c ((s.heap.objs.size, .ns (locals0 ps rest (args ++ dfl.map nv))) :: ([] ++ [])) { s with heap := h₀, toks := s.toks + (ps.zip (vs ++ dfl)).length } :=
    ⟨by show 0 < s.toks + (ps.zip (vs ++ dfl)).length; omega, hg, hos, ow.new (heap_size_none _ (Nat.le_refl _)) (by rw [hh]; exact Nat.le_refl _) hk₀ hoL ⟨es, ep, hd, hsk, z1, fun p hp => by rw [hf]; exact z2 p hp⟩⟩
  refine noE' (h ⟨A.deeper (envOf qual scope s.heap.objs.size fa cdv), envOf qual scope s.heap.objs.size fa cdv, s.heap.objs.size⟩ (fun x hx => hgl x hx) F [] _ h1) ?_
  rintro fl s' ⟨m', cs1, z, h2, q⟩
  refine ⟨cs1, ?_, ?_⟩
  · have := h2.tail
    rwa [List.append_nil] at this
  · cases fl <;> exact q

abbrev LawOk : Prop := ∀ (c : Cx), c.K = heapW c.w.params → SetIs c.base 144 setL → ∀ (a : Addr) (vs : List Value) (ns : List Int), c.base.IsList a vs.toArray → IntsAre vs ns → ns.length ≤ 63 →
  ∀ s : Shared, s.gens = #[] → s.os = c.os → s.heap = c.base → codeAny (model c.prog c.w) callerA (.call (.ref 214) ⟨[.ref a], []⟩) (fun r s' => match r with
      | .ok (.ret v) => ∃ cs', St c cs' s' ∧ nv v = .bool true
      | _ => False) s
theorem claim_of (law : LawOk) : PySem.Challenge.rw_im0056_02.Holds := by
  w_on
  refine holds_law saidW fun said => ?_
  refine holds_open (r := PySem.Challenge.rw_im0056_02.row) (q := viewW) (loose := looseW') (Xt := xt2) (XP := XL viewW []) (Yf := yf2) (Ya := ya2) (YP := fun w h => hookW.says w h ∧ SetIs h 144 setL) (N := 4000) left2 (fun w s e => ?hY) (fun w h h' e k => ⟨hookW.keeps w h h' e.1 k, e.2.keeps k⟩)
    (fun s e => xl_of s (Bool.and_eq_true_iff.mp e).1) XL.keeps (by rfl) (by rfl) (by rfl) (fun s e => recFacts_of (Bool.and_eq_true_iff.mp e).2) (by rfl) (by assumption) (by decide +kernel) ⟨rfl, rfl, rfl, rfl, rfl, by decide +kernel⟩ ?hw ?hc
  case hY =>
    have e' : (hookW.obs s, setSeen setL (s.heap.get? 144)) = (hookW.val w, true) := e
    exact ⟨hookW.of w s (congrArg Prod.fst e'), setIs_of (congrArg Prod.snd e') (by decide +kernel)⟩
  case hw => w_witness2
  case hc =>
  intro w s₀ s₁ mg mb G Y fa o pm cd doc dV kV ho hd hcd hD hmg hg args vals as hpre hlay hrd hwl hlo
  have KX : (heapW w.params).In s₁.heap := kIn_of (K := heapW) (as := addrsW) (e := fun _ => by kernel_rfl) Y.1
  refine Ground.open G ?_
  intro T B D TE TW
  try (refine guard_noD D (by decide +kernel) ?_; clear D)
  wrow_args hpre hlay hrd hwl hlo
  all_goals (first | refine callC_kw (enter_call ?_) | refine enter_call ?_ | refine callC_kw (enter_callW ?_) | refine enter_callW ?_)
  have hfa : (some (Value.ref fa)) = some (.ref 214) := hmg.symm.trans (mg_of (v := .ref 214) KX T.g (by k_is))
  cases hfa
  rename_i ns hL hI hlen _
  refine codeAny_mono (law ⟨PySem.Challenge.rw_im0056_02.row.prog, w, s₁.heap, s₁.os, heapW w.params, _, _, mg, mb, KX, topRead_of T⟩ rfl Y.2 _ _ _ (by assumption) (by assumption) (by omega) s₁ hg rfl rfl) ?_
  intro r s' hr
  rcases r with e | (v | _ | _ | _) <;> first | exact hr.elim | skip
  obtain ⟨cs', hst, hv⟩ := hr
  rw [nv_bool hv]
  refine ⟨.inl ⟨.bool true, .bool true, [], rfl, ?_, ?_, ?_, ?_⟩, ?_, hst.2.2.1, ?_⟩
  · first | exact fun _ => rfl | exact raisesW_false (by wrow_none_raised)
  · first | exact .bool | exact .bool _ | constructor
  · exact postW_of (by wrow_shape) (by wtm_val) (by str_meet; first | done | w_fin)
  · exact fun _ => ⟨by simp, fun a ha => by simp at ha⟩
  · exact .of_keep hst.keep
  · exact .of_eq hst.2.1
theorem EX.less' {c : Cx} {i : Fi} {k : Nat} {m : Fields} {cs F R₀ : List Chunk} {st : Stmt} {Q : Flow → Fields → List Chunk → Prop} (t : Take cs F R₀) (h : EX c i k m F st Q) : EX c i k m cs st Q :=
  fun hF R s hs => h hF R s (hs.less t)
theorem take_nl {A B C : List Chunk} {x : Chunk} : Take (A ++ (B ++ (x :: C))) (A ++ (B ++ C)) [x] := by
  unfold Take
  have e1 : (B ++ (x :: C)).Perm (x :: (B ++ C)) := List.perm_middle
  exact (List.Perm.append_left A e1).trans take_drop1
theorem law_ok : LawOk := by
  intro c hK hS a vs ns hL hI hlen s hg hos hh
  haveI pf : PF c := pf_of hK
  haveI pl : PL2 c := pl2_of hK
  have hseen : ∀ cs, Seen c cs a (ns.map intV) := fun cs => .inr ⟨_, hL, ints_nv hI⟩
  refine codeAny_mono (K_fn0 (k := 8) (args := [.ref a]) (Q := fun v _ => v = .bool true) (by rw [hK]; k_is) (by rw [hK]; k_is) ["script"] ["numbers", "whole", "stream", "hand", "size", "n", "rest", "ahead", "done", "gone", "state", "deed", "more", "_", "row", "along", "came", "took", "turned", "turn"]
    gl2 [] (fun s vs _ h => by refine bnd1 h fun a => ?_; exact .of_eq rfl) rfl (by decide) (by decide) (by decide) (by decide) rfl rfl rfl (by simp) ?_ ?_ (vs := [.ref a]) rfl hg hos hh) ?_
  case refine_3 => exact fun r s' h => h
  case refine_2 => exact ⟨rfl, by decide, by decide⟩
  clear hL hI hg hos hh
  intro i hg
  conv => arg 6; whnf
  simp only [locals0, List.zip_cons_cons, List.zip_nil_right, List.map_cons, List.map_nil, List.append_nil, List.cons_append, List.nil_append]
  unfold gl2 at hg
  keq_hits
  refine EX_thenE (ι := Addr) (fun b => lm2 a (some (.ref b)) none none none none none none none none none none none none none none none none none none none) (fun b => [(b, .list ((nums2 ns).map intV))]) ?N ?R1
  case N =>
    refine EX.less ?_
    keq_hits
    refine EV_sliceS (lo := none) (hi := some 16) (EV_or (PE.ev ?aa ((T_listS (hseen _) (by rw [List.length_map]; omega)).is ⟨fun e => ?_, fun e => EV_boolop_one ?_⟩)))
    case aa => kcf_all
    · refine ⟨a, _, rfl, hseen _, by rw [List.length_map]; omega, PO.no, ?zz1, fun b => ?_⟩
      case zz1 => kcj_m
      keq_rows
      have hne : ¬ ns = [] := fun q => by rw [q] at e; simp at e
      have e2 : sl (ns.map intV) none (some 16) = (nums2 ns).map intV := by
        unfold nums2
        rw [if_neg hne, List.map_take]
        exact sl__n _ 16
      rw [e2]
      exact ⟨_, _, Take.all, rfl, b, rfl, rfl⟩
    · keq_rows
      refine ⟨by simp, fun t => ⟨t, _, rfl, .inl mem_hd, by simp, PO.no, ?zz2, fun b => ?_⟩⟩
      case zz2 => kcj_m
      keq_rows
      have hne : ns = [] := Classical.byContradiction fun q => by
        cases ns with
        | nil => exact q rfl
        | cons x r => simp at e
      have e2 : sl [intV 136, intV 33, intV 12, intV 23] none (some 16) = (nums2 ns).map intV := by
        subst hne
        exact sl__n _ 16
      rw [e2]
      exact ⟨_, _, Take.cons .head Take.nil, rfl, b, rfl, rfl⟩
  case R1 =>
  intro nb
  have hnums := nums2_len ns
  have hnpos := nums2_pos ns
  have hwl := whole2_len ns
  have hw0 := whole2_ne ns
  have hns := whole2_sur ns
  dsimp only [lm2]
  keq_hits
  keq_hits
  refine EV_joinS ?zz3 ?zz4
  case zz3 => kcf_all
  case zz4 =>
  refine EV_compL (g := gS) (gl := ["_law_sign"]) ?zz5 mem_hd (by rw [List.length_map]; omega) (by decide) (by decide) rfl (by decide) rfl (by decide) ?zz6 ?zz7
  case zz5 => kcf_all
  case zz6 =>
    intro i2 v cs2 hv hne hg2
    obtain ⟨n, -, rfl⟩ := List.mem_map.mp hv
    refine PE_callK (vs := [intV n]) ?zz8 PL2.k_sign ?zz9 ((sign_spec hK hne).level (by decide))
    case zz8 => kcf_all
    case zz9 => kst_facts
  case zz7 =>
  intro r
  rw [signs_map]
  refine ⟨r, _, rfl, mem_hd, ?_, ?_, ?_⟩
  · exact Nat.le_trans hwl (by decide)
  · rw [List.length_map]; omega
  keq_hits
  refine Then_next (EXS_pick .head ?_)
  have etx : (List.map signL (nums2 ns)).flatten = whole2 ns := rfl
  rw [etx]
  generalize whole2 ns = whole at hwl hw0 hns
  generalize nums2 ns = nums at hnums hnpos
  clear hseen hlen etx
  keq_rows
  refine' EV_callK' ?b1 PF.kc_S ?b2 ((stream_new hK (A := i.A) (src := whole) (by simp)).mono ?b3 |>.level (by decide))
  kqd_all
  rintro v cs' ⟨sa, nl, rfl, rfl⟩
  refine' AS_name ?b4 ?b5
  case b4 => kbo_bools
  case b5 =>
  refine Then_next ?_
  keq_hits
  keq_hits
  refine' EV_callK' (vs := [strV whole]) ?c1 PL2.k_anew ?c2 (((anewS_spec hK (A := i.A) (l := whole) (by simp [stmD]) (by omega)).level (by decide)).mono ?c3)
  case c1 => kcf_all
  case c2 => kst_facts
  case c3 =>
  rintro v cs' ⟨ha, rfl, rfl⟩
  refine' AS_name ?c4 ?c5
  case c4 => kbo_bools
  case c5 =>
  refine Then_next ?_
  have R := r2_start hns 0
  have S : S2 0 (anew2 whole) := s2_anew (by omega) hns 0
  refine EXS.perm (cs₁ := stmD sa ⟨whole, 0, [], 0, 0, 0, 0, [], 0⟩ nl none ++ (hnd ha (anew2 whole) ++ [(nl, AO.list [.int 0 0]), (nb, AO.list (nums.map intV))])) (take_mid (A := hnd ha (anew2 whole)) (B := stmD sa ⟨whole, 0, [], 0, 0, 0, 0, [], 0⟩ nl none) (C := [(nl, AO.list [.int 0 0]), (nb, AO.list (nums.map intV))])) ?_
  keq_hits
  refine' EX_if (PT.tv (PT_not (PT_plain (PE_callK (vs := [.ref sa.st, .ref ha.hd]) ?d1 PL2.k_right ?d2 (right_cs hK R S (by decide))) T_bool)) ?d3)
  case d1 => kcf_all
  case d2 => kst_facts
  refine ⟨fun q => (nomatch q), fun _ => EXS_nil (Then_next ?_)⟩
  keq_hits
  keq_hits
  keq_hits
  keq_hits
  keq_hits
  refine EXS_cons ?_
  refine EX_thenE (ι := LO) (fun o => mL a nb whole o none) (fun o => st2 nb nums o.sa o.z nl o.ha o.h) ?L1 ?L2
  case L1 =>
    have h := law_loop hK hS (show GOk i gl2 from hg) (a := a) (nb := nb) (nl := nl) (nums := nums) (whole := whole) (sa := sa) (z := ⟨whole, 0, [], 0, 0, 0, 0, [], 0⟩) (ha := ha) (h := anew2 whole) R S hwl hnums hnpos hwl hw0 hns
    exact EX.less' (R₀ := [(nl, .list [.int 0 0])]) (take_nl) h
  case L2 =>
  intro o
  refine EXS_cons ?_
  refine EX_thenE (ι := { p : LO × Option Value // p.1.h = anew2 [] }) (fun p => mL a nb whole p.1.1 p.1.2) (fun p => st2 nb nums p.1.1.sa p.1.1.z nl p.1.1.ha p.1.1.h) ?M1 ?M2
  case M1 =>
    have h := law_end hK (show GOk i gl2 from hg) (a := a) (nb := nb) (nl := nl) (nums := nums) (whole := whole) o hwl hns
    exact h.mono fun f m' cs' ⟨e1, o2, tu, e2, e3, e4⟩ => ⟨e1, ⟨(o2, tu), e2⟩, e3, e4⟩
  case M2 =>
  rintro ⟨⟨⟨sa2, z2, ha2, h2, R2', S2', hs2, d1, d5, n, rest, ahead, done, gone, state, deed, more, u, row, along, came, took, turned⟩, tu⟩, e⟩
  simp only at e ⊢
  subst e
  have G := r2_good R2' S2' (by omega) (by omega)
  obtain ⟨c1, -⟩ := r2_char R2'
  rw [end_read (size := z2.dcs) (h := anew2 []) rfl rfl rfl rfl] at c1
  simp only at c1
  dsimp only [mL, lm2]
  keq_hits
  keq_hits
  refine EV_cmp (EV_charS hK (by decide) ?f1 G ?f2)
  case f1 => kcf_all
  case f2 =>
  rw [c1]
  refine PE.ev PE_none (Op2.is C_is ?_)
  exact rfl
end Mine
theorem PySem.Challenge.cw_im0056_02_holds : PySem.Challenge.rw_im0056_02.Holds := by
  exact Mine.claim_of Mine.law_ok

