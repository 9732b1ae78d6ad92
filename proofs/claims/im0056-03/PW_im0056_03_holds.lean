import PyProof.Rows.All
import Wide.All
import OpenK.AllK
import Wide.FinOn
import PySem.Challenge.RW_im0056_03
set_option Elab.async false
set_option maxRecDepth 100000
set_option maxHeartbeats 8000000
set_option linter.all false
set_option genSizeOf false
section
open PySem PySem.W PySem.Calls PyProof.Rows
namespace Mine

/- ## abstract objects, chunks, the state -/

abbrev Fields := List (Str × Option Value)

inductive AO where
  | list (vs : List Value)
  | tup (vs : List Value)
  | ns (m : Fields)
  | obj (m : Fields)
  | inst (C d : Addr)
  | bm (f self : Addr)
  | pred (P : Obj → Prop)

abbrev Chunk := Addr × AO

def nv : Value → Value
  | .int i _ => .int i 0
  | .float x _ => .float x 0
  | .str s _ => .str s 0
  | .bytes b _ => .bytes b 0
  | v => v

theorem nv_int {v : Value} {i : Int} {u : Tok} (h : nv v = .int i u) : u = 0 ∧ ∃ t, v = .int i t := by
  cases v <;> simp [nv] at h
  obtain ⟨rfl, rfl⟩ := h; exact ⟨rfl, _, rfl⟩
theorem nv_str {v : Value} {x : Str} {u : Tok} (h : nv v = .str x u) : u = 0 ∧ ∃ t, v = .str x t := by
  cases v <;> simp [nv] at h
  obtain ⟨rfl, rfl⟩ := h; exact ⟨rfl, _, rfl⟩
theorem nv_ref {v : Value} {a : Addr} (h : nv v = .ref a) : v = .ref a := by cases v <;> simp [nv] at h; rw [h]
theorem nv_none {v : Value} (h : nv v = .none) : v = .none := by cases v <;> simp [nv] at h; rfl
theorem nv_bool {v : Value} {b : Bool} (h : nv v = .bool b) : v = .bool b := by cases v <;> simp [nv] at h; rw [h]
theorem nv_builtin {v : Value} {b : String} (h : nv v = .builtin b) : v = .builtin b := by cases v <;> simp [nv] at h; rw [h]
theorem nv_type {v : Value} {b : String} (h : nv v = .type b) : v = .type b := by cases v <;> simp [nv] at h; rw [h]

theorem map_one {as : List Value} {v : Value} (h : as.map nv = [v]) : ∃ a, as = [a] ∧ nv a = v := by
  cases as with
  | nil => cases h
  | cons a r => cases r with
    | nil => exact ⟨a, rfl, by simpa using h⟩
    | cons _ _ => simp at h
theorem map_two {as : List Value} {v w : Value} (h : as.map nv = [v, w]) : ∃ a b, as = [a, b] ∧ nv a = v ∧ nv b = w := by
  cases as with
  | nil => cases h
  | cons a r =>
    simp only [List.map_cons, List.cons.injEq] at h
    obtain ⟨b, rfl, e⟩ := map_one h.2
    exact ⟨a, b, rfl, h.1, e⟩
theorem map_three {as : List Value} {v w x : Value} (h : as.map nv = [v, w, x]) : ∃ a b d, as = [a, b, d] ∧ nv a = v ∧ nv b = w ∧ nv d = x := by
  cases as with
  | nil => cases h
  | cons a r =>
    simp only [List.map_cons, List.cons.injEq] at h
    obtain ⟨b, d, rfl, e⟩ := map_two h.2
    exact ⟨a, b, d, rfl, h.1, e⟩
theorem map_four {as : List Value} {v w x y : Value} (h : as.map nv = [v, w, x, y]) : ∃ a b d e, as = [a, b, d, e] ∧ nv a = v ∧ nv b = w ∧ nv d = x ∧ nv e = y := by
  cases as with
  | nil => cases h
  | cons a r =>
    simp only [List.map_cons, List.cons.injEq] at h
    obtain ⟨b, d, e, rfl, q⟩ := map_three h.2
    exact ⟨a, b, d, e, rfl, h.1, q⟩

def bound (m : Fields) : Nat := (m.filter (fun p => p.2.isSome)).length

def OIs (o : Obj) : AO → Prop
  | .list vs => ∃ its n, o = { cls := .type "list", data := .seq its n } ∧ its.toList.map nv = vs
  | .tup vs => ∃ its n, o = { cls := .type "tuple", data := .seq its n } ∧ its.toList.map nv = vs
  | .ns m => ∃ es ep, o.data = .dict es ep ∧ StrKeys es ∧ (m.map Prod.fst).Nodup ∧ ∀ p ∈ m, (nsFind es p.1).map nv = p.2
  | .obj m => ∃ es ep, o.data = .dict es ep ∧ StrKeys es ∧ (m.map Prod.fst).Nodup ∧ (∀ p ∈ m, (nsFind es p.1).map nv = p.2) ∧ es.size ≤ bound m
  | .inst C d => o = instObj C d
  | .bm f self => o = methodObj (.ref f) (.ref self)
  | .pred P => P o

def Own (base : Heap) (cs : List Chunk) (h : Heap) : Prop :=
  (∀ b o, base.get? b = some o → h.get? b = some o) ∧ (cs.map Prod.fst).Nodup ∧
  ∀ p ∈ cs, base.objs.size ≤ p.1 ∧ ∃ o, h.get? p.1 = some o ∧ OIs o p.2

structure Cx where
  prog : Program
  w : World
  base : Heap
  os : OsState
  K : Frag
  p : Program
  loose : List Str
  mg : Str → Option Value
  mb : Str → Option Value
  inK : K.In base
  top : TopRead p loose mg mb base

def St (c : Cx) (cs : List Chunk) (s : Shared) : Prop := 0 < s.toks ∧ s.gens = #[] ∧ s.os = c.os ∧ Own c.base cs s.heap

/- ## lists of pairs: a place turned, a place taken -/

def Upd {α β : Type} (l : List (α × β)) (a : α) (b : β) (l' : List (α × β)) : Prop :=
  ∃ pre u post, l = pre ++ (a, u) :: post ∧ l' = pre ++ (a, b) :: post
theorem Upd.head {α β : Type} {a : α} {b u : β} {r : List (α × β)} : Upd ((a, u) :: r) a b ((a, b) :: r) := ⟨[], u, r, rfl, rfl⟩
theorem Upd.tail {α β : Type} {a : α} {b : β} {p : α × β} {r r' : List (α × β)} (h : Upd r a b r') : Upd (p :: r) a b (p :: r') := by
  obtain ⟨pre, u, post, rfl, rfl⟩ := h; exact ⟨p :: pre, u, post, rfl, rfl⟩
theorem Upd.keys {α β : Type} {a : α} {b : β} {l l' : List (α × β)} (h : Upd l a b l') : l'.map Prod.fst = l.map Prod.fst := by
  obtain ⟨pre, u, post, rfl, rfl⟩ := h; simp
theorem Upd.append {α β : Type} {a : α} {b : β} {l l' : List (α × β)} (h : Upd l a b l') (R : List (α × β)) : Upd (l ++ R) a b (l' ++ R) := by
  obtain ⟨pre, u, post, rfl, rfl⟩ := h; exact ⟨pre, u, post ++ R, by simp, by simp⟩
theorem Upd.mem {α β : Type} {a : α} {b : β} {l l' : List (α × β)} (h : Upd l a b l') {p : α × β} (hn : (l.map Prod.fst).Nodup) (hp : p ∈ l') : p = (a, b) ∨ (p.1 ≠ a ∧ p ∈ l) := by
  obtain ⟨pre, u, post, rfl, rfl⟩ := h
  simp only [List.map_append, List.map_cons, List.nodup_append, List.nodup_cons] at hn
  obtain ⟨h1, ⟨h2, h3⟩, h4⟩ := hn
  rcases List.mem_append.mp hp with hp | hp
  · exact .inr ⟨fun e => h4 p.1 (List.mem_map_of_mem hp) a (by simp) e, List.mem_append_left _ hp⟩
  · rcases List.mem_cons.mp hp with rfl | hp
    · exact .inl rfl
    · exact .inr ⟨fun e => h2 (e ▸ List.mem_map_of_mem hp), List.mem_append_right _ (List.mem_cons_of_mem _ hp)⟩

def Pick (l : List Chunk) (x : Chunk) (l' : List Chunk) : Prop := ∃ pre post, l = pre ++ x :: post ∧ l' = pre ++ post
theorem Pick.head {x : Chunk} {r : List Chunk} : Pick (x :: r) x r := ⟨[], r, rfl, rfl⟩
theorem Pick.tail {x p : Chunk} {r r' : List Chunk} (h : Pick r x r') : Pick (p :: r) x (p :: r') := by
  obtain ⟨pre, post, rfl, rfl⟩ := h; exact ⟨p :: pre, post, rfl, rfl⟩
theorem Pick.perm {l l' : List Chunk} {x : Chunk} (h : Pick l x l') : l.Perm (x :: l') := by
  obtain ⟨pre, post, rfl, rfl⟩ := h; exact List.perm_middle

def Take (l F R : List Chunk) : Prop := l.Perm (F ++ R)
theorem Take.nil {l : List Chunk} : Take l [] l := List.Perm.refl _
theorem Take.cons {l l' F R : List Chunk} {x : Chunk} (h : Pick l x l') (t : Take l' F R) : Take l (x :: F) R := h.perm.trans (List.Perm.cons x t)
theorem Take.all {l : List Chunk} : Take l l [] := by unfold Take; simp

/- ## the state's own laws -/

theorem Own.perm {base : Heap} {cs cs' : List Chunk} {h : Heap} (o : Own base cs h) (p : cs.Perm cs') : Own base cs' h :=
  ⟨o.1, (p.map Prod.fst).nodup_iff.mp o.2.1, fun x hx => o.2.2 x (p.mem_iff.mpr hx)⟩
theorem Own.ext {base : Heap} {cs : List Chunk} {h h' : Heap} (o : Own base cs h) (k : ∀ b x, h.get? b = some x → h'.get? b = some x) : Own base cs h' :=
  ⟨fun b x e => k b x (o.1 b x e), o.2.1, fun p hp => let ⟨a, x, e, r⟩ := o.2.2 p hp; ⟨a, x, k _ _ e, r⟩⟩
theorem Own.sub {base : Heap} {cs cs' : List Chunk} {h : Heap} (o : Own base cs h) (s : cs'.Sublist cs) : Own base cs' h :=
  ⟨o.1, (s.map Prod.fst).nodup o.2.1, fun p hp => o.2.2 p (s.subset hp)⟩

theorem Own.upd {base : Heap} {cs cs' : List Chunk} {h h' : Heap} {a : Addr} {ao : AO} {x : Obj} (o : Own base cs h) (U : Upd cs a ao cs')
    (k : ∀ b y, b ≠ a → h.get? b = some y → h'.get? b = some y) (e : h'.get? a = some x) (i : OIs x ao) : Own base cs' h' := by
  have ha : base.objs.size ≤ a := by
    obtain ⟨pre, u, post, rfl, rfl⟩ := U
    exact (o.2.2 (a, u) (by simp)).1
  refine ⟨fun b y q => k b y (fun z => ?_) (o.1 b y q), by rw [U.keys]; exact o.2.1, fun p hp => ?_⟩
  · subst z; exact absurd (Heap.lt_size q) (Nat.not_lt.mpr ha)
  · rcases U.mem o.2.1 hp with rfl | ⟨hne, hp⟩
    · exact ⟨ha, x, e, i⟩
    · obtain ⟨q1, y, q2, q3⟩ := o.2.2 p hp
      exact ⟨q1, y, k _ _ hne q2, q3⟩

theorem Own.new {base : Heap} {cs : List Chunk} {h h' : Heap} {a : Addr} {ao : AO} {x : Obj} (o : Own base cs h) (ha : h.get? a = none) (hb : base.objs.size ≤ a)
    (k : ∀ b y, h.get? b = some y → h'.get? b = some y) (e : h'.get? a = some x) (i : OIs x ao) : Own base ((a, ao) :: cs) h' := by
  refine ⟨fun b y q => k b y (o.1 b y q), ?_, fun p hp => ?_⟩
  · simp only [List.map_cons, List.nodup_cons]
    refine ⟨fun q => ?_, o.2.1⟩
    obtain ⟨p, hp, rfl⟩ := List.mem_map.mp q
    obtain ⟨-, y, e', -⟩ := o.2.2 p hp
    rw [ha] at e'; cases e'
  · rcases List.mem_cons.mp hp with rfl | hp
    · exact ⟨hb, x, e, i⟩
    · obtain ⟨q1, y, q2, q3⟩ := o.2.2 p hp
      exact ⟨q1, y, k _ _ q2, q3⟩

theorem heap_size_none (h : Heap) {a : Addr} (ha : h.objs.size ≤ a) : h.get? a = none := by
  cases q : h.get? a with
  | none => rfl
  | some o => exact absurd (Heap.lt_size q) (Nat.not_lt.mpr ha)
theorem Own.size {base : Heap} {cs : List Chunk} {h : Heap} (o : Own base cs h) (hne : cs ≠ []) : base.objs.size ≤ h.objs.size := by
  cases cs with
  | nil => exact absurd rfl hne
  | cons p r => obtain ⟨a, x, e, -⟩ := o.2.2 p (by simp); exact Nat.le_trans a (Nat.le_of_lt (Heap.lt_size e))
theorem Own.push {base : Heap} {cs : List Chunk} {h : Heap} {ao : AO} {x : Obj} (o : Own base cs h) (hs : base.objs.size ≤ h.objs.size) (hf : x.isFreed = false) (i : OIs x ao) :
    Own base ((h.objs.size, ao) :: cs) (h.push x) :=
  o.new (heap_size_none h (Nat.le_refl _)) hs (fun _ _ e => Heap.get?_push_of_some _ e) (Heap.get?_push_size _ hf) i

section
variable {c : Cx} {cs cs' : List Chunk} {s s' : Shared}
theorem St.own (x : St c cs s) : Own c.base cs s.heap := x.2.2.2
theorem St.perm (x : St c cs s) (p : cs.Perm cs') : St c cs' s := ⟨x.1, x.2.1, x.2.2.1, x.own.perm p⟩
theorem St.sub (x : St c cs s) (p : cs'.Sublist cs) : St c cs' s := ⟨x.1, x.2.1, x.2.2.1, x.own.sub p⟩
theorem St.toks (x : St c cs s) {n : Nat} (hn : 0 < n) : St c cs { s with toks := n } := ⟨hn, x.2.1, x.2.2.1, x.own⟩
theorem St.to {h' : Heap} {tk : Nat} (x : St c cs s) (ht : 0 < tk) (k : Own c.base cs' h') : St c cs' { s with heap := h', toks := tk } := ⟨ht, x.2.1, x.2.2.1, k⟩
theorem St.ext {h' : Heap} {tk : Nat} (x : St c cs s) (ht : 0 < tk) (k : ∀ b y, s.heap.get? b = some y → h'.get? b = some y) : St c cs { s with heap := h', toks := tk } :=
  x.to ht (x.own.ext k)
theorem St.at {a : Addr} {ao : AO} (x : St c cs s) (h : (a, ao) ∈ cs) : ∃ o, s.heap.get? a = some o ∧ OIs o ao := (x.own.2.2 _ h).2
theorem St.low {a : Addr} {ao : AO} (x : St c cs s) (h : (a, ao) ∈ cs) : c.base.objs.size ≤ a := (x.own.2.2 _ h).1
theorem St.keep (x : St c cs s) : ∀ b o, c.base.get? b = some o → s.heap.get? b = some o := x.own.1
theorem St.inK (x : St c cs s) : c.K.In s.heap := c.inK.keeps x.keep
theorem St.nolimit (x : St c cs s) : s.heap.NoLimit := c.top.nolimit.keeps x.keep
theorem St.pos (x : St c cs s) : 0 < s.toks := x.1
end

/- ## tokens never go back -/

theorem runs_toks {M : Model} {Γ : Ctx} {p : Pos} {t : Sem Fin} {fs : List Frame} {s s' : Shared} {e : End} (h : Runs M Γ p t fs s e s') : s.toks ≤ s'.toks := by
  induction h <;> first | exact Nat.le_refl _ | assumption | omega | ((try dsimp only [Shared.setGen] at *); omega)

theorem wp_toks {α : Type} {M : Model} {Γ : Ctx} {E : Value → Pos → Shared → Prop} (t : Sem α) : ∀ {Q : α → Pos → Shared → Prop} {p : Pos} {s : Shared}, Sem.wp M Γ t Q E p s →
    Sem.wp M Γ t (fun a p' s' => Q a p' s' ∧ s.toks ≤ s'.toks) E p s := by
  induction t with
  | pure a => intro Q p s h; exact ⟨h, Nat.le_refl _⟩
  | raise e => intro Q p s h; exact h
  | «unsupported» w => intro Q p s h; exact h
  | finish e => intro Q p s h; exact h
  | rule _ k ih => intro Q p s h; exact ih () h
  | «at» _ k ih => intro Q p s h; exact ih () h
  | load a _ k ih => intro Q p s h; obtain ⟨o, ho, h⟩ := h; exact ⟨o, ho, ih o h⟩
  | update a _ f k ih => intro Q p s h; exact ⟨h.1, ih () h.2⟩
  | loadIfAlive a k ih => intro Q p s h; exact ih _ h
  | point _ k ih => intro Q p s h; exact ih () h
  | register _ _ => intro Q p s h; exact h
  | alloc o k ih => intro Q p s h; exact ih _ h
  | fresh k ih => intro Q p s h; exact Sem.wp_mono M Γ _ (fun a p' s' x => ⟨x.1, Nat.le_trans (Nat.le_succ _) x.2⟩) (fun _ _ _ x => x) _ _ (ih _ (s := { s with toks := s.toks + 1 }) h)
  | ask k ih => intro Q p s h; exact ih _ h
  | choose _ _ k ih => intro Q p s h; exact ⟨h.1, ih _ h.2⟩
  | os _ _ k ih => intro Q p s h; exact ih _ h
  | call c hh g l k ih =>
    intro Q p s h
    obtain ⟨r, s₁, hr, h⟩ := h
    exact ⟨r, s₁, hr, Sem.wp_mono M Γ _ (fun a p' s' x => ⟨x.1, Nat.le_trans (runs_toks hr) x.2⟩) (fun _ _ _ x => x) _ _ (ih r h)⟩
  | handled _ k ih => intro Q p s h; exact ih _ h
  | genState g k ih => intro Q p s h; obtain ⟨o, ho, h⟩ := h; exact ⟨o, ho, ih _ h⟩
  | newGen c k ih => intro Q p s h; exact ih _ h
  | resume g r l k ih =>
    intro Q p s h
    obtain ⟨res, s₁, hr, h⟩ := h
    refine ⟨res, s₁, hr, Sem.wp_mono M Γ _ (fun a p' s' x => ⟨x.1, Nat.le_trans ?_ x.2⟩) (fun _ _ _ x => x) _ _ (ih res h)⟩
    unfold Wakes at hr
    split at hr
    · exact hr.elim
    · split at hr
      · obtain ⟨e₁, s₂, h1, h2, h3, rfl⟩ := hr; have := runs_toks h1; simpa only [Shared.setGen] using this
      · obtain ⟨-, rfl⟩ := hr; exact Nat.le_refl _
      · obtain ⟨-, rfl⟩ := hr; exact Nat.le_refl _
    · obtain ⟨e₁, s₂, h1, h2, h3, rfl⟩ := hr; have := runs_toks h1; simpa only [Shared.setGen] using this
    · obtain ⟨-, rfl⟩ := hr; exact Nat.le_refl _
    · obtain ⟨-, rfl⟩ := hr; exact Nat.le_refl _
  | yield _ _ _ _ => intro Q p s h; exact h
  | stack k ih => intro Q p s h; exact ih _ h
  | fork _ _ => intro Q p s h; exact h
  | thread k ih => intro Q p s h; exact ih _ h
  | await _ _ _ _ _ => intro Q p s h; exact h

theorem wpAny_toks {α : Type} {M : Model} {A : Around} {E : Value → Shared → Prop} {t : Sem α} {Q : α → Shared → Prop} {s : Shared} (h : wpAny M A t Q E s) :
    wpAny M A t (fun a s' => Q a s' ∧ s.toks ≤ s'.toks) E s := fun Γ p hΓ => wp_toks t (h Γ p hΓ)

/- ## the frame -/

structure Fi where
  A : Around
  env : Env
  L : Addr
def EnvOk (e : Env) (L : Addr) : Prop := e.scope.kind = .function ∧ e.locals = L ∧ e.globals = mainGlobals ∧ e.builtins = builtinsNs

def AOk (A : Around) (k : Nat) : Prop := A.handled = none ∧ A.depth + 10 * k ≤ 900 ∧ A.units + 40 * k ≤ 9000
theorem AOk.mono {A : Around} {k j : Nat} (h : AOk A k) (hj : j ≤ k) : AOk A j := ⟨h.1, by have := h.2.1; omega, by have := h.2.2; omega⟩

def FOk (i : Fi) (k : Nat) (m : Fields) : Prop :=
  EnvOk i.env i.L ∧ (∀ p ∈ m, i.env.kindOf p.1 = some .local) ∧ AOk i.A k
def GOk (i : Fi) (gl : List Str) : Prop := ∀ x ∈ gl, i.env.kindOf x = some .globalImplicit
def SameKeys (m m' : Fields) : Prop := m'.map Prod.fst = m.map Prod.fst
theorem SameKeys.refl (m : Fields) : SameKeys m m := rfl
theorem SameKeys.trans {m₁ m₂ m₃ : Fields} (x : SameKeys m₁ m₂) (y : SameKeys m₂ m₃) : SameKeys m₁ m₃ := Eq.trans y x
theorem FOk.keys {i : Fi} {k : Nat} {m m' : Fields} (h : FOk i k m) (e : SameKeys m m') : FOk i k m' :=
  ⟨h.1, fun p hp => by
    have : p.1 ∈ m.map Prod.fst := e ▸ List.mem_map_of_mem hp
    obtain ⟨q, hq, e'⟩ := List.mem_map.mp this
    rw [← e']; exact h.2.1 q hq, h.2.2⟩

/-- the frame's locals as the library's Fr -/
theorem frame {c : Cx} {L : Addr} {m : Fields} {cs : List Chunk} {s : Shared} (x : St c ((L, .ns m) :: cs) s) :
    ∃ m', Fr c.base L s.heap m' ∧ (m.map Prod.fst).Nodup ∧ ∀ p ∈ m, (m' p.1).map nv = p.2 := by
  obtain ⟨o, ho, es, ep, hd, hk, hn, hm⟩ := x.at (List.mem_cons_self)
  exact ⟨fun y => nsFind es y, ⟨⟨o, es, ep, ho, hd, hk, fun _ => rfl⟩, x.keep, x.low List.mem_cons_self⟩, hn, hm⟩

/-- a namespace turned at one name -/
theorem ns_upd {h' : Heap} {L : Addr} {m m' : Fields} {f : Str → Option Value} {x : Str} {v : Value} (hn : (m.map Prod.fst).Nodup) (hm : ∀ p ∈ m, (f p.1).map nv = p.2)
    (N : h'.Ns L (fun y => if y = x then some v else f y)) (U : Upd m x (some (nv v)) m') : ∃ o, h'.get? L = some o ∧ OIs o (.ns m') := by
  obtain ⟨o, es, ep, ho, hd, hk, hf⟩ := N
  refine ⟨o, ho, es, ep, hd, hk, by rw [U.keys]; exact hn, fun p hp => ?_⟩
  rw [hf]
  rcases U.mem hn hp with rfl | ⟨hne, hp⟩
  · simp
  · show (if p.1 = x then some v else f p.1).map nv = p.2
    rw [if_neg hne]; exact hm p hp

end Mine
end
section
open PySem PySem.W PySem.Calls PyProof.Rows
namespace Mine

/- ## judgements -/

abbrev NoE : Value → Shared → Prop := fun _ _ => False
section
variable (c : Cx) (i : Fi) (k : Nat) (m : Fields) (cs : List Chunk)
def EV (e : Expr) (Q : Value → List Chunk → Prop) : Prop :=
  FOk i k m → ∀ R s, St c ((i.L, .ns m) :: (cs ++ R)) s →
    wpAny (model c.prog c.w) i.A (eval e i.env) (fun v s' => ∃ cs', St c ((i.L, .ns m) :: (cs' ++ R)) s' ∧ Q (nv v) cs') NoE s
def TV (e : Expr) (Q : Bool → List Chunk → Prop) : Prop :=
  FOk i k m → ∀ R s, St c ((i.L, .ns m) :: (cs ++ R)) s →
    wpAny (model c.prog c.w) i.A (isTrue e i.env (eval e i.env)) (fun v s' => ∃ cs', St c ((i.L, .ns m) :: (cs' ++ R)) s' ∧ Q v cs') NoE s
def EVs (es : List Expr) (Q : List Value → List Chunk → Prop) : Prop :=
  FOk i k m → ∀ R s pos, St c ((i.L, .ns m) :: (cs ++ R)) s →
    wpAny (model c.prog c.w) i.A (spliced (backTo pos (starEach es i.env))) (fun v s' => ∃ cs', St c ((i.L, .ns m) :: (cs' ++ R)) s' ∧ Q (v.map nv) cs') NoE s
def nf : Flow → Flow
  | .ret v => .ret (nv v)
  | f => f
def EX (st : Stmt) (Q : Flow → Fields → List Chunk → Prop) : Prop :=
  FOk i k m → ∀ R s, St c ((i.L, .ns m) :: (cs ++ R)) s →
    wpAny (model c.prog c.w) i.A (exec st i.env) (fun f s' => ∃ m' cs', SameKeys m m' ∧ St c ((i.L, .ns m') :: (cs' ++ R)) s' ∧ Q (nf f) m' cs') NoE s
def EXS (st : List Stmt) (Q : Flow → Fields → List Chunk → Prop) : Prop :=
  FOk i k m → ∀ R s, St c ((i.L, .ns m) :: (cs ++ R)) s →
    wpAny (model c.prog c.w) i.A (execs st i.env) (fun f s' => ∃ m' cs', SameKeys m m' ∧ St c ((i.L, .ns m') :: (cs' ++ R)) s' ∧ Q (nf f) m' cs') NoE s
/-- an assignment to one target -/
def AS (t : Expr) (v : Value) (Q : Fields → List Chunk → Prop) : Prop :=
  FOk i k m → ∀ R s v', nv v' = v → St c ((i.L, .ns m) :: (cs ++ R)) s →
    wpAny (model c.prog c.w) i.A (assign t i.env v') (fun _ s' => ∃ m' cs', SameKeys m m' ∧ St c ((i.L, .ns m') :: (cs' ++ R)) s' ∧ Q m' cs') NoE s
def PE (e : Expr) (v : Value) : Prop := EV c i k m cs e (fun v' cs' => v' = v ∧ cs' = cs)
def PT (e : Expr) (b : Bool) : Prop := TV c i k m cs e (fun b' cs' => b' = b ∧ cs' = cs)
end
section
variable {α β : Type} (c : Cx) (A : Around) (k : Nat) (cs : List Chunk)
def Op1 (t : Value → Sem α) (a : Value) (n : α → β) (Q : β → List Chunk → Prop) : Prop :=
  AOk A k → ∀ R s a', nv a' = a → St c (cs ++ R) s → wpAny (model c.prog c.w) A (t a') (fun v s' => ∃ cs', St c (cs' ++ R) s' ∧ Q (n v) cs') NoE s
def Op2 (t : Value → Value → Sem α) (a b : Value) (n : α → β) (Q : β → List Chunk → Prop) : Prop :=
  AOk A k → ∀ R s a' b', nv a' = a → nv b' = b → St c (cs ++ R) s → wpAny (model c.prog c.w) A (t a' b') (fun v s' => ∃ cs', St c (cs' ++ R) s' ∧ Q (n v) cs') NoE s
def CallV (f : Value) (args : List Value) (Q : Value → List Chunk → Prop) : Prop :=
  AOk A k → ∀ R s args', args'.map nv = args → St c (cs ++ R) s → wpAny (model c.prog c.w) A (call f args') (fun v s' => ∃ cs', St c (cs' ++ R) s' ∧ Q (nv v) cs') NoE s
def GetM (o : Value) (name : Str) (Q : Value → List Value → List Chunk → Prop) : Prop :=
  AOk A k → ∀ R s o' pl, nv o' = o → St c (cs ++ R) s → wpAny (model c.prog c.w) A (getMethod o' name pl) (fun fx s' => ∃ cs', St c (cs' ++ R) s' ∧ Q fx.1 (fx.2.map nv) cs') NoE s
end
abbrev Is {β : Type} (cs : List Chunk) (r : β) : β → List Chunk → Prop := fun v cs' => v = r ∧ cs' = cs

theorem noE {α : Type} {M : Model} {A : Around} {t : Sem α} {Q Q' : α → Shared → Prop} {s : Shared} (h : wpAny M A t Q NoE s) (k : ∀ a s', Q a s' → Q' a s') : wpAny M A t Q' NoE s :=
  wpAny_mono h k fun _ _ x => x
theorem noE' {α : Type} {M : Model} {A : Around} {t : Sem α} {Q Q' : α → Shared → Prop} {E : Value → Shared → Prop} {s : Shared} (h : wpAny M A t Q NoE s) (k : ∀ a s', Q a s' → Q' a s') : wpAny M A t Q' E s :=
  wpAny_mono h k fun _ _ x => x.elim

theorem mid {p : Chunk} {cs R : List Chunk} : (p :: (cs ++ R)).Perm (cs ++ p :: R) := List.perm_middle.symm
theorem dim {p : Chunk} {cs R : List Chunk} : (cs ++ p :: R).Perm (p :: (cs ++ R)) := List.perm_middle

section
variable {c : Cx} {i : Fi} {k : Nat} {m : Fields} {cs : List Chunk}

theorem EV.mono {e : Expr} {Q Q' : Value → List Chunk → Prop} (h : EV c i k m cs e Q) (q : ∀ v cs', Q v cs' → Q' v cs') : EV c i k m cs e Q' :=
  fun hF R s hs => noE (h hF R s hs) fun _ _ ⟨cs', a, b⟩ => ⟨cs', a, q _ _ b⟩
theorem TV.mono {e : Expr} {Q Q' : Bool → List Chunk → Prop} (h : TV c i k m cs e Q) (q : ∀ v cs', Q v cs' → Q' v cs') : TV c i k m cs e Q' :=
  fun hF R s hs => noE (h hF R s hs) fun _ _ ⟨cs', a, b⟩ => ⟨cs', a, q _ _ b⟩
theorem EX.mono {e : Stmt} {Q Q' : Flow → Fields → List Chunk → Prop} (h : EX c i k m cs e Q) (q : ∀ f m' cs', Q f m' cs' → Q' f m' cs') : EX c i k m cs e Q' :=
  fun hF R s hs => noE (h hF R s hs) fun _ _ ⟨m', cs', z, a, b⟩ => ⟨m', cs', z, a, q _ _ _ b⟩
theorem EVs.mono {e : List Expr} {Q Q' : List Value → List Chunk → Prop} (h : EVs c i k m cs e Q) (q : ∀ v cs', Q v cs' → Q' v cs') : EVs c i k m cs e Q' :=
  fun hF R s pos hs => noE (h hF R s pos hs) fun _ _ ⟨cs', a, b⟩ => ⟨cs', a, q _ _ b⟩
theorem PE.ev {e : Expr} {v : Value} {Q : Value → List Chunk → Prop} (h : PE c i k m cs e v) (q : Q v cs) : EV c i k m cs e Q :=
  EV.mono h fun _ _ ⟨a, b⟩ => by subst a b; exact q
theorem PT.tv {e : Expr} {v : Bool} {Q : Bool → List Chunk → Prop} (h : PT c i k m cs e v) (q : Q v cs) : TV c i k m cs e Q :=
  TV.mono h fun _ _ ⟨a, b⟩ => by subst a b; exact q

/- the chunks may be put in another order -/
theorem EXS.perm {cs₁ : List Chunk} {e : List Stmt} {Q : Flow → Fields → List Chunk → Prop} (p : cs.Perm cs₁) (h : EXS c i k m cs₁ e Q) : EXS c i k m cs e Q :=
  fun hF R s hs => h hF R s (hs.perm ((p.append_right R).cons _))

/- ## leaves -/
theorem PE_int {n : Int} {u : Nat} {pos : Pos} : PE c i k m cs (.Constant (.int n) u pos) (.int n 0) :=
  fun _ _ s hs => wpAny_Constant_int ⟨cs, hs.toks (Nat.succ_pos _), rfl, rfl⟩
theorem PE_str {x : Str} {u : Nat} {pos : Pos} {l : List Nat} (hx : x = ⟨l.toArray⟩) : PE c i k m cs (.Constant (.str x) u pos) (.str ⟨l.toArray⟩ 0) :=
  fun _ _ s hs => Calls.Constant_str ⟨cs, hs.toks (Nat.succ_pos _), by rw [hx]; rfl, rfl⟩
theorem PE_none {u : Nat} {pos : Pos} : PE c i k m cs (.Constant .none u pos) .none := fun _ _ _ hs => wpAny_pure ⟨cs, hs, rfl, rfl⟩
theorem PE_bool {b : Bool} {u : Nat} {pos : Pos} : PE c i k m cs (.Constant (.bool b) u pos) (.bool b) := fun _ _ _ hs => wpAny_pure ⟨cs, hs, rfl, rfl⟩

theorem PE_loc {x : Str} {v : Value} {pos : Pos} (h : (x, some v) ∈ m) (hd : (x == ("__debug__" : Str)) = false := by decide) : PE c i k m cs (.Name x pos) v := by
  intro hF R s hs
  obtain ⟨m', F, hn, hm⟩ := frame hs
  have e := hm _ h
  cases q : m' x with
  | none => simp only [q] at e; cases e
  | some v' =>
    simp only [q, Option.map_some, Option.some.injEq] at e
    exact wpAny_Name (wpAny_loadName_local hF.1.1 (hF.2.1 _ h) (by rw [hF.1.2.1]; exact F.ns) q ⟨cs, hs, e, rfl⟩) hd
theorem PE_glob {x : Str} {v : Value} {pos : Pos} {gl : List Str} (hg : GOk i gl) (hx : x ∈ gl) (e : nsIn c.K mainGlobals x = some (some v)) (hd : (x == ("__debug__" : Str)) = false := by decide) :
    PE c i k m cs (.Name x pos) (nv v) := by
  intro hF R s hs
  obtain ⟨m', F, hn, hm⟩ := frame hs
  exact Calls.Name_function_global hF.1.1 (hg x hx) (Calls.loadGlobal_global (env := i.env) (by rw [hF.1.2.2.1]; exact c.top.g.keeps F.keep) (mg_of c.inK c.top.g e) ⟨cs, hs, rfl, rfl⟩) hd
theorem PE_bi {x : Str} {v : Value} {pos : Pos} {gl : List Str} (hg : GOk i gl) (hx : x ∈ gl) (e : nsIn c.K mainGlobals x = some none) (hv : bootBuiltins x = some v) (hn : x ≠ "__name__") (hd : (x == ("__debug__" : Str)) = false := by decide) :
    PE c i k m cs (.Name x pos) (nv v) := by
  intro hF R s hs
  obtain ⟨m', F, _, hm⟩ := frame hs
  exact Calls.Name_function_global hF.1.1 (hg x hx) (Calls.loadGlobal_builtin (env := i.env) (by rw [hF.1.2.2.1]; exact c.top.g.keeps F.keep) (mg_none_of c.inK c.top.g e) (by rw [hF.1.2.2.2]; exact c.top.b.keeps F.keep) ((c.top.builtins x hn).trans hv) ⟨cs, hs, rfl, rfl⟩) hd

/- ## composition of expressions -/
theorem EV_bin {l r : Expr} {op : Operator} {pos : Pos} {Q : Value → List Chunk → Prop}
    (h : EV c i k m cs l (fun a cs1 => EV c i k m cs1 r (fun b cs2 => Op2 c i.A k cs2 (binaryOp op) a b nv Q))) : EV c i k m cs (.BinOp l op r pos) Q := by
  intro hF R s hs
  refine wpAny_BinOp (noE (h hF R s hs) ?_)
  rintro a s1 ⟨cs1, h1, q1⟩
  refine noE (q1 hF R s1 h1) ?_
  rintro b s2 ⟨cs2, h2, q2⟩
  refine noE (q2 hF.2.2 _ s2 a b rfl rfl (h2.perm mid)) ?_
  rintro v s3 ⟨cs3, h3, q3⟩
  exact ⟨cs3, h3.perm dim, q3⟩
theorem EV_cmp {l r : Expr} {op : CmpOp} {pos : Pos} {Q : Value → List Chunk → Prop}
    (h : EV c i k m cs l (fun a cs1 => EV c i k m cs1 r (fun b cs2 => Op2 c i.A k cs2 (compareOp op) a b nv Q)))
    (hm : behindInMarks op r = false := by with_unfolding_all rfl) : EV c i k m cs (.Compare l [op] [r] pos) Q := by
  intro hF R s hs
  refine wpAny_Compare1 (noE (h hF R s hs) ?_) hm
  rintro a s1 ⟨cs1, h1, q1⟩
  refine noE (q1 hF R s1 h1) ?_
  rintro b s2 ⟨cs2, h2, q2⟩
  refine noE (q2 hF.2.2 _ s2 a b rfl rfl (h2.perm mid)) ?_
  rintro v s3 ⟨cs3, h3, q3⟩
  exact ⟨cs3, h3.perm dim, q3⟩
theorem TV_cmp {l r : Expr} {op : CmpOp} {pos : Pos} {Q : Bool → List Chunk → Prop}
    (h : EV c i k m cs l (fun a cs1 => EV c i k m cs1 r (fun b cs2 => Op2 c i.A k cs2 (compareOp op) a b nv (fun v cs3 => Op1 c i.A k cs3 truthy v id Q))))
    (hm : behindInMarks op r = false := by with_unfolding_all rfl) : TV c i k m cs (.Compare l [op] [r] pos) Q := by
  intro hF R s hs
  refine wpAny_isTrue_Compare1 (noE (h hF R s hs) ?_) hm
  rintro a s1 ⟨cs1, h1, q1⟩
  refine noE (q1 hF R s1 h1) ?_
  rintro b s2 ⟨cs2, h2, q2⟩
  refine noE (q2 hF.2.2 _ s2 a b rfl rfl (h2.perm mid)) ?_
  rintro v s3 ⟨cs3, h3, q3⟩
  refine noE (q3 hF.2.2 _ s3 v rfl h3) ?_
  rintro v s4 ⟨cs4, h4, q4⟩
  exact ⟨cs4, h4.perm dim, q4⟩
theorem EV_ifexp {test body orelse : Expr} {pos : Pos} {Q : Value → List Chunk → Prop}
    (h : TV c i k m cs test (fun b cs1 => (b = true → EV c i k m cs1 body Q) ∧ (b = false → EV c i k m cs1 orelse Q))) : EV c i k m cs (.IfExp test body orelse pos) Q := by
  intro hF R s hs
  refine IfExp_ (noE (h hF R s hs) ?_)
  rintro b s1 ⟨cs1, h1, q1⟩
  cases b with
  | true => exact q1.1 rfl hF R s1 h1
  | false => exact q1.2 rfl hF R s1 h1
theorem TV_not {e : Expr} {pos : Pos} {Q : Bool → List Chunk → Prop} (h : TV c i k m cs e (fun b => Q (!b))) : TV c i k m cs (.UnaryOp .Not e pos) Q :=
  fun hF R s hs => isTrue_not (h hF R s hs)
theorem TV_plain {e : Expr} {Q : Bool → List Chunk → Prop} (h : EV c i k m cs e (fun v cs1 => Op1 c i.A k cs1 truthy v id Q))
    (he : ∀ env whole, isTrue e env whole = (do let v ← whole; standAt e.pos; holding [v] (truthy v)) := by intro _ _; rfl) : TV c i k m cs e Q := by
  intro hF R s hs
  refine isTrue_plain (noE (h hF R s hs) ?_) (he _ _)
  rintro v s1 ⟨cs1, h1, q1⟩
  refine noE (q1 hF.2.2 _ s1 v rfl (h1.perm mid)) ?_
  rintro v s4 ⟨cs4, h4, q4⟩
  exact ⟨cs4, h4.perm dim, q4⟩
theorem TV_or {x : Expr} {rest : List Expr} {pos : Pos} {Q : Bool → List Chunk → Prop} (h : TV c i k m cs x (fun b cs1 => (b = true → Q true cs1) ∧ (b = false → TV c i k m cs1 (.BoolOp .Or rest pos) Q))) :
    TV c i k m cs (.BoolOp .Or (x :: rest) pos) Q := by
  intro hF R s hs
  refine isTrue_or (noE (h hF R s hs) ?_)
  rintro b s1 ⟨cs1, h1, q1⟩
  cases b with
  | true => exact ⟨cs1, h1, q1.1 rfl⟩
  | false => exact q1.2 rfl hF R s1 h1
theorem TV_or_nil {pos : Pos} {Q : Bool → List Chunk → Prop} (h : Q false cs) : TV c i k m cs (.BoolOp .Or [] pos) Q := fun _ _ _ hs => isTrue_or_nil ⟨cs, hs, h⟩
theorem TV_and {x : Expr} {rest : List Expr} {pos : Pos} {Q : Bool → List Chunk → Prop} (h : TV c i k m cs x (fun b cs1 => (b = true → TV c i k m cs1 (.BoolOp .And rest pos) Q) ∧ (b = false → Q false cs1))) :
    TV c i k m cs (.BoolOp .And (x :: rest) pos) Q := by
  intro hF R s hs
  refine isTrue_and (noE (h hF R s hs) ?_)
  rintro b s1 ⟨cs1, h1, q1⟩
  cases b with
  | true => exact q1.1 rfl hF R s1 h1
  | false => exact ⟨cs1, h1, q1.2 rfl⟩
theorem TV_and_nil {pos : Pos} {Q : Bool → List Chunk → Prop} (h : Q true cs) : TV c i k m cs (.BoolOp .And [] pos) Q := fun _ _ _ hs => isTrue_and_nil ⟨cs, hs, h⟩
theorem EV_boolop_one {op : BoolOp} {e : Expr} {pos : Pos} {Q : Value → List Chunk → Prop} (h : EV c i k m cs e Q) : EV c i k m cs (.BoolOp op [e] pos) Q := fun hF R s hs => BoolOp_one (h hF R s hs)
theorem EV_or {x y : Expr} {rest : List Expr} {pos : Pos} {Q : Value → List Chunk → Prop}
    (h : EV c i k m cs x (fun v cs1 => Op1 c i.A k cs1 truthy v id (fun b cs2 => (b = true → Q v cs2) ∧ (b = false → EV c i k m cs2 (.BoolOp .Or (y :: rest) pos) Q)))) :
    EV c i k m cs (.BoolOp .Or (x :: y :: rest) pos) Q := by
  intro hF R s hs
  refine BoolOp_or (noE (h hF R s hs) ?_)
  rintro v s1 ⟨cs1, h1, q1⟩
  refine noE (q1 hF.2.2 _ s1 v rfl (h1.perm mid)) ?_
  rintro b s2 ⟨cs2, h2, q2⟩
  cases b with
  | true => exact ⟨cs2, h2.perm dim, q2.1 rfl⟩
  | false => exact q2.2 rfl hF R s2 (h2.perm dim)
theorem EV_and {x y : Expr} {rest : List Expr} {pos : Pos} {Q : Value → List Chunk → Prop}
    (h : EV c i k m cs x (fun v cs1 => Op1 c i.A k cs1 truthy v id (fun b cs2 => (b = true → EV c i k m cs2 (.BoolOp .And (y :: rest) pos) Q) ∧ (b = false → Q v cs2)))) :
    EV c i k m cs (.BoolOp .And (x :: y :: rest) pos) Q := by
  intro hF R s hs
  refine BoolOp_and (noE (h hF R s hs) ?_)
  rintro v s1 ⟨cs1, h1, q1⟩
  refine noE (q1 hF.2.2 _ s1 v rfl (h1.perm mid)) ?_
  rintro b s2 ⟨cs2, h2, q2⟩
  cases b with
  | true => exact q2.1 rfl hF R s2 (h2.perm dim)
  | false => exact ⟨cs2, h2.perm dim, q2.2 rfl⟩

theorem EVs_nil {Q : List Value → List Chunk → Prop} (h : Q [] cs) : EVs c i k m cs [] Q := fun _ _ _ _ hs => spliced_nil ⟨cs, hs, h⟩
theorem EVs_cons {e : Expr} {rest : List Expr} {Q : List Value → List Chunk → Prop} (h : EV c i k m cs e (fun v cs1 => EVs c i k m cs1 rest (fun vs => Q (v :: vs))))
    (he : ∀ env, starEach (e :: rest) env = (false, eval e env) :: starEach rest env := by intro _; rfl) : EVs c i k m cs (e :: rest) Q := by
  intro hF R s pos hs
  rw [he]
  refine spliced_cons (x := eval e i.env) (noE (h hF R s hs) ?_)
  rintro v s1 ⟨cs1, h1, q1⟩
  refine noE (q1 hF R s1 pos h1) ?_
  rintro vs s2 ⟨cs2, h2, q2⟩
  exact ⟨cs2, h2, q2⟩

theorem EV_attr {e : Expr} {attr : Str} {pos : Pos} {Q : Value → List Chunk → Prop} (h : EV c i k m cs e (fun o cs1 => Op1 c i.A k cs1 (fun v => getAttr v attr true) o nv Q))
    (he : ∀ env, eval (.Attribute e attr pos) env = (do
          let o ← eval e env
          standAt pos.atName
          let r ← holding [o] (getAttr o attr true)
          letTemporaryGo e o r
          pure r) := by intro _; rfl) : EV c i k m cs (.Attribute e attr pos) Q := by
  intro hF R s hs
  refine Attribute_any_ (noE (h hF R s hs) ?_) (he _)
  rintro v s1 ⟨cs1, h1, q1⟩
  refine noE (q1 hF.2.2 _ s1 v rfl (h1.perm mid)) ?_
  rintro b s2 ⟨cs2, h2, q2⟩
  exact ⟨cs2, h2.perm dim, q2⟩
theorem EV_sub {e sl : Expr} {pos : Pos} {Q : Value → List Chunk → Prop} (h : EV c i k m cs e (fun o cs1 => EV c i k m cs1 sl (fun j cs2 => Op2 c i.A k cs2 (subscriptTail e sl) o j nv Q))) : EV c i k m cs (.Subscript e sl pos) Q := by
  intro hF R s hs
  refine Subscript_ (noE (h hF R s hs) ?_)
  rintro a s1 ⟨cs1, h1, q1⟩
  refine noE (q1 hF R s1 h1) ?_
  rintro b s2 ⟨cs2, h2, q2⟩
  refine noE (q2 hF.2.2 _ s2 a b rfl rfl (h2.perm mid)) ?_
  rintro v s3 ⟨cs3, h3, q3⟩
  exact ⟨cs3, h3.perm dim, q3⟩

/- ## calls -/
theorem EV_callK {func e : Expr} {rest : List Expr} {pos : Pos} {f : Addr} {Q : Value → List Chunk → Prop} (hf : PE c i k m cs func (.ref f)) (hk : keepIn c.K (.ref f) = true)
    (h : EVs c i k m cs (e :: rest) (fun vs cs1 => CallV c i.A k cs1 (.ref f) vs Q))
    (hc : ∀ env, eval (.Call func (e :: rest) [] pos) env = (do let f ← eval func env; callWith pos f [] (backTo pos (starEach (e :: rest) env)) (backToKw pos (keywordEach [] env))) := by intro _; rfl)
    (he : ∀ env, starEach (e :: rest) env = (false, eval e env) :: starEach rest env := by intro _; rfl)
    (hp : ∀ pos env, (backTo pos (starEach rest env)).any (·.1) = false := by intro _ _; rfl) : EV c i k m cs (.Call func (e :: rest) [] pos) Q := by
  intro hF R s hs
  refine Call_ (noE (hf hF R s hs) ?_) (hc _)
  rintro v s1 ⟨cs1, h1, q1, rfl⟩
  rw [nv_ref q1]
  refine callWith_K h1.inK hk (noE (h hF R s1 pos h1) ?_) (he _) (hp _ _)
  rintro vs s2 ⟨cs2, h2, q2⟩
  refine ⟨h2.inK, noE (q2 hF.2.2 _ s2 vs rfl (h2.perm mid)) ?_⟩
  rintro v s3 ⟨cs3, h3, q3⟩
  exact ⟨cs3, h3.perm dim, q3⟩
theorem EV_callK0 {func : Expr} {pos : Pos} {f : Addr} {Q : Value → List Chunk → Prop} (hf : PE c i k m cs func (.ref f)) (hk : keepIn c.K (.ref f) = true)
    (h : CallV c i.A k cs (.ref f) [] Q)
    (hc : ∀ env, eval (.Call func [] [] pos) env = (do let f ← eval func env; callWith pos f [] (backTo pos (starEach [] env)) (backToKw pos (keywordEach [] env))) := by intro _; rfl) : EV c i k m cs (.Call func [] [] pos) Q := by
  intro hF R s hs
  refine Call_ (noE (hf hF R s hs) ?_) (hc _)
  rintro v s1 ⟨cs1, h1, q1, rfl⟩
  rw [nv_ref q1]
  refine callWith_K0 h1.inK hk ?_
  refine noE (h hF.2.2 _ s1 [] rfl (h1.perm mid)) ?_
  rintro v s3 ⟨cs3, h3, q3⟩
  exact ⟨cs3, h3.perm dim, q3⟩
theorem EV_callB {func e : Expr} {rest : List Expr} {pos : Pos} {f : String} {Q : Value → List Chunk → Prop} (hf : PE c i k m cs func (.builtin f))
    (h : EVs c i k m cs (e :: rest) (fun vs cs1 => CallV c i.A k cs1 (.builtin f) vs Q))
    (hc : ∀ env, eval (.Call func (e :: rest) [] pos) env = (do let f ← eval func env; callWith pos f [] (backTo pos (starEach (e :: rest) env)) (backToKw pos (keywordEach [] env))) := by intro _; rfl)
    (he : ∀ env, starEach (e :: rest) env = (false, eval e env) :: starEach rest env := by intro _; rfl)
    (hp : ∀ pos env, (backTo pos (starEach rest env)).any (·.1) = false := by intro _ _; rfl) : EV c i k m cs (.Call func (e :: rest) [] pos) Q := by
  intro hF R s hs
  refine Call_ (noE (hf hF R s hs) ?_) (hc _)
  rintro v s1 ⟨cs1, h1, q1, rfl⟩
  rw [nv_builtin q1]
  have hh := h hF R s1 pos h1
  rw [he] at hh ⊢
  refine Calls.callWith_builtin (by show (false || (backTo pos (starEach rest i.env)).any (·.1)) = false; rw [hp]; rfl) (Calls.evalArgs_plain (noE hh ?_))
  rintro vs s2 ⟨cs2, h2, q2⟩
  refine noE (q2 hF.2.2 _ s2 vs rfl (h2.perm mid)) ?_
  rintro v s3 ⟨cs3, h3, q3⟩
  exact ⟨cs3, h3.perm dim, q3⟩
theorem EV_callT {func e : Expr} {rest : List Expr} {pos : Pos} {f : String} {Q : Value → List Chunk → Prop} (hf : PE c i k m cs func (.type f))
    (h : EVs c i k m cs (e :: rest) (fun vs cs1 => CallV c i.A k cs1 (.type f) vs Q))
    (hc : ∀ env, eval (.Call func (e :: rest) [] pos) env = (do let f ← eval func env; callWith pos f [] (backTo pos (starEach (e :: rest) env)) (backToKw pos (keywordEach [] env))) := by intro _; rfl)
    (he : ∀ env, starEach (e :: rest) env = (false, eval e env) :: starEach rest env := by intro _; rfl)
    (hp : ∀ pos env, (backTo pos (starEach rest env)).any (·.1) = false := by intro _ _; rfl) : EV c i k m cs (.Call func (e :: rest) [] pos) Q := by
  intro hF R s hs
  refine Call_ (noE (hf hF R s hs) ?_) (hc _)
  rintro v s1 ⟨cs1, h1, q1, rfl⟩
  rw [nv_type q1]
  have hh := h hF R s1 pos h1
  rw [he] at hh ⊢
  refine PySem.callWith_type (by show (false || (backTo pos (starEach rest i.env)).any (·.1)) = false; rw [hp]; rfl) (Calls.evalArgs_plain (noE hh ?_))
  rintro vs s2 ⟨cs2, h2, q2⟩
  refine noE (q2 hF.2.2 _ s2 vs rfl (h2.perm mid)) ?_
  rintro v s3 ⟨cs3, h3, q3⟩
  exact ⟨cs3, h3.perm dim, q3⟩

/-- how a method's form of a call opens -/
def MCall (o : Expr) (name : Str) (args : List Expr) (apos pos : Pos) : Prop :=
  ∀ env, ∃ pl, eval (.Call (.Attribute o name apos) args [] pos) env = (do
      let ov ← eval o env
      standAt apos.atName
      let (f, first) ← holding [ov] (getMethod ov name pl)
      callWith pos f first (backTo pos (starEach args env)) (backToKw pos (keywordEach [] env)))
/-- the callee of a method call, and its arguments -/
theorem EV_meth {o e : Expr} {rest : List Expr} {name : Str} {apos pos : Pos} {Q : Value → List Chunk → Prop}
    (h : EV c i k m cs o (fun ov cs1 => GetM c i.A k cs1 ov name (fun f first cs2 => ((∃ b, f = .builtin b) ∨ (∃ a, f = .ref a ∧ keepIn c.K f = true)) ∧
      EVs c i k m cs2 (e :: rest) (fun vs cs3 => CallV c i.A k cs3 f (first ++ vs) Q))))
    (hc : MCall o name (e :: rest) apos pos := by intro _; exact ⟨_, rfl⟩)
    (he : ∀ env, starEach (e :: rest) env = (false, eval e env) :: starEach rest env := by intro _; rfl)
    (hp : ∀ pos env, (backTo pos (starEach rest env)).any (·.1) = false := by intro _ _; rfl) : EV c i k m cs (.Call (.Attribute o name apos) (e :: rest) [] pos) Q := by
  intro hF R s hs
  obtain ⟨pl, hc⟩ := hc i.env
  refine methodCall_KW (pl := pl) (noE (h hF R s hs) ?_) hc
  rintro ov s1 ⟨cs1, h1, q1⟩
  refine noE (q1 hF.2.2 _ s1 ov pl rfl (h1.perm mid)) ?_
  rintro ⟨f, first⟩ s2 ⟨cs2, h2, hf, q2⟩
  dsimp only at hf q2 ⊢
  have h2 := h2.perm dim
  have hh := q2 hF R s2 pos h2
  have tail : ∀ vs s', (∃ cs', St c ((i.L, .ns m) :: (cs' ++ R)) s' ∧ CallV c i.A k cs' f (first.map nv ++ vs.map nv) Q) →
      wpAny (model c.prog c.w) i.A (call f (first ++ vs)) (fun v s' => ∃ cs', St c ((i.L, .ns m) :: (cs' ++ R)) s' ∧ Q (nv v) cs') NoE s' := by
    rintro vs s3 ⟨cs3, h3, q3⟩
    refine noE (q3 hF.2.2 _ s3 (first ++ vs) (by rw [List.map_append]) (h3.perm mid)) ?_
    rintro v s4 ⟨cs4, h4, q4⟩
    exact ⟨cs4, h4.perm dim, q4⟩
  rcases hf with ⟨b, rfl⟩ | ⟨a, rfl, hk⟩
  · rw [he] at hh ⊢
    refine Calls.callWith_builtin (by show (false || (backTo pos (starEach rest i.env)).any (·.1)) = false; rw [hp]; rfl) (Calls.evalArgs_plain (noE hh ?_))
    exact tail
  · refine callWith_K h2.inK hk (noE hh ?_) (he _) (hp _ _)
    intro vs s3 h3
    obtain ⟨cs3, h3', q3⟩ := h3
    exact ⟨h3'.inK, tail vs s3 ⟨cs3, h3', q3⟩⟩
theorem EV_meth0 {o : Expr} {name : Str} {apos pos : Pos} {Q : Value → List Chunk → Prop}
    (h : EV c i k m cs o (fun ov cs1 => GetM c i.A k cs1 ov name (fun f first cs2 => ((∃ b, f = .builtin b) ∨ (∃ a, f = .ref a ∧ keepIn c.K f = true)) ∧ CallV c i.A k cs2 f first Q)))
    (hc : MCall o name [] apos pos := by intro _; exact ⟨_, rfl⟩) : EV c i k m cs (.Call (.Attribute o name apos) [] [] pos) Q := by
  intro hF R s hs
  obtain ⟨pl, hc⟩ := hc i.env
  refine methodCall_KW (pl := pl) (noE (h hF R s hs) ?_) hc
  rintro ov s1 ⟨cs1, h1, q1⟩
  refine noE (q1 hF.2.2 _ s1 ov pl rfl (h1.perm mid)) ?_
  rintro ⟨f, first⟩ s2 ⟨cs2, h2, hf, q2⟩
  dsimp only at hf q2 ⊢
  have tail : wpAny (model c.prog c.w) i.A (call f (first ++ [])) (fun v s' => ∃ cs', St c ((i.L, .ns m) :: (cs' ++ R)) s' ∧ Q (nv v) cs') NoE s2 := by
    refine noE (q2 hF.2.2 _ s2 (first ++ []) (by simp) h2) ?_
    rintro v s4 ⟨cs4, h4, q4⟩
    exact ⟨cs4, h4.perm dim, q4⟩
  rcases hf with ⟨b, rfl⟩ | ⟨a, rfl, hk⟩
  · exact Calls.callWith_builtin rfl (evalArgs_nil3 tail)
  · exact callWith_K0 (h2.perm dim).inK hk tail
end

section
variable {α β : Type} {c : Cx} {A : Around} {k : Nat} {cs : List Chunk}
theorem CallV.mono {f : Value} {args : List Value} {Q Q' : Value → List Chunk → Prop} (h : CallV c A k cs f args Q) (q : ∀ v cs', Q v cs' → Q' v cs') : CallV c A k cs f args Q' :=
  fun hA R s a ha hs => noE (h hA R s a ha hs) fun _ _ ⟨cs', a, b⟩ => ⟨cs', a, q _ _ b⟩
theorem Op1.mono {t : Value → Sem α} {a : Value} {n : α → β} {Q Q' : β → List Chunk → Prop} (h : Op1 c A k cs t a n Q) (q : ∀ v cs', Q v cs' → Q' v cs') : Op1 c A k cs t a n Q' :=
  fun hA R s a ha hs => noE (h hA R s a ha hs) fun _ _ ⟨cs', a, b⟩ => ⟨cs', a, q _ _ b⟩
theorem Op2.mono {t : Value → Value → Sem α} {a b : Value} {n : α → β} {Q Q' : β → List Chunk → Prop} (h : Op2 c A k cs t a b n Q) (q : ∀ v cs', Q v cs' → Q' v cs') : Op2 c A k cs t a b n Q' :=
  fun hA R s a b ha hb hs => noE (h hA R s a b ha hb hs) fun _ _ ⟨cs', a, b⟩ => ⟨cs', a, q _ _ b⟩
theorem Op1.is {t : Value → Sem α} {a : Value} {n : α → β} {r : β} {Q : β → List Chunk → Prop} (h : Op1 c A k cs t a n (Is cs r)) (q : Q r cs) : Op1 c A k cs t a n Q :=
  h.mono fun _ _ ⟨x, y⟩ => by subst x y; exact q
theorem Op2.is {t : Value → Value → Sem α} {a b : Value} {n : α → β} {r : β} {Q : β → List Chunk → Prop} (h : Op2 c A k cs t a b n (Is cs r)) (q : Q r cs) : Op2 c A k cs t a b n Q :=
  h.mono fun _ _ ⟨x, y⟩ => by subst x y; exact q
theorem CallV.is {f : Value} {args : List Value} {r : Value} {Q : Value → List Chunk → Prop} (h : CallV c A k cs f args (Is cs r)) (q : Q r cs) : CallV c A k cs f args Q :=
  h.mono fun _ _ ⟨x, y⟩ => by subst x y; exact q
end

end Mine
end
section
open PySem PySem.W PySem.Calls PyProof.Rows
namespace Mine

section
variable {c : Cx} {i : Fi} {k : Nat} {m : Fields} {cs : List Chunk}

theorem scopeF (h : i.env.scope.kind = .function) : (i.env.scope.kind == .class || (i.env.scope.kind == .module && i.env.locals != i.env.globals)) = false := by
  show (i.env.scope.kind == .class || (i.env.scope.kind == .module && _)) = false
  rw [h]; rfl

/- ## statements in a row -/
theorem EXS_nil {Q : Flow → Fields → List Chunk → Prop} (h : Q .next m cs) : EXS c i k m cs [] Q :=
  fun _ _ _ hs => wpAny_execs_nil ⟨m, cs, .refl m, hs, h⟩
def Then (c : Cx) (i : Fi) (k : Nat) (rest : List Stmt) (Q : Flow → Fields → List Chunk → Prop) (f : Flow) (m : Fields) (cs : List Chunk) : Prop :=
  match f with
  | .next => EXS c i k m cs rest Q
  | f => Q f m cs
theorem EXS_cons {st : Stmt} {rest : List Stmt} {Q : Flow → Fields → List Chunk → Prop} (h : EX c i k m cs st (Then c i k rest Q)) : EXS c i k m cs (st :: rest) Q := by
  intro hF R s hs
  refine wpAny_execs_cons (noE (h hF R s hs) ?_)
  rintro f s1 ⟨m1, cs1, z, h1, q1⟩
  cases f with
  | next => exact noE (q1 (hF.keys z) R s1 h1) fun f s2 ⟨m2, cs2, z2, h2, q2⟩ => ⟨m2, cs2, z.trans z2, h2, q2⟩
  | brk => exact ⟨m1, cs1, z, h1, q1⟩
  | cont => exact ⟨m1, cs1, z, h1, q1⟩
  | ret v => exact ⟨m1, cs1, z, h1, q1⟩

/- ## targets -/
theorem AS_name {x : Str} {pos : Pos} {v : Value} {m' : Fields} {Q : Fields → List Chunk → Prop} (U : Upd m x (some v) m') (h : Q m' cs) : AS c i k m cs (.Name x pos) v Q := by
  intro hF R s v' hv hs
  subst hv
  obtain ⟨m₀, F, hn, hm⟩ := frame hs
  have hx : i.env.kindOf x = some .local := by
    obtain ⟨pre, u, post, rfl, rfl⟩ := U
    exact hF.2.1 (x, u) (by simp)
  refine wpAny_assign_Name (wpAny_storeName_local hx (by rw [hF.1.2.1]; exact F.ns) (fun h' N sb => ?_) (scopeF hF.1.1))
  rw [hF.1.2.1] at N sb
  refine ⟨m', cs, U.keys, ?_, h⟩
  obtain ⟨o, ho, hi⟩ := ns_upd hn hm N U
  exact hs.to (Nat.succ_pos _) (hs.own.upd Upd.head (fun b y hb e => (sb.2 b hb).trans e) ho hi)
theorem AS_attr {o : Expr} {attr : Str} {pos : Pos} {v : Value} {Q : Fields → List Chunk → Prop}
    (h : EV c i k m cs o (fun ov cs1 => Op2 c i.A k cs1 (fun a b => setAttr a attr b) ov v (fun _ => ()) (fun _ cs2 => Q m cs2))) : AS c i k m cs (.Attribute o attr pos) v Q := by
  intro hF R s v' hv hs
  show wpAny _ _ (holding [v'] (eval o i.env) >>= fun ov => standAt pos.atName >>= fun _ => holding [v', ov] (setAttr ov attr v') >>= fun _ => release [v', ov] []) _ _ _
  refine wpAny_bind (wpAny_holding (noE (h hF R s hs) ?_))
  rintro ov s1 ⟨cs1, h1, q1⟩
  refine wpAny_bind (wpAny_standAt (wpAny_bind (wpAny_holding (noE (q1 hF.2.2 _ s1 ov v' rfl hv (h1.perm mid)) ?_))))
  rintro _ s2 ⟨cs2, h2, q2⟩
  intro Γ p hΓ
  rw [Sem.wp_release]
  exact ⟨m, cs2, .refl m, h2.perm dim, q2⟩
/-- several targets, one after the other -/
def ASs (c : Cx) (i : Fi) (k : Nat) (m : Fields) (cs : List Chunk) (ts : List Expr) (vs : List Value) (Q : Fields → List Chunk → Prop) : Prop :=
  FOk i k m → ∀ R s vs', vs'.map nv = vs → St c ((i.L, .ns m) :: (cs ++ R)) s →
    wpAny (model c.prog c.w) i.A (assignInOrder ((assignEach ts i.env).map (·.2)) vs') (fun _ s' => ∃ m' cs', SameKeys m m' ∧ St c ((i.L, .ns m') :: (cs' ++ R)) s' ∧ Q m' cs') NoE s
theorem ASs_nil {Q : Fields → List Chunk → Prop} (h : Q m cs) : ASs c i k m cs [] [] Q := by
  intro hF R s vs' hv hs
  have : vs' = [] := by simpa using hv
  subst this
  exact wpAny_pure ⟨m, cs, .refl m, hs, h⟩
theorem ASs_cons {t : Expr} {ts : List Expr} {v : Value} {vs : List Value} {Q : Fields → List Chunk → Prop} (h : AS c i k m cs t v (fun m1 cs1 => ASs c i k m1 cs1 ts vs Q))
    (he : ∀ env, assignEach (t :: ts) env = (false, assign t env) :: assignEach ts env := by intro _; rfl) : ASs c i k m cs (t :: ts) (v :: vs) Q := by
  intro hF R s vs' hv hs
  cases vs' with
  | nil => simp at hv
  | cons v' r =>
    simp only [List.map_cons, List.cons.injEq] at hv
    rw [he]
    refine assignInOrder_cons (noE (h hF R s v' hv.1 hs) ?_)
    rintro _ s1 ⟨m1, cs1, z, h1, q1⟩
    exact noE (q1 (hF.keys z) R s1 r hv.2 h1) fun _ s2 ⟨m2, cs2, z2, h2, q2⟩ => ⟨m2, cs2, z.trans z2, h2, q2⟩
theorem AS_tuple {ts : List Expr} {u : Nat} {pos : Pos} {t : Addr} {vs : List Value} {Q : Fields → List Chunk → Prop} (ht : (t, .tup vs) ∈ cs) (h : ASs c i k m cs ts vs Q)
    (hl : ∀ env, (assignEach ts env).length = vs.length := by intro _; rfl) (hf : ∀ env, (assignEach ts env).findIdx? (·.1) = none := by intro _; rfl) : AS c i k m cs (.Tuple ts u pos) (.ref t) Q := by
  intro hF R s v' hv hs
  rw [nv_ref hv]
  obtain ⟨o, ho, its, n, rfl, hi⟩ := hs.at (List.mem_cons_of_mem _ (List.mem_append_left R ht))
  refine wpAny_assign_Tuple hF.2.2.1 ⟨_, ho, rfl, n, rfl⟩ (by rw [hl, ← hi]; simp) (hf _) fun h' hk => ?_
  exact h hF R _ its.toList hi (hs.ext hs.pos fun b y e => hk b y (Nat.ne_of_lt (Heap.lt_size e)) e)

/- ## statements -/
theorem EX_assign {t value : Expr} {pos : Pos} {Q : Flow → Fields → List Chunk → Prop} (h : EV c i k m cs value (fun v cs1 => AS c i k m cs1 t v (fun m' cs' => Q .next m' cs')))
    (hsw : ∀ env, swapsWithSole [t] value pos.line env = pure false := by intro _; rfl) (hst : ∀ env, swappedStores [t] value env = pure none := by intro _; rfl)
    (ha : ∀ env, (assignEach [t] env).map (·.2) = [assign t env] := by intro _; rfl) : EX c i k m cs (.Assign [t] value pos) Q := by
  intro hF R s hs
  refine wpAny_Assign_stores (noE (h hF R s hs) ?_) (hsw _) (hst _)
  rintro v s1 ⟨cs1, h1, q1⟩
  rw [ha]
  exact noE (q1 hF R s1 v rfl h1) fun _ s2 x => x
theorem EX_expr {e : Expr} {pos : Pos} {Q : Flow → Fields → List Chunk → Prop} (h : EV c i k m cs e (fun _ cs' => Q .next m cs')) (hsw : ∀ env, swapsWith e none pos.line env = pure false := by intro _; rfl) :
    EX c i k m cs (.Expr e pos) Q := by
  intro hF R s hs
  have hi : interactive i.env = false := by
    show (i.env.scope.kind == .module && _) = false
    rw [hF.1.1]; rfl
  refine wpAny_Expr_any (noE (h hF R s hs) ?_) hi (hsw _)
  rintro v s1 ⟨cs1, h1, q1⟩
  exact ⟨m, cs1, .refl m, h1, q1⟩
theorem EX_return {e : Expr} {pos : Pos} {Q : Flow → Fields → List Chunk → Prop} (h : EV c i k m cs e (fun v cs' => Q (.ret v) m cs')) : EX c i k m cs (.Return (some e) pos) Q := by
  intro hF R s hs
  refine wpAny_Return_some (noE (h hF R s hs) ?_)
  rintro v s1 ⟨cs1, h1, q1⟩
  exact ⟨m, cs1, .refl m, h1, q1⟩
theorem EX_break {pos : Pos} {Q : Flow → Fields → List Chunk → Prop} (h : Q .brk m cs) : EX c i k m cs (.Break pos) Q := fun _ _ _ hs => wpAny_Break ⟨m, cs, .refl m, hs, h⟩
theorem EX_if {test : Expr} {body orelse : List Stmt} {pos : Pos} {Q : Flow → Fields → List Chunk → Prop}
    (h : TV c i k m cs test (fun b cs1 => (b = true → EXS c i k m cs1 body Q) ∧ (b = false → EXS c i k m cs1 orelse Q))) : EX c i k m cs (.If test body orelse pos) Q := by
  intro hF R s hs
  refine wpAny_If (noE (h hF R s hs) ?_)
  rintro b s1 ⟨cs1, h1, q1⟩
  cases b with
  | true => exact q1.1 rfl hF R s1 h1
  | false => exact q1.2 rfl hF R s1 h1
theorem EX_assert {test : Expr} {pos : Pos} {msg : Option Expr} {Q : Flow → Fields → List Chunk → Prop} (h : TV c i k m cs test (fun b cs1 => b = true ∧ Q .next m cs1)) : EX c i k m cs (.Assert test msg pos) Q := by
  intro hF R s hs
  refine wpAny_Assert_holds (noE (h hF R s hs) ?_)
  rintro b s1 ⟨cs1, h1, q1, q2⟩
  exact ⟨q1, m, cs1, .refl m, h1, q2⟩
theorem EX_aug_name {x : Str} {px pos : Pos} {op : Operator} {value : Expr} {old : Value} {Q : Flow → Fields → List Chunk → Prop} (hx : (x, some old) ∈ m)
    (h : EV c i k m cs value (fun v cs1 => Op2 c i.A k cs1 (inplaceOp op) old v nv (fun r cs2 => ∃ m', Upd m x (some r) m' ∧ Q .next m' cs2))) : EX c i k m cs (.AugAssign (.Name x px) op value pos) Q := by
  intro hF R s hs
  obtain ⟨m₀, F, hn, hm⟩ := frame hs
  have e := hm _ hx
  cases q : m₀ x with
  | none => simp only [q] at e; cases e
  | some v' =>
    simp only [q, Option.map_some, Option.some.injEq] at e
    refine wpAny_AugAssign_Name (wpAny_loadName_local hF.1.1 (hF.2.1 _ hx) (by rw [hF.1.2.1]; exact F.ns) q (noE (h hF R s hs) ?_))
    rintro v s1 ⟨cs1, h1, q1⟩
    refine noE (q1 hF.2.2 _ s1 v' v e rfl (h1.perm mid)) ?_
    rintro r s2 ⟨cs2, h2, m', U, q2⟩
    have h2 := h2.perm dim
    obtain ⟨m₁, F1, hn1, hm1⟩ := frame h2
    refine wpAny_storeName_local (hF.2.1 _ hx) (by rw [hF.1.2.1]; exact F1.ns) (fun h' N sb => ?_) (scopeF hF.1.1)
    rw [hF.1.2.1] at N sb
    refine ⟨m', cs2, U.keys, ?_, q2⟩
    obtain ⟨o, ho, hi⟩ := ns_upd hn1 hm1 N U
    exact h2.to (Nat.succ_pos _) (h2.own.upd Upd.head (fun b y hb e => (sb.2 b hb).trans e) ho hi)
theorem EX_aug_attr {o value : Expr} {attr : Str} {tpos pos : Pos} {op : Operator} {Q : Flow → Fields → List Chunk → Prop}
    (h : EV c i k m cs o (fun ov cs1 => Op1 c i.A k cs1 (fun v => getAttr v attr true) ov nv (fun old cs2 => EV c i k m cs2 value (fun v cs3 => Op2 c i.A k cs3 (inplaceOp op) old v nv (fun r cs4 =>
      Op2 c i.A k cs4 (fun a b => setAttr a attr b) ov r (fun _ => ()) (fun _ cs5 => Q .next m cs5)))))) : EX c i k m cs (.AugAssign (.Attribute o attr tpos) op value pos) Q := by
  intro hF R s hs
  refine wpAny_AugAssign_AttributeAny (noE (h hF R s hs) ?_)
  rintro ov s1 ⟨cs1, h1, q1⟩
  refine noE (q1 hF.2.2 _ s1 ov rfl (h1.perm mid)) ?_
  rintro old s2 ⟨cs2, h2, q2⟩
  refine noE (q2 hF R s2 (h2.perm dim)) ?_
  rintro v s3 ⟨cs3, h3, q3⟩
  refine noE (q3 hF.2.2 _ s3 old v rfl rfl (h3.perm mid)) ?_
  rintro r s4 ⟨cs4, h4, q4⟩
  refine noE (q4 hF.2.2 _ s4 ov r rfl rfl h4) ?_
  rintro _ s5 ⟨cs5, h5, q5⟩
  exact ⟨m, cs5, .refl m, h5.perm dim, q5⟩
/- ## loops -/
def Turn (J : Fields → List Chunk → Prop) (Q : Flow → Fields → List Chunk → Prop) (f : Flow) (m : Fields) (cs : List Chunk) : Prop :=
  match f with
  | .next => J m cs
  | .cont => J m cs
  | .brk => Q .next m cs
  | .ret v => Q (.ret v) m cs
theorem EX_while {test : Expr} {body : List Stmt} {pos : Pos} {Q : Flow → Fields → List Chunk → Prop} (I : Nat → Fields → List Chunk → Prop) {n : Nat} (h0 : I n m cs)
    (turn : ∀ n m1 cs1, SameKeys m m1 → I n m1 cs1 → TV c i k m1 cs1 test (fun b cs2 => (b = true → EXS c i k m1 cs2 body (Turn (fun m' cs' => ∃ j, j < n ∧ I j m' cs') Q)) ∧ (b = false → Q .next m1 cs2))) :
    EX c i k m cs (.While test body [] pos) Q := by
  intro hF R s hs
  refine wpAny_While (codeAny_whileLoop (fun n s' => ∃ m1 cs1, SameKeys m m1 ∧ St c ((i.L, .ns m1) :: (cs1 ++ R)) s' ∧ I n m1 cs1) ?_ n ⟨m, cs, .refl m, hs, h0⟩)
  rintro n s1 ⟨m1, cs1, z, h1, hI⟩
  refine noE' (turn n m1 cs1 z hI (hF.keys z) R s1 h1) ?_
  rintro b s2 ⟨cs2, h2, q2⟩
  cases b with
  | true =>
    refine noE' (q2.1 rfl (hF.keys z) R s2 h2) ?_
    rintro f s3 ⟨m3, cs3, z3, h3, q3⟩
    cases f with
    | next => obtain ⟨j, hj, q⟩ := q3; exact ⟨j, hj, m3, cs3, z.trans z3, h3, q⟩
    | cont => obtain ⟨j, hj, q⟩ := q3; exact ⟨j, hj, m3, cs3, z.trans z3, h3, q⟩
    | brk => exact ⟨m3, cs3, z.trans z3, h3, q3⟩
    | ret v => exact ⟨m3, cs3, z.trans z3, h3, q3⟩
  | false => exact wpAny_execs_nil ⟨m1, cs2, z, h2, q2.2 rfl⟩

def FORL (c : Cx) (i : Fi) (k : Nat) (m : Fields) (cs : List Chunk) (t : Expr) (it : Value) (body : List Stmt) (Q : Flow → Fields → List Chunk → Prop) : Prop :=
  FOk i k m → ∀ R s it', nv it' = it → St c ((i.L, .ns m) :: (cs ++ R)) s →
    codeAny (model c.prog c.w) i.A (.forLoop t it' body [] i.env) (fun r s' => match r with
      | .ok f => ∃ m' cs', SameKeys m m' ∧ St c ((i.L, .ns m') :: (cs' ++ R)) s' ∧ Q (nf f) m' cs'
      | .error _ => False) s
theorem EX_for {t iter : Expr} {body : List Stmt} {pos : Pos} {Q : Flow → Fields → List Chunk → Prop}
    (h : EV c i k m cs iter (fun v cs1 => Op1 c i.A k cs1 pyIter v nv (fun it cs2 => FORL c i k m cs2 t it body Q)))
    (hf : ∀ env x, foldedSetIterable iter env x = pure x := by intro _ _; rfl) : EX c i k m cs (.For t iter body [] pos) Q := by
  intro hF R s hs
  refine wpAny_For (noE (h hF R s hs) ?_) (hf _)
  rintro v s1 ⟨cs1, h1, q1⟩
  refine noE (q1 hF.2.2 _ s1 v rfl (h1.perm mid)) ?_
  rintro it s2 ⟨cs2, h2, q2⟩
  refine codeAny_mono (q2 hF R s2 it rfl (h2.perm dim)) ?_
  intro r s3 h3
  cases r with
  | ok f => exact h3
  | error e => exact h3.elim

def NextV (c : Cx) (A : Around) (k : Nat) (cs : List Chunk) (it : Value) (Q : Option Value → List Chunk → Prop) : Prop :=
  AOk A k → ∀ R s it', nv it' = it → St c (cs ++ R) s → wpAny (model c.prog c.w) A (pyNext it') (fun r s' => ∃ cs', St c (cs' ++ R) s' ∧ Q (r.map nv) cs') NoE s

def tupIters : List String := ["enumerate", "zip", "dict_itemiterator", "dict_reverseitemiterator", "odict_iterator", "itertools.zip_longest", "itertools.pairwise"]
theorem letOwned_plain {M : Model} {A : Around} {t : Expr} {it : Addr} {v : Value} {o : Obj} {ty : String} {Q : Unit → Shared → Prop} {s : Shared} (ho : s.heap.get? it = some o) (hc : o.cls = .type ty) (ht : tupIters.contains ty = false) (q : Q () s) :
    wpAny M A (letOwnedTupleGo t (.ref it) v) Q NoE s := by
  have body : wpAny M A (do
      let (.ref r, .ref a) := (Value.ref it, v) | return
      let o ← load r
      match o.cls, o.data with
      | .type n, .fields vs =>
        if ["enumerate", "zip", "dict_itemiterator", "dict_reverseitemiterator", "odict_iterator", "itertools.zip_longest", "itertools.pairwise"].contains n && vs[0]? == some (rawInt a) then
          rule "for.unpacks-the-owned-tuple"
          updateField r 0 .none
      | _, _ => pure ()) Q NoE s := by
    cases v with
    | ref a =>
      refine wpAny_bind (wpAny_load ho ?_)
      rw [hc]
      cases o.data with
      | fields vs =>
        dsimp only
        rw [show (["enumerate", "zip", "dict_itemiterator", "dict_reverseitemiterator", "odict_iterator", "itertools.zip_longest", "itertools.pairwise"].contains ty) = false from ht]
        exact wpAny_pure q
      | _ => exact wpAny_pure q
    | _ => exact wpAny_pure q
  unfold letOwnedTupleGo
  split
  · exact body
  · exact body
  · exact wpAny_pure q

theorem FOR_any {t : Expr} {it : Addr} {body : List Stmt} {Q : Flow → Fields → List Chunk → Prop} (P : Nat → AO) (n : Nat) (X : Nat → Value) (I : Nat → Fields → List Chunk → Prop)
    (plain : ∀ j o, OIs o (P j) → ∃ ty, o.cls = .type ty ∧ tupIters.contains ty = false)
    (next : ∀ j m1 cs1, j ≤ n → I j m1 cs1 → NextV c i.A k ((it, P j) :: cs1) (.ref it) (fun r cs2 => match r with | none => j = n ∧ cs2 = cs1 | some v => j < n ∧ v = X j ∧ cs2 = (it, P (j + 1)) :: cs1))
    (turn : ∀ j m1 cs1, j < n → SameKeys m m1 → I j m1 cs1 → AS c i k m1 cs1 t (X j) (fun m2 cs2 => EXS c i k m2 cs2 body (Turn (I (j + 1)) Q)))
    (fin : ∀ m1 cs1, SameKeys m m1 → I n m1 cs1 → Q .next m1 cs1) (h0 : I 0 m cs) : FORL c i k m ((it, P 0) :: cs) t (.ref it) body Q := by
  intro hF R s it' hit hs
  rw [nv_ref hit]
  refine codeAny_forLoop_any (fun u s' => ∃ j m1 cs1, u = n - j ∧ j ≤ n ∧ SameKeys m m1 ∧ St c ((i.L, .ns m1) :: (((it, P j) :: cs1) ++ R)) s' ∧ I j m1 cs1) ?_ n ⟨0, m, cs, by omega, by omega, .refl m, hs, h0⟩
  rintro u s1 ⟨j, m1, cs1, rfl, hj, z, h1, hI⟩
  have hF1 := hF.keys z
  refine noE' (next j m1 cs1 hj hI hF.2.2 _ s1 (.ref it) rfl (h1.perm mid)) ?_
  rintro r s2 ⟨cs2, h2, q2⟩
  cases r with
  | none =>
    obtain ⟨rfl, rfl⟩ := q2
    exact wpAny_execs_nil ⟨m1, cs2, z, h2.perm dim, fin m1 cs2 z hI⟩
  | some v =>
    obtain ⟨hlt, hv, rfl⟩ := q2
    dsimp only at hv ⊢
    have h2 := h2.perm dim
    obtain ⟨o, ho, hoi⟩ := h2.at (a := it) (ao := P (j + 1)) (by simp)
    obtain ⟨ty, hty, hb⟩ := plain _ _ hoi
    refine noE' (letOwned_plain (Q := fun _ s' => s' = s2) ho hty hb rfl) ?_
    rintro _ s2' e2
    rw [e2]
    have pm : ((i.L, AO.ns m1) :: (((it, P (j + 1)) :: cs1) ++ R)).Perm ((i.L, AO.ns m1) :: (cs1 ++ ((it, P (j + 1)) :: R))) := List.Perm.cons _ mid
    refine noE' (turn j m1 cs1 hlt z hI hF1 ((it, P (j + 1)) :: R) s2 v hv (h2.perm pm)) ?_
    rintro _ s3 ⟨m3, cs3, z3, h3, q3⟩
    refine noE' (q3 (hF1.keys z3) _ s3 h3) ?_
    rintro f s4 ⟨m4, cs4, z4, h4, q4⟩
    have z' := z.trans (z3.trans z4)
    have h4' : St c ((i.L, .ns m4) :: (((it, P (j + 1)) :: cs4) ++ R)) s4 := h4.perm (List.Perm.cons _ dim)
    have h4'' : St c ((i.L, .ns m4) :: (cs4 ++ R)) s4 := h4'.sub (.cons_cons _ (.cons _ (List.Sublist.refl _)))
    cases f with
    | next => exact ⟨n - (j + 1), by omega, j + 1, m4, cs4, rfl, hlt, z', h4', q4⟩
    | cont => exact ⟨n - (j + 1), by omega, j + 1, m4, cs4, rfl, hlt, z', h4', q4⟩
    | brk => exact ⟨m4, cs4, z', h4'', q4⟩
    | ret v => exact ⟨m4, cs4, z', h4'', q4⟩

end
end Mine
end
section
open PySem PySem.W PySem.Calls PyProof.Rows
namespace Mine

theorem toks_fin {c : Cx} {A : Around} {cs R : List Chunk} {s : Shared} {t : Sem Value} {v : Value} (hs : St c (cs ++ R) s)
    (h : wpAny (model c.prog c.w) A t (fun v' s' => nv v' = v ∧ ∃ tk, s' = { s with toks := tk }) NoE s) :
    wpAny (model c.prog c.w) A t (fun v' s' => ∃ cs', St c (cs' ++ R) s' ∧ Is cs v (nv v') cs') NoE s :=
  noE (wpAny_toks h) fun v' s' ⟨⟨e, tk, e2⟩, le⟩ => by
    subst e2
    exact ⟨cs, hs.toks (Nat.lt_of_lt_of_le hs.pos le), e, rfl⟩

section
variable {c : Cx} {A : Around} {k : Nat} {cs : List Chunk}

/- ## ints -/
theorem B_add {a b : Int} : Op2 c A k cs (binaryOp .Add) (.int a 0) (.int b 0) nv (Is cs (.int (a + b) 0)) := by
  intro _ R s a' b' ha hb hs
  obtain ⟨-, t, rfl⟩ := nv_int ha; obtain ⟨-, u, rfl⟩ := nv_int hb
  exact PyProof.Rows.add_int ⟨cs, hs.toks (Nat.succ_pos _), rfl, rfl⟩
theorem B_sub {a b : Int} : Op2 c A k cs (binaryOp .Sub) (.int a 0) (.int b 0) nv (Is cs (.int (a - b) 0)) := by
  intro _ R s a' b' ha hb hs
  obtain ⟨-, t, rfl⟩ := nv_int ha; obtain ⟨-, u, rfl⟩ := nv_int hb
  exact PyProof.Rows.sub_int ⟨cs, hs.toks (Nat.succ_pos _), rfl, rfl⟩
theorem B_mod {a b : Int} (h : b ≠ 0) : Op2 c A k cs (binaryOp .Mod) (.int a 0) (.int b 0) nv (Is cs (.int (a.fmod b) 0)) := by
  intro _ R s a' b' ha hb hs
  obtain ⟨-, t, rfl⟩ := nv_int ha; obtain ⟨-, u, rfl⟩ := nv_int hb
  exact PyProof.Rows.mod_int' h ⟨cs, hs.toks (Nat.succ_pos _), rfl, rfl⟩
theorem B_mul {a b : Int} (h : IntMulOk a b) : Op2 c A k cs (binaryOp .Mult) (.int a 0) (.int b 0) nv (Is cs (.int (a * b) 0)) := by
  intro _ R s a' b' ha hb hs
  obtain ⟨-, t, rfl⟩ := nv_int ha; obtain ⟨-, u, rfl⟩ := nv_int hb
  exact PyProof.Rows.mul_int ⟨cs, hs.toks (Nat.succ_pos _), rfl, rfl⟩ h
theorem I_add {a b : Int} : Op2 c A k cs (inplaceOp .Add) (.int a 0) (.int b 0) nv (Is cs (.int (a + b) 0)) := by
  intro _ R s a' b' ha hb hs
  obtain ⟨-, t, rfl⟩ := nv_int ha; obtain ⟨-, u, rfl⟩ := nv_int hb
  exact PyProof.Rows.iadd_int ⟨cs, hs.toks (Nat.succ_pos _), rfl, rfl⟩
theorem I_sub {a b : Int} : Op2 c A k cs (inplaceOp .Sub) (.int a 0) (.int b 0) nv (Is cs (.int (a - b) 0)) := by
  intro _ R s a' b' ha hb hs
  obtain ⟨-, t, rfl⟩ := nv_int ha; obtain ⟨-, u, rfl⟩ := nv_int hb
  exact PyProof.Rows.isub_int ⟨cs, hs.toks (Nat.succ_pos _), rfl, rfl⟩
theorem C_eq {a b : Int} : Op2 c A k cs (compareOp .Eq) (.int a 0) (.int b 0) nv (Is cs (.bool (a == b))) := by
  intro _ R s a' b' ha hb hs
  obtain ⟨-, t, rfl⟩ := nv_int ha; obtain ⟨-, u, rfl⟩ := nv_int hb
  exact PyProof.Rows.eq_int ⟨cs, hs, rfl, rfl⟩
theorem C_ne {a b : Int} : Op2 c A k cs (compareOp .NotEq) (.int a 0) (.int b 0) nv (Is cs (.bool (a != b))) := by
  intro _ R s a' b' ha hb hs
  obtain ⟨-, t, rfl⟩ := nv_int ha; obtain ⟨-, u, rfl⟩ := nv_int hb
  exact PyProof.Rows.ne_int ⟨cs, hs, rfl, rfl⟩
theorem C_lt {a b : Int} : Op2 c A k cs (compareOp .Lt) (.int a 0) (.int b 0) nv (Is cs (.bool (decide (a < b)))) := by
  intro _ R s a' b' ha hb hs
  obtain ⟨-, t, rfl⟩ := nv_int ha; obtain ⟨-, u, rfl⟩ := nv_int hb
  exact PyProof.Rows.lt_int ⟨cs, hs, rfl, rfl⟩
theorem C_le {a b : Int} : Op2 c A k cs (compareOp .LtE) (.int a 0) (.int b 0) nv (Is cs (.bool (decide (a ≤ b)))) := by
  intro _ R s a' b' ha hb hs
  obtain ⟨-, t, rfl⟩ := nv_int ha; obtain ⟨-, u, rfl⟩ := nv_int hb
  exact PyProof.Rows.le_int ⟨cs, hs, rfl, rfl⟩
theorem C_gt {a b : Int} : Op2 c A k cs (compareOp .Gt) (.int a 0) (.int b 0) nv (Is cs (.bool (decide (b < a)))) := by
  intro _ R s a' b' ha hb hs
  obtain ⟨-, t, rfl⟩ := nv_int ha; obtain ⟨-, u, rfl⟩ := nv_int hb
  exact PyProof.Rows.gt_int ⟨cs, hs, rfl, rfl⟩
theorem C_ge {a b : Int} : Op2 c A k cs (compareOp .GtE) (.int a 0) (.int b 0) nv (Is cs (.bool (decide (b ≤ a)))) := by
  intro _ R s a' b' ha hb hs
  obtain ⟨-, t, rfl⟩ := nv_int ha; obtain ⟨-, u, rfl⟩ := nv_int hb
  exact PyProof.Rows.ge_int ⟨cs, hs, rfl, rfl⟩
theorem C_eqb {a b : Bool} : Op2 c A k cs (compareOp .Eq) (.bool a) (.bool b) nv (Is cs (.bool (a == b))) := by
  intro _ R s a' b' ha hb hs
  rw [nv_bool ha, nv_bool hb]
  exact PyProof.Rows.eq_bool ⟨cs, hs, rfl, rfl⟩
theorem C_is {a : Value} : Op2 c A k cs (compareOp .Is) a .none nv (Is cs (.bool (a == .none))) := by
  intro _ R s a' b' ha hb hs
  rw [nv_none hb]
  refine is_none ⟨cs, hs, ?_, rfl⟩
  subst ha
  cases a' <;> rfl
theorem C_isnot {a : Value} : Op2 c A k cs (compareOp .IsNot) a .none nv (Is cs (.bool (!(a == .none)))) := by
  intro _ R s a' b' ha hb hs
  rw [nv_none hb]
  refine isNot_none ⟨cs, hs, ?_, rfl⟩
  subst ha
  cases a' <;> rfl

/- ## truth -/
theorem T_bool {b : Bool} : Op1 c A k cs truthy (.bool b) id (Is cs b) := by
  intro _ R s a' ha hs
  rw [nv_bool ha]
  exact wpAny_truthy_bool ⟨cs, hs, rfl, rfl⟩
theorem T_none : Op1 c A k cs truthy .none id (Is cs false) := by
  intro _ R s a' ha hs
  rw [nv_none ha]
  exact wpAny_pure ⟨cs, hs, rfl, rfl⟩
theorem T_str {l : List Nat} (hl : l.length ≤ 1000000) : Op1 c A k cs truthy (.str ⟨l.toArray⟩ 0) id (Is cs (!l.isEmpty)) := by
  intro _ R s a' ha hs
  obtain ⟨-, t, rfl⟩ := nv_str ha
  refine PySem.P.truthy_str ?_ ⟨cs, hs.toks (Nat.succ_pos _), ?_, rfl⟩
  · show ¬ ((l.toArray.size : Int) ≥ 2 ^ 63)
    rw [List.size_toArray]; omega
  · show ((l.toArray.size : Int) != 0) = _
    cases l with
    | nil => rfl
    | cons a r => simp; omega

/- ## strs -/
theorem str_app (a b : List Nat) : (⟨a.toArray⟩ : Str) ++ (⟨b.toArray⟩ : Str) = ⟨(a ++ b).toArray⟩ := by
  show (⟨a.toArray ++ b.toArray⟩ : Str) = _
  simp
theorem str_len (a : List Nat) : (⟨a.toArray⟩ : Str).length = a.length := by show a.toArray.size = _; simp
theorem B_adds {a b : List Nat} (h : a.length + b.length ≤ 1000000) : Op2 c A k cs (binaryOp .Add) (.str ⟨a.toArray⟩ 0) (.str ⟨b.toArray⟩ 0) nv (Is cs (.str ⟨(a ++ b).toArray⟩ 0)) := by
  intro _ R s a' b' ha hb hs
  obtain ⟨-, t, rfl⟩ := nv_str ha; obtain ⟨-, u, rfl⟩ := nv_str hb
  exact toks_fin hs (PyProof.Rows.SBL.add (fun t' n _ => ⟨by rw [str_app]; rfl, n, rfl⟩) (by rw [str_len, str_len, sizeLine_eq]; omega))
theorem I_adds {a b : List Nat} (h : a.length + b.length ≤ 1000000) : Op2 c A k cs (inplaceOp .Add) (.str ⟨a.toArray⟩ 0) (.str ⟨b.toArray⟩ 0) nv (Is cs (.str ⟨(a ++ b).toArray⟩ 0)) := by
  intro _ R s a' b' ha hb hs
  obtain ⟨-, t, rfl⟩ := nv_str ha; obtain ⟨-, u, rfl⟩ := nv_str hb
  exact toks_fin hs (PyProof.Rows.iadd_str (fun t' n => ⟨by rw [str_app]; rfl, n, rfl⟩) (by rw [str_len, str_len, sizeLine_eq]; omega))
theorem C_eqs {a b : List Nat} : Op2 c A k cs (compareOp .Eq) (.str ⟨a.toArray⟩ 0) (.str ⟨b.toArray⟩ 0) nv (Is cs (.bool (a == b))) := by
  intro _ R s a' b' ha hb hs
  obtain ⟨-, t, rfl⟩ := nv_str ha; obtain ⟨-, u, rfl⟩ := nv_str hb
  exact PySem.P.eq_str ⟨cs, hs, rfl, rfl⟩
theorem C_nes {a b : List Nat} : Op2 c A k cs (compareOp .NotEq) (.str ⟨a.toArray⟩ 0) (.str ⟨b.toArray⟩ 0) nv (Is cs (.bool (a != b))) := by
  intro _ R s a' b' ha hb hs
  obtain ⟨-, t, rfl⟩ := nv_str ha; obtain ⟨-, u, rfl⟩ := nv_str hb
  exact PySem.P.ne_str ⟨cs, hs, rfl, rfl⟩
theorem C_ne_ns {a : List Nat} : Op2 c A k cs (compareOp .NotEq) .none (.str ⟨a.toArray⟩ 0) nv (Is cs (.bool true)) := by
  intro _ R s a' b' ha hb hs
  obtain ⟨-, t, rfl⟩ := nv_str hb
  rw [nv_none ha]
  exact PySem.EqNone.ne_none_str ⟨cs, hs, rfl, rfl⟩
theorem C_ne_nn : Op2 c A k cs (compareOp .NotEq) .none .none nv (Is cs (.bool false)) := by
  intro _ R s a' b' ha hb hs
  rw [nv_none ha, nv_none hb]
  exact PySem.EqNone.ne_none_none ⟨cs, hs, rfl, rfl⟩
theorem K_len_str {l : List Nat} (hl : l.length ≤ 1000000) : CallV c A k cs (.builtin "len") [.str ⟨l.toArray⟩ 0] (Is cs (.int l.length 0)) := by
  intro _ R s as ha hs
  obtain ⟨a', rfl, hv⟩ := map_one ha
  obtain ⟨-, t, rfl⟩ := nv_str hv
  refine PyProof.Rows.SBL.len (by rw [str_len]; omega) ⟨cs, hs.toks (Nat.succ_pos _), ?_, rfl⟩
  rw [str_len]; rfl
theorem K_ord {n : Nat} : CallV c A k cs (.builtin "ord") [.str ⟨[n].toArray⟩ 0] (Is cs (.int n 0)) := by
  intro _ R s as ha hs
  obtain ⟨a', rfl, hv⟩ := map_one ha
  obtain ⟨-, t, rfl⟩ := nv_str hv
  exact PySem.P.ord_of_char ⟨cs, hs.toks (Nat.succ_pos _), rfl, rfl⟩
theorem K_chr {n : Int} (h0 : 0 ≤ n) (h1 : n ≤ 0x10FFFF) : CallV c A k cs (.builtin "chr") [.int n 0] (Is cs (.str ⟨[n.toNat].toArray⟩ 0)) := by
  intro _ R s as ha hs
  obtain ⟨a', rfl, hv⟩ := map_one ha
  obtain ⟨-, t, rfl⟩ := nv_int hv
  exact PySem.P.chr_of_int (by simp; omega) ⟨cs, hs.toks (Nat.succ_pos _), rfl, rfl⟩

end
end Mine
end
section
open PySem PySem.W PySem.Calls PyProof.Rows
namespace Mine

/- ## slices, as take and drop -/
def cl (n : Nat) (i : Int) : Nat := if i < 0 then (i + n).toNat else min i.toNat n
def lo0 (n : Nat) : Option Int → Nat
  | none => 0
  | some i => cl n i
def hi0 (n : Nat) : Option Int → Nat
  | none => n
  | some i => cl n i
def sl {α : Type} (l : List α) (lo hi : Option Int) : List α := (l.drop (lo0 l.length lo)).take (hi0 l.length hi - lo0 l.length lo)

theorem clip_eq (n : Nat) (i : Int) : max 0 (min (if i < 0 then i + (n : Int) else i) (n : Int)) = (cl n i : Int) := by
  unfold cl
  split <;> omega
theorem bounds_eq (lo hi : Option Int) (n : Nat) : sliceBounds lo hi none n = ((lo0 n lo : Int), (hi0 n hi : Int), 1) := by
  unfold sliceBounds
  simp only [Option.getD_none, show (1 : Int) > 0 from by decide, if_true]
  congr 1
  · cases lo with
    | none => rfl
    | some i => exact clip_eq n i
  · congr 1
    cases hi with
    | none => rfl
    | some i => exact clip_eq n i
theorem pick_eq (its : Array Value) (lo hi : Option Int) : slicePick its lo hi none = (sl its.toList lo hi).toArray := by
  unfold slicePick
  rw [bounds_eq]
  dsimp only
  rw [sliceRange_one, pick_run]
  unfold sl
  rw [Array.length_toList]
theorem sl_map {α β : Type} (f : α → β) (l : List α) (lo hi : Option Int) : (sl l lo hi).map f = sl (l.map f) lo hi := by
  unfold sl
  rw [List.map_take, List.map_drop, List.length_map]
theorem strIdx_eq (lo hi : Option Int) (n : Nat) : Builtin.Str.strSliceIndices lo hi 1 n = sliceRange (lo0 n lo) (hi0 n hi) 1 := by
  unfold Builtin.Str.strSliceIndices
  simp only [show (1 : Int) > 0 from by decide, if_true]
  congr 1
  · cases lo with
    | none => rfl
    | some i => exact clip_eq n i
  · cases hi with
    | none => rfl
    | some i => exact clip_eq n i
theorem sl_length {α : Type} (l : List α) (lo hi : Option Int) : (sl l lo hi).length ≤ l.length := by
  unfold sl
  simp only [List.length_take, List.length_drop]
  omega

theorem strSl_eq (l : List Nat) (lo hi : Option Int) : (Builtin.Str.strSliceIndices lo hi 1 (⟨l.toArray⟩ : Str).length).filterMap ((⟨l.toArray⟩ : Str).cps[·]?) = sl l lo hi := by
  rw [str_len, strIdx_eq, sliceRange_one, pick_run]
  rfl
theorem hi0_le (n : Nat) (hi : Option Int) : hi0 n hi ≤ n := by
  cases hi with
  | none => exact Nat.le_refl _
  | some i =>
    show (if i < 0 then (i + n).toNat else min i.toNat n) ≤ n
    split <;> omega
theorem idx_len (lo hi : Option Int) (n : Nat) : (Builtin.Str.strSliceIndices lo hi 1 n).length = hi0 n hi - lo0 n lo := by
  rw [strIdx_eq, sliceRange_one, List.length_map, List.length_range]
theorem sl_len {α : Type} (l : List α) (lo hi : Option Int) : (sl l lo hi).length = min (hi0 l.length hi - lo0 l.length lo) (l.length - lo0 l.length lo) := by
  unfold sl
  rw [List.length_take, List.length_drop]
theorem sl_full {α : Type} (l : List α) (lo hi : Option Int) (h : (sl l lo hi).length = l.length) : sl l lo hi = l := by
  unfold sl at h ⊢
  simp only [List.length_take, List.length_drop] at h
  have hh := hi0_le l.length hi
  by_cases h0 : l.length = 0
  · rw [List.length_eq_zero_iff.mp h0]; simp
  · have e1 : lo0 l.length lo = 0 := by omega
    have e2 : hi0 l.length hi = l.length := by omega
    rw [e1, e2]; simp

section
variable {c : Cx} {i : Fi} {k : Nat} {m : Fields} {cs : List Chunk}

/-- a part of a slice that may lack -/
def PO (c : Cx) (i : Fi) (k : Nat) (m : Fields) (cs : List Chunk) (e : Option Expr) (v : Option Int) : Prop :=
  match e, v with
  | none, none => True
  | some e, some n => PE c i k m cs e (.int n 0)
  | _, _ => False
theorem PO.no : PO c i k m cs none none := trivial
theorem PO.yes {e : Expr} {n : Int} (h : PE c i k m cs e (.int n 0)) : PO c i k m cs (some e) (some n) := h
theorem PO.run {e : Option Expr} {v : Option Int} (h : PO c i k m cs e v) (hF : FOk i k m) {R : List Chunk} {s : Shared} (hs : St c ((i.L, .ns m) :: (cs ++ R)) s) {Q : Value → Shared → Prop}
    (q : ∀ (p : Option (Int × Tok)) s', (p.map fun (x : Int × Tok) => x.1) = v → St c ((i.L, .ns m) :: (cs ++ R)) s' → Q (partValue p) s') : wpAny (model c.prog c.w) i.A (evalPart e i.env) Q NoE s := by
  cases e with
  | none =>
    cases v with
    | none => exact wpAny_pure (q none s rfl hs)
    | some _ => exact h.elim
  | some e =>
    cases v with
    | none => exact h.elim
    | some n =>
      rw [evalPart_some]
      refine noE (h hF R s hs) ?_
      rintro v s1 ⟨cs1, h1, e1, rfl⟩
      obtain ⟨-, t, rfl⟩ := nv_int e1
      exact q (some (n, t)) s1 rfl h1

theorem PE_slice {e : Expr} {lower upper : Option Expr} {p pos : Pos} {l : List Nat} {lo hi : Option Int} (h : PE c i k m cs e (.str ⟨l.toArray⟩ 0)) (hl : PO c i k m cs lower lo) (hu : PO c i k m cs upper hi)
    (hz : l.length ≤ 1000000) : PE c i k m cs (.Subscript e (.Slice lower upper none p) pos) (.str ⟨(sl l lo hi).toArray⟩ 0) := by
  intro hF R s hs
  refine Subscript_ (noE (h hF R s hs) ?_)
  rintro o s1 ⟨cs1, h1, e1, rfl⟩
  obtain ⟨-, t, rfl⟩ := nv_str e1
  refine wpAny_Slice (hl.run hF h1 ?_)
  rintro p1 s2 rfl h2
  refine hu.run hF h2 ?_
  rintro p2 s3 rfl h3
  rw [evalPart_none]
  refine wpAny_pure ?_
  have ext : ∀ b y, s3.heap.get? b = some y → (s3.heap.push { cls := .type "slice", data := .fields #[partValue p1, partValue p2, .none] }).get? b = some y := fun b y e => Heap.get?_push_of_some _ e
  have h4 := h3.ext (tk := s3.toks) h3.pos ext
  refine tail_any (ops := [.ref s3.heap.objs.size, .str ⟨l.toArray⟩ t]) (typeIs_str _ _ _) F.slot_str_getitem.lookup ?_ (by with_unfolding_all rfl)
  refine noE (wpAny_toks (wpAny_getItem_str_slice (l := p1) (u := p2) (st := none) ⟨_, Heap.get?_push_size _ rfl, rfl, rfl⟩ rfl
    (show (sliceMade ⟨l.toArray⟩ t p1 p2 none).post (fun v s' => nv v = .str ⟨(sl l (p1.map fun (x : Int × Tok) => x.1) (p2.map fun (x : Int × Tok) => x.1)).toArray⟩ 0 ∧ ∃ tk, s' = { s3 with heap := s3.heap.push { cls := .type "slice", data := .fields #[partValue p1, partValue p2, .none] }, toks := tk }) _ from ?_))) ?_
  · unfold sliceMade slicePicked
    simp only [Option.map_none, Option.getD_none]
    rw [← strSl_eq]
    split
    · rename_i hc
      refine ⟨?_, _, rfl⟩
      simp only [beq_self_eq_true, Bool.true_and, beq_iff_eq] at hc
      rw [strSl_eq]
      rw [str_len, idx_len] at hc
      have hh := hi0_le l.length (p2.map fun (x : Int × Tok) => x.1)
      rw [sl_full l _ _ (by rw [sl_len]; omega)]
      rfl
    · refine ⟨?_, rfl, _, rfl⟩
      show _ ≤ _
      rw [strSl_eq, str_len, sizeLine_eq]
      have := sl_length l (p1.map fun (x : Int × Tok) => x.1) (p2.map fun (x : Int × Tok) => x.1)
      omega
  · rintro v s4 ⟨⟨e4, tk, rfl⟩, le⟩
    exact ⟨cs1, h4.toks (Nat.lt_of_lt_of_le h3.pos le), e4, rfl⟩

/- ## displays -/
theorem EV_list {es : List Expr} {pos : Pos} {Q : Value → List Chunk → Prop} (h : EVs c i k m cs es (fun vs cs1 => vs.length ≤ 1000000 ∧ ∀ a, Q (.ref a) ((a, .list vs) :: cs1))) : EV c i k m cs (.List es pos) Q := by
  intro hF R s hs
  refine List_ (noE (h hF R s pos hs) ?_)
  rintro vs s1 ⟨cs1, h1, hz, q1⟩
  refine wpAny_newList ⟨(_, .list (vs.map nv)) :: cs1, ?_, q1 _⟩ (by rw [List.length_map] at hz; rw [sizeLine_eq]; omega)
  exact St.perm (h1.to h1.pos (h1.own.push (ao := .list (vs.map nv)) (h1.own.size (by simp)) rfl ⟨_, _, rfl, by simp⟩)) (List.Perm.swap ..)
theorem EV_tuple {es : List Expr} {u : Nat} {pos : Pos} {Q : Value → List Chunk → Prop} (h : EVs c i k m cs es (fun vs cs1 => vs.length ≤ 1000000 ∧ ∀ a, Q (.ref a) ((a, .tup vs) :: cs1))) : EV c i k m cs (.Tuple es u pos) Q := by
  intro hF R s hs
  refine Tuple_ (noE (h hF R s pos hs) ?_)
  rintro vs s1 ⟨cs1, h1, hz, q1⟩
  refine wpAny_newTuple ⟨(_, .tup (vs.map nv)) :: cs1, ?_, q1 _⟩ (by rw [List.length_map] at hz; rw [sizeLine_eq]; omega)
  exact St.perm (h1.to h1.pos (h1.own.push (ao := .tup (vs.map nv)) (h1.own.size (by simp)) rfl ⟨_, _, rfl, by simp⟩)) (List.Perm.swap ..)
end
end Mine
end
section
open PySem PySem.W PySem.Calls PyProof.Rows
namespace Mine

theorem map_eraseIdx' {α β : Type} (f : α → β) : ∀ (l : List α) (j : Nat), (l.eraseIdx j).map f = (l.map f).eraseIdx j
  | [], _ => rfl
  | _ :: _, 0 => rfl
  | x :: r, j + 1 => by simp [List.eraseIdx_cons_succ, map_eraseIdx' f r j]
theorem len_its {its : Array Value} {vs : List Value} (h : its.toList.map nv = vs) : its.size = vs.length := by
  rw [← h, List.length_map, Array.length_toList]
theorem at_its {its : Array Value} {vs : List Value} (h : its.toList.map nv = vs) {j : Nat} {v : Value} (e : vs[j]? = some v) : ∃ v', its[j]? = some v' ∧ nv v' = v := by
  rw [← h, List.getElem?_map] at e
  rw [← Array.getElem?_toList]
  cases q : its.toList[j]? with
  | none => rw [q] at e; cases e
  | some v' => rw [q] at e; exact ⟨v', rfl, by simpa using e⟩

section
variable {c : Cx} {A : Around} {k : Nat} {cs cs' : List Chunk}

/- ## lists -/
theorem K_len_list {a : Addr} {vs : List Value} (h : (a, .list vs) ∈ cs) (hz : vs.length ≤ 1000000) : CallV c A k cs (.builtin "len") [.ref a] (Is cs (.int vs.length 0)) := by
  intro _ R s as ha hs
  obtain ⟨a', rfl, hv⟩ := map_one ha
  rw [nv_ref hv]
  obtain ⟨o, ho, its, n, rfl, hi⟩ := hs.at (List.mem_append_left R h)
  have hl := len_its hi
  refine len_list ⟨_, ho, rfl, n, rfl⟩ (by omega) ⟨cs, hs.toks (Nat.succ_pos _), ?_, rfl⟩
  rw [hl]; rfl
theorem T_list {a : Addr} {vs : List Value} (h : (a, .list vs) ∈ cs) (hz : vs.length ≤ 1000000) : Op1 c A k cs truthy (.ref a) id (Is cs (!vs.isEmpty)) := by
  intro _ R s a' ha hs
  rw [nv_ref ha]
  obtain ⟨o, ho, its, n, rfl, hi⟩ := hs.at (List.mem_append_left R h)
  have hl := len_its hi
  refine wpAny_truthy_list ⟨_, ho, rfl, n, rfl⟩ (by omega) ⟨cs, hs.toks (Nat.succ_pos _), ?_, rfl⟩
  show (!its.isEmpty) = _
  cases vs with
  | nil => simp at hl; simp [hl]
  | cons x r => simp at hl; simp [Array.isEmpty, hl]
theorem G_list {a : Addr} {vs : List Value} {n : Int} {v : Value} (h : (a, .list vs) ∈ cs) (h0 : 0 ≤ n) (hz : vs.length ≤ 1000000) (e : vs[n.toNat]? = some v) : Op2 c A k cs getItem (.ref a) (.int n 0) nv (Is cs v) := by
  intro _ R s a' b' ha hb hs
  rw [nv_ref ha]
  obtain ⟨-, t, rfl⟩ := nv_int hb
  obtain ⟨o, ho, its, u, rfl, hi⟩ := hs.at (List.mem_append_left R h)
  obtain ⟨v', q1, q2⟩ := at_its hi e
  have hlt : n.toNat < vs.length := (List.getElem?_eq_some_iff.mp e).1
  exact wpAny_getItem_list ⟨_, ho, rfl, u, rfl⟩ h0 (by omega) q1 ⟨cs, hs, q2, rfl⟩
theorem S_list {e sl' : Expr} {a : Addr} {vs : List Value} {n : Int} {v : Value} (h : (a, .list vs) ∈ cs) (h0 : 0 ≤ n) (hz : vs.length ≤ 1000000) (he : vs[n.toNat]? = some v)
    (hs' : ∀ t, subscripted sl' false (.ref a) (.int n t) = operate [.ref a, .int n t] (getItem (.ref a) (.int n t)) := by intro _; with_unfolding_all rfl) : Op2 c A k cs (subscriptTail e sl') (.ref a) (.int n 0) nv (Is cs v) := by
  intro hA R s a' b' ha hb hs
  rw [nv_ref ha]
  obtain ⟨-, t, rfl⟩ := nv_int hb
  obtain ⟨o, ho, its, u, rfl, hi⟩ := hs.at (List.mem_append_left R h)
  have hL : s.heap.IsList a its := ⟨_, ho, rfl, u, rfl⟩
  exact tail_any (ops := [.ref a, .int n t]) hL.typeIs slot_list_getitem.lookup (G_list h h0 hz he hA R s _ _ rfl rfl hs) (hs' t)
theorem G_list_last {a : Addr} {vs : List Value} {v : Value} (h : (a, .list (vs ++ [v])) ∈ cs) (hz : vs.length ≤ 1000000) : Op2 c A k cs getItem (.ref a) (.int (-1) 0) nv (Is cs v) := by
  intro _ R s a' b' ha hb hs
  rw [nv_ref ha]
  obtain ⟨-, t, rfl⟩ := nv_int hb
  obtain ⟨o, ho, its, u, rfl, hi⟩ := hs.at (List.mem_append_left R h)
  have hl := len_its hi
  simp only [List.length_append, List.length_cons, List.length_nil] at hl
  obtain ⟨v', q1, q2⟩ := at_its (j := vs.length) (v := v) hi (by simp)
  exact wpAny_getItem_list_neg ⟨_, ho, rfl, u, rfl⟩ (by omega) (by omega) (by omega) (x := v') (by rw [show ((-1 : Int) + its.size).toNat = vs.length by omega]; exact q1) ⟨cs, hs, q2, rfl⟩
theorem S_list_last {e sl' : Expr} {a : Addr} {vs : List Value} {v : Value} (h : (a, .list (vs ++ [v])) ∈ cs) (hz : vs.length ≤ 1000000)
    (hs' : ∀ t, subscripted sl' false (.ref a) (.int (-1) t) = operate [.ref a, .int (-1) t] (getItem (.ref a) (.int (-1) t)) := by intro _; with_unfolding_all rfl) : Op2 c A k cs (subscriptTail e sl') (.ref a) (.int (-1) 0) nv (Is cs v) := by
  intro hA R s a' b' ha hb hs
  rw [nv_ref ha]
  obtain ⟨-, t, rfl⟩ := nv_int hb
  obtain ⟨o, ho, its, u, rfl, hi⟩ := hs.at (List.mem_append_left R h)
  have hL : s.heap.IsList a its := ⟨_, ho, rfl, u, rfl⟩
  exact tail_any (ops := [.ref a, .int (-1) t]) hL.typeIs slot_list_getitem.lookup (G_list_last h hz hA R s _ _ rfl rfl hs) (hs' t)

theorem own_seq {base : Heap} {R : List Chunk} {h : Heap} {a : Addr} {its : Array Value} {n : Nat} {vs' : List Value} {f : Array Value → Array Value} (o : Own base (cs ++ R) h) (U : Upd cs a (.list vs') cs')
    (ho : h.get? a = some { cls := .type "list", data := .seq its n }) (hf : (f its).toList.map nv = vs') : Own base (cs' ++ R) (h.update a (Obj.mapSeq f)) :=
  o.upd (U.append R) (fun b y hb e => (Heap.get?_update_other _ _ (Ne.symm hb)).trans e) (Heap.get?_update_self _ ho rfl)
    ⟨f its, (if (f its).size == its.size then n else n + 1), rfl, hf⟩

theorem K_append {a : Addr} {vs : List Value} {v : Value} {Q : Value → List Chunk → Prop} (h : (a, .list vs) ∈ cs) (U : Upd cs a (.list (vs ++ [v])) cs') (hz : vs.length ≤ 1000000) (q : Q .none cs') :
    CallV c A k cs (.builtin "list.append") [.ref a, v] Q := by
  intro _ R s as ha hs
  obtain ⟨a', v', rfl, hv, hw⟩ := map_two ha
  rw [nv_ref hv]
  obtain ⟨o, ho, its, n, rfl, hi⟩ := hs.at (List.mem_append_left R h)
  have hl := len_its hi
  refine call_meets F.slot_list_append ⟨_, ho, rfl⟩ F.entry_list_append (F.args_list_append_2 _ _) (list_append a its n v' (by rw [sizeLine_eq]; omega)) ⟨ho, ?_⟩
  exact ⟨cs', hs.to hs.pos (own_seq hs.own U ho (by simp [hi, hw])), q⟩
theorem K_pop {a : Addr} {vs : List Value} {v : Value} {Q : Value → List Chunk → Prop} (h : (a, .list (vs ++ [v])) ∈ cs) (U : Upd cs a (.list vs) cs') (hz : vs.length ≤ 1000000) (q : Q v cs') :
    CallV c A k cs (.builtin "list.pop") [.ref a] Q := by
  intro _ R s as ha hs
  obtain ⟨a', rfl, hv⟩ := map_one ha
  rw [nv_ref hv]
  obtain ⟨o, ho, its, n, rfl, hi⟩ := hs.at (List.mem_append_left R h)
  have hl := len_its hi
  simp only [List.length_append, List.length_cons, List.length_nil] at hl
  obtain ⟨v', q1, q2⟩ := at_its (j := vs.length) (v := v) hi (by simp)
  have e : its.size - 1 = vs.length := by omega
  refine call_meets F.slot_list_pop ⟨_, ho, rfl⟩ F.entry_list_pop (F.args_list_pop_1 _) (PySem.MeetsSeq.list_pop_last a its n v' (by rw [e]; exact q1) (by rw [sizeLine_eq]; omega)) ⟨ho, ?_⟩
  refine ⟨cs', hs.to hs.pos (own_seq hs.own U ho ?_), by rw [q2]; exact q⟩
  rw [e]
  rw [Array.toList_eraseIdxIfInBounds, map_eraseIdx', hi]
  simp [List.eraseIdx_append_of_length_le]
end
end Mine
end
section
open PySem PySem.W PySem.Calls PyProof.Rows Builtin Builtin.ObjectAttr
namespace Mine

/- ## instances: an object, and a dict of its own (`AO.obj`) -/
theorem lookIn_ns {o : Obj} {es : Array DictEntry} {ep : Nat} {name : Str} (hd : o.data = .dict es ep) (hk : StrKeys es) : lookIn name o = some (nsFind es name) := by
  unfold lookIn
  rw [hd]
  dsimp only
  unfold nsFind findBy
  rw [← Array.find?_toList]
  split
  · rename_i e q; rw [q]; rfl
  · rename_i q
    have hany : es.toList.any (·.refKey) = false := by
      rw [List.any_eq_false]
      intro e he
      obtain ⟨n, t, h⟩ := hk e (Array.mem_toList_iff.mp he)
      simp [DictEntry.refKey, h]
    rw [hany, q]; rfl

/-- a name laid into a dict whose keys are strs -/
theorem wpAny_put {M : Model} {A : Around} {E : Value → Shared → Prop} {s : Shared} {a : Addr} {o : Obj} {es : Array DictEntry} {ep : Nat} {name : Str} {v : Value} {Q : Unit → Shared → Prop} (ho : s.heap.get? a = some o) (hd : o.data = .dict es ep) (hk : StrKeys es)
    (h : ∀ h' o' es' ep', h'.get? a = some o' → o'.data = .dict es' ep' → StrKeys es' → (∀ x, nsFind es' x = if x = name then some v else nsFind es x) →
      (es'.size = es.size ∧ nsFind es name ≠ none ∨ es'.size = es.size + 1 ∧ nsFind es name = none) → Heap.SameBut a s.heap h' → Q () { s with heap := h', toks := s.toks + 1 }) :
    wpAny M A (nsSet a name v) Q E s := by
  intro Γ p _
  simp only [nsSet, strHash, Sem.wp_bind', Sem.wp_cmd_ask, Sem.wp_pure', Sem.wp_cmd_mkText]
  rw [Sem.wp_loadPart_of M Γ _ p { s with toks := s.toks + 1 } (o := o) _ ho]
  have hany : es.any (·.refKey) = false := by
    rw [Array.any_eq_false']; intro e he; obtain ⟨n, t, h⟩ := hk e he; simp [DictEntry.refKey, h]
  simp only [hd, aRefKeyMayBeTheName_eq, aRefKeyMayBeTheNameByArray, hany, Bool.and_false, Bool.false_eq_true, if_false, Sem.wp_cmd_updatePart]
  refine ⟨by rw [ho]; rfl, ?_⟩
  obtain ⟨cl, d, dt, sl⟩ := o
  subst hd
  cases hi : es.findIdx? (·.key.isStr name) with
  | some i =>
    refine h _ _ _ ep (Heap.get?_update_self _ ho (by simp only [Obj.putName_eq, Obj.putNameByArray, hi]; rfl)) (by simp only [Obj.putName_eq, Obj.putNameByArray, hi]; try rfl) (hk.modify _ _)
      (fun x => findBy_modify (fun n v => v.isStr n) Value.isStr_inj es name x v i hi) (.inl ⟨by simp, ?_⟩) (Heap.SameBut.update ..)
    unfold nsFind
    rw [findBy_of_findIdx?, hi]
    have := (Array.findIdx?_eq_some_iff_findIdx_eq.mp hi).1
    simp [Array.getElem?_eq_getElem this]
  | none =>
    refine h _ _ _ (ep + 1) (Heap.get?_update_self _ ho (by simp only [Obj.putName_eq, Obj.putNameByArray, hi]; rfl)) (by simp only [Obj.putName_eq, Obj.putNameByArray, hi]; rfl) (hk.push _ _ _ _)
      (fun x => findBy_push (fun n v => v.isStr n) es name x _ _ v (fun y => by
        show (name == y) = decide (y = name)
        by_cases h : y = name
        · subst h; simp
        · have : ¬ name = y := fun e => h e.symm
          simp [h, this]) hi) (.inr ⟨by simp, ?_⟩) (Heap.SameBut.update ..)
    unfold nsFind
    rw [findBy_of_findIdx?, hi]

theorem bound_upd {m m' : Fields} {x : Str} {v : Value} (U : Upd m x (some v) m') : ∃ u, (x, u) ∈ m ∧ bound m' = if u.isSome then bound m else bound m + 1 := by
  obtain ⟨pre, u, post, rfl, rfl⟩ := U
  refine ⟨u, by simp, ?_⟩
  unfold bound
  cases u <;> simp [List.filter_append, List.filter_cons] <;> omega

section
variable {c : Cx} {A : Around} {k : Nat} {cs cs' : List Chunk} {x C d : Addr}

/-- what a chunk of an own object and one of its dict say in the heap -/
theorem inst_at {R : List Chunk} {s : Shared} {m : Fields} (hs : St c (cs ++ R) s) (hx : (x, .inst C d) ∈ cs) (hd : (d, .obj m) ∈ cs) :
    ∃ o es ep, InstAt s.heap x (instObj C d) C (some o) ∧ s.heap.get? d = some o ∧ o.data = .dict es ep ∧ StrKeys es ∧ (m.map Prod.fst).Nodup ∧ (∀ p ∈ m, (nsFind es p.1).map nv = p.2) ∧ es.size ≤ bound m := by
  obtain ⟨o, ho, rfl⟩ := hs.at (List.mem_append_left R hx)
  obtain ⟨o2, ho2, es, ep, h1, h2, h3, h4, h5⟩ := hs.at (List.mem_append_left R hd)
  exact ⟨o2, es, ep, ⟨ho, rfl, rfl, ho2⟩, ho2, h1, h2, h3, h4, h5⟩
theorem field_at {m : Fields} {es : Array DictEntry} {name : Str} {v : Value} (hm : ∀ p ∈ m, (nsFind es p.1).map nv = p.2) (h : (name, some v) ∈ m) : ∃ v', nsFind es name = some v' ∧ nv v' = v := by
  have e := hm _ h
  cases q : nsFind es name with
  | none => simp only [q] at e; cases e
  | some v' => simp only [q, Option.map_some, Option.some.injEq] at e; exact ⟨v', rfl, e⟩
theorem handed_nv (v : Value) : handedIn v = handedIn (nv v) := by cases v <;> rfl

theorem A_own {m : Fields} {name : Str} {v : Value} {attr : Option Value} (hx : (x, .inst C d) ∈ cs) (hd : (d, .obj m) ∈ cs) (hv : (name, some v) ∈ m) (hg : plainGet c.K C name = true) (hh : hasDictIn c.K C = true)
    (ha : findIn c.K (.ref C) name = some attr) (hn : noGet c.K attr = true) (hho : handedIn v = true) : Op1 c A k cs (fun v => getAttr v name true) (.ref x) nv (Is cs v) := by
  intro _ R s a' ha' hs
  rw [nv_ref ha']
  obtain ⟨o, es, ep, I, ho, h1, h2, h3, h4, h5⟩ := inst_at hs hx hd
  obtain ⟨v', q1, q2⟩ := field_at h4 hv
  exact get_value hs.inK I (plainGet_of hg).1 (findObj_own hh ha hn (by rw [lookIn_ns h1 h2, q1])) (by rw [handed_nv, q2]; exact hho) ⟨cs, hs.toks (Nat.succ_pos _), q2, rfl⟩
theorem A_bound {m : Fields} {name : Str} {f : Addr} {Q : Value → List Chunk → Prop} (hx : (x, .inst C d) ∈ cs) (hd : (d, .obj m) ∈ cs) (hv : (name, none) ∈ m) (hg : plainGet c.K C name = true) (hh : hasDictIn c.K C = true)
    (ha : findIn c.K (.ref C) name = some (some (.ref f))) (hf : isFn c.K (.ref f) = true) (hgf : specialIn c.K (.ref f) "__get__" = some (some (.builtin "function.__get__"))) (ht : takesIn c.K (.ref f) = some false)
    (hc : copiedNames.contains name = false) (q : ∀ b, Q (.ref b) ((b, .bm f x) :: cs)) : Op1 c A k cs (fun v => getAttr v name true) (.ref x) nv Q := by
  intro _ R s a' ha' hs
  rw [nv_ref ha']
  obtain ⟨o, es, ep, I, ho, h1, h2, h3, h4, h5⟩ := inst_at hs hx hd
  have e := h4 _ hv
  have q0 : nsFind es name = none := by simpa using e
  refine get_bind hs.inK I (plainGet_of hg).1 (findObj_fn hh ha hgf ht hc (by rw [lookIn_ns h1 h2, q0])) (plainGet_of hg).2
    (wpAny_call (fn_get (s := { s with toks := s.toks + 1 }) hs.inK (beq_iff_eq.mp hf) (handed_on rfl ?_)))
  refine ⟨(_, .bm f x) :: cs, ?_, q _⟩
  exact (hs.toks (Nat.succ_pos _)).to (Nat.succ_pos _) (hs.own.push (ao := .bm f x) (hs.own.size (by intro h; rw [List.append_eq_nil_iff] at h; rw [h.1] at hx; cases hx)) rfl rfl)

theorem M_fn {m : Fields} {name : Str} {f : Addr} {Q : Value → List Value → List Chunk → Prop} (hx : (x, .inst C d) ∈ cs) (hd : (d, .obj m) ∈ cs) (hv : (name, none) ∈ m) (hg : plainGet c.K C name = true)
    (ha : findIn c.K (.ref C) name = some (some (.ref f))) (hf : isFn c.K (.ref f) = true) (q : Q (.ref f) [.ref x] cs) : GetM c A k cs (.ref x) name Q := by
  intro _ R s a' pl ha' hs
  rw [nv_ref ha']
  obtain ⟨o, es, ep, I, ho, h1, h2, h3, h4, h5⟩ := inst_at hs hx hd
  have e := h4 _ hv
  have q0 : nsFind es name = none := by simpa using e
  exact method_fn hs.inK I (plainGet_of hg).1 (plainGet_of hg).2 ha (beq_iff_eq.mp hf) (by show (lookIn name o).map _ = _; rw [lookIn_ns h1 h2, q0]; rfl) ⟨cs, hs, q⟩
theorem M_own {m : Fields} {name : Str} {v : Value} {attr : Option Value} {Q : Value → List Value → List Chunk → Prop} (hx : (x, .inst C d) ∈ cs) (hd : (d, .obj m) ∈ cs) (hv : (name, some v) ∈ m) (hg : plainGet c.K C name = true) (hh : hasDictIn c.K C = true)
    (ha : findIn c.K (.ref C) name = some attr) (hn : noGet c.K attr = true) (hho : handedIn v = true)
    (ht : attr.all (fun a => (typeIn c.K a).any fun t => t != .type "function" && t != .type "method_descriptor" && t != .type "wrapper_descriptor") = true) (hr : ∃ a, v = .ref a) (q : Q v [] cs) : GetM c A k cs (.ref x) name Q := by
  intro _ R s a' pl ha' hs
  rw [nv_ref ha']
  obtain ⟨o, es, ep, I, ho, h1, h2, h3, h4, h5⟩ := inst_at hs hx hd
  obtain ⟨v', q1, q2⟩ := field_at h4 hv
  obtain ⟨a, rfl⟩ := hr
  have := nv_ref q2
  subst this
  refine method_usual hs.inK I (plainGet_of hg).1 (plainGet_of hg).2 ha ht ?_
  exact get_value hs.inK I (plainGet_of hg).1 (findObj_own hh ha hn (by rw [lookIn_ns h1 h2, q1])) rfl ⟨cs, hs.toks (Nat.succ_pos _), q⟩

theorem A_set {m m' : Fields} {name : Str} {v : Value} (hx : (x, .inst C d) ∈ cs) (hd : (d, .obj m) ∈ cs) (U : Upd m name (some v) m') (U2 : Upd cs d (.obj m') cs') (hz : m.length ≤ 1000)
    (hsa : findIn c.K (.ref C) "__setattr__" = some (some (.builtin "object.__setattr__"))) (hp : plainOver c.K C = true) (ht : takerIn c.K C name = some none) (hh : hasDictIn c.K C = true)
    {Q : Unit → List Chunk → Prop} (q : Q () cs') : Op2 c A k cs (fun a b => setAttr a name b) (.ref x) v (fun _ => ()) Q := by
  intro _ R s a' v' ha' hv hs
  rw [nv_ref ha']
  subst hv
  obtain ⟨o, es, ep, I, ho, h1, h2, h3, h4, h5⟩ := inst_at hs hx hd
  obtain ⟨cd, hcd, hdc⟩ := any_some hh
  refine set_plain hs.inK I hsa (osa_open (s := { s with toks := s.toks + 1 }) hs.inK I hp ht fun b => ?_)
  refine wpAny_bind (wpAny_pure (wpAny_bind (wpAny_bind (wpAny_loadPart I.at_ (wpAny_bind ((looks_clsIn hs.inK hcd _ _ _ _ (fun _ _ e => e) ?_)))))))
  rw [hdc]
  refine wpAny_pure (a := some d) (wpAny_bind (wpAny_pure (wpAny_bind ?_)))
  refine wpAny_put (s := { s with toks := s.toks + 1 }) ho h1 h2 fun h' o' es' ep' ho' hd' hk' hf' hsz' sb => ?_
  obtain ⟨u, hu, hb⟩ := bound_upd U
  have hu2 : (nsFind es name).map nv = u := h4 _ hu
  have hle : bound m' ≤ m.length := by
    have : m'.length = m.length := by have := congrArg List.length U.keys; simpa using this
    rw [← this]
    exact List.length_filter_le _ _
  have hes : es'.size ≤ bound m' := by
    rcases hsz' with ⟨e, hne⟩ | ⟨e, hne⟩
    · rw [e, hb]; split <;> omega
    · rw [hne] at hu2
      rw [← hu2] at hb
      rw [e, hb]
      simp; omega
  refine wpAny_bind (wpAny_lookBehind ho' (by rw [hd']; exact pastItsLine_dict (by rw [sizeLine_eq]; omega)) ?_)
  refine wpAny_pure ⟨cs', ?_, q⟩
  refine hs.to (Nat.succ_pos _) (hs.own.upd (U2.append R) (fun b y hb e => (sb.2 b hb).trans e) ho' ⟨es', ep', hd', hk', by rw [U.keys]; exact h3, fun p hp => ?_, hes⟩)
  rw [hf']
  rcases U.mem h3 hp with rfl | ⟨hne, hp⟩
  · simp
  · rw [if_neg hne]; exact h4 p hp
end
end Mine
end
section
open PySem PySem.W PySem.Calls PyProof.Rows
namespace Mine

theorem lookup_of_mem {l : List (Str × Value)} {x : Str} {v : Value} (hn : (l.map Prod.fst).Nodup) (h : (x, v) ∈ l) : l.lookup x = some v := by
  induction l with
  | nil => cases h
  | cons p r ih =>
    obtain ⟨y, u⟩ := p
    simp only [List.map_cons, List.nodup_cons] at hn
    rcases List.mem_cons.mp h with e | e
    · obtain ⟨rfl, rfl⟩ := Prod.mk.inj e; simp [List.lookup_cons]
    · have : x ≠ y := fun q => hn.1 (q ▸ List.mem_map_of_mem e)
      rw [List.lookup_cons, beq_eq_false_iff_ne.mpr this]
      exact ih hn.2 e
theorem lookup_none {l : List (Str × Value)} {x : Str} (h : x ∉ l.map Prod.fst) : l.lookup x = none := by
  induction l with
  | nil => rfl
  | cons p r ih =>
    obtain ⟨y, u⟩ := p
    simp only [List.map_cons, List.mem_cons, not_or] at h
    rw [List.lookup_cons, beq_eq_false_iff_ne.mpr h.1]
    exact ih h.2

/-- the locals at a call's start -/
def locals0 (ps rest : List Str) (args : List Value) : Fields := ps.zip (args.map some) ++ rest.map (fun x => (x, none))

theorem locals0_at {ps rest : List Str} {ws args : List Value} (hw : ws.map nv = args) (hl : ps.length = args.length) (hn : (ps ++ rest).Nodup) :
    ((locals0 ps rest args).map Prod.fst).Nodup ∧ ∀ p ∈ locals0 ps rest args, (((ps.zip ws).reverse).lookup p.1).map nv = p.2 := by
  have hl2 : ws.length = ps.length := by rw [hl, ← hw, List.length_map]
  have k1 : (ps.zip ws).map Prod.fst = ps := List.map_fst_zip (by omega)
  have k2 : (locals0 ps rest args).map Prod.fst = ps ++ rest := by
    unfold locals0
    rw [List.map_append, List.map_fst_zip (by simp; omega), List.map_map]
    congr 1
    exact List.map_id' _
  refine ⟨by rw [k2]; exact hn, fun p hp => ?_⟩
  have hps : ps.Nodup := (List.nodup_append.mp hn).1
  have hr : (((ps.zip ws).reverse).map Prod.fst).Nodup := by rw [List.map_reverse, k1]; exact (List.reverse_perm ps).nodup_iff.mpr hps
  rcases List.mem_append.mp hp with hp | hp
  · obtain ⟨x, o⟩ := p
    rw [← hw, List.map_map, List.zip_map_right] at hp
    obtain ⟨q, hq, e⟩ := List.mem_map.mp hp
    obtain ⟨y, w⟩ := q
    simp only [Prod.map_apply, id_eq, Function.comp_apply, Prod.mk.injEq] at e
    obtain ⟨rfl, rfl⟩ := e
    rw [lookup_of_mem hr (List.mem_reverse.mpr hq)]
    rfl
  · obtain ⟨x, hx, rfl⟩ := List.mem_map.mp hp
    rw [lookup_none]
    · rfl
    · rw [List.map_reverse, List.mem_reverse, k1]
      exact fun q => (List.nodup_append.mp hn).2.2 x q x hx rfl

theorem AOk.deeper {A : Around} {k : Nat} {env : Env} (h : AOk A (k + 1)) : AOk (A.deeper env) k := by
  obtain ⟨h1, h2, h3⟩ := h
  refine ⟨h1, ?_, ?_⟩
  · show A.depth + 1 + 10 * k ≤ 900; omega
  · show A.units + 3 + 40 * k ≤ 9000; omega

def retv : Flow → Value
  | .ret v => v
  | _ => .none

/-- a call by its code -/
def CodeV (c : Cx) (A : Around) (k : Nat) (cs : List Chunk) (f : Value) (args : List Value) (Q : Value → List Chunk → Prop) : Prop :=
  AOk A k → ∀ R s args', args'.map nv = args → St c (cs ++ R) s → codeAny (model c.prog c.w) A (.call f ⟨args', []⟩) (fun r s' => match r with
    | .ok (.ret v) => ∃ cs', St c (cs' ++ R) s' ∧ Q (nv v) cs'
    | _ => False) s

section
variable {c : Cx} {A : Around} {k : Nat} {cs cs' : List Chunk}

theorem CodeV.call {f : Value} {args : List Value} {Q : Value → List Chunk → Prop} (h : CodeV c A k cs f args Q) : CallV c A k cs f args Q := by
  intro hA R s vs hvs hs
  refine wpAny_call (codeAny_mono (h hA R s vs hvs hs) ?_)
  intro r s' q
  rcases r with e | (v | _ | _ | _) <;> first | exact q | exact q.elim
theorem CodeV.mono {f : Value} {args : List Value} {Q Q' : Value → List Chunk → Prop} (h : CodeV c A k cs f args Q) (q : ∀ v cs', Q v cs' → Q' v cs') : CodeV c A k cs f args Q' := by
  intro hA R s vs hvs hs
  refine codeAny_mono (h hA R s vs hvs hs) ?_
  intro r s' z
  rcases r with e | (v | _ | _ | _) <;> first | exact z.elim | (obtain ⟨a, b, d⟩ := z; exact ⟨a, b, q _ _ d⟩)
theorem CodeV.level {j : Nat} {f : Value} {args : List Value} {Q : Value → List Chunk → Prop} (h : CodeV c A j cs f args Q) (hj : j ≤ k) : CodeV c A k cs f args Q :=
  fun hA => h (hA.mono hj)
/-- by the footprint -/
theorem CodeV.by {F R₀ : List Chunk} {j : Nat} {f : Value} {args : List Value} {Q Q' : Value → List Chunk → Prop} (h : CodeV c A j F f args Q') (t : Take cs F R₀) (hj : j ≤ k) (q : ∀ v F', Q' v F' → Q v (F' ++ R₀)) : CodeV c A k cs f args Q := by
  intro hA R s vs hvs hs
  refine codeAny_mono (h (hA.mono hj) (R₀ ++ R) s vs hvs (hs.perm ((t.append_right R).trans (by rw [List.append_assoc])))) ?_
  intro r s' z
  rcases r with e | (v | _ | _ | _) <;> first | exact z.elim | (obtain ⟨F', b, d⟩ := z; exact ⟨F' ++ R₀, by rw [List.append_assoc]; exact b, q _ _ d⟩)

theorem K_fn {fa : Addr} {oc : Value} {od : Option Addr} {name qual : Str} {params : Arguments} {body : List Stmt} {scope : Scope} {dV kV doc pm cdv ct : Value} {an : Option Addr} {osl : Array (Option Value)} {args : List Value}
    (ho : c.K.lookup fa = some ⟨oc, od, .func (fnOf name qual params body scope dV kV doc pm an cdv ct), osl⟩) (hcd : codeIn c.K cdv qual = true) (ps rest gl : List Str) (dfl : List Value)
    (hb : ∀ (s : Shared) vs, c.K.In s.heap → vs.length = args.length → BindsTo s (fnOf name qual params body scope dV kV doc pm an cdv ct) ⟨vs, []⟩ (ps.zip (vs ++ dfl)))
    (hl : ps.length = args.length + dfl.length) (hn : (ps ++ rest).Nodup) (hloc : ∀ x ∈ ps ++ rest, scope.names.lookup x = some .local) (hgl : ∀ x ∈ gl, scope.names.lookup x = some .globalImplicit)
    (hcell : ∀ x ∈ scope.names, x.2 ≠ .cell) (hco : scope.isCoroutine = false) (hgen : scope.isGenerator = false) (hk : scope.kind = .function) (hne : cs ≠ [])
    {Q : Value → List Chunk → Prop} (h : ∀ i : Fi, GOk i gl → EXS c i k (locals0 ps rest (args ++ dfl.map nv)) cs body (fun fl _ cs' => Q (retv fl) cs')) : CodeV c A (k + 1) cs (.ref fa) args Q := by
  intro hA R s vs hvs hs
  have hlen : vs.length = args.length := by rw [← hvs, List.length_map]
  have hwl : (vs ++ dfl).map nv = args ++ dfl.map nv := by rw [List.map_append, hvs]
  have hpl : ps.length = (args ++ dfl.map nv).length := by rw [List.length_append, List.length_map, hl]
  have hk1 : (ps.zip (vs ++ dfl)).map Prod.fst = ps := List.map_fst_zip (by rw [List.length_append]; omega)
  refine codeAny_call_def (fd := fnOf name qual params body scope dV kV doc pm an cdv ct) (body := body) (binds := ps.zip (vs ++ dfl)) (by have := hA.2.1; unfold recursionLimit; omega)
    (hs.inK _ _ ho) rfl hs.nolimit (codeRec_of hs.inK hcd) rfl (hb s vs hs.inK hlen) hcell (fun x hx => hloc _ (List.mem_append_left _ (by rw [← hk1]; exact List.mem_map_of_mem hx))) (fun h₀ N hk₀ => ?_) hco hgen hk
  obtain ⟨z1, z2⟩ := locals0_at hwl hpl hn
  have F : FOk ⟨A.deeper (envOf qual scope s.heap.objs.size fa cdv), envOf qual scope s.heap.objs.size fa cdv, s.heap.objs.size⟩ k (locals0 ps rest (args ++ dfl.map nv)) := by
    refine ⟨⟨hk, rfl, rfl, rfl⟩, fun p hp => hloc _ ?_, hA.deeper⟩
    have : p.1 ∈ (locals0 ps rest (args ++ dfl.map nv)).map Prod.fst := List.mem_map_of_mem hp
    unfold locals0 at this
    rw [List.map_append, List.map_fst_zip (by simp only [List.length_map, List.length_append] at hpl ⊢; omega), List.map_map] at this
    rcases List.mem_append.mp this with q | q
    · exact List.mem_append_left _ q
    · refine List.mem_append_right _ ?_
      obtain ⟨y, hy, e⟩ := List.mem_map.mp q
      rw [← e]; exact hy
  obtain ⟨o, es, ep, hoL, hd, hsk, hf⟩ := N
  have hb0 : c.base.objs.size ≤ s.heap.objs.size := hs.own.size (by intro e; rw [List.append_eq_nil_iff] at e; exact hne e.1)
  have h1 : St c ((s.heap.objs.size, .ns (locals0 ps rest (args ++ dfl.map nv))) :: (cs ++ R)) { s with heap := h₀, toks := s.toks + (ps.zip (vs ++ dfl)).length } :=
    hs.to (by have := hs.pos; omega) (hs.own.new (heap_size_none _ (Nat.le_refl _)) hb0 hk₀ hoL ⟨es, ep, hd, hsk, z1, fun p hp => by rw [hf]; exact z2 p hp⟩)
  refine noE' (h ⟨A.deeper (envOf qual scope s.heap.objs.size fa cdv), envOf qual scope s.heap.objs.size fa cdv, s.heap.objs.size⟩ (fun x hx => hgl x hx) F R _ h1) ?_
  rintro fl s' ⟨m', cs1, z, h2, q⟩
  refine ⟨cs1, h2.sub (.cons _ (List.Sublist.refl _)), ?_⟩
  cases fl <;> exact q

/-- a bound method that stands in the heap -/
theorem K_bm {b f x : Addr} {args : List Value} {Q : Value → List Chunk → Prop} (hb : (b, .bm f x) ∈ cs) (h : CodeV c A k cs (.ref f) (.ref x :: args) Q) : CodeV c A k cs (.ref b) args Q := by
  intro hA R s vs hvs hs
  obtain ⟨o, ho, rfl⟩ := hs.at (List.mem_append_left R hb)
  exact method_call ho (h hA R s (.ref x :: vs) (by rw [List.map_cons, hvs]; rfl) hs)

theorem AOk.make {C : Addr} {rest : List Value} (h : AOk A (k + 1)) : AOk (A.under (.builtin "type.__call__" ⟨.ref C :: rest, []⟩)) k := by
  obtain ⟨h1, h2, h3⟩ := h
  refine ⟨h1, ?_, ?_⟩
  · show A.depth + Code.weight (.builtin "type.__call__" ⟨.ref C :: rest, []⟩) + 10 * k ≤ 900
    have : Code.weight (.builtin "type.__call__" ⟨.ref C :: rest, []⟩) = 1 := by simp [Code.weight, Code.isCreation, Code.isGuard, Code.isCaller, guardIds]; rfl
    omega
  · show A.units + Code.cUnits (.builtin "type.__call__" ⟨.ref C :: rest, []⟩) + 40 * k ≤ 9000
    have : Code.cUnits (.builtin "type.__call__" ⟨.ref C :: rest, []⟩) = 1 := rfl
    omega

/-- an own object made: itself, its empty dict, and its __init__ -/
theorem K_new {C fI : Addr} {args : List Value} {names : List Str} {Q : Value → List Chunk → Prop} (hm : makesIn c.K C = true) (hi : findIn c.K (.ref C) "__init__" = some (some (.ref fI))) (hf : typeIn c.K (.ref fI) = some (.type "function"))
    (hn : names.Nodup) (hne : cs ≠ []) (h : ∀ A x d, CodeV c A k ((x, .inst C d) :: (d, .obj (names.map fun n => (n, none))) :: cs) (.ref fI) (.ref x :: args) (fun v cs' => v = .none ∧ Q (.ref x) cs')) :
    CodeV c A (k + 1) cs (.ref C) args Q := by
  intro hA R s vs hvs hs
  obtain ⟨hh, g, d, t, os⟩ := s
  have hb0 : c.base.objs.size ≤ hh.objs.size := hs.own.size (by intro e; rw [List.append_eq_nil_iff] at e; exact hne e.1)
  refine make_core (makes_of hs.inK hm) (looks_findIn hs.inK hi) (fun self => bind_fn hs.inK self hf) (.inl rfl) ?_
  have o1 : Own c.base ((hh.objs.size, .obj (names.map fun n => (n, none))) :: (cs ++ R)) (hh.push emptyDict) :=
    hs.own.push hb0 rfl ⟨#[], 0, rfl, fun _ h => by simp at h, by simpa [List.map_map, Function.comp_def] using hn, fun p hp => by
      obtain ⟨n, _, rfl⟩ := List.mem_map.mp hp; rfl, Nat.zero_le _⟩
  have o2 : Own c.base ((hh.objs.size + 1, .inst C hh.objs.size) :: (hh.objs.size, .obj (names.map fun n => (n, none))) :: (cs ++ R)) ((hh.push emptyDict).push (instObj C hh.objs.size)) := by
    have := o1.push (ao := .inst C hh.objs.size) (x := instObj C hh.objs.size) (by rw [Heap.size_push]; omega) rfl rfl
    rwa [Heap.size_push] at this
  refine codeAny_mono (h _ (hh.objs.size + 1) hh.objs.size hA.make R _ (.ref (hh.objs.size + 1) :: vs) (by rw [List.map_cons, hvs]; rfl) ⟨hs.pos, hs.2.1, hs.2.2.1, o2⟩) ?_
  intro r s' z
  rcases r with e | (v | _ | _ | _) <;> first | exact z.elim | skip
  obtain ⟨cs', b, rv, q⟩ := z
  exact ⟨nv_none rv, cs', b, q⟩
end
end Mine
end
section
open PySem PySem.W PySem.Calls PyProof.Rows
namespace Mine

section
variable {c : Cx} {i : Fi} {k : Nat} {m : Fields} {cs cs' : List Chunk}

/- ## pure expressions, by their parts -/
theorem PE_bin {l r : Expr} {op : Operator} {pos : Pos} {a b v : Value} (hl : PE c i k m cs l a) (hr : PE c i k m cs r b) (h : Op2 c i.A k cs (binaryOp op) a b nv (Is cs v)) : PE c i k m cs (.BinOp l op r pos) v :=
  EV_bin (hl.ev (hr.ev h))
theorem PE_cmp {l r : Expr} {op : CmpOp} {pos : Pos} {a b v : Value} (hl : PE c i k m cs l a) (hr : PE c i k m cs r b) (h : Op2 c i.A k cs (compareOp op) a b nv (Is cs v))
    (hm : behindInMarks op r = false := by with_unfolding_all rfl) : PE c i k m cs (.Compare l [op] [r] pos) v :=
  EV_cmp (hl.ev (hr.ev h)) hm
theorem PT_cmp {l r : Expr} {op : CmpOp} {pos : Pos} {a b : Value} {t : Bool} (hl : PE c i k m cs l a) (hr : PE c i k m cs r b) (h : Op2 c i.A k cs (compareOp op) a b nv (Is cs (.bool t)))
    (hm : behindInMarks op r = false := by with_unfolding_all rfl) : PT c i k m cs (.Compare l [op] [r] pos) t :=
  TV_cmp (hl.ev (hr.ev (h.is T_bool))) hm
theorem PT_not {e : Expr} {pos : Pos} {t : Bool} (h : PT c i k m cs e t) : PT c i k m cs (.UnaryOp .Not e pos) (!t) :=
  TV_not (h.mono fun _ _ ⟨a, b⟩ => ⟨by rw [a], b⟩)
theorem PT_plain {e : Expr} {v : Value} {t : Bool} (h : PE c i k m cs e v) (ht : Op1 c i.A k cs truthy v id (Is cs t))
    (he : ∀ env whole, isTrue e env whole = (do let v ← whole; standAt e.pos; holding [v] (truthy v)) := by intro _ _; rfl) : PT c i k m cs e t :=
  TV_plain (h.ev ht) he
theorem PT_or {x : Expr} {rest : List Expr} {pos : Pos} {p q : Bool} (h : PT c i k m cs x p) (h2 : p = false → PT c i k m cs (.BoolOp .Or rest pos) q) : PT c i k m cs (.BoolOp .Or (x :: rest) pos) (p || q) := by
  refine TV_or (h.tv ⟨fun e => ⟨by rw [e]; rfl, rfl⟩, fun e => ?_⟩)
  exact (h2 e).mono fun _ _ ⟨a, b⟩ => ⟨by rw [a, e]; rfl, b⟩
theorem PT_or_nil {pos : Pos} : PT c i k m cs (.BoolOp .Or [] pos) false := TV_or_nil ⟨rfl, rfl⟩
theorem PT_and {x : Expr} {rest : List Expr} {pos : Pos} {p q : Bool} (h : PT c i k m cs x p) (h2 : p = true → PT c i k m cs (.BoolOp .And rest pos) q) : PT c i k m cs (.BoolOp .And (x :: rest) pos) (p && q) := by
  refine TV_and (h.tv ⟨fun e => ?_, fun e => ⟨by rw [e]; rfl, rfl⟩⟩)
  exact (h2 e).mono fun _ _ ⟨a, b⟩ => ⟨by rw [a, e]; rfl, b⟩
theorem PT_and_nil {pos : Pos} : PT c i k m cs (.BoolOp .And [] pos) true := TV_and_nil ⟨rfl, rfl⟩
theorem PE_one {op : BoolOp} {e : Expr} {pos : Pos} {v : Value} (h : PE c i k m cs e v) : PE c i k m cs (.BoolOp op [e] pos) v := EV_boolop_one h
theorem PE_or {x y : Expr} {rest : List Expr} {pos : Pos} {p q : Bool} (h : PE c i k m cs x (.bool p)) (h2 : p = false → PE c i k m cs (.BoolOp .Or (y :: rest) pos) (.bool q)) : PE c i k m cs (.BoolOp .Or (x :: y :: rest) pos) (.bool (p || q)) := by
  refine EV_or (h.ev (T_bool.mono fun b cs1 ⟨e1, e2⟩ => ?_))
  subst e1 e2
  exact ⟨fun e => ⟨by rw [e]; rfl, rfl⟩, fun e => (h2 e).mono fun _ _ ⟨a, b⟩ => ⟨by rw [a, e]; rfl, b⟩⟩
theorem PE_ifexp {test body orelse : Expr} {pos : Pos} {b : Bool} {v1 v2 : Value} (ht : PT c i k m cs test b) (h1 : b = true → PE c i k m cs body v1) (h2 : b = false → PE c i k m cs orelse v2) :
    PE c i k m cs (.IfExp test body orelse pos) (if b = true then v1 else v2) := by
  refine EV_ifexp (ht.tv ⟨fun e => ?_, fun e => ?_⟩)
  · exact (h1 e).mono fun _ _ ⟨a, b⟩ => ⟨by rw [a, if_pos e], b⟩
  · exact (h2 e).mono fun _ _ ⟨a, b⟩ => ⟨by rw [a, if_neg (by rw [e]; simp)], b⟩
theorem PE_chain {l r₁ r₂ : Expr} {op₁ op₂ : CmpOp} {pos : Pos} {a b d : Value} {p q : Bool} (hl : PE c i k m cs l a) (h1 : PE c i k m cs r₁ b) (o1 : Op2 c i.A k cs (compareOp op₁) a b nv (Is cs (.bool p)))
    (h2 : PE c i k m cs r₂ d) (o2 : Op2 c i.A k cs (compareOp op₂) b d nv (Is cs (.bool q)))
    (hm : lastMarks [op₁, op₂] [r₁, r₂] = false := by with_unfolding_all rfl) : PE c i k m cs (.Compare l [op₁, op₂] [r₁, r₂] pos) (.bool (p && q)) := by
  intro hF R s hs
  refine Compare_chain (rs := []) (noE (hl hF R s hs) ?_) hm
  rintro v1 s1 ⟨cs1, g1, e1, rfl⟩
  refine chain_link (noE (h1 hF R s1 g1) ?_)
  rintro v2 s2 ⟨cs2, g2, e2, rfl⟩
  refine noE (o1 hF.2.2 _ s2 v1 v2 e1 e2 (g2.perm mid)) ?_
  rintro v3 s3 ⟨cs3, g3, e3, rfl⟩
  rw [nv_bool e3]
  refine wpAny_truthy_bool ?_
  cases p with
  | false => exact ⟨cs3, g3.perm dim, rfl, rfl⟩
  | true =>
    simp only [if_true]
    refine chain_last (noE (h2 hF R s3 (g3.perm dim)) ?_)
    rintro v4 s4 ⟨cs4, g4, e4, rfl⟩
    refine noE (o2 hF.2.2 _ s4 v2 v4 e2 e4 (g4.perm mid)) ?_
    rintro v5 s5 ⟨cs5, g5, e5, rfl⟩
    exact ⟨cs5, g5.perm dim, e5, rfl⟩
theorem PT_chain {l r₁ r₂ : Expr} {op₁ op₂ : CmpOp} {pos : Pos} {a b d : Value} {p q : Bool} (hl : PE c i k m cs l a) (h1 : PE c i k m cs r₁ b) (o1 : Op2 c i.A k cs (compareOp op₁) a b nv (Is cs (.bool p)))
    (h2 : PE c i k m cs r₂ d) (o2 : Op2 c i.A k cs (compareOp op₂) b d nv (Is cs (.bool q)))
    (hm : lastMarks [op₁, op₂] [r₁, r₂] = false := by with_unfolding_all rfl) : PT c i k m cs (.Compare l [op₁, op₂] [r₁, r₂] pos) (p && q) := by
  intro hF R s hs
  refine isTrue_chain (rs := []) (noE (hl hF R s hs) ?_) hm
  rintro v1 s1 ⟨cs1, g1, e1, rfl⟩
  refine test_link (noE (h1 hF R s1 g1) ?_)
  rintro v2 s2 ⟨cs2, g2, e2, rfl⟩
  refine noE (o1 hF.2.2 _ s2 v1 v2 e1 e2 (g2.perm mid)) ?_
  rintro v3 s3 ⟨cs3, g3, e3, rfl⟩
  rw [nv_bool e3]
  refine wpAny_truthy_bool ?_
  cases p with
  | false => exact ⟨cs3, g3.perm dim, rfl, rfl⟩
  | true =>
    simp only [if_true]
    refine test_last (noE (h2 hF R s3 (g3.perm dim)) ?_)
    rintro v4 s4 ⟨cs4, g4, e4, rfl⟩
    refine noE (o2 hF.2.2 _ s4 v2 v4 e2 e4 (g4.perm mid)) ?_
    rintro v5 s5 ⟨cs5, g5, e5, rfl⟩
    rw [nv_bool e5]
    exact wpAny_truthy_bool ⟨cs5, g5.perm dim, rfl, rfl⟩
theorem PE_attr {e : Expr} {attr : Str} {pos : Pos} {o v : Value} (h : PE c i k m cs e o) (ha : Op1 c i.A k cs (fun v => getAttr v attr true) o nv (Is cs v))
    (he : ∀ env, eval (.Attribute e attr pos) env = (do
          let o ← eval e env
          standAt pos.atName
          let r ← holding [o] (getAttr o attr true)
          letTemporaryGo e o r
          pure r) := by intro _; rfl) : PE c i k m cs (.Attribute e attr pos) v := EV_attr (h.ev ha) he
theorem PE_sub {e j : Expr} {pos : Pos} {o n v : Value} (h : PE c i k m cs e o) (hj : PE c i k m cs j n) (ha : Op2 c i.A k cs (subscriptTail e j) o n nv (Is cs v)) : PE c i k m cs (.Subscript e j pos) v := EV_sub (h.ev (hj.ev ha))
theorem PE_neg {n : Int} {u : Nat} {p pos : Pos} : PE c i k m cs (.UnaryOp .USub (.Constant (.int n) u p) pos) (.int (-n) 0) := by
  intro hF R s hs
  refine UnaryOp_ (noE (PE_int (cs := cs) hF R s hs) ?_)
  rintro v s1 ⟨cs1, h1, e1, rfl⟩
  obtain ⟨-, t, rfl⟩ := nv_int e1
  exact neg_int ⟨cs1, h1.toks (Nat.succ_pos _), rfl, rfl⟩

/- calls of built-ins, of pure arguments -/
def PEs (c : Cx) (i : Fi) (k : Nat) (m : Fields) (cs : List Chunk) (es : List Expr) (vs : List Value) : Prop := EVs c i k m cs es (fun vs' cs' => vs' = vs ∧ cs' = cs)
theorem PEs_nil : PEs c i k m cs [] [] := EVs_nil ⟨rfl, rfl⟩
theorem PEs_cons {e : Expr} {rest : List Expr} {v : Value} {vs : List Value} (h : PE c i k m cs e v) (h2 : PEs c i k m cs rest vs)
    (he : ∀ env, starEach (e :: rest) env = (false, eval e env) :: starEach rest env := by intro _; rfl) : PEs c i k m cs (e :: rest) (v :: vs) :=
  EVs_cons (h.ev (EVs.mono h2 fun _ _ ⟨a, b⟩ => ⟨by rw [a], b⟩)) he
theorem PEs.evs {es : List Expr} {vs : List Value} {Q : List Value → List Chunk → Prop} (h : PEs c i k m cs es vs) (q : Q vs cs) : EVs c i k m cs es Q :=
  EVs.mono h fun _ _ ⟨a, b⟩ => by subst a b; exact q
theorem EV_callB' {func e : Expr} {rest : List Expr} {pos : Pos} {f : String} {vs : List Value} {Q : Value → List Chunk → Prop} (hf : PE c i k m cs func (.builtin f)) (ha : PEs c i k m cs (e :: rest) vs) (h : CallV c i.A k cs (.builtin f) vs Q)
    (hc : ∀ env, eval (.Call func (e :: rest) [] pos) env = (do let f ← eval func env; callWith pos f [] (backTo pos (starEach (e :: rest) env)) (backToKw pos (keywordEach [] env))) := by intro _; rfl)
    (he : ∀ env, starEach (e :: rest) env = (false, eval e env) :: starEach rest env := by intro _; rfl)
    (hp : ∀ pos env, (backTo pos (starEach rest env)).any (·.1) = false := by intro _ _; rfl) : EV c i k m cs (.Call func (e :: rest) [] pos) Q := EV_callB hf (ha.evs h) hc he hp
theorem EV_callK' {func e : Expr} {rest : List Expr} {pos : Pos} {f : Addr} {vs : List Value} {Q : Value → List Chunk → Prop} (hf : PE c i k m cs func (.ref f)) (hk : keepIn c.K (.ref f) = true) (ha : PEs c i k m cs (e :: rest) vs) (h : CodeV c i.A k cs (.ref f) vs Q)
    (hc : ∀ env, eval (.Call func (e :: rest) [] pos) env = (do let f ← eval func env; callWith pos f [] (backTo pos (starEach (e :: rest) env)) (backToKw pos (keywordEach [] env))) := by intro _; rfl)
    (he : ∀ env, starEach (e :: rest) env = (false, eval e env) :: starEach rest env := by intro _; rfl)
    (hp : ∀ pos env, (backTo pos (starEach rest env)).any (·.1) = false := by intro _ _; rfl) : EV c i k m cs (.Call func (e :: rest) [] pos) Q := EV_callK hf hk (ha.evs h.call) hc he hp

/- methods of built-in kinds -/
theorem M_str {A : Around} {x : List Nat} {name : Str} {id : String} {Q : Value → List Value → List Chunk → Prop} (slot : Slot "str" name id) (hty : typeOf (.builtin id) = pure (.type "method_descriptor"))
    (q : Q (.builtin id) [.str ⟨x.toArray⟩ 0] cs) : GetM c A k cs (.str ⟨x.toArray⟩ 0) name Q := by
  intro _ R s a' pl ha hs
  obtain ⟨-, t, rfl⟩ := nv_str ha
  exact getMethod_builtin (typeIs_str _ _ _) F.plainAttrs_str slot hty (fun a e => by cases e) ⟨cs, hs, q⟩
theorem M_list {A : Around} {a : Addr} {vs : List Value} {name : Str} {id : String} {Q : Value → List Value → List Chunk → Prop} (h : (a, .list vs) ∈ cs) (slot : Slot "list" name id) (hty : typeOf (.builtin id) = pure (.type "method_descriptor"))
    (q : Q (.builtin id) [.ref a] cs) : GetM c A k cs (.ref a) name Q := by
  intro _ R s a' pl ha hs
  rw [nv_ref ha]
  obtain ⟨o, ho, its, n, rfl, hi⟩ := hs.at (List.mem_append_left R h)
  exact getMethod_builtin ⟨_, ho, rfl⟩ F.plainAttrs_list slot hty (fun b e => by cases e; exact ⟨_, ho, rfl⟩) ⟨cs, hs, q⟩

/-- a method call, the receiver and the arguments pure -/
theorem EV_methP {o e : Expr} {rest : List Expr} {name : Str} {apos pos : Pos} {ov : Value} {vs : List Value} {Q : Value → List Chunk → Prop} (ho : PE c i k m cs o ov) (ha : PEs c i k m cs (e :: rest) vs)
    (h : GetM c i.A k cs ov name (fun f first cs2 => cs2 = cs ∧ ((∃ b, f = .builtin b) ∨ (∃ a, f = .ref a ∧ keepIn c.K f = true)) ∧ CallV c i.A k cs f (first ++ vs) Q))
    (hc : MCall o name (e :: rest) apos pos := by intro _; exact ⟨_, rfl⟩)
    (he : ∀ env, starEach (e :: rest) env = (false, eval e env) :: starEach rest env := by intro _; rfl)
    (hp : ∀ pos env, (backTo pos (starEach rest env)).any (·.1) = false := by intro _ _; rfl) : EV c i k m cs (.Call (.Attribute o name apos) (e :: rest) [] pos) Q := by
  refine EV_meth (ho.ev ?_) hc he hp
  intro hA R s a' pl e1 hs
  refine noE (h hA R s a' pl e1 hs) ?_
  rintro fx s1 ⟨cs1, h1, rfl, h2, h3⟩
  exact ⟨cs1, h1, h2, ha.evs h3⟩
theorem EV_methP0 {o : Expr} {name : Str} {apos pos : Pos} {ov : Value} {Q : Value → List Chunk → Prop} (ho : PE c i k m cs o ov)
    (h : GetM c i.A k cs ov name (fun f first cs2 => cs2 = cs ∧ ((∃ b, f = .builtin b) ∨ (∃ a, f = .ref a ∧ keepIn c.K f = true)) ∧ CallV c i.A k cs f first Q))
    (hc : MCall o name [] apos pos := by intro _; exact ⟨_, rfl⟩) : EV c i k m cs (.Call (.Attribute o name apos) [] [] pos) Q := by
  refine EV_meth0 (ho.ev ?_) hc
  intro hA R s a' pl e1 hs
  refine noE (h hA R s a' pl e1 hs) ?_
  rintro fx s1 ⟨cs1, h1, rfl, h2, h3⟩
  exact ⟨cs1, h1, h2, h3⟩

/-- a method of an own object, called with pure arguments -/
theorem EV_instM {o e : Expr} {rest : List Expr} {name : Str} {apos pos : Pos} {x C d f : Addr} {fm : Fields} {vs : List Value} {Q : Value → List Chunk → Prop} (ho : PE c i k m cs o (.ref x)) (ha : PEs c i k m cs (e :: rest) vs)
    (hx : (x, .inst C d) ∈ cs) (hd : (d, .obj fm) ∈ cs) (hv : (name, none) ∈ fm) (hg : plainGet c.K C name = true) (hf : findIn c.K (.ref C) name = some (some (.ref f))) (hfn : isFn c.K (.ref f) = true) (hk : keepIn c.K (.ref f) = true)
    (h : CodeV c i.A k cs (.ref f) (.ref x :: vs) Q)
    (hc : MCall o name (e :: rest) apos pos := by intro _; exact ⟨_, rfl⟩)
    (he : ∀ env, starEach (e :: rest) env = (false, eval e env) :: starEach rest env := by intro _; rfl)
    (hp : ∀ pos env, (backTo pos (starEach rest env)).any (·.1) = false := by intro _ _; rfl) : EV c i k m cs (.Call (.Attribute o name apos) (e :: rest) [] pos) Q :=
  EV_methP ho ha (M_fn hx hd hv hg hf hfn ⟨rfl, .inr ⟨f, rfl, hk⟩, h.call⟩) hc he hp
theorem EV_instM0 {o : Expr} {name : Str} {apos pos : Pos} {x C d f : Addr} {fm : Fields} {Q : Value → List Chunk → Prop} (ho : PE c i k m cs o (.ref x))
    (hx : (x, .inst C d) ∈ cs) (hd : (d, .obj fm) ∈ cs) (hv : (name, none) ∈ fm) (hg : plainGet c.K C name = true) (hf : findIn c.K (.ref C) name = some (some (.ref f))) (hfn : isFn c.K (.ref f) = true) (hk : keepIn c.K (.ref f) = true)
    (h : CodeV c i.A k cs (.ref f) [.ref x] Q)
    (hc : MCall o name [] apos pos := by intro _; exact ⟨_, rfl⟩) : EV c i k m cs (.Call (.Attribute o name apos) [] [] pos) Q :=
  EV_methP0 ho (M_fn hx hd hv hg hf hfn ⟨rfl, .inr ⟨f, rfl, hk⟩, h.call⟩) hc

/-- a bound method kept in an own dict, called -/
theorem EV_ownM {o e : Expr} {rest : List Expr} {name : Str} {apos pos : Pos} {x C d f b : Addr} {fm : Fields} {vs : List Value} {attr : Option Value} {Q : Value → List Chunk → Prop} (ho : PE c i k m cs o (.ref x)) (ha : PEs c i k m cs (e :: rest) vs)
    (hx : (x, .inst C d) ∈ cs) (hd : (d, .obj fm) ∈ cs) (hv : (name, some (.ref b)) ∈ fm) (hb : (b, .bm f x) ∈ cs) (hg : plainGet c.K C name = true) (hh : hasDictIn c.K C = true) (hf : findIn c.K (.ref C) name = some attr) (hn : noGet c.K attr = true)
    (ht : attr.all (fun a => (typeIn c.K a).any fun t => t != .type "function" && t != .type "method_descriptor" && t != .type "wrapper_descriptor") = true) (hfn : fnIn c.K f = true)
    (h : CodeV c i.A k cs (.ref f) (.ref x :: vs) Q)
    (hc : MCall o name (e :: rest) apos pos := by intro _; exact ⟨_, rfl⟩)
    (he : ∀ env, starEach (e :: rest) env = (false, eval e env) :: starEach rest env := by intro _; rfl)
    (hp : ∀ pos env, (backTo pos (starEach rest env)).any (·.1) = false := by intro _ _; rfl) : EV c i k m cs (.Call (.Attribute o name apos) (e :: rest) [] pos) Q := by
  intro hF R s hs
  obtain ⟨pl, hc⟩ := hc i.env
  refine methodCall_KW (pl := pl) (noE (ho hF R s hs) ?_) hc
  rintro ov s1 ⟨cs1, h1, e1, rfl⟩
  refine noE (M_own (Q := fun f first cs2 => f = .ref b ∧ first = [] ∧ cs2 = cs1) hx hd hv hg hh hf hn rfl ht ⟨b, rfl⟩ ⟨rfl, rfl, rfl⟩ hF.2.2 _ s1 ov pl e1 (h1.perm mid)) ?_
  rintro ⟨f', first⟩ s2 ⟨cs2, h2, rfl, hfi, rfl⟩
  have h2 := h2.perm dim
  have hfi : first = [] := List.map_eq_nil_iff.mp hfi
  subst hfi
  have hh := ha hF R s2 pos h2
  rw [he] at hh
  show wpAny _ _ (callWith pos (.ref b) [] (backTo pos (starEach (e :: rest) i.env)) []) _ _ _
  rw [he]
  refine callWith_of (P := fun h => MethP c.K b f (.ref x) h) (by show ((false || (backTo pos (starEach rest i.env)).any (·.1)) || false) = false; rw [hp]; rfl) (keeps_M hfn) (Calls.evalArgs_plain (noE hh ?_))
  rintro vs' s3 ⟨cs3, h3, e3, rfl⟩
  obtain ⟨ob, hob, rfl⟩ := h3.at (List.mem_cons_of_mem _ (List.mem_append_left R hb))
  refine ⟨⟨hob, h3.inK⟩, ?_⟩
  refine noE ((K_bm hb h).call hF.2.2 _ s3 ([] ++ vs') (by simpa using e3) (h3.perm mid)) ?_
  rintro v s4 ⟨cs4, h4, q4⟩
  exact ⟨cs4, h4.perm dim, q4⟩
end
end Mine
end
section
open PySem PySem.W PyProof.Rows
namespace Mine
/- ## the head: the written part by its places in the row's own program -/
def stAt (i : Nat) : Stmt := PySem.Challenge.pw_im0056_03.main.body.getD i (.Pass ⟨0, 0, 0, 0⟩)
def stIn (i j : Nat) : Stmt := match stAt i with
  | .ClassDef _ _ _ b _ _ _ _ _ _ _ => b.getD j (.Pass ⟨0, 0, 0, 0⟩)
  | s => s
def fdArgs : Stmt → Arguments
  | .FunctionDef _ a _ _ _ _ _ _ _ _ => a
  | _ => ⟨[], [], none, [], [], none, []⟩
def fdBody : Stmt → List Stmt
  | .FunctionDef _ _ b _ _ _ _ _ _ _ => b
  | _ => []
def fdScope : Stmt → Scope
  | .FunctionDef _ _ _ _ _ _ s _ _ _ => s
  | _ => { kind := .function, names := [], isGenerator := false, isCoroutine := false }
def heapW : Params → Frag := fun P =>
  (nat_lit 2, (PySem.Obj.mk PySem.Value.none Option.none (PySem.Data.dict (List.toArray []) 0) (List.toArray []))) ::
  (nat_lit 3, (PySem.Obj.mk (PySem.Value.type "dict") Option.none (PySem.Data.dict (List.toArray [(PySem.DictEntry.mk (PySem.PyData.keyHash P (PySem.Str.ofString "__name__")) (PySem.Value.str (PySem.Str.ofString "__name__") 165) (PySem.Value.str (PySem.Str.ofString "law_im0056_03") 362)), (PySem.DictEntry.mk (PySem.PyData.keyHash P (PySem.Str.ofString "__doc__")) (PySem.Value.str (PySem.Str.ofString "__doc__") 166) PySem.Value.none), (PySem.DictEntry.mk (PySem.PyData.keyHash P (PySem.Str.ofString "__package__")) (PySem.Value.str (PySem.Str.ofString "__package__") 167) PySem.Value.none), (PySem.DictEntry.mk (PySem.PyData.keyHash P (PySem.Str.ofString "__loader__")) (PySem.Value.str (PySem.Str.ofString "__loader__") 168) (PySem.Value.builtin "__main__.__loader__#opaque")), (PySem.DictEntry.mk (PySem.PyData.keyHash P (PySem.Str.ofString "__spec__")) (PySem.Value.str (PySem.Str.ofString "__spec__") 169) PySem.Value.none), (PySem.DictEntry.mk (PySem.PyData.keyHash P (PySem.Str.ofString "__annotations__")) (PySem.Value.str (PySem.Str.ofString "__annotations__") 170) (PySem.Value.ref 6)), (PySem.DictEntry.mk (PySem.PyData.keyHash P (PySem.Str.ofString "__builtins__")) (PySem.Value.str (PySem.Str.ofString "__builtins__") 171) (PySem.Value.ref 4)), (PySem.DictEntry.mk (PySem.PyData.keyHash P (PySem.Str.ofString "__file__")) (PySem.Value.str (PySem.Str.ofString "__file__") 173) (PySem.Value.str (PySem.Str.ofString "/claim/cut.py") 172)), (PySem.DictEntry.mk (PySem.PyData.keyHash P (PySem.Str.ofString "__cached__")) (PySem.Value.str (PySem.Str.ofString "__cached__") 174) PySem.Value.none), (PySem.DictEntry.mk (PySem.PyData.keyHash P (PySem.Str.ofString "EOF")) (PySem.Value.str (PySem.Str.ofString "EOF") 187) PySem.Value.none), (PySem.DictEntry.mk (PySem.PyData.keyHash P (PySem.Str.ofString "Text")) (PySem.Value.str (PySem.Str.ofString "Text") 228) (PySem.Value.ref 38)), (PySem.DictEntry.mk (PySem.PyData.keyHash P (PySem.Str.ofString "_is_invalid")) (PySem.Value.str (PySem.Str.ofString "_is_invalid") 235) (PySem.Value.ref 49)), (PySem.DictEntry.mk (PySem.PyData.keyHash P (PySem.Str.ofString "HTMLUnicodeInputStream")) (PySem.Value.str (PySem.Str.ofString "HTMLUnicodeInputStream") 361) (PySem.Value.ref 131)), (PySem.DictEntry.mk (PySem.PyData.keyHash P (PySem.Str.ofString "_law_SIGNS")) (PySem.Value.str (PySem.Str.ofString "_law_SIGNS") 374) (PySem.Value.ref 136)), (PySem.DictEntry.mk (PySem.PyData.keyHash P (PySem.Str.ofString "_law_QUOTES")) (PySem.Value.str (PySem.Str.ofString "_law_QUOTES") 378) (PySem.Value.ref 137)), (PySem.DictEntry.mk (PySem.PyData.keyHash P (PySem.Str.ofString "_law_ENDS")) (PySem.Value.str (PySem.Str.ofString "_law_ENDS") 384) (PySem.Value.ref 144)), (PySem.DictEntry.mk (PySem.PyData.keyHash P (PySem.Str.ofString "_law_faulty")) (PySem.Value.str (PySem.Str.ofString "_law_faulty") 391) (PySem.Value.ref 151)), (PySem.DictEntry.mk (PySem.PyData.keyHash P (PySem.Str.ofString "_law_value")) (PySem.Value.str (PySem.Str.ofString "_law_value") 397) (PySem.Value.ref 156)), (PySem.DictEntry.mk (PySem.PyData.keyHash P (PySem.Str.ofString "_law_field")) (PySem.Value.str (PySem.Str.ofString "_law_field") 403) (PySem.Value.ref 161)), (PySem.DictEntry.mk (PySem.PyData.keyHash P (PySem.Str.ofString "_law_written")) (PySem.Value.str (PySem.Str.ofString "_law_written") 415) (PySem.Value.ref 168)), (PySem.DictEntry.mk (PySem.PyData.keyHash P (PySem.Str.ofString "_law_spot")) (PySem.Value.str (PySem.Str.ofString "_law_spot") 423) (PySem.Value.ref 175)), (PySem.DictEntry.mk (PySem.PyData.keyHash P (PySem.Str.ofString "_law_filled")) (PySem.Value.str (PySem.Str.ofString "_law_filled") 431) (PySem.Value.ref 182)), (PySem.DictEntry.mk (PySem.PyData.keyHash P (PySem.Str.ofString "_law_read")) (PySem.Value.str (PySem.Str.ofString "_law_read") 442) (PySem.Value.ref 189)), (PySem.DictEntry.mk (PySem.PyData.keyHash P (PySem.Str.ofString "law")) (PySem.Value.str (PySem.Str.ofString "law") 448) (PySem.Value.ref 194))]) 24) (List.toArray []))) ::
  (nat_lit 15, (PySem.Obj.mk (PySem.Value.type "tuple") Option.none (PySem.Data.seq (List.toArray [(PySem.Value.type "object")]) 0) (List.toArray []))) ::
  (nat_lit 22, (PySem.Obj.mk (PySem.Value.type "tuple") Option.none (PySem.Data.seq (List.toArray []) 0) (List.toArray []))) ::
  (nat_lit 24, (PySem.Obj.mk (PySem.Value.type "tuple") Option.none (PySem.Data.seq (List.toArray [(PySem.Value.str (PySem.Str.ofString "self") 205), (PySem.Value.str (PySem.Str.ofString "text") 206)]) 0) (List.toArray []))) ::
  (nat_lit 25, (PySem.Obj.mk (PySem.Value.type "tuple") Option.none (PySem.Data.seq (List.toArray []) 0) (List.toArray []))) ::
  (nat_lit 27, (PySem.Obj.mk (PySem.Value.type "code") Option.none (PySem.Data.fields (List.toArray [(PySem.Value.str (PySem.Str.ofString "__init__") 202), (PySem.Value.str (PySem.Str.ofString "Text.__init__") 203), (PySem.Value.str (PySem.Str.ofString "/claim/cut.py") 204), (PySem.Value.int 5 0), (PySem.Value.int 2 0), (PySem.Value.int 0 0), (PySem.Value.int 0 0), (PySem.Value.int 3 0), (PySem.Value.ref 22), (PySem.Value.bool Bool.true), (PySem.Value.int 181 0), (PySem.Value.ref 23), PySem.Value.none, (PySem.Value.ref 24), (PySem.Value.ref 25), (PySem.Value.ref 26), (PySem.Value.int 207 0), (PySem.Value.int 5 0), (PySem.Value.str (PySem.Str.ofString "/claim/cut.py") 208)])) (List.toArray []))) ::
  (nat_lit 28, (PySem.Obj.mk (PySem.Value.type "function") Option.none (PySem.Data.func (PySem.FuncData.mk (PySem.Str.ofString "__init__") (PySem.Str.ofString "Text.__init__") (fdArgs (stIn 2 0)) (.stmts (fdBody (stIn 2 0))) (fdScope (stIn 2 0)) 3 [] PySem.Value.none PySem.Value.none PySem.Value.none (PySem.Value.str (PySem.Str.ofString "html5lib._inputstream") 188) Option.none (PySem.Value.ref 27) PySem.Value.none 0)) (List.toArray []))) ::
  (nat_lit 29, (PySem.Obj.mk (PySem.Value.type "tuple") Option.none (PySem.Data.seq (List.toArray []) 0) (List.toArray []))) ::
  (nat_lit 31, (PySem.Obj.mk (PySem.Value.type "tuple") Option.none (PySem.Data.seq (List.toArray [(PySem.Value.str (PySem.Str.ofString "self") 213), (PySem.Value.str (PySem.Str.ofString "size") 214), (PySem.Value.str (PySem.Str.ofString "part") 215)]) 0) (List.toArray []))) ::
  (nat_lit 32, (PySem.Obj.mk (PySem.Value.type "tuple") Option.none (PySem.Data.seq (List.toArray []) 0) (List.toArray []))) ::
  (nat_lit 34, (PySem.Obj.mk (PySem.Value.type "code") Option.none (PySem.Data.fields (List.toArray [(PySem.Value.str (PySem.Str.ofString "read") 210), (PySem.Value.str (PySem.Str.ofString "Text.read") 211), (PySem.Value.str (PySem.Str.ofString "/claim/cut.py") 212), (PySem.Value.int 9 0), (PySem.Value.int 2 0), (PySem.Value.int 0 0), (PySem.Value.int 0 0), (PySem.Value.int 3 0), (PySem.Value.ref 29), (PySem.Value.bool Bool.true), (PySem.Value.int 181 0), (PySem.Value.ref 30), PySem.Value.none, (PySem.Value.ref 31), (PySem.Value.ref 32), (PySem.Value.ref 33), (PySem.Value.int 216 0), (PySem.Value.int 9 0), (PySem.Value.str (PySem.Str.ofString "/claim/cut.py") 217)])) (List.toArray []))) ::
  (nat_lit 35, (PySem.Obj.mk (PySem.Value.type "function") Option.none (PySem.Data.func (PySem.FuncData.mk (PySem.Str.ofString "read") (PySem.Str.ofString "Text.read") (fdArgs (stIn 2 1)) (.stmts (fdBody (stIn 2 1))) (fdScope (stIn 2 1)) 3 [] PySem.Value.none PySem.Value.none PySem.Value.none (PySem.Value.str (PySem.Str.ofString "html5lib._inputstream") 188) Option.none (PySem.Value.ref 34) PySem.Value.none 0)) (List.toArray []))) ::
  (nat_lit 36, (PySem.Obj.mk (PySem.Value.type "tuple") Option.none (PySem.Data.seq (List.toArray [(PySem.Value.str (PySem.Str.ofString "place") 219), (PySem.Value.str (PySem.Str.ofString "text") 220)]) 0) (List.toArray []))) ::
  (nat_lit 37, (PySem.Obj.mk (PySem.Value.type "dict") Option.none (PySem.Data.dict (List.toArray [(PySem.DictEntry.mk (PySem.PyData.keyHash P (PySem.Str.ofString "__module__")) (PySem.Value.str (PySem.Str.ofString "__module__") 197) (PySem.Value.str (PySem.Str.ofString "html5lib._inputstream") 188)), (PySem.DictEntry.mk (PySem.PyData.keyHash P (PySem.Str.ofString "__firstlineno__")) (PySem.Value.str (PySem.Str.ofString "__firstlineno__") 201) (PySem.Value.int 3 200)), (PySem.DictEntry.mk (PySem.PyData.keyHash P (PySem.Str.ofString "__init__")) (PySem.Value.str (PySem.Str.ofString "__init__") 209) (PySem.Value.ref 28)), (PySem.DictEntry.mk (PySem.PyData.keyHash P (PySem.Str.ofString "read")) (PySem.Value.str (PySem.Str.ofString "read") 218) (PySem.Value.ref 35)), (PySem.DictEntry.mk (PySem.PyData.keyHash P (PySem.Str.ofString "__static_attributes__")) (PySem.Value.str (PySem.Str.ofString "__static_attributes__") 221) (PySem.Value.ref 36)), (PySem.DictEntry.mk (PySem.PyData.keyHash P (PySem.Str.ofString "__dict__")) (PySem.Value.str (PySem.Str.ofString "__dict__") 223) (PySem.Value.ref 39)), (PySem.DictEntry.mk (PySem.PyData.keyHash P (PySem.Str.ofString "__weakref__")) (PySem.Value.str (PySem.Str.ofString "__weakref__") 225) (PySem.Value.ref 40)), (PySem.DictEntry.mk (PySem.PyData.keyHash P (PySem.Str.ofString "__doc__")) (PySem.Value.str (PySem.Str.ofString "__doc__") 226) PySem.Value.none)]) 4) (List.toArray []))) ::
  (nat_lit 38, (PySem.Obj.mk (PySem.Value.type "type") Option.none (PySem.Data.cls (PySem.ClassData.mk (PySem.Str.ofString "Text") [(PySem.Value.type "object")] [(PySem.Value.ref 38), (PySem.Value.type "object")] 37 (PySem.Str.ofString "Text") Bool.true [] [] Bool.false Option.none Bool.false)) (List.toArray [(Option.some (PySem.Value.ref 15)), Option.none, (Option.some (PySem.Value.str (PySem.Str.ofString "Text") 190)), (Option.some (PySem.Value.str (PySem.Str.ofString "Text") 198)), (Option.some (PySem.Value.builtin "object.__new__")), (Option.some (PySem.Value.bool Bool.true))]))) ::
  (nat_lit 39, (PySem.Obj.mk (PySem.Value.type "getset_descriptor") Option.none (PySem.Data.fields (List.toArray [(PySem.Value.str (PySem.Str.ofString "__dict__") 222), (PySem.Value.ref 38), (PySem.Value.builtin "function.__dict__"), (PySem.Value.builtin "function.__dict__#set")])) (List.toArray []))) ::
  (nat_lit 40, (PySem.Obj.mk (PySem.Value.type "getset_descriptor") Option.none (PySem.Data.fields (List.toArray [(PySem.Value.str (PySem.Str.ofString "__weakref__") 224), (PySem.Value.ref 38), (PySem.Value.builtin "ExceptionGroup.__weakref__"), PySem.Value.none])) (List.toArray []))) ::
  (nat_lit 43, (PySem.Obj.mk (PySem.Value.type "tuple") Option.none (PySem.Data.seq (List.toArray []) 0) (List.toArray []))) ::
  (nat_lit 45, (PySem.Obj.mk (PySem.Value.type "tuple") Option.none (PySem.Data.seq (List.toArray [(PySem.Value.str (PySem.Str.ofString "codepoint") 232)]) 0) (List.toArray []))) ::
  (nat_lit 46, (PySem.Obj.mk (PySem.Value.type "tuple") Option.none (PySem.Data.seq (List.toArray []) 0) (List.toArray []))) ::
  (nat_lit 48, (PySem.Obj.mk (PySem.Value.type "code") Option.none (PySem.Data.fields (List.toArray [(PySem.Value.str (PySem.Str.ofString "_is_invalid") 229), (PySem.Value.str (PySem.Str.ofString "_is_invalid") 230), (PySem.Value.str (PySem.Str.ofString "/claim/cut.py") 231), (PySem.Value.int 13 0), (PySem.Value.int 1 0), (PySem.Value.int 0 0), (PySem.Value.int 0 0), (PySem.Value.int 3 0), (PySem.Value.ref 43), (PySem.Value.bool Bool.true), (PySem.Value.int 181 0), (PySem.Value.ref 44), PySem.Value.none, (PySem.Value.ref 45), (PySem.Value.ref 46), (PySem.Value.ref 47), (PySem.Value.int 233 0), (PySem.Value.int 13 0), (PySem.Value.str (PySem.Str.ofString "/claim/cut.py") 234)])) (List.toArray []))) ::
  (nat_lit 49, (PySem.Obj.mk (PySem.Value.type "function") Option.none (PySem.Data.func (PySem.FuncData.mk (PySem.Str.ofString "_is_invalid") (PySem.Str.ofString "_is_invalid") (fdArgs (stAt 3)) (.stmts (fdBody (stAt 3))) (fdScope (stAt 3)) 3 [] PySem.Value.none PySem.Value.none PySem.Value.none (PySem.Value.str (PySem.Str.ofString "html5lib._inputstream") 188) Option.none (PySem.Value.ref 48) PySem.Value.none 0)) (List.toArray []))) ::
  (nat_lit 50, (PySem.Obj.mk (PySem.Value.type "tuple") Option.none (PySem.Data.seq (List.toArray [(PySem.Value.type "object")]) 0) (List.toArray []))) ::
  (nat_lit 57, (PySem.Obj.mk (PySem.Value.type "tuple") Option.none (PySem.Data.seq (List.toArray []) 0) (List.toArray []))) ::
  (nat_lit 59, (PySem.Obj.mk (PySem.Value.type "tuple") Option.none (PySem.Data.seq (List.toArray [(PySem.Value.str (PySem.Str.ofString "self") 253), (PySem.Value.str (PySem.Str.ofString "source") 254)]) 0) (List.toArray []))) ::
  (nat_lit 60, (PySem.Obj.mk (PySem.Value.type "tuple") Option.none (PySem.Data.seq (List.toArray []) 0) (List.toArray []))) ::
  (nat_lit 62, (PySem.Obj.mk (PySem.Value.type "code") Option.none (PySem.Data.fields (List.toArray [(PySem.Value.str (PySem.Str.ofString "__init__") 250), (PySem.Value.str (PySem.Str.ofString "HTMLUnicodeInputStream.__init__") 251), (PySem.Value.str (PySem.Str.ofString "/claim/cut.py") 252), (PySem.Value.int 18 0), (PySem.Value.int 2 0), (PySem.Value.int 0 0), (PySem.Value.int 0 0), (PySem.Value.int 3 0), (PySem.Value.ref 57), (PySem.Value.bool Bool.true), (PySem.Value.int 181 0), (PySem.Value.ref 58), PySem.Value.none, (PySem.Value.ref 59), (PySem.Value.ref 60), (PySem.Value.ref 61), (PySem.Value.int 255 0), (PySem.Value.int 18 0), (PySem.Value.str (PySem.Str.ofString "/claim/cut.py") 256)])) (List.toArray []))) ::
  (nat_lit 63, (PySem.Obj.mk (PySem.Value.type "function") Option.none (PySem.Data.func (PySem.FuncData.mk (PySem.Str.ofString "__init__") (PySem.Str.ofString "HTMLUnicodeInputStream.__init__") (fdArgs (stIn 4 1)) (.stmts (fdBody (stIn 4 1))) (fdScope (stIn 4 1)) 3 [] PySem.Value.none PySem.Value.none PySem.Value.none (PySem.Value.str (PySem.Str.ofString "html5lib._inputstream") 188) Option.none (PySem.Value.ref 62) PySem.Value.none 0)) (List.toArray []))) ::
  (nat_lit 64, (PySem.Obj.mk (PySem.Value.type "tuple") Option.none (PySem.Data.seq (List.toArray []) 0) (List.toArray []))) ::
  (nat_lit 66, (PySem.Obj.mk (PySem.Value.type "tuple") Option.none (PySem.Data.seq (List.toArray [(PySem.Value.str (PySem.Str.ofString "self") 261)]) 0) (List.toArray []))) ::
  (nat_lit 67, (PySem.Obj.mk (PySem.Value.type "tuple") Option.none (PySem.Data.seq (List.toArray []) 0) (List.toArray []))) ::
  (nat_lit 69, (PySem.Obj.mk (PySem.Value.type "code") Option.none (PySem.Data.fields (List.toArray [(PySem.Value.str (PySem.Str.ofString "reset") 258), (PySem.Value.str (PySem.Str.ofString "HTMLUnicodeInputStream.reset") 259), (PySem.Value.str (PySem.Str.ofString "/claim/cut.py") 260), (PySem.Value.int 24 0), (PySem.Value.int 1 0), (PySem.Value.int 0 0), (PySem.Value.int 0 0), (PySem.Value.int 3 0), (PySem.Value.ref 64), (PySem.Value.bool Bool.true), (PySem.Value.int 181 0), (PySem.Value.ref 65), PySem.Value.none, (PySem.Value.ref 66), (PySem.Value.ref 67), (PySem.Value.ref 68), (PySem.Value.int 262 0), (PySem.Value.int 24 0), (PySem.Value.str (PySem.Str.ofString "/claim/cut.py") 263)])) (List.toArray []))) ::
  (nat_lit 70, (PySem.Obj.mk (PySem.Value.type "function") Option.none (PySem.Data.func (PySem.FuncData.mk (PySem.Str.ofString "reset") (PySem.Str.ofString "HTMLUnicodeInputStream.reset") (fdArgs (stIn 4 2)) (.stmts (fdBody (stIn 4 2))) (fdScope (stIn 4 2)) 3 [] PySem.Value.none PySem.Value.none PySem.Value.none (PySem.Value.str (PySem.Str.ofString "html5lib._inputstream") 188) Option.none (PySem.Value.ref 69) PySem.Value.none 0)) (List.toArray []))) ::
  (nat_lit 71, (PySem.Obj.mk (PySem.Value.type "tuple") Option.none (PySem.Data.seq (List.toArray []) 0) (List.toArray []))) ::
  (nat_lit 73, (PySem.Obj.mk (PySem.Value.type "tuple") Option.none (PySem.Data.seq (List.toArray [(PySem.Value.str (PySem.Str.ofString "self") 268), (PySem.Value.str (PySem.Str.ofString "source") 269), (PySem.Value.str (PySem.Str.ofString "stream") 270)]) 0) (List.toArray []))) ::
  (nat_lit 74, (PySem.Obj.mk (PySem.Value.type "tuple") Option.none (PySem.Data.seq (List.toArray []) 0) (List.toArray []))) ::
  (nat_lit 76, (PySem.Obj.mk (PySem.Value.type "code") Option.none (PySem.Data.fields (List.toArray [(PySem.Value.str (PySem.Str.ofString "openStream") 265), (PySem.Value.str (PySem.Str.ofString "HTMLUnicodeInputStream.openStream") 266), (PySem.Value.str (PySem.Str.ofString "/claim/cut.py") 267), (PySem.Value.int 33 0), (PySem.Value.int 2 0), (PySem.Value.int 0 0), (PySem.Value.int 0 0), (PySem.Value.int 3 0), (PySem.Value.ref 71), (PySem.Value.bool Bool.true), (PySem.Value.int 181 0), (PySem.Value.ref 72), PySem.Value.none, (PySem.Value.ref 73), (PySem.Value.ref 74), (PySem.Value.ref 75), (PySem.Value.int 271 0), (PySem.Value.int 33 0), (PySem.Value.str (PySem.Str.ofString "/claim/cut.py") 272)])) (List.toArray []))) ::
  (nat_lit 77, (PySem.Obj.mk (PySem.Value.type "function") Option.none (PySem.Data.func (PySem.FuncData.mk (PySem.Str.ofString "openStream") (PySem.Str.ofString "HTMLUnicodeInputStream.openStream") (fdArgs (stIn 4 3)) (.stmts (fdBody (stIn 4 3))) (fdScope (stIn 4 3)) 3 [] PySem.Value.none PySem.Value.none PySem.Value.none (PySem.Value.str (PySem.Str.ofString "html5lib._inputstream") 188) Option.none (PySem.Value.ref 76) PySem.Value.none 0)) (List.toArray []))) ::
  (nat_lit 78, (PySem.Obj.mk (PySem.Value.type "tuple") Option.none (PySem.Data.seq (List.toArray []) 0) (List.toArray []))) ::
  (nat_lit 80, (PySem.Obj.mk (PySem.Value.type "tuple") Option.none (PySem.Data.seq (List.toArray [(PySem.Value.str (PySem.Str.ofString "self") 277), (PySem.Value.str (PySem.Str.ofString "offset") 278), (PySem.Value.str (PySem.Str.ofString "chunk") 279), (PySem.Value.str (PySem.Str.ofString "nLines") 280), (PySem.Value.str (PySem.Str.ofString "positionLine") 281), (PySem.Value.str (PySem.Str.ofString "lastLinePos") 282), (PySem.Value.str (PySem.Str.ofString "positionColumn") 283)]) 0) (List.toArray []))) ::
  (nat_lit 81, (PySem.Obj.mk (PySem.Value.type "tuple") Option.none (PySem.Data.seq (List.toArray []) 0) (List.toArray []))) ::
  (nat_lit 83, (PySem.Obj.mk (PySem.Value.type "code") Option.none (PySem.Data.fields (List.toArray [(PySem.Value.str (PySem.Str.ofString "_position") 274), (PySem.Value.str (PySem.Str.ofString "HTMLUnicodeInputStream._position") 275), (PySem.Value.str (PySem.Str.ofString "/claim/cut.py") 276), (PySem.Value.int 37 0), (PySem.Value.int 2 0), (PySem.Value.int 0 0), (PySem.Value.int 0 0), (PySem.Value.int 3 0), (PySem.Value.ref 78), (PySem.Value.bool Bool.true), (PySem.Value.int 181 0), (PySem.Value.ref 79), PySem.Value.none, (PySem.Value.ref 80), (PySem.Value.ref 81), (PySem.Value.ref 82), (PySem.Value.int 284 0), (PySem.Value.int 37 0), (PySem.Value.str (PySem.Str.ofString "/claim/cut.py") 285)])) (List.toArray []))) ::
  (nat_lit 84, (PySem.Obj.mk (PySem.Value.type "function") Option.none (PySem.Data.func (PySem.FuncData.mk (PySem.Str.ofString "_position") (PySem.Str.ofString "HTMLUnicodeInputStream._position") (fdArgs (stIn 4 4)) (.stmts (fdBody (stIn 4 4))) (fdScope (stIn 4 4)) 3 [] PySem.Value.none PySem.Value.none PySem.Value.none (PySem.Value.str (PySem.Str.ofString "html5lib._inputstream") 188) Option.none (PySem.Value.ref 83) PySem.Value.none 0)) (List.toArray []))) ::
  (nat_lit 85, (PySem.Obj.mk (PySem.Value.type "tuple") Option.none (PySem.Data.seq (List.toArray []) 0) (List.toArray []))) ::
  (nat_lit 87, (PySem.Obj.mk (PySem.Value.type "tuple") Option.none (PySem.Data.seq (List.toArray [(PySem.Value.str (PySem.Str.ofString "self") 290), (PySem.Value.str (PySem.Str.ofString "line") 291), (PySem.Value.str (PySem.Str.ofString "col") 292)]) 0) (List.toArray []))) ::
  (nat_lit 88, (PySem.Obj.mk (PySem.Value.type "tuple") Option.none (PySem.Data.seq (List.toArray []) 0) (List.toArray []))) ::
  (nat_lit 90, (PySem.Obj.mk (PySem.Value.type "code") Option.none (PySem.Data.fields (List.toArray [(PySem.Value.str (PySem.Str.ofString "position") 287), (PySem.Value.str (PySem.Str.ofString "HTMLUnicodeInputStream.position") 288), (PySem.Value.str (PySem.Str.ofString "/claim/cut.py") 289), (PySem.Value.int 48 0), (PySem.Value.int 1 0), (PySem.Value.int 0 0), (PySem.Value.int 0 0), (PySem.Value.int 3 0), (PySem.Value.ref 85), (PySem.Value.bool Bool.true), (PySem.Value.int 181 0), (PySem.Value.ref 86), PySem.Value.none, (PySem.Value.ref 87), (PySem.Value.ref 88), (PySem.Value.ref 89), (PySem.Value.int 293 0), (PySem.Value.int 48 0), (PySem.Value.str (PySem.Str.ofString "/claim/cut.py") 294)])) (List.toArray []))) ::
  (nat_lit 91, (PySem.Obj.mk (PySem.Value.type "function") Option.none (PySem.Data.func (PySem.FuncData.mk (PySem.Str.ofString "position") (PySem.Str.ofString "HTMLUnicodeInputStream.position") (fdArgs (stIn 4 5)) (.stmts (fdBody (stIn 4 5))) (fdScope (stIn 4 5)) 3 [] PySem.Value.none PySem.Value.none PySem.Value.none (PySem.Value.str (PySem.Str.ofString "html5lib._inputstream") 188) Option.none (PySem.Value.ref 90) PySem.Value.none 0)) (List.toArray []))) ::
  (nat_lit 92, (PySem.Obj.mk (PySem.Value.type "tuple") Option.none (PySem.Data.seq (List.toArray []) 0) (List.toArray []))) ::
  (nat_lit 94, (PySem.Obj.mk (PySem.Value.type "tuple") Option.none (PySem.Data.seq (List.toArray [(PySem.Value.str (PySem.Str.ofString "self") 299), (PySem.Value.str (PySem.Str.ofString "chunkOffset") 300), (PySem.Value.str (PySem.Str.ofString "char") 301)]) 0) (List.toArray []))) ::
  (nat_lit 95, (PySem.Obj.mk (PySem.Value.type "tuple") Option.none (PySem.Data.seq (List.toArray []) 0) (List.toArray []))) ::
  (nat_lit 97, (PySem.Obj.mk (PySem.Value.type "code") Option.none (PySem.Data.fields (List.toArray [(PySem.Value.str (PySem.Str.ofString "char") 296), (PySem.Value.str (PySem.Str.ofString "HTMLUnicodeInputStream.char") 297), (PySem.Value.str (PySem.Str.ofString "/claim/cut.py") 298), (PySem.Value.int 52 0), (PySem.Value.int 1 0), (PySem.Value.int 0 0), (PySem.Value.int 0 0), (PySem.Value.int 3 0), (PySem.Value.ref 92), (PySem.Value.bool Bool.true), (PySem.Value.int 181 0), (PySem.Value.ref 93), PySem.Value.none, (PySem.Value.ref 94), (PySem.Value.ref 95), (PySem.Value.ref 96), (PySem.Value.int 302 0), (PySem.Value.int 52 0), (PySem.Value.str (PySem.Str.ofString "/claim/cut.py") 303)])) (List.toArray []))) ::
  (nat_lit 98, (PySem.Obj.mk (PySem.Value.type "function") Option.none (PySem.Data.func (PySem.FuncData.mk (PySem.Str.ofString "char") (PySem.Str.ofString "HTMLUnicodeInputStream.char") (fdArgs (stIn 4 6)) (.stmts (fdBody (stIn 4 6))) (fdScope (stIn 4 6)) 3 [] PySem.Value.none PySem.Value.none PySem.Value.none (PySem.Value.str (PySem.Str.ofString "html5lib._inputstream") 188) Option.none (PySem.Value.ref 97) PySem.Value.none 0)) (List.toArray []))) ::
  (nat_lit 99, (PySem.Obj.mk (PySem.Value.type "tuple") Option.none (PySem.Data.seq (List.toArray [PySem.Value.none]) 0) (List.toArray []))) ::
  (nat_lit 100, (PySem.Obj.mk (PySem.Value.type "tuple") Option.none (PySem.Data.seq (List.toArray []) 0) (List.toArray []))) ::
  (nat_lit 102, (PySem.Obj.mk (PySem.Value.type "tuple") Option.none (PySem.Data.seq (List.toArray [(PySem.Value.str (PySem.Str.ofString "self") 308), (PySem.Value.str (PySem.Str.ofString "chunkSize") 309), (PySem.Value.str (PySem.Str.ofString "data") 310), (PySem.Value.str (PySem.Str.ofString "lastv") 311)]) 0) (List.toArray []))) ::
  (nat_lit 103, (PySem.Obj.mk (PySem.Value.type "tuple") Option.none (PySem.Data.seq (List.toArray []) 0) (List.toArray []))) ::
  (nat_lit 105, (PySem.Obj.mk (PySem.Value.type "code") Option.none (PySem.Data.fields (List.toArray [(PySem.Value.str (PySem.Str.ofString "readChunk") 305), (PySem.Value.str (PySem.Str.ofString "HTMLUnicodeInputStream.readChunk") 306), (PySem.Value.str (PySem.Str.ofString "/claim/cut.py") 307), (PySem.Value.int 61 0), (PySem.Value.int 2 0), (PySem.Value.int 0 0), (PySem.Value.int 0 0), (PySem.Value.int 3 0), (PySem.Value.ref 100), (PySem.Value.bool Bool.true), (PySem.Value.int 181 0), (PySem.Value.ref 101), PySem.Value.none, (PySem.Value.ref 102), (PySem.Value.ref 103), (PySem.Value.ref 104), (PySem.Value.int 312 0), (PySem.Value.int 61 0), (PySem.Value.str (PySem.Str.ofString "/claim/cut.py") 313)])) (List.toArray []))) ::
  (nat_lit 106, (PySem.Obj.mk (PySem.Value.type "function") Option.none (PySem.Data.func (PySem.FuncData.mk (PySem.Str.ofString "readChunk") (PySem.Str.ofString "HTMLUnicodeInputStream.readChunk") (fdArgs (stIn 4 7)) (.stmts (fdBody (stIn 4 7))) (fdScope (stIn 4 7)) 3 [] (PySem.Value.ref 99) PySem.Value.none PySem.Value.none (PySem.Value.str (PySem.Str.ofString "html5lib._inputstream") 188) Option.none (PySem.Value.ref 105) PySem.Value.none 0)) (List.toArray []))) ::
  (nat_lit 107, (PySem.Obj.mk (PySem.Value.type "tuple") Option.none (PySem.Data.seq (List.toArray []) 0) (List.toArray []))) ::
  (nat_lit 109, (PySem.Obj.mk (PySem.Value.type "tuple") Option.none (PySem.Data.seq (List.toArray [(PySem.Value.str (PySem.Str.ofString "self") 318), (PySem.Value.str (PySem.Str.ofString "data") 319), (PySem.Value.str (PySem.Str.ofString "c") 320)]) 0) (List.toArray []))) ::
  (nat_lit 110, (PySem.Obj.mk (PySem.Value.type "tuple") Option.none (PySem.Data.seq (List.toArray []) 0) (List.toArray []))) ::
  (nat_lit 112, (PySem.Obj.mk (PySem.Value.type "code") Option.none (PySem.Data.fields (List.toArray [(PySem.Value.str (PySem.Str.ofString "characterErrorsUCS4") 315), (PySem.Value.str (PySem.Str.ofString "HTMLUnicodeInputStream.characterErrorsUCS4") 316), (PySem.Value.str (PySem.Str.ofString "/claim/cut.py") 317), (PySem.Value.int 87 0), (PySem.Value.int 2 0), (PySem.Value.int 0 0), (PySem.Value.int 0 0), (PySem.Value.int 3 0), (PySem.Value.ref 107), (PySem.Value.bool Bool.true), (PySem.Value.int 181 0), (PySem.Value.ref 108), PySem.Value.none, (PySem.Value.ref 109), (PySem.Value.ref 110), (PySem.Value.ref 111), (PySem.Value.int 321 0), (PySem.Value.int 87 0), (PySem.Value.str (PySem.Str.ofString "/claim/cut.py") 322)])) (List.toArray []))) ::
  (nat_lit 113, (PySem.Obj.mk (PySem.Value.type "function") Option.none (PySem.Data.func (PySem.FuncData.mk (PySem.Str.ofString "characterErrorsUCS4") (PySem.Str.ofString "HTMLUnicodeInputStream.characterErrorsUCS4") (fdArgs (stIn 4 8)) (.stmts (fdBody (stIn 4 8))) (fdScope (stIn 4 8)) 3 [] PySem.Value.none PySem.Value.none PySem.Value.none (PySem.Value.str (PySem.Str.ofString "html5lib._inputstream") 188) Option.none (PySem.Value.ref 112) PySem.Value.none 0)) (List.toArray []))) ::
  (nat_lit 114, (PySem.Obj.mk (PySem.Value.type "tuple") Option.none (PySem.Data.seq (List.toArray [(PySem.Value.bool Bool.false)]) 0) (List.toArray []))) ::
  (nat_lit 115, (PySem.Obj.mk (PySem.Value.type "tuple") Option.none (PySem.Data.seq (List.toArray []) 0) (List.toArray []))) ::
  (nat_lit 117, (PySem.Obj.mk (PySem.Value.type "tuple") Option.none (PySem.Data.seq (List.toArray [(PySem.Value.str (PySem.Str.ofString "self") 327), (PySem.Value.str (PySem.Str.ofString "characters") 328), (PySem.Value.str (PySem.Str.ofString "opposite") 329), (PySem.Value.str (PySem.Str.ofString "rv") 330), (PySem.Value.str (PySem.Str.ofString "end") 331), (PySem.Value.str (PySem.Str.ofString "r") 332)]) 0) (List.toArray []))) ::
  (nat_lit 118, (PySem.Obj.mk (PySem.Value.type "tuple") Option.none (PySem.Data.seq (List.toArray []) 0) (List.toArray []))) ::
  (nat_lit 120, (PySem.Obj.mk (PySem.Value.type "code") Option.none (PySem.Data.fields (List.toArray [(PySem.Value.str (PySem.Str.ofString "charsUntil") 324), (PySem.Value.str (PySem.Str.ofString "HTMLUnicodeInputStream.charsUntil") 325), (PySem.Value.str (PySem.Str.ofString "/claim/cut.py") 326), (PySem.Value.int 92 0), (PySem.Value.int 3 0), (PySem.Value.int 0 0), (PySem.Value.int 0 0), (PySem.Value.int 3 0), (PySem.Value.ref 115), (PySem.Value.bool Bool.true), (PySem.Value.int 181 0), (PySem.Value.ref 116), PySem.Value.none, (PySem.Value.ref 117), (PySem.Value.ref 118), (PySem.Value.ref 119), (PySem.Value.int 333 0), (PySem.Value.int 92 0), (PySem.Value.str (PySem.Str.ofString "/claim/cut.py") 334)])) (List.toArray []))) ::
  (nat_lit 121, (PySem.Obj.mk (PySem.Value.type "function") Option.none (PySem.Data.func (PySem.FuncData.mk (PySem.Str.ofString "charsUntil") (PySem.Str.ofString "HTMLUnicodeInputStream.charsUntil") (fdArgs (stIn 4 9)) (.stmts (fdBody (stIn 4 9))) (fdScope (stIn 4 9)) 3 [] (PySem.Value.ref 114) PySem.Value.none PySem.Value.none (PySem.Value.str (PySem.Str.ofString "html5lib._inputstream") 188) Option.none (PySem.Value.ref 120) PySem.Value.none 0)) (List.toArray []))) ::
  (nat_lit 122, (PySem.Obj.mk (PySem.Value.type "tuple") Option.none (PySem.Data.seq (List.toArray []) 0) (List.toArray []))) ::
  (nat_lit 124, (PySem.Obj.mk (PySem.Value.type "tuple") Option.none (PySem.Data.seq (List.toArray [(PySem.Value.str (PySem.Str.ofString "self") 339), (PySem.Value.str (PySem.Str.ofString "char") 340)]) 0) (List.toArray []))) ::
  (nat_lit 125, (PySem.Obj.mk (PySem.Value.type "tuple") Option.none (PySem.Data.seq (List.toArray []) 0) (List.toArray []))) ::
  (nat_lit 127, (PySem.Obj.mk (PySem.Value.type "code") Option.none (PySem.Data.fields (List.toArray [(PySem.Value.str (PySem.Str.ofString "unget") 336), (PySem.Value.str (PySem.Str.ofString "HTMLUnicodeInputStream.unget") 337), (PySem.Value.str (PySem.Str.ofString "/claim/cut.py") 338), (PySem.Value.int 111 0), (PySem.Value.int 2 0), (PySem.Value.int 0 0), (PySem.Value.int 0 0), (PySem.Value.int 3 0), (PySem.Value.ref 122), (PySem.Value.bool Bool.true), (PySem.Value.int 181 0), (PySem.Value.ref 123), PySem.Value.none, (PySem.Value.ref 124), (PySem.Value.ref 125), (PySem.Value.ref 126), (PySem.Value.int 341 0), (PySem.Value.int 111 0), (PySem.Value.str (PySem.Str.ofString "/claim/cut.py") 342)])) (List.toArray []))) ::
  (nat_lit 128, (PySem.Obj.mk (PySem.Value.type "function") Option.none (PySem.Data.func (PySem.FuncData.mk (PySem.Str.ofString "unget") (PySem.Str.ofString "HTMLUnicodeInputStream.unget") (fdArgs (stIn 4 10)) (.stmts (fdBody (stIn 4 10))) (fdScope (stIn 4 10)) 3 [] PySem.Value.none PySem.Value.none PySem.Value.none (PySem.Value.str (PySem.Str.ofString "html5lib._inputstream") 188) Option.none (PySem.Value.ref 127) PySem.Value.none 0)) (List.toArray []))) ::
  (nat_lit 129, (PySem.Obj.mk (PySem.Value.type "tuple") Option.none (PySem.Data.seq (List.toArray [(PySem.Value.str (PySem.Str.ofString "_bufferedCharacter") 344), (PySem.Value.str (PySem.Str.ofString "chunk") 345), (PySem.Value.str (PySem.Str.ofString "chunkOffset") 346), (PySem.Value.str (PySem.Str.ofString "chunkSize") 347), (PySem.Value.str (PySem.Str.ofString "dataStream") 348), (PySem.Value.str (PySem.Str.ofString "errors") 349), (PySem.Value.str (PySem.Str.ofString "newLines") 350), (PySem.Value.str (PySem.Str.ofString "prevNumCols") 351), (PySem.Value.str (PySem.Str.ofString "prevNumLines") 352), (PySem.Value.str (PySem.Str.ofString "reportCharacterErrors") 353)]) 0) (List.toArray []))) ::
  (nat_lit 130, (PySem.Obj.mk (PySem.Value.type "dict") Option.none (PySem.Data.dict (List.toArray [(PySem.DictEntry.mk (PySem.PyData.keyHash P (PySem.Str.ofString "__module__")) (PySem.Value.str (PySem.Str.ofString "__module__") 243) (PySem.Value.str (PySem.Str.ofString "html5lib._inputstream") 188)), (PySem.DictEntry.mk (PySem.PyData.keyHash P (PySem.Str.ofString "__firstlineno__")) (PySem.Value.str (PySem.Str.ofString "__firstlineno__") 247) (PySem.Value.int 15 246)), (PySem.DictEntry.mk (PySem.PyData.keyHash P (PySem.Str.ofString "_defaultChunkSize")) (PySem.Value.str (PySem.Str.ofString "_defaultChunkSize") 249) (PySem.Value.int 10240 248)), (PySem.DictEntry.mk (PySem.PyData.keyHash P (PySem.Str.ofString "__init__")) (PySem.Value.str (PySem.Str.ofString "__init__") 257) (PySem.Value.ref 63)), (PySem.DictEntry.mk (PySem.PyData.keyHash P (PySem.Str.ofString "reset")) (PySem.Value.str (PySem.Str.ofString "reset") 264) (PySem.Value.ref 70)), (PySem.DictEntry.mk (PySem.PyData.keyHash P (PySem.Str.ofString "openStream")) (PySem.Value.str (PySem.Str.ofString "openStream") 273) (PySem.Value.ref 77)), (PySem.DictEntry.mk (PySem.PyData.keyHash P (PySem.Str.ofString "_position")) (PySem.Value.str (PySem.Str.ofString "_position") 286) (PySem.Value.ref 84)), (PySem.DictEntry.mk (PySem.PyData.keyHash P (PySem.Str.ofString "position")) (PySem.Value.str (PySem.Str.ofString "position") 295) (PySem.Value.ref 91)), (PySem.DictEntry.mk (PySem.PyData.keyHash P (PySem.Str.ofString "char")) (PySem.Value.str (PySem.Str.ofString "char") 304) (PySem.Value.ref 98)), (PySem.DictEntry.mk (PySem.PyData.keyHash P (PySem.Str.ofString "readChunk")) (PySem.Value.str (PySem.Str.ofString "readChunk") 314) (PySem.Value.ref 106)), (PySem.DictEntry.mk (PySem.PyData.keyHash P (PySem.Str.ofString "characterErrorsUCS4")) (PySem.Value.str (PySem.Str.ofString "characterErrorsUCS4") 323) (PySem.Value.ref 113)), (PySem.DictEntry.mk (PySem.PyData.keyHash P (PySem.Str.ofString "charsUntil")) (PySem.Value.str (PySem.Str.ofString "charsUntil") 335) (PySem.Value.ref 121)), (PySem.DictEntry.mk (PySem.PyData.keyHash P (PySem.Str.ofString "unget")) (PySem.Value.str (PySem.Str.ofString "unget") 343) (PySem.Value.ref 128)), (PySem.DictEntry.mk (PySem.PyData.keyHash P (PySem.Str.ofString "__static_attributes__")) (PySem.Value.str (PySem.Str.ofString "__static_attributes__") 354) (PySem.Value.ref 129)), (PySem.DictEntry.mk (PySem.PyData.keyHash P (PySem.Str.ofString "__dict__")) (PySem.Value.str (PySem.Str.ofString "__dict__") 356) (PySem.Value.ref 132)), (PySem.DictEntry.mk (PySem.PyData.keyHash P (PySem.Str.ofString "__weakref__")) (PySem.Value.str (PySem.Str.ofString "__weakref__") 358) (PySem.Value.ref 133)), (PySem.DictEntry.mk (PySem.PyData.keyHash P (PySem.Str.ofString "__doc__")) (PySem.Value.str (PySem.Str.ofString "__doc__") 359) PySem.Value.none)]) 4) (List.toArray []))) ::
  (nat_lit 131, (PySem.Obj.mk (PySem.Value.type "type") Option.none (PySem.Data.cls (PySem.ClassData.mk (PySem.Str.ofString "HTMLUnicodeInputStream") [(PySem.Value.type "object")] [(PySem.Value.ref 131), (PySem.Value.type "object")] 130 (PySem.Str.ofString "HTMLUnicodeInputStream") Bool.true [] [] Bool.false Option.none Bool.false)) (List.toArray [(Option.some (PySem.Value.ref 50)), Option.none, (Option.some (PySem.Value.str (PySem.Str.ofString "HTMLUnicodeInputStream") 236)), (Option.some (PySem.Value.str (PySem.Str.ofString "HTMLUnicodeInputStream") 244)), (Option.some (PySem.Value.builtin "object.__new__")), (Option.some (PySem.Value.bool Bool.true))]))) ::
  (nat_lit 132, (PySem.Obj.mk (PySem.Value.type "getset_descriptor") Option.none (PySem.Data.fields (List.toArray [(PySem.Value.str (PySem.Str.ofString "__dict__") 355), (PySem.Value.ref 131), (PySem.Value.builtin "function.__dict__"), (PySem.Value.builtin "function.__dict__#set")])) (List.toArray []))) ::
  (nat_lit 133, (PySem.Obj.mk (PySem.Value.type "getset_descriptor") Option.none (PySem.Data.fields (List.toArray [(PySem.Value.str (PySem.Str.ofString "__weakref__") 357), (PySem.Value.ref 131), (PySem.Value.builtin "ExceptionGroup.__weakref__"), PySem.Value.none])) (List.toArray []))) ::
  (nat_lit 136, (PySem.Obj.mk (PySem.Value.type "list") Option.none (PySem.Data.seq (List.toArray [(PySem.Value.str (PySem.Str.ofString "a") 364), (PySem.Value.str (PySem.Str.ofString "\"") 365), (PySem.Value.str (PySem.Str.ofString "\n") 366), (PySem.Value.str (PySem.Str.ofString "'") 367), (PySem.Value.str (PySem.Str.ofString ",") 368), (PySem.Value.str (PySem.Str.ofString "b") 369), (PySem.Value.str (PySem.Str.ofString "`") 370), (PySem.Value.str (PySem.Str.ofString " ") 371), (PySem.Value.str (PySem.Str.ofString "\x01") 372), (PySem.Value.str (PySem.Str.ofString "\n") 373)]) 0) (List.toArray []))) ::
  (nat_lit 137, (PySem.Obj.mk (PySem.Value.type "tuple") Option.none (PySem.Data.seq (List.toArray [(PySem.Value.str (PySem.Str.ofString "\"") 375), (PySem.Value.str (PySem.Str.ofString "'") 376), (PySem.Value.str (PySem.Str.ofString "`") 377)]) 0) (List.toArray []))) ::
  (nat_lit 138, (PySem.Obj.mk (PySem.Value.type "tuple") Option.none (PySem.Data.seq (List.toArray []) 0) (List.toArray []))) ::
  (nat_lit 140, (PySem.Obj.mk (PySem.Value.type "tuple") Option.none (PySem.Data.seq (List.toArray []) 0) (List.toArray []))) ::
  (nat_lit 141, (PySem.Obj.mk (PySem.Value.type "tuple") Option.none (PySem.Data.seq (List.toArray []) 0) (List.toArray []))) ::
  (nat_lit 143, (PySem.Obj.mk (PySem.Value.type "code") Option.none (PySem.Data.fields (List.toArray [(PySem.Value.str (PySem.Str.ofString "_law_ENDS") 379), (PySem.Value.str (PySem.Str.ofString "_law_ENDS") 380), (PySem.Value.str (PySem.Str.ofString "/claim/cut.py") 381), (PySem.Value.int 122 0), (PySem.Value.int 0 0), (PySem.Value.int 0 0), (PySem.Value.int 0 0), (PySem.Value.int 3 0), (PySem.Value.ref 138), (PySem.Value.bool Bool.true), (PySem.Value.int 181 0), (PySem.Value.ref 139), PySem.Value.none, (PySem.Value.ref 140), (PySem.Value.ref 141), (PySem.Value.ref 142), (PySem.Value.int 382 0), (PySem.Value.int 122 0), (PySem.Value.str (PySem.Str.ofString "/claim/cut.py") 383)])) (List.toArray []))) ::
  (nat_lit 144, (PySem.Obj.mk (PySem.Value.type "function") Option.none (PySem.Data.func (PySem.FuncData.mk (PySem.Str.ofString "_law_ENDS") (PySem.Str.ofString "_law_ENDS") (fdArgs (stAt 8)) (.stmts (fdBody (stAt 8))) (fdScope (stAt 8)) 3 [] PySem.Value.none PySem.Value.none PySem.Value.none (PySem.Value.str (PySem.Str.ofString "law_im0056_03") 362) Option.none (PySem.Value.ref 143) PySem.Value.none 0)) (List.toArray []))) ::
  (nat_lit 145, (PySem.Obj.mk (PySem.Value.type "tuple") Option.none (PySem.Data.seq (List.toArray []) 0) (List.toArray []))) ::
  (nat_lit 147, (PySem.Obj.mk (PySem.Value.type "tuple") Option.none (PySem.Data.seq (List.toArray [(PySem.Value.str (PySem.Str.ofString "point") 388)]) 0) (List.toArray []))) ::
  (nat_lit 148, (PySem.Obj.mk (PySem.Value.type "tuple") Option.none (PySem.Data.seq (List.toArray []) 0) (List.toArray []))) ::
  (nat_lit 150, (PySem.Obj.mk (PySem.Value.type "code") Option.none (PySem.Data.fields (List.toArray [(PySem.Value.str (PySem.Str.ofString "_law_faulty") 385), (PySem.Value.str (PySem.Str.ofString "_law_faulty") 386), (PySem.Value.str (PySem.Str.ofString "/claim/cut.py") 387), (PySem.Value.int 124 0), (PySem.Value.int 1 0), (PySem.Value.int 0 0), (PySem.Value.int 0 0), (PySem.Value.int 3 0), (PySem.Value.ref 145), (PySem.Value.bool Bool.true), (PySem.Value.int 181 0), (PySem.Value.ref 146), PySem.Value.none, (PySem.Value.ref 147), (PySem.Value.ref 148), (PySem.Value.ref 149), (PySem.Value.int 389 0), (PySem.Value.int 124 0), (PySem.Value.str (PySem.Str.ofString "/claim/cut.py") 390)])) (List.toArray []))) ::
  (nat_lit 151, (PySem.Obj.mk (PySem.Value.type "function") Option.none (PySem.Data.func (PySem.FuncData.mk (PySem.Str.ofString "_law_faulty") (PySem.Str.ofString "_law_faulty") (fdArgs (stAt 9)) (.stmts (fdBody (stAt 9))) (fdScope (stAt 9)) 3 [] PySem.Value.none PySem.Value.none PySem.Value.none (PySem.Value.str (PySem.Str.ofString "law_im0056_03") 362) Option.none (PySem.Value.ref 150) PySem.Value.none 0)) (List.toArray []))) ::
  (nat_lit 152, (PySem.Obj.mk (PySem.Value.type "tuple") Option.none (PySem.Data.seq (List.toArray []) 0) (List.toArray []))) ::
  (nat_lit 155, (PySem.Obj.mk (PySem.Value.type "code") Option.none (PySem.Data.fields (List.toArray [(PySem.Value.str (PySem.Str.ofString "_law_value") 392), (PySem.Value.str (PySem.Str.ofString "_law_value") 393), (PySem.Value.str (PySem.Str.ofString "/claim/cut.py") 394), (PySem.Value.int 126 0), (PySem.Value.int 1 0), (PySem.Value.int 0 0), (PySem.Value.int 0 0), (PySem.Value.int 3 0), (PySem.Value.ref 152), (PySem.Value.bool Bool.true), (PySem.Value.int 181 0), (PySem.Value.ref 153), PySem.Value.none, PySem.Value.none, PySem.Value.none, (PySem.Value.ref 154), (PySem.Value.int 395 0), (PySem.Value.int 126 0), (PySem.Value.str (PySem.Str.ofString "/claim/cut.py") 396)])) (List.toArray []))) ::
  (nat_lit 156, (PySem.Obj.mk (PySem.Value.type "function") Option.none (PySem.Data.func (PySem.FuncData.mk (PySem.Str.ofString "_law_value") (PySem.Str.ofString "_law_value") (fdArgs (stAt 10)) (.stmts (fdBody (stAt 10))) (fdScope (stAt 10)) 3 [] PySem.Value.none PySem.Value.none PySem.Value.none (PySem.Value.str (PySem.Str.ofString "law_im0056_03") 362) Option.none (PySem.Value.ref 155) PySem.Value.none 0)) (List.toArray []))) ::
  (nat_lit 157, (PySem.Obj.mk (PySem.Value.type "tuple") Option.none (PySem.Data.seq (List.toArray []) 0) (List.toArray []))) ::
  (nat_lit 160, (PySem.Obj.mk (PySem.Value.type "code") Option.none (PySem.Data.fields (List.toArray [(PySem.Value.str (PySem.Str.ofString "_law_field") 398), (PySem.Value.str (PySem.Str.ofString "_law_field") 399), (PySem.Value.str (PySem.Str.ofString "/claim/cut.py") 400), (PySem.Value.int 130 0), (PySem.Value.int 2 0), (PySem.Value.int 0 0), (PySem.Value.int 0 0), (PySem.Value.int 3 0), (PySem.Value.ref 157), (PySem.Value.bool Bool.true), (PySem.Value.int 181 0), (PySem.Value.ref 158), PySem.Value.none, PySem.Value.none, PySem.Value.none, (PySem.Value.ref 159), (PySem.Value.int 401 0), (PySem.Value.int 130 0), (PySem.Value.str (PySem.Str.ofString "/claim/cut.py") 402)])) (List.toArray []))) ::
  (nat_lit 161, (PySem.Obj.mk (PySem.Value.type "function") Option.none (PySem.Data.func (PySem.FuncData.mk (PySem.Str.ofString "_law_field") (PySem.Str.ofString "_law_field") (fdArgs (stAt 11)) (.stmts (fdBody (stAt 11))) (fdScope (stAt 11)) 3 [] PySem.Value.none PySem.Value.none PySem.Value.none (PySem.Value.str (PySem.Str.ofString "law_im0056_03") 362) Option.none (PySem.Value.ref 160) PySem.Value.none 0)) (List.toArray []))) ::
  (nat_lit 162, (PySem.Obj.mk (PySem.Value.type "tuple") Option.none (PySem.Data.seq (List.toArray []) 0) (List.toArray []))) ::
  (nat_lit 164, (PySem.Obj.mk (PySem.Value.type "tuple") Option.none (PySem.Data.seq (List.toArray [(PySem.Value.str (PySem.Str.ofString "raw") 407), (PySem.Value.str (PySem.Str.ofString "text") 408), (PySem.Value.str (PySem.Str.ofString "turn") 409), (PySem.Value.str (PySem.Str.ofString "j") 410), (PySem.Value.str (PySem.Str.ofString "sign") 411), (PySem.Value.str (PySem.Str.ofString "end") 412)]) 0) (List.toArray []))) ::
  (nat_lit 165, (PySem.Obj.mk (PySem.Value.type "tuple") Option.none (PySem.Data.seq (List.toArray []) 0) (List.toArray []))) ::
  (nat_lit 167, (PySem.Obj.mk (PySem.Value.type "code") Option.none (PySem.Data.fields (List.toArray [(PySem.Value.str (PySem.Str.ofString "_law_written") 404), (PySem.Value.str (PySem.Str.ofString "_law_written") 405), (PySem.Value.str (PySem.Str.ofString "/claim/cut.py") 406), (PySem.Value.int 135 0), (PySem.Value.int 3 0), (PySem.Value.int 0 0), (PySem.Value.int 0 0), (PySem.Value.int 3 0), (PySem.Value.ref 162), (PySem.Value.bool Bool.true), (PySem.Value.int 181 0), (PySem.Value.ref 163), PySem.Value.none, (PySem.Value.ref 164), (PySem.Value.ref 165), (PySem.Value.ref 166), (PySem.Value.int 413 0), (PySem.Value.int 135 0), (PySem.Value.str (PySem.Str.ofString "/claim/cut.py") 414)])) (List.toArray []))) ::
  (nat_lit 168, (PySem.Obj.mk (PySem.Value.type "function") Option.none (PySem.Data.func (PySem.FuncData.mk (PySem.Str.ofString "_law_written") (PySem.Str.ofString "_law_written") (fdArgs (stAt 12)) (.stmts (fdBody (stAt 12))) (fdScope (stAt 12)) 3 [] PySem.Value.none PySem.Value.none PySem.Value.none (PySem.Value.str (PySem.Str.ofString "law_im0056_03") 362) Option.none (PySem.Value.ref 167) PySem.Value.none 0)) (List.toArray []))) ::
  (nat_lit 169, (PySem.Obj.mk (PySem.Value.type "tuple") Option.none (PySem.Data.seq (List.toArray []) 0) (List.toArray []))) ::
  (nat_lit 171, (PySem.Obj.mk (PySem.Value.type "tuple") Option.none (PySem.Data.seq (List.toArray [(PySem.Value.str (PySem.Str.ofString "page") 419), (PySem.Value.str (PySem.Str.ofString "lines") 420)]) 0) (List.toArray []))) ::
  (nat_lit 172, (PySem.Obj.mk (PySem.Value.type "tuple") Option.none (PySem.Data.seq (List.toArray []) 0) (List.toArray []))) ::
  (nat_lit 174, (PySem.Obj.mk (PySem.Value.type "code") Option.none (PySem.Data.fields (List.toArray [(PySem.Value.str (PySem.Str.ofString "_law_spot") 416), (PySem.Value.str (PySem.Str.ofString "_law_spot") 417), (PySem.Value.str (PySem.Str.ofString "/claim/cut.py") 418), (PySem.Value.int 143 0), (PySem.Value.int 1 0), (PySem.Value.int 0 0), (PySem.Value.int 0 0), (PySem.Value.int 3 0), (PySem.Value.ref 169), (PySem.Value.bool Bool.true), (PySem.Value.int 181 0), (PySem.Value.ref 170), PySem.Value.none, (PySem.Value.ref 171), (PySem.Value.ref 172), (PySem.Value.ref 173), (PySem.Value.int 421 0), (PySem.Value.int 143 0), (PySem.Value.str (PySem.Str.ofString "/claim/cut.py") 422)])) (List.toArray []))) ::
  (nat_lit 175, (PySem.Obj.mk (PySem.Value.type "function") Option.none (PySem.Data.func (PySem.FuncData.mk (PySem.Str.ofString "_law_spot") (PySem.Str.ofString "_law_spot") (fdArgs (stAt 13)) (.stmts (fdBody (stAt 13))) (fdScope (stAt 13)) 3 [] PySem.Value.none PySem.Value.none PySem.Value.none (PySem.Value.str (PySem.Str.ofString "law_im0056_03") 362) Option.none (PySem.Value.ref 174) PySem.Value.none 0)) (List.toArray []))) ::
  (nat_lit 176, (PySem.Obj.mk (PySem.Value.type "tuple") Option.none (PySem.Data.seq (List.toArray []) 0) (List.toArray []))) ::
  (nat_lit 178, (PySem.Obj.mk (PySem.Value.type "tuple") Option.none (PySem.Data.seq (List.toArray [(PySem.Value.str (PySem.Str.ofString "row") 427), (PySem.Value.str (PySem.Str.ofString "signs") 428)]) 0) (List.toArray []))) ::
  (nat_lit 179, (PySem.Obj.mk (PySem.Value.type "tuple") Option.none (PySem.Data.seq (List.toArray []) 0) (List.toArray []))) ::
  (nat_lit 181, (PySem.Obj.mk (PySem.Value.type "code") Option.none (PySem.Data.fields (List.toArray [(PySem.Value.str (PySem.Str.ofString "_law_filled") 424), (PySem.Value.str (PySem.Str.ofString "_law_filled") 425), (PySem.Value.str (PySem.Str.ofString "/claim/cut.py") 426), (PySem.Value.int 146 0), (PySem.Value.int 2 0), (PySem.Value.int 0 0), (PySem.Value.int 0 0), (PySem.Value.int 3 0), (PySem.Value.ref 176), (PySem.Value.bool Bool.true), (PySem.Value.int 181 0), (PySem.Value.ref 177), PySem.Value.none, (PySem.Value.ref 178), (PySem.Value.ref 179), (PySem.Value.ref 180), (PySem.Value.int 429 0), (PySem.Value.int 146 0), (PySem.Value.str (PySem.Str.ofString "/claim/cut.py") 430)])) (List.toArray []))) ::
  (nat_lit 182, (PySem.Obj.mk (PySem.Value.type "function") Option.none (PySem.Data.func (PySem.FuncData.mk (PySem.Str.ofString "_law_filled") (PySem.Str.ofString "_law_filled") (fdArgs (stAt 14)) (.stmts (fdBody (stAt 14))) (fdScope (stAt 14)) 3 [] PySem.Value.none PySem.Value.none PySem.Value.none (PySem.Value.str (PySem.Str.ofString "law_im0056_03") 362) Option.none (PySem.Value.ref 181) PySem.Value.none 0)) (List.toArray []))) ::
  (nat_lit 183, (PySem.Obj.mk (PySem.Value.type "tuple") Option.none (PySem.Data.seq (List.toArray []) 0) (List.toArray []))) ::
  (nat_lit 185, (PySem.Obj.mk (PySem.Value.type "tuple") Option.none (PySem.Data.seq (List.toArray [(PySem.Value.str (PySem.Str.ofString "stream") 435), (PySem.Value.str (PySem.Str.ofString "row") 436), (PySem.Value.str (PySem.Str.ofString "mark") 437), (PySem.Value.str (PySem.Str.ofString "value") 438), (PySem.Value.str (PySem.Str.ofString "after") 439)]) 0) (List.toArray []))) ::
  (nat_lit 186, (PySem.Obj.mk (PySem.Value.type "tuple") Option.none (PySem.Data.seq (List.toArray []) 0) (List.toArray []))) ::
  (nat_lit 188, (PySem.Obj.mk (PySem.Value.type "code") Option.none (PySem.Data.fields (List.toArray [(PySem.Value.str (PySem.Str.ofString "_law_read") 432), (PySem.Value.str (PySem.Str.ofString "_law_read") 433), (PySem.Value.str (PySem.Str.ofString "/claim/cut.py") 434), (PySem.Value.int 151 0), (PySem.Value.int 2 0), (PySem.Value.int 0 0), (PySem.Value.int 0 0), (PySem.Value.int 3 0), (PySem.Value.ref 183), (PySem.Value.bool Bool.true), (PySem.Value.int 181 0), (PySem.Value.ref 184), PySem.Value.none, (PySem.Value.ref 185), (PySem.Value.ref 186), (PySem.Value.ref 187), (PySem.Value.int 440 0), (PySem.Value.int 151 0), (PySem.Value.str (PySem.Str.ofString "/claim/cut.py") 441)])) (List.toArray []))) ::
  (nat_lit 189, (PySem.Obj.mk (PySem.Value.type "function") Option.none (PySem.Data.func (PySem.FuncData.mk (PySem.Str.ofString "_law_read") (PySem.Str.ofString "_law_read") (fdArgs (stAt 15)) (.stmts (fdBody (stAt 15))) (fdScope (stAt 15)) 3 [] PySem.Value.none PySem.Value.none PySem.Value.none (PySem.Value.str (PySem.Str.ofString "law_im0056_03") 362) Option.none (PySem.Value.ref 188) PySem.Value.none 0)) (List.toArray []))) ::
  (nat_lit 190, (PySem.Obj.mk (PySem.Value.type "tuple") Option.none (PySem.Data.seq (List.toArray []) 0) (List.toArray []))) ::
  (nat_lit 193, (PySem.Obj.mk (PySem.Value.type "code") Option.none (PySem.Data.fields (List.toArray [(PySem.Value.str (PySem.Str.ofString "law") 443), (PySem.Value.str (PySem.Str.ofString "law") 444), (PySem.Value.str (PySem.Str.ofString "/claim/cut.py") 445), (PySem.Value.int 164 0), (PySem.Value.int 1 0), (PySem.Value.int 0 0), (PySem.Value.int 0 0), (PySem.Value.int 3 0), (PySem.Value.ref 190), (PySem.Value.bool Bool.true), (PySem.Value.int 181 0), (PySem.Value.ref 191), PySem.Value.none, PySem.Value.none, PySem.Value.none, (PySem.Value.ref 192), (PySem.Value.int 446 0), (PySem.Value.int 164 0), (PySem.Value.str (PySem.Str.ofString "/claim/cut.py") 447)])) (List.toArray []))) ::
  (nat_lit 194, (PySem.Obj.mk (PySem.Value.type "function") Option.none (PySem.Data.func (PySem.FuncData.mk (PySem.Str.ofString "law") (PySem.Str.ofString "law") (fdArgs (stAt 16)) (.stmts (fdBody (stAt 16))) (fdScope (stAt 16)) 3 [] PySem.Value.none PySem.Value.none PySem.Value.none (PySem.Value.str (PySem.Str.ofString "law_im0056_03") 362) Option.none (PySem.Value.ref 193) PySem.Value.none 0)) (List.toArray []))) :: []
def addrsW : List Addr := [2, 3, 15, 22, 24, 25, 27, 28, 29, 31, 32, 34, 35, 36, 37, 38, 39, 40, 43, 45, 46, 48, 49, 50, 57, 59, 60, 62, 63, 64, 66, 67, 69, 70, 71, 73, 74, 76, 77, 78, 80, 81, 83, 84, 85, 87, 88, 90, 91, 92, 94, 95, 97, 98, 99, 100, 102, 103, 105, 106, 107, 109, 110, 112, 113, 114, 115, 117, 118, 120, 121, 122, 124, 125, 127, 128, 129, 130, 131, 132, 133, 136, 137, 138, 140, 141, 143, 144, 145, 147, 148, 150, 151, 152, 155, 156, 157, 160, 161, 162, 164, 165, 167, 168, 169, 171, 172, 174, 175, 176, 178, 179, 181, 182, 183, 185, 186, 188, 189, 190, 193, 194]
def viewW : Program := { PySem.Challenge.pw_im0056_03 with main := { PySem.Challenge.pw_im0056_03.main with body := [stAt 0, stAt 2, stAt 3, stAt 4, stAt 6, stAt 7, stAt 8, stAt 9, stAt 10, stAt 11, stAt 12, stAt 13, stAt 14, stAt 15, stAt 16] } }
def looseW' : List PySem.Str := ["HTMLUnicodeInputStream", "_law_SIGNS"]
def hookW : Hook := kHook heapW addrsW (fun _ => by kernel_rfl)
theorem saidW : PySem.Challenge.rw_im0056_03.wellSaid = true := by kernel_rfl
theorem leftW : LeftO PySem.Challenge.rw_im0056_03.row.prog viewW looseW' (fun s => xlAt viewW [] s && recOk (RowW.records PySem.Challenge.rw_im0056_03.row.toRowW) s) hookW.obs hookW.val 2444 :=
  fun w => by kernel_rfl
end Mine
end
section
open PySem PySem.W PySem.Calls PyProof.Rows
namespace Mine

-- the written part is taken into the tactic's store
example (w : World) : (heapW w.params) = (heapW w.params) ∧ PySem.Challenge.rw_im0056_03 = PySem.Challenge.rw_im0056_03 := by k_fill; exact ⟨rfl, rfl⟩

structure ClsF (c : Cx) (C : Addr) : Prop where
  get : ∀ n, plainGet c.K C n = true
  dict : hasDictIn c.K C = true
  over : plainOver c.K C = true
  sets : findIn c.K (.ref C) "__setattr__" = some (some (.builtin "object.__setattr__"))

theorem taker_none {c : Cx} {C : Addr} {name : Str} (h : findIn c.K (.ref C) name = some none) : takerIn c.K C name = some none := by unfold takerIn; rw [h]; rfl

abbrev PF (c : Cx) : Prop := Nonempty (PLift (c.K = heapW c.w.params))
theorem PF.hK {c : Cx} [h : PF c] : c.K = heapW c.w.params := h.elim PLift.down
theorem cls_of {c : Cx} (hK : c.K = heapW c.w.params) : ∀ C, C = 131 ∨ C = 38 → ClsF c C := by
  rintro C (rfl | rfl)
  · exact ⟨fun n => by rw [hK]; show plainGet _ _ "chunk" = true; k_is, by rw [hK]; k_is, by rw [hK]; k_is, by rw [hK]; k_is⟩
  · exact ⟨fun n => by rw [hK]; show plainGet _ _ "chunk" = true; k_is, by rw [hK]; k_is, by rw [hK]; k_is, by rw [hK]; k_is⟩
theorem PF.S {c : Cx} [h : PF c] : ClsF c 131 := cls_of PF.hK _ (.inl rfl)
theorem PF.T {c : Cx} [h : PF c] : ClsF c 38 := cls_of PF.hK _ (.inr rfl)
theorem PF.t_text {c : Cx} [h : PF c] : findIn c.K (.ref 38) "text" = some none := by rw [PF.hK (c := c)]; k_is
theorem PF.t_place {c : Cx} [h : PF c] : findIn c.K (.ref 38) "place" = some none := by rw [PF.hK (c := c)]; k_is
theorem PF.s_rce {c : Cx} [h : PF c] : findIn c.K (.ref 131) "reportCharacterErrors" = some none := by rw [PF.hK (c := c)]; k_is
theorem PF.s_newLines {c : Cx} [h : PF c] : findIn c.K (.ref 131) "newLines" = some none := by rw [PF.hK (c := c)]; k_is
theorem PF.s_dataStream {c : Cx} [h : PF c] : findIn c.K (.ref 131) "dataStream" = some none := by rw [PF.hK (c := c)]; k_is
theorem PF.s_chunk {c : Cx} [h : PF c] : findIn c.K (.ref 131) "chunk" = some none := by rw [PF.hK (c := c)]; k_is
theorem PF.s_chunkSize {c : Cx} [h : PF c] : findIn c.K (.ref 131) "chunkSize" = some none := by rw [PF.hK (c := c)]; k_is
theorem PF.s_chunkOffset {c : Cx} [h : PF c] : findIn c.K (.ref 131) "chunkOffset" = some none := by rw [PF.hK (c := c)]; k_is
theorem PF.s_errors {c : Cx} [h : PF c] : findIn c.K (.ref 131) "errors" = some none := by rw [PF.hK (c := c)]; k_is
theorem PF.s_prevNumLines {c : Cx} [h : PF c] : findIn c.K (.ref 131) "prevNumLines" = some none := by rw [PF.hK (c := c)]; k_is
theorem PF.s_prevNumCols {c : Cx} [h : PF c] : findIn c.K (.ref 131) "prevNumCols" = some none := by rw [PF.hK (c := c)]; k_is
theorem PF.s_buf {c : Cx} [h : PF c] : findIn c.K (.ref 131) "_bufferedCharacter" = some none := by rw [PF.hK (c := c)]; k_is
theorem PF.m_read {c : Cx} [h : PF c] : findIn c.K (.ref 38) "read" = some (some (.ref 35)) := by rw [PF.hK (c := c)]; k_is
theorem PF.m_reset {c : Cx} [h : PF c] : findIn c.K (.ref 131) "reset" = some (some (.ref 70)) := by rw [PF.hK (c := c)]; k_is
theorem PF.m_open {c : Cx} [h : PF c] : findIn c.K (.ref 131) "openStream" = some (some (.ref 77)) := by rw [PF.hK (c := c)]; k_is
theorem PF.m_pos_ {c : Cx} [h : PF c] : findIn c.K (.ref 131) "_position" = some (some (.ref 84)) := by rw [PF.hK (c := c)]; k_is
theorem PF.m_position {c : Cx} [h : PF c] : findIn c.K (.ref 131) "position" = some (some (.ref 91)) := by rw [PF.hK (c := c)]; k_is
theorem PF.m_char {c : Cx} [h : PF c] : findIn c.K (.ref 131) "char" = some (some (.ref 98)) := by rw [PF.hK (c := c)]; k_is
theorem PF.m_readChunk {c : Cx} [h : PF c] : findIn c.K (.ref 131) "readChunk" = some (some (.ref 106)) := by rw [PF.hK (c := c)]; k_is
theorem PF.m_errs {c : Cx} [h : PF c] : findIn c.K (.ref 131) "characterErrorsUCS4" = some (some (.ref 113)) := by rw [PF.hK (c := c)]; k_is
theorem PF.m_charsUntil {c : Cx} [h : PF c] : findIn c.K (.ref 131) "charsUntil" = some (some (.ref 121)) := by rw [PF.hK (c := c)]; k_is
theorem PF.m_unget {c : Cx} [h : PF c] : findIn c.K (.ref 131) "unget" = some (some (.ref 128)) := by rw [PF.hK (c := c)]; k_is
theorem PF.g_len {c : Cx} [h : PF c] : nsIn c.K mainGlobals "len" = some none := by rw [PF.hK (c := c)]; k_is
theorem PF.g_ord {c : Cx} [h : PF c] : nsIn c.K mainGlobals "ord" = some none := by rw [PF.hK (c := c)]; k_is
theorem PF.g_EOF {c : Cx} [h : PF c] : nsIn c.K mainGlobals "EOF" = some (some .none) := by rw [PF.hK (c := c)]; k_is
theorem PF.g_Text {c : Cx} [h : PF c] : nsIn c.K mainGlobals "Text" = some (some (.ref 38)) := by rw [PF.hK (c := c)]; k_is
theorem PF.g_inv {c : Cx} [h : PF c] : nsIn c.K mainGlobals "_is_invalid" = some (some (.ref 49)) := by rw [PF.hK (c := c)]; k_is
theorem PF.i_Text {c : Cx} [h : PF c] : findIn c.K (.ref 38) "__init__" = some (some (.ref 28)) := by rw [PF.hK (c := c)]; k_is
theorem PF.i_S {c : Cx} [h : PF c] : findIn c.K (.ref 131) "__init__" = some (some (.ref 63)) := by rw [PF.hK (c := c)]; k_is
theorem PF.k_Text {c : Cx} [h : PF c] : makesIn c.K 38 = true := by rw [PF.hK (c := c)]; k_is
theorem PF.k_S {c : Cx} [h : PF c] : makesIn c.K 131 = true := by rw [PF.hK (c := c)]; k_is
theorem PF.t_dcs {c : Cx} [h : PF c] : takerIn c.K 131 "_defaultChunkSize" = some none := by rw [PF.hK (c := c)]; k_is
theorem PF.s_dcs {c : Cx} [h : PF c] : ∃ a, findIn c.K (.ref 131) "_defaultChunkSize" = some a ∧ noGet c.K a = true := by rw [PF.hK (c := c)]; exact ⟨_, by k_is, by k_is⟩
theorem PF.kinv {c : Cx} [h : PF c] : keepIn c.K (.ref 49) = true := by rw [PF.hK (c := c)]; k_is
theorem PF.kc_Text {c : Cx} [h : PF c] : keepIn c.K (.ref 38) = true := by rw [PF.hK (c := c)]; k_is
theorem PF.kc_S {c : Cx} [h : PF c] : keepIn c.K (.ref 131) = true := by rw [PF.hK (c := c)]; k_is
theorem PF.fn {c : Cx} [h : PF c] : ∀ f ∈ [28, 35, 49, 63, 70, 77, 84, 91, 98, 106, 113, 121, 128], isFn c.K (.ref f) = true ∧ keepIn c.K (.ref f) = true ∧ fnIn c.K f = true := by
  intro f hf
  simp only [List.mem_cons, List.not_mem_nil, or_false] at hf
  rcases hf with rfl | rfl | rfl | rfl | rfl | rfl | rfl | rfl | rfl | rfl | rfl | rfl | rfl <;> exact ⟨by rw [PF.hK (c := c)]; k_is, by rw [PF.hK (c := c)]; k_is, by rw [PF.hK (c := c)]; k_is⟩
theorem pf_of {c : Cx} (hK : c.K = heapW c.w.params) : PF c := ⟨⟨hK⟩⟩
end Mine
end
section
open PySem PySem.W PySem.Calls PyProof.Rows
namespace Mine
theorem mem_hd {α : Type} {x : α} {l : List α} : x ∈ x :: l := List.mem_cons_self
theorem mem_tl {α : Type} {x y : α} {l : List α} (h : x ∈ l) : x ∈ y :: l := List.mem_cons_of_mem _ h

theorem len0 {P : List Value → Prop} {vs : List Value} (h : vs.length = 0) (f : P []) : P vs := List.eq_nil_of_length_eq_zero h ▸ f
theorem len1 {P : List Value → Prop} {vs : List Value} (h : vs.length = 1) (f : ∀ a, P [a]) : P vs := by
  cases vs with
  | nil => cases h
  | cons a r => exact len0 (P := fun r => P (a :: r)) (Nat.succ.inj h) (f a)
theorem len2 {P : List Value → Prop} {vs : List Value} (h : vs.length = 2) (f : ∀ a b, P [a, b]) : P vs := by
  cases vs with
  | nil => cases h
  | cons a r => exact len1 (P := fun r => P (a :: r)) (Nat.succ.inj h) (f a)
theorem len3 {P : List Value → Prop} {vs : List Value} (h : vs.length = 3) (f : ∀ a b c, P [a, b, c]) : P vs := by
  cases vs with
  | nil => cases h
  | cons a r => exact len2 (P := fun r => P (a :: r)) (Nat.succ.inj h) (f a)
section
variable {s : Shared} {fd : FuncData} {ps : List Str} {dfl : List Value}
theorem bnd0 {vs : List Value} (h : vs.length = 0) (f : BindsTo s fd ⟨[], []⟩ (ps.zip ([] ++ dfl))) : BindsTo s fd ⟨vs, []⟩ (ps.zip (vs ++ dfl)) := len0 (P := fun vs => BindsTo s fd ⟨vs, []⟩ (ps.zip (vs ++ dfl))) h f
theorem bnd1 {vs : List Value} (h : vs.length = 1) (f : ∀ a, BindsTo s fd ⟨[a], []⟩ (ps.zip ([a] ++ dfl))) : BindsTo s fd ⟨vs, []⟩ (ps.zip (vs ++ dfl)) := len1 (P := fun vs => BindsTo s fd ⟨vs, []⟩ (ps.zip (vs ++ dfl))) h f
theorem bnd2 {vs : List Value} (h : vs.length = 2) (f : ∀ a b, BindsTo s fd ⟨[a, b], []⟩ (ps.zip ([a, b] ++ dfl))) : BindsTo s fd ⟨vs, []⟩ (ps.zip (vs ++ dfl)) := len2 (P := fun vs => BindsTo s fd ⟨vs, []⟩ (ps.zip (vs ++ dfl))) h f
theorem bnd3 {vs : List Value} (h : vs.length = 3) (f : ∀ a b c, BindsTo s fd ⟨[a, b, c], []⟩ (ps.zip ([a, b, c] ++ dfl))) : BindsTo s fd ⟨vs, []⟩ (ps.zip (vs ++ dfl)) := len3 (P := fun vs => BindsTo s fd ⟨vs, []⟩ (ps.zip (vs ++ dfl))) h f
end
theorem Then_ret {c : Cx} {i : Fi} {k : Nat} {m : Fields} {cs : List Chunk} {rest : List Stmt} {Q : Flow → Fields → List Chunk → Prop} {v : Value} (h : Q (.ret v) m cs) : Then c i k rest Q (.ret v) m cs := h
theorem Then_brk {c : Cx} {i : Fi} {k : Nat} {m : Fields} {cs : List Chunk} {rest : List Stmt} {Q : Flow → Fields → List Chunk → Prop} (h : Q .brk m cs) : Then c i k rest Q .brk m cs := h
theorem Then_next {c : Cx} {i : Fi} {k : Nat} {m : Fields} {cs : List Chunk} {rest : List Stmt} {Q : Flow → Fields → List Chunk → Prop} (h : EXS c i k m cs rest Q) : Then c i k rest Q .next m cs := h

theorem lit_nl : Str.ofString "\n" = ⟨[10].toArray⟩ := by decide +kernel
theorem lit_cr : Str.ofString "\r" = ⟨[13].toArray⟩ := by decide +kernel
theorem lit_crnl : Str.ofString "\r\n" = ⟨[13, 10].toArray⟩ := by decide +kernel
theorem lit_empty : Str.ofString "" = ⟨([] : List Nat).toArray⟩ := by decide +kernel
def errT : List Nat := "invalid-codepoint".toList.map Char.toNat
theorem lit_err : Str.ofString "invalid-codepoint" = ⟨errT.toArray⟩ := by decide +kernel

section
variable {c : Cx} {i : Fi} {A : Around} {k : Nat} {m : Fields} {cs cs' : List Chunk} {x C d : Addr}
/-- a field of an own object -/
theorem A_fld {fm : Fields} {name : Str} {v : Value} (hC : ClsF c C) (hx : (x, .inst C d) ∈ cs) (hd : (d, .obj fm) ∈ cs) (hv : (name, some v) ∈ fm) (ha : findIn c.K (.ref C) name = some none) (hho : handedIn v = true) :
    Op1 c A k cs (fun v => getAttr v name true) (.ref x) nv (Is cs v) := A_own hx hd hv (hC.get _) hC.dict ha rfl hho
theorem A_dcs [PF c] {fm : Fields} {v : Value} (hx : (x, .inst 131 d) ∈ cs) (hd : (d, .obj fm) ∈ cs) (hv : (("_defaultChunkSize" : Str), some v) ∈ fm) (hho : handedIn v = true) :
    Op1 c A k cs (fun v => getAttr v "_defaultChunkSize" true) (.ref x) nv (Is cs v) :=
  let ⟨_, e1, e2⟩ := PF.s_dcs (c := c)
  A_own hx hd hv (PF.S.get _) PF.S.dict e1 e2 hho
/-- len of a str, as an expression -/
theorem PE_len {e : Expr} {pos p2 : Pos} {gl : List Str} {l : List Nat} (hg : GOk i gl) (hx : Str.ofString "len" ∈ gl) (he : PE c i k m cs e (.str ⟨l.toArray⟩ 0)) (hz : l.length ≤ 1000000)
    (hn : nsIn c.K mainGlobals "len" = some none)
    (hs : ∀ env, starEach [e] env = (false, eval e env) :: starEach [] env := by intro _; rfl)
    (hc : ∀ env, eval (.Call (.Name "len" p2) [e] [] pos) env = (do let f ← eval (.Name "len" p2) env; callWith pos f [] (backTo pos (starEach [e] env)) (backToKw pos (keywordEach [] env))) := by intro _; rfl) :
    PE c i k m cs (.Call (.Name "len" p2) [e] [] pos) (.int l.length 0) :=
  EV_callB' (f := "len") (PE_bi (v := .builtin "len") hg hx hn (by boot_fast) (by decide)) (PEs_cons he PEs_nil hs) (K_len_str hz) hc hs
end
end Mine
end
section
open PySem PySem.W PySem.Calls PyProof.Rows
open PySem.Builtin.Str PySem.StrLaws
namespace Mine

/- ## slices by numbers -/
theorem cl_nat (n a : Nat) : cl n (a : Int) = min a n := by unfold cl; rw [if_neg (by omega)]; rfl
theorem sl_nn {α : Type} (l : List α) (a b : Nat) : sl l (some (a : Int)) (some (b : Int)) = (l.drop a).take (b - a) := by
  unfold sl lo0 hi0
  simp only [cl_nat]
  apply List.ext_getElem?
  intro j
  simp only [List.getElem?_take, List.getElem?_drop]
  by_cases ha : a ≤ l.length
  · rw [Nat.min_eq_left ha]
    by_cases hj : a + j < l.length
    · split <;> split <;> first | rfl | omega
    · rw [List.getElem?_eq_none (by omega)]; split <;> split <;> rfl
  · rw [List.getElem?_eq_none (by omega), List.getElem?_eq_none (by omega)]; split <;> split <;> rfl
theorem sl_n_ {α : Type} (l : List α) (a : Nat) : sl l (some (a : Int)) none = l.drop a := by
  unfold sl lo0 hi0
  simp only [cl_nat]
  by_cases ha : a ≤ l.length
  · rw [Nat.min_eq_left ha, List.take_of_length_le (by simp)]
  · rw [List.drop_eq_nil_of_le (by omega), List.drop_eq_nil_of_le (by omega)]; simp
theorem sl__n {α : Type} (l : List α) (b : Nat) : sl l none (some (b : Int)) = l.take b := by
  unfold sl lo0 hi0
  simp only [cl_nat, List.drop_zero, Nat.sub_zero]
  by_cases hb : b ≤ l.length
  · rw [Nat.min_eq_left hb]
  · rw [List.take_of_length_le (by omega), List.take_of_length_le (by omega)]
theorem sl__m1 {α : Type} (l : List α) : sl l none (some (-1)) = l.dropLast := by
  unfold sl lo0 hi0
  simp only [cl, List.drop_zero, Nat.sub_zero]
  rw [if_pos (by omega), List.dropLast_eq_take]
  congr 1
  omega

/- ## one sign counted and sought -/
theorem subAt_hi (l : List Nat) (a i hi : Nat) : (i + (⟨[a].toArray⟩ : Str).length ≤ hi ∧ subAt ⟨l.toArray⟩ ⟨[a].toArray⟩ i = true) ↔ (l.take hi)[i]? = some a := by
  rw [subAt_eq]
  show (i + 1 ≤ hi ∧ ((l.drop i).take 1 == [a]) = true) ↔ _
  rw [take1_drop, List.getElem?_take]
  by_cases h : i < hi
  · rw [if_pos h]; exact ⟨fun h => h.2, fun e => ⟨h, e⟩⟩
  · rw [if_neg h]; exact ⟨fun q => by omega, fun q => by simp at q⟩
theorem count_run (l : List Nat) (a hi limit : Nat) : ∀ (m cur : Nat) (st : Array Nat × Nat), st.snd ≤ cur → st.fst.size + m ≤ limit →
    (forIn (List.range' cur m) st (occBody ⟨l.toArray⟩ ⟨[a].toArray⟩ hi limit)).run.fst.size = st.fst.size + (((l.take hi).drop cur).take m).count a
  | 0, cur, st, _, _ => by simp
  | m + 1, cur, st, h, hl => by
    rw [List.range'_succ, List.forIn_cons]
    unfold occBody
    by_cases hc : (l.take hi)[cur]? = some a
    · have hc' := (subAt_hi l a cur hi).mpr hc
      rw [if_pos ⟨⟨⟨by omega, h⟩, hc'.1⟩, hc'.2⟩]
      show (forIn (List.range' (cur + 1) m) (st.fst.push cur, cur + 1) (occBody ⟨l.toArray⟩ ⟨[a].toArray⟩ hi limit)).run.fst.size = _
      rw [count_run l a hi limit m (cur + 1) (st.fst.push cur, cur + 1) (Nat.le_refl _) (by show (st.fst.push cur).size + m ≤ limit; rw [Array.size_push]; omega)]
      show (st.fst.push cur).size + _ = _
      obtain ⟨hlt, he⟩ := List.getElem?_eq_some_iff.mp hc
      rw [Array.size_push, List.drop_eq_getElem_cons hlt, List.take_succ_cons, he, List.count_cons_self]
      omega
    · have hc' : ¬ (((st.fst.size < limit ∧ st.snd ≤ cur) ∧ cur + (⟨[a].toArray⟩ : Str).length ≤ hi) ∧ subAt ⟨l.toArray⟩ ⟨[a].toArray⟩ cur = true) :=
        fun q => hc ((subAt_hi l a cur hi).mp ⟨q.1.2, q.2⟩)
      rw [if_neg hc']
      show (forIn (List.range' (cur + 1) m) (st.fst, st.snd) (occBody ⟨l.toArray⟩ ⟨[a].toArray⟩ hi limit)).run.fst.size = _
      rw [count_run l a hi limit m (cur + 1) (st.fst, st.snd) (by show st.snd ≤ cur + 1; omega) (by show st.fst.size + m ≤ limit; omega)]
      by_cases hlt : cur < (l.take hi).length
      · rw [List.drop_eq_getElem_cons hlt, List.take_succ_cons, List.count_cons_of_ne]
        intro e
        exact hc (List.getElem?_eq_some_iff.mpr ⟨hlt, e⟩)
      · rw [List.drop_eq_nil_of_le (by omega), List.drop_eq_nil_of_le (by omega)]; simp
theorem count_eq (l : List Nat) (a n : Nat) (hn : n ≤ l.length) : (occurrences ⟨l.toArray⟩ ⟨[a].toArray⟩ 0 n (l.length + 1)).length = (l.take n).count a := by
  rw [occ_eq, Array.length_toList]
  rw [count_run l a n (l.length + 1) (n + 1 - 0) 0 (#[], 0) (Nat.le_refl _) (by simp; omega)]
  simp only [Array.size_empty, Nat.zero_add, List.drop_zero]
  rw [List.take_of_length_le (by simp; omega)]

/-- where a sign stands last, or -1 -/
def lastI (a : Nat) (L : List Nat) : Int := if a ∈ L then (L.length - 1 - (L.reverse.takeWhile (· != a)).length : Nat) else -1
theorem lastI_at {a : Nat} {u v : List Nat} (hv : a ∉ v) : lastI a (u ++ a :: v) = u.length := by
  unfold lastI
  rw [if_pos (by simp)]
  have : ((u ++ a :: v).reverse.takeWhile (· != a)) = v.reverse := by
    rw [List.reverse_append, List.reverse_cons, List.append_assoc, List.takeWhile_append_of_pos (by intro x hx; simp at hx ⊢; exact fun e => hv (e ▸ hx))]
    simp
  rw [this]
  simp only [List.length_append, List.length_cons, List.length_reverse]
  omega
theorem last_split {a : Nat} {L : List Nat} {i : Nat} (h : L[i]? = some a) (hn : ∀ k, i < k → L[k]? ≠ some a) : ∃ u v, L = u ++ a :: v ∧ a ∉ v ∧ u.length = i := by
  obtain ⟨hlt, he⟩ := List.getElem?_eq_some_iff.mp h
  refine ⟨L.take i, L.drop (i + 1), ?_, ?_, by simp; omega⟩
  · rw [← he, ← List.drop_eq_getElem_cons hlt, List.take_append_drop]
  · intro hm
    obtain ⟨j, hj⟩ := List.getElem?_of_mem hm
    rw [List.getElem?_drop] at hj
    exact hn (i + 1 + j) (by omega) hj
theorem last_eqI (l : List Nat) (a n : Nat) : (match lastOccurrence ⟨l.toArray⟩ ⟨[a].toArray⟩ 0 n with | some i => (i : Int) | none => -1) = lastI a (l.take n) := by
  rw [last_eq]
  have key := last_run ⟨l.toArray⟩ ⟨[a].toArray⟩ n (List.range' 0 (n + 1 - 0)) [] none (fun _ h => nomatch h) (fun _ h => nomatch h) (by simpa using List.pairwise_lt_range' (s := 0) (n := n + 1 - 0))
  have mem : ∀ i, (l.take n)[i]? = some a → i ∈ [] ++ List.range' 0 (n + 1 - 0) := fun i hi => by
    have := (List.getElem?_eq_some_iff.mp hi).1
    simp [List.mem_range'] at this ⊢ ; omega
  cases hr : (forIn (List.range' 0 (n + 1 - 0)) none (lastBody ⟨l.toArray⟩ ⟨[a].toArray⟩ n)).run with
  | none =>
    rw [hr] at key
    have : a ∉ l.take n := fun hm => by
      obtain ⟨i, hi⟩ := List.getElem?_of_mem hm
      exact key i (mem i hi) ((subAt_hi l a i n).mpr hi)
    unfold lastI
    rw [if_neg this]
  | some b =>
    rw [hr] at key
    obtain ⟨u, v, e, hv, hu⟩ := last_split ((subAt_hi l a b n).mp key.1) (fun k hk q => key.2 k (mem k q) hk ((subAt_hi l a k n).mpr q))
    rw [e, lastI_at hv, hu]

theorem gives_count4 (x y : Str) (i j : Int) (t u v z : Tok) : Gives (PySem.Builtin.«str.count» ⟨[.str x t, .str y u, .int i v, .int j z], []⟩) (.int (occurrences x y (fromIndex x.length i) (min (fromIndex x.length j) x.length) (x.length + 1)).length) := .of_eq rfl
theorem gives_rfind4 (x y : Str) (i j : Int) (t u v z : Tok) : Gives (PySem.Builtin.«str.rfind» ⟨[.str x t, .str y u, .int i v, .int j z], []⟩) (.int (match lastOccurrence x y (fromIndex x.length i) (min (fromIndex x.length j) x.length) with | some i => (i : Int) | none => -1)) := by
  show Gives (match lastOccurrence x y (fromIndex x.length i) (min (fromIndex x.length j) x.length) with | some i => retInt i | none => (do rule "str.rfind.not-found"; retInt (-1))) _
  cases lastOccurrence x y (fromIndex x.length i) (min (fromIndex x.length j) x.length) with
  | none => exact .rule (.of_eq rfl)
  | some i => exact .of_eq rfl
theorem from_nat (n i : Nat) : fromIndex n (i : Int) = i := by unfold fromIndex; rw [if_neg (by omega)]; omega

section
variable {c : Cx} {A : Around} {k : Nat} {cs : List Chunk}
theorem K_count {l : List Nat} {a n : Nat} (hn : n ≤ l.length) : CallV c A k cs (.builtin "str.count") [.str ⟨l.toArray⟩ 0, .str ⟨[a].toArray⟩ 0, .int 0 0, .int n 0] (Is cs (.int ((l.take n).count a : Nat) 0)) := by
  intro _ R s as ha hs
  obtain ⟨a1, a2, a3, a4, rfl, h1, h2, h3, h4⟩ := map_four ha
  obtain ⟨-, t1, rfl⟩ := nv_str h1; obtain ⟨-, t2, rfl⟩ := nv_str h2; obtain ⟨-, t3, rfl⟩ := nv_int h3; obtain ⟨-, t4, rfl⟩ := nv_int h4
  refine call_gives F.slot_str_count (typeIs_str _ _ _) F.entry_str_count (F.args_str_count_4 _ _ _ _) (gives_count4 _ _ _ _ _ _ _ _) ?_
  have e : (occurrences ⟨l.toArray⟩ ⟨[a].toArray⟩ (fromIndex (⟨l.toArray⟩ : Str).length 0) (min (fromIndex (⟨l.toArray⟩ : Str).length n) (⟨l.toArray⟩ : Str).length) ((⟨l.toArray⟩ : Str).length + 1)).length = (l.take n).count a := by
    have e0 : fromIndex (⟨l.toArray⟩ : Str).length 0 = 0 := from_nat _ 0
    rw [e0, from_nat, str_len, Nat.min_eq_left hn]
    exact count_eq l a n hn
  rw [e]
  exact ⟨cs, hs.toks (Nat.succ_pos _), rfl, rfl⟩
theorem K_rfind {l : List Nat} {a n : Nat} (hn : n ≤ l.length) : CallV c A k cs (.builtin "str.rfind") [.str ⟨l.toArray⟩ 0, .str ⟨[a].toArray⟩ 0, .int 0 0, .int n 0] (Is cs (.int (lastI a (l.take n)) 0)) := by
  intro _ R s as ha hs
  obtain ⟨a1, a2, a3, a4, rfl, h1, h2, h3, h4⟩ := map_four ha
  obtain ⟨-, t1, rfl⟩ := nv_str h1; obtain ⟨-, t2, rfl⟩ := nv_str h2; obtain ⟨-, t3, rfl⟩ := nv_int h3; obtain ⟨-, t4, rfl⟩ := nv_int h4
  refine call_gives F.slot_str_rfind (typeIs_str _ _ _) F.entry_str_rfind (F.args_str_rfind_4 _ _ _ _) (gives_rfind4 _ _ _ _ _ _ _ _) ?_
  have e : (match lastOccurrence ⟨l.toArray⟩ ⟨[a].toArray⟩ (fromIndex (⟨l.toArray⟩ : Str).length 0) (min (fromIndex (⟨l.toArray⟩ : Str).length n) (⟨l.toArray⟩ : Str).length) with | some i => (i : Int) | none => -1) = lastI a (l.take n) := by
    have e0 : fromIndex (⟨l.toArray⟩ : Str).length 0 = 0 := from_nat _ 0
    rw [e0, from_nat, str_len, Nat.min_eq_left hn]
    exact last_eqI l a n
  rw [e]
  exact ⟨cs, hs.toks (Nat.succ_pos _), rfl, rfl⟩
end
end Mine
end
section
open PySem PySem.W PySem.Calls PyProof.Rows
open PySem.Builtin.Str PySem.StrLaws
namespace Mine

/- ## replacing -/
def rep2 : List Nat → List Nat
  | [] => []
  | [a] => [a]
  | a :: b :: r => if a = 13 ∧ b = 10 then 10 :: rep2 r else a :: rep2 (b :: r)
theorem rep2_cc (a b : Nat) (r : List Nat) : rep2 (a :: b :: r) = if a = 13 ∧ b = 10 then 10 :: rep2 r else a :: rep2 (b :: r) := by rw [rep2]
theorem rep2_free : ∀ (l : List Nat), (∀ k, ¬ (l[k]? = some 13 ∧ l[k+1]? = some 10)) → rep2 l = l
  | [], _ => rfl
  | [a], _ => rfl
  | a :: b :: r, h => by
    rw [rep2_cc, if_neg (fun e => h 0 ⟨by simp [e.1], by simp [e.2]⟩), rep2_free (b :: r) (fun k e => h (k + 1) ⟨by simpa using e.1, by simpa using e.2⟩)]
theorem rep2_split : ∀ (u v : List Nat), (∀ k, k < u.length → ¬ ((u ++ 13 :: 10 :: v)[k]? = some 13 ∧ (u ++ 13 :: 10 :: v)[k+1]? = some 10)) → rep2 (u ++ 13 :: 10 :: v) = u ++ 10 :: rep2 v
  | [], v, _ => by
    show rep2 (13 :: 10 :: v) = 10 :: rep2 v
    rw [rep2_cc, if_pos ⟨rfl, rfl⟩]
  | [a], v, h => by
    show rep2 (a :: 13 :: 10 :: v) = _
    rw [rep2_cc, if_neg (by omega), rep2_cc, if_pos ⟨rfl, rfl⟩]
    rfl
  | a :: b :: u, v, h => by
    show rep2 (a :: b :: (u ++ 13 :: 10 :: v)) = _
    rw [rep2_cc, if_neg (fun e => h 0 (by simp) ⟨by simp [e.1], by simp [e.2]⟩)]
    have := rep2_split (b :: u) v (fun k hk e => h (k + 1) (by simp at hk ⊢; omega) ⟨by simpa using e.1, by simpa using e.2⟩)
    rw [show b :: (u ++ 13 :: 10 :: v) = (b :: u) ++ 13 :: 10 :: v from rfl, this]; rfl

theorem subAt_two (x : Str) (a b i : Nat) : (i + (⟨#[a, b]⟩ : Str).length ≤ x.length ∧ subAt x ⟨#[a, b]⟩ i = true) ↔ (x.cps.toList[i]? = some a ∧ x.cps.toList[i+1]? = some b) := by
  rw [subAt_eq]
  show (i + 2 ≤ x.length ∧ ((x.cps.toList.drop i).take 2 == [a, b]) = true) ↔ _
  have hn : x.cps.toList.length = x.length := by simp [Str.length]
  rw [beq_iff_eq]
  have e0 : x.cps.toList[i]? = (x.cps.toList.drop i)[0]? := by rw [List.getElem?_drop]; rfl
  have e1 : x.cps.toList[i+1]? = (x.cps.toList.drop i)[1]? := by rw [List.getElem?_drop]
  rw [e0, e1]
  have hl : (x.cps.toList.drop i).length = x.length - i := by rw [List.length_drop, hn]
  generalize x.cps.toList.drop i = d at hl
  match d with
  | [] => simp
  | [p] => simp
  | p :: q :: r => 
    simp only [List.length_cons] at hl
    simp
    omega
theorem join_two (x : Str) : ∀ (cuts : List Nat) (a f : Nat), ChainG x ⟨#[13, 10]⟩ x.length a cuts f → (∀ k, f ≤ k → ¬ At x ⟨#[13, 10]⟩ x.length k) →
    (Str.join ⟨#[10]⟩ (partsFrom x 2 a cuts)).cps.toList = rep2 (x.cps.toList.drop a)
  | [], a, f, h, hn => by
    have e : f = a := h
    subst e
    have hl : x.cps.toList.length = x.length := by simp [Str.length]
    show (strSub x f x.length).cps.toList = _
    rw [strSub_toList, List.take_of_length_le (by rw [List.length_drop, hl]; exact Nat.le_refl _), rep2_free]
    rintro k ⟨h1, h2⟩
    rw [List.getElem?_drop] at h1 h2
    exact hn (f + k) (by omega) ((subAt_two x 13 10 (f + k)).mpr ⟨h1, h2⟩)
  | d :: r, a, f, h, hn => by
    have ih := join_two x r _ f h.2.2.2 hn
    obtain ⟨p, q, e⟩ := partsFrom_ne x 2 (d + 2) r
    show (Str.join ⟨#[10]⟩ (strSub x a d :: partsFrom x 2 (d + 2) r)).cps.toList = _
    have e2 : (⟨#[13, 10]⟩ : Str).length = 2 := rfl
    rw [e2] at ih
    rw [e] at ih ⊢
    show (strSub x a d ++ ⟨#[10]⟩ ++ Str.join ⟨#[10]⟩ (p :: q)).cps.toList = _
    simp only [Str.cps_append, Array.toList_append]
    rw [ih, strSub_toList]
    obtain ⟨g1, g2⟩ := (subAt_two x 13 10 d).mp h.2.1
    obtain ⟨l1, q1⟩ := List.getElem?_eq_some_iff.mp g1
    obtain ⟨l2, q2⟩ := List.getElem?_eq_some_iff.mp g2
    have hd : x.cps.toList.drop a = (x.cps.toList.drop a).take (d - a) ++ 13 :: 10 :: x.cps.toList.drop (d + 2) := by
      have : 13 :: 10 :: x.cps.toList.drop (d + 2) = (x.cps.toList.drop a).drop (d - a) := by
        rw [List.drop_drop, show a + (d - a) = d from by have := h.1; omega, List.drop_eq_getElem_cons l1, q1, List.drop_eq_getElem_cons l2, q2]
      rw [this, List.take_append_drop]
    have hlen : ((x.cps.toList.drop a).take (d - a)).length = d - a := by
      rw [List.length_take, List.length_drop]; have := h.1; omega
    have := rep2_split ((x.cps.toList.drop a).take (d - a)) (x.cps.toList.drop (d + 2)) (fun k hk e => by
      rw [← hd, List.getElem?_drop, List.getElem?_drop] at e
      rw [hlen] at hk
      exact h.2.2.1 (a + k) (by omega) (by omega) ((subAt_two x 13 10 (a + k)).mpr e))
    rw [← hd] at this
    rw [this, List.append_assoc]; rfl
theorem replace_two (l : List Nat) : Txt.replace ⟨l.toArray⟩ ⟨[13, 10].toArray⟩ ⟨[10].toArray⟩ = ⟨(rep2 l).toArray⟩ := by
  obtain ⟨f, hG, hn⟩ := occ_tight ⟨l.toArray⟩ ⟨#[13, 10]⟩ (by decide)
  unfold Txt.replace
  have h10 : ((⟨[13, 10].toArray⟩ : Str).length == 0) = false := rfl
  rw [h10, Bool.false_and, Bool.or_false]
  have base := join_two ⟨l.toArray⟩ (occurrences ⟨l.toArray⟩ ⟨#[13, 10]⟩ 0 (⟨l.toArray⟩ : Str).length ((⟨l.toArray⟩ : Str).length + 1)) 0 f hG hn
  cases he : (occurrences ⟨l.toArray⟩ ⟨[13, 10].toArray⟩ 0 (⟨l.toArray⟩ : Str).length ((⟨l.toArray⟩ : Str).length + 1)).isEmpty
  · rw [if_neg Bool.false_ne_true, glued_eq_join, partsBetween_eq]
    apply Str.ext'
    apply Array.toList_inj.mp
    exact base
  · rw [if_pos rfl]
    have e0 : occurrences ⟨l.toArray⟩ ⟨#[13, 10]⟩ 0 (⟨l.toArray⟩ : Str).length ((⟨l.toArray⟩ : Str).length + 1) = [] := List.isEmpty_iff.mp he
    rw [e0] at base
    apply Str.ext'
    apply Array.toList_inj.mp
    have hl : l.length = (⟨l.toArray⟩ : Str).length := by simp [Str.length]
    have e1 : (Str.join ⟨#[10]⟩ (partsFrom ⟨l.toArray⟩ 2 0 [])).cps.toList = l := by
      show (strSub ⟨l.toArray⟩ 0 (⟨l.toArray⟩ : Str).length).cps.toList = l
      rw [strSub_toList]
      show (l.drop 0).take _ = l
      rw [List.drop_zero, List.take_of_length_le (by omega)]
    rw [e1] at base
    show l = rep2 l
    simpa using base
def crf (c : Nat) : Nat := if c = 13 then 10 else c
theorem map_free (l : List Nat) (h : 13 ∉ l) : l.map crf = l := by
  induction l with
  | nil => rfl
  | cons a r ih =>
    simp only [List.mem_cons, not_or] at h
    rw [List.map_cons, ih h.2]
    unfold crf
    rw [if_neg (fun e => h.1 e.symm)]
theorem map_join : ∀ parts : List Str, (∀ p ∈ parts, 13 ∉ p.cps.toList) → (Str.join ⟨#[13]⟩ parts).cps.toList.map crf = (Str.join ⟨#[10]⟩ parts).cps.toList
  | [], _ => rfl
  | [p], h => map_free _ (h p (List.mem_singleton.mpr rfl))
  | p :: q :: r, h => by
    have ih := map_join (q :: r) fun a ha => h a (List.mem_cons_of_mem _ ha)
    show (p ++ ⟨#[13]⟩ ++ Str.join ⟨#[13]⟩ (q :: r)).cps.toList.map crf = (p ++ ⟨#[10]⟩ ++ Str.join ⟨#[10]⟩ (q :: r)).cps.toList
    simp only [Str.cps_append, Array.toList_append, List.map_append]
    rw [ih, map_free _ (h p (List.mem_cons_self ..))]
    rfl
theorem replace_cr (l : List Nat) : Txt.replace ⟨l.toArray⟩ ⟨[13].toArray⟩ ⟨[10].toArray⟩ = ⟨(l.map crf).toArray⟩ := by
  have := replace_one ⟨l.toArray⟩ ⟨#[10]⟩ 13
  show Txt.replace ⟨l.toArray⟩ ⟨#[13]⟩ ⟨#[10]⟩ = _
  rw [this]
  apply Str.ext'
  apply Array.toList_inj.mp
  rw [← map_join _ (split_free ⟨l.toArray⟩ 13), join_split]

section
variable {c : Cx} {i : Fi} {A : Around} {k : Nat} {m : Fields} {cs cs' : List Chunk}
theorem EV_replace {o : Expr} {apos pos p1 p2 : Pos} {l p r : List Nat} {x y : Str} {u1 u2 : Nat} {Q : Value → List Chunk → Prop} (ho : PE c i k m cs o (.str ⟨l.toArray⟩ 0)) (hx : x = ⟨p.toArray⟩) (hy : y = ⟨[10].toArray⟩)
    (hne : ((⟨p.toArray⟩ : Str) == ⟨[10].toArray⟩) = false) (hz : l.length ≤ 1000000) (hr : Txt.replace ⟨l.toArray⟩ ⟨p.toArray⟩ ⟨[10].toArray⟩ = ⟨r.toArray⟩) (q : Q (.str ⟨r.toArray⟩ 0) cs)
    (hc : MCall o "replace" [.Constant (.str x) u1 p1, .Constant (.str y) u2 p2] apos pos := by intro _; exact ⟨_, rfl⟩) :
    EV c i k m cs (.Call (.Attribute o "replace" apos) [.Constant (.str x) u1 p1, .Constant (.str y) u2 p2] [] pos) Q := by
  subst hx hy
  intro hF R s hs
  obtain ⟨pl, hc⟩ := hc i.env
  refine methodCall_KW (pl := pl) (noE (ho hF R s hs) ?_) hc
  rintro ov s1 ⟨cs1, h1, e1, rfl⟩
  have g := M_str (c := c) (A := i.A) (k := k) (cs := cs1) (x := l) (name := "replace") (id := "str.replace") (Q := fun f first cs2 => f = .builtin "str.replace" ∧ first = [.str ⟨l.toArray⟩ 0] ∧ cs2 = cs1) F.slot_str_replace F.type_str_replace ⟨rfl, rfl, rfl⟩
  refine noE (g hF.2.2 _ s1 ov pl e1 (h1.perm mid)) ?_
  rintro ⟨f, first⟩ s2 ⟨cs2, h2, rfl, hfi, rfl⟩
  obtain ⟨v0, rfl, e0⟩ := map_one hfi
  obtain ⟨-, t0, rfl⟩ := nv_str e0
  have h2 := h2.perm dim
  refine Calls.callWith_builtin rfl (Calls.evalArgs_plain ?_)
  show wpAny _ _ (spliced (backTo pos ((false, eval (.Constant (.str ⟨p.toArray⟩) u1 p1) i.env) :: starEach [.Constant (.str ⟨[10].toArray⟩) u2 p2] i.env))) _ _ _
  refine spliced_cons (x := eval (.Constant (.str ⟨p.toArray⟩) u1 p1) i.env) (Calls.Constant_str ?_)
  show wpAny _ _ (spliced (backTo pos ((false, eval (.Constant (.str ⟨[10].toArray⟩) u2 p2) i.env) :: starEach [] i.env))) _ _ _
  refine spliced_cons (x := eval (.Constant (.str ⟨[10].toArray⟩) u2 p2) i.env) (Calls.Constant_str ?_)
  refine spliced_nil ?_
  have hp := h2.pos
  have h3 : St c ((i.L, .ns m) :: (cs2 ++ R)) { s2 with toks := s2.toks + 1 + 1 } := h2.toks (by show 0 < s2.toks + 1 + 1; omega)
  have h4 : St c (((i.L, .ns m) :: cs2) ++ R) { s2 with toks := s2.toks + 1 + 1 } := h3
  refine noE (toks_fin (v := .str ⟨r.toArray⟩ 0) h4 ?_) ?_
  · refine SC.replaceW (by show s2.toks ≠ 0; omega) (by show s2.toks + 1 ≠ 0; omega) (by show s2.toks ≠ s2.toks + 1; omega) hne (by rw [str_len]; omega) (by decide) ?_
    intro t' k'
    rw [hr]
    exact ⟨rfl, k', rfl⟩
  · rintro v s5 ⟨cs5, h5, e5, rfl⟩
    exact ⟨cs2, h5, by rw [e5]; exact q⟩
end
end Mine
end
section
open PySem PySem.W PySem.Calls PyProof.Rows
namespace Mine

theorem St.but {c : Cx} {cs : List Chunk} {s : Shared} {a : Addr} {ao : AO} {h' : Heap} (x : St c ((a, ao) :: cs) s) (k : ∀ b y, b ≠ a → s.heap.get? b = some y → h'.get? b = some y) : St c cs { s with heap := h' } := by
  have o := x.own
  have hlow := x.low (a := a) (ao := ao) (by simp)
  refine ⟨x.1, x.2.1, x.2.2.1, fun b y e => k b y (fun q => ?_) (o.1 b y e), ?_, fun p hp => ?_⟩
  · have := Heap.lt_size e
    rw [q] at this
    exact absurd this (Nat.not_lt.mpr hlow)
  · have := o.2.1
    simp only [List.map_cons, List.nodup_cons] at this
    exact this.2
  · obtain ⟨h1, y, e, h2⟩ := o.2.2 p (List.mem_cons_of_mem _ hp)
    refine ⟨h1, y, k _ _ (fun q => ?_) e, h2⟩
    have := o.2.1
    simp only [List.map_cons, List.nodup_cons] at this
    exact this.1 (q ▸ List.mem_map_of_mem hp)
theorem St.tail {c : Cx} {cs : List Chunk} {s : Shared} {p : Chunk} (x : St c (p :: cs) s) : St c cs s := ⟨x.1, x.2.1, x.2.2.1, x.own.sub (List.sublist_cons_self ..)⟩

section
variable {c : Cx} {i : Fi} {A : Around} {k : Nat} {m : Fields} {cs cs' : List Chunk}
/- ## items -/
theorem G_str {e j : Expr} {l : List Nat} {n x : Nat} (h : l[n]? = some x) (hz : l.length ≤ 1000000)
    (hs' : ∀ t u, subscripted j false (.str ⟨l.toArray⟩ t) (.int n u) = operate [.str ⟨l.toArray⟩ t, .int n u] (getItem (.str ⟨l.toArray⟩ t) (.int n u)) := by intro _ _; with_unfolding_all rfl)
    (ht' : ∀ t r, letTemporaryGo e (.str ⟨l.toArray⟩ t) r = pure () := by intro _ _; with_unfolding_all rfl) : Op2 c A k cs (subscriptTail e j) (.str ⟨l.toArray⟩ 0) (.int n 0) nv (Is cs (.str ⟨[x].toArray⟩ 0)) := by
  intro _ R s a' b' ha hb hs
  obtain ⟨-, t, rfl⟩ := nv_str ha
  obtain ⟨-, u, rfl⟩ := nv_int hb
  obtain ⟨hlt, he⟩ := List.getElem?_eq_some_iff.mp h
  have hi : Txt.item ⟨l.toArray⟩ (n : Int) = ⟨[x].toArray⟩ := by
    unfold Txt.item Txt.charAt seqIndex?
    have hl : (⟨l.toArray⟩ : Str).length = l.length := str_len l
    rw [hl]
    simp only [show ¬ ((n : Int) < 0) by omega, if_false]
    rw [if_pos (by simp; omega)]
    simp [h]
  refine item_str (by unfold fitsSsize; simp; omega) (by omega) (by rw [str_len]; omega) (fun _ => ?_) (hs' t u) (ht' t)
  rw [hi]
  exact ⟨cs, hs.toks (Nat.succ_pos _), rfl, rfl⟩
theorem G_str_last {e j : Expr} {l : List Nat} {x : Nat} (hz : l.length ≤ 1000000)
    (hs' : ∀ t u, subscripted j false (.str ⟨(l ++ [x]).toArray⟩ t) (.int (-1) u) = operate [.str ⟨(l ++ [x]).toArray⟩ t, .int (-1) u] (getItem (.str ⟨(l ++ [x]).toArray⟩ t) (.int (-1) u)) := by intro _ _; with_unfolding_all rfl)
    (ht' : ∀ t r, letTemporaryGo e (.str ⟨(l ++ [x]).toArray⟩ t) r = pure () := by intro _ _; with_unfolding_all rfl) : Op2 c A k cs (subscriptTail e j) (.str ⟨(l ++ [x]).toArray⟩ 0) (.int (-1) 0) nv (Is cs (.str ⟨[x].toArray⟩ 0)) := by
  intro _ R s a' b' ha hb hs
  obtain ⟨-, t, rfl⟩ := nv_str ha
  obtain ⟨-, u, rfl⟩ := nv_int hb
  have hl : (⟨(l ++ [x]).toArray⟩ : Str).length = l.length + 1 := by rw [str_len]; simp
  have hi : Txt.item ⟨(l ++ [x]).toArray⟩ (-1 : Int) = ⟨[x].toArray⟩ := by
    unfold Txt.item Txt.charAt seqIndex?
    rw [hl]
    simp only [show ((-1 : Int) < 0) by omega, if_true]
    rw [if_pos (by simp; omega)]
    have : ((-1 : Int) + ((l.length : Int) + 1)).toNat = l.length := by omega
    simp [this]
  refine item_str (by decide) (by omega) (by omega) (fun _ => ?_) (hs' t u) (ht' t)
  rw [hi]
  exact ⟨cs, hs.toks (Nat.succ_pos _), rfl, rfl⟩

/- ## loops over a text, a list, a range -/
def strIt (l : List Nat) (j : Nat) : AO := .pred fun o => ∃ t, o.cls = .type (strIterType ⟨l.toArray⟩) ∧ o.data = .fields #[.str ⟨l.toArray⟩ t, .int j 0]
theorem I_str {l : List Nat} {Q : Value → List Chunk → Prop} (hne : cs ≠ []) (q : ∀ it, Q (.ref it) ((it, strIt l 0) :: cs)) : Op1 c A k cs pyIter (.str ⟨l.toArray⟩ 0) nv Q := by
  intro _ R s a' ha hs
  obtain ⟨-, t, rfl⟩ := nv_str ha
  exact wpAny_pyIter_strU ⟨_, hs.to hs.pos (hs.own.push (ao := strIt l 0) (hs.own.size (by simp [hne])) rfl ⟨t, rfl, rfl⟩), q _⟩
theorem N_str {l : List Nat} {it : Addr} {j : Nat} : NextV c A k ((it, strIt l j) :: cs) (.ref it) (fun r cs2 => match r with | none => j ≥ l.length ∧ cs2 = cs | some v => j < l.length ∧ v = .str ⟨[l.getD j 0].toArray⟩ 0 ∧ cs2 = (it, strIt l (j + 1)) :: cs) := by
  intro hA R s it' hit hs
  rw [nv_ref hit]
  obtain ⟨o, ho, t, hc, hd⟩ := hs.at (a := it) (ao := strIt l j) (by simp)
  have key : ∀ ty, strIterType ⟨l.toArray⟩ = ty → s.heap.IsStrIter it ty ⟨l.toArray⟩ t j := fun ty e => ⟨o, ho, e ▸ hc, hd⟩
  by_cases hj : j < l.length
  · have hx : (⟨l.toArray⟩ : Str).cps[j]? = some (l.getD j 0) := by simp [hj]
    have fin : ∀ ty, strIterType ⟨l.toArray⟩ = ty → ∀ h', h'.IsStrIter it ty ⟨l.toArray⟩ t (j + 1) → Heap.SameBut it s.heap h' → ∃ cs', St c (cs' ++ R) { s with heap := h', toks := s.toks + 1 } ∧
        (match (some (Value.str ⟨#[l.getD j 0]⟩ s.toks)).map nv with | none => j ≥ l.length ∧ cs' = cs | some v => j < l.length ∧ v = .str ⟨[l.getD j 0].toArray⟩ 0 ∧ cs' = (it, strIt l (j + 1)) :: cs) := by
      rintro ty e h' ⟨o', ho', hc', hd'⟩ sb
      exact ⟨(it, strIt l (j + 1)) :: cs, hs.to (Nat.succ_pos _) (hs.own.upd Upd.head (fun b y hb e => (sb.2 b hb).trans e) ho' ⟨t, e ▸ hc', hd'⟩), hj, rfl, rfl⟩
    cases ha : (⟨l.toArray⟩ : Str).cps.all (· < 128)
    · have e : strIterType ⟨l.toArray⟩ = "str_iterator" := by unfold strIterType; rw [ha]; rfl
      exact wpAny_pyNext_wide_item (key _ e) hx (fin _ e)
    · have e : strIterType ⟨l.toArray⟩ = "str_ascii_iterator" := by unfold strIterType; rw [ha]; rfl
      exact wpAny_pyNext_ascii_item (key _ e) hx (fin _ e)
  · have hx : (⟨l.toArray⟩ : Str).cps[j]? = none := by simp; omega
    have fin : ∀ h', Heap.ExtBut it s.heap h' → ∃ cs', St c (cs' ++ R) { s with heap := h' } ∧
        (match (none : Option Value).map nv with | none => j ≥ l.length ∧ cs' = cs | some v => j < l.length ∧ v = .str ⟨[l.getD j 0].toArray⟩ 0 ∧ cs' = (it, strIt l (j + 1)) :: cs) := by
      intro h' sb
      exact ⟨cs, St.but hs sb, by omega, rfl⟩
    cases ha : (⟨l.toArray⟩ : Str).cps.all (· < 128)
    · have e : strIterType ⟨l.toArray⟩ = "str_iterator" := by unfold strIterType; rw [ha]; rfl
      exact wpAny_pyNext_wide_end hA.1 (key _ e) hx fin
    · have e : strIterType ⟨l.toArray⟩ = "str_ascii_iterator" := by unfold strIterType; rw [ha]; rfl
      exact wpAny_pyNext_ascii_end hA.1 (key _ e) hx fin
theorem EX_for_str {t iter : Expr} {body : List Stmt} {pos : Pos} {l : List Nat} {Q : Flow → Fields → List Chunk → Prop} (I : Nat → Fields → List Chunk → Prop) (h : PE c i k m cs iter (.str ⟨l.toArray⟩ 0)) (hne : cs ≠ []) (h0 : I 0 m cs)
    (turn : ∀ j x m1 cs1, l[j]? = some x → SameKeys m m1 → I j m1 cs1 → AS c i k m1 cs1 t (.str ⟨[x].toArray⟩ 0) (fun m2 cs2 => EXS c i k m2 cs2 body (Turn (I (j + 1)) Q)))
    (fin : ∀ m1 cs1, SameKeys m m1 → I l.length m1 cs1 → Q .next m1 cs1)
    (hf : ∀ env x, foldedSetIterable iter env x = pure x := by intro _ _; rfl) : EX c i k m cs (.For t iter body [] pos) Q := by
  refine EX_for (h.ev (I_str hne fun it => ?_)) hf
  refine FOR_any (strIt l) l.length (fun j => .str ⟨[l.getD j 0].toArray⟩ 0) I ?_ ?_ ?_ fin h0
  · rintro j o ⟨u, hc, -⟩
    refine ⟨_, hc, ?_⟩
    unfold strIterType
    split <;> decide
  · intro j m1 cs1 hj hI hA R s it' hit hs
    refine noE (N_str (l := l) (j := j) hA R s it' hit hs) ?_
    rintro r s2 ⟨cs2, h2, q2⟩
    refine ⟨cs2, h2, ?_⟩
    cases hr : r.map nv with
    | none => rw [hr] at q2; exact ⟨Nat.le_antisymm hj q2.1, q2.2⟩
    | some v => rw [hr] at q2; exact q2
  · intro j m1 cs1 hj z hI
    exact turn j (l.getD j 0) m1 cs1 (by simp [hj]) z hI

def listIt (a : Addr) (j : Nat) : AO := .pred fun o => o.cls = .type "list_iterator" ∧ o.data = .fields #[.ref a, .int j 0]
theorem I_list {a : Addr} {vs : List Value} {Q : Value → List Chunk → Prop} (hne : cs ≠ []) (h : (a, .list vs) ∈ cs) (q : ∀ it, Q (.ref it) ((it, listIt a 0) :: cs)) : Op1 c A k cs pyIter (.ref a) nv Q := by
  intro _ R s a' ha hs
  rw [nv_ref ha]
  obtain ⟨o, ho, its, u, rfl, hi⟩ := hs.at (List.mem_append_left R h)
  exact wpAny_pyIter_list ⟨_, ho, rfl, u, rfl⟩ ⟨_, hs.to hs.pos (hs.own.push (ao := listIt a 0) (hs.own.size (by simp [hne])) rfl ⟨rfl, rfl⟩), q _⟩
theorem N_list {a it : Addr} {vs : List Value} {j : Nat} (h : (a, .list vs) ∈ cs) : NextV c A k ((it, listIt a j) :: cs) (.ref it) (fun r cs2 => match r with | none => j ≥ vs.length ∧ cs2 = cs | some v => j < vs.length ∧ vs[j]? = some v ∧ cs2 = (it, listIt a (j + 1)) :: cs) := by
  intro hA R s it' hit hs
  rw [nv_ref hit]
  obtain ⟨o, ho, hc, hd⟩ := hs.at (a := it) (ao := listIt a j) (by simp)
  obtain ⟨o', ho', its, u, rfl, hi⟩ := hs.at (List.mem_append_left R (List.mem_cons_of_mem _ h))
  have hL : s.heap.IsList a its := ⟨_, ho', rfl, u, rfl⟩
  have hl := len_its hi
  by_cases hj : j < vs.length
  · obtain ⟨v', q1, q2⟩ := at_its (j := j) (v := vs[j]) hi (by simp [hj])
    refine wpAny_pyNext_list_item ⟨o, ho, hc, hd⟩ hL q1 fun h' ⟨o2, e2, c2, d2⟩ sb => ?_
    exact ⟨(it, listIt a (j + 1)) :: cs, hs.to hs.pos (hs.own.upd Upd.head (fun b y hb e => (sb.2 b hb).trans e) e2 ⟨c2, d2⟩), hj, by simp [hj, q2], rfl⟩
  · refine wpAny_pyNext_list_end hA.1 ⟨o, ho, hc, hd⟩ hL (by simp; omega) fun h' sb => ?_
    exact ⟨cs, St.but hs sb, by omega, rfl⟩
theorem EX_for_list {t iter : Expr} {body : List Stmt} {pos : Pos} {a : Addr} {vs : List Value} {cs1 : List Chunk} {Q : Flow → Fields → List Chunk → Prop} (I : Nat → Fields → List Chunk → Prop)
    (h : EV c i k m cs iter (fun v cs2 => v = .ref a ∧ cs2 = cs1)) (h0 : I 0 m cs1) (hm : ∀ j m1 cs1, I j m1 cs1 → (a, .list vs) ∈ cs1)
    (turn : ∀ j x m1 cs1, vs[j]? = some x → SameKeys m m1 → I j m1 cs1 → AS c i k m1 cs1 t x (fun m2 cs2 => EXS c i k m2 cs2 body (Turn (I (j + 1)) Q)))
    (fin : ∀ m1 cs1, SameKeys m m1 → I vs.length m1 cs1 → Q .next m1 cs1)
    (hf : ∀ env x, foldedSetIterable iter env x = pure x := by intro _ _; rfl) : EX c i k m cs (.For t iter body [] pos) Q := by
  refine EX_for (h.mono fun v cs2 => ?_) hf
  rintro ⟨rfl, rfl⟩
  refine I_list (List.ne_nil_of_mem (hm _ _ _ h0)) (hm _ _ _ h0) fun it => ?_
  refine FOR_any (listIt a) vs.length (fun j => vs.getD j .none) I ?_ ?_ ?_ fin h0
  · rintro j o ⟨hc, -⟩
    exact ⟨_, hc, by decide⟩
  · intro j m1 cs1 hj hI hA R s it' hit hs
    refine noE (N_list (hm _ _ _ hI) hA R s it' hit hs) ?_
    rintro r s2 ⟨cs2, h2, q2⟩
    refine ⟨cs2, h2, ?_⟩
    cases hr : r.map nv with
    | none => rw [hr] at q2; exact ⟨Nat.le_antisymm hj q2.1, q2.2⟩
    | some v => rw [hr] at q2; exact ⟨q2.1, by simp [q2.2.1], q2.2.2⟩
  · intro j m1 cs1 hj z hI
    exact turn j (vs.getD j .none) m1 cs1 (by simp [hj]) z hI

def rangeIt (n j : Nat) : AO := .pred fun o => o = { cls := .type "range_iterator", dict := none, data := .fields #[rawInt j, rawInt ((n : Int) - j), rawInt 1], slots := #[] }
def rangeAt (n : Nat) : AO := .pred fun o => ∃ t u v, o = { cls := .type "range", dict := none, data := .fields #[.int 0 t, .int n u, .int 1 v], slots := #[] }
theorem K_range {n : Nat} {Q : Value → List Chunk → Prop} (hne : cs ≠ []) (q : ∀ r, Q (.ref r) ((r, rangeAt n) :: cs)) : CallV c A k cs (.type "range") [.int n 0] Q := by
  intro _ R s as ha hs
  obtain ⟨a', rfl, hv⟩ := map_one ha
  obtain ⟨-, t, rfl⟩ := nv_int hv
  refine call_range_1 ?_
  exact ⟨_, hs.to (Nat.succ_pos _) (hs.own.push (ao := rangeAt n) (hs.own.size (by simp [hne])) rfl ⟨_, _, _, rfl⟩), q _⟩
theorem I_range {n : Nat} {r : Addr} {Q : Value → List Chunk → Prop} (hn : n ≤ 1000000) (q : ∀ it, Q (.ref it) ((it, rangeIt n 0) :: cs)) : Op1 c A k ((r, rangeAt n) :: cs) pyIter (.ref r) nv Q := by
  intro _ R s a' ha hs
  rw [nv_ref ha]
  obtain ⟨o, ho, t, u, v, rfl⟩ := hs.at (a := r) (ao := rangeAt n) (by simp)
  have hlow := hs.own.size (by simp)
  have hs' : St c (cs ++ R) s := hs.tail
  refine wpAny_pyIter_range ho (small_one (by omega) (by omega) (by omega) (by omega)) ?_
  refine ⟨_, hs'.to hs'.pos (hs'.own.push (ao := rangeIt n 0) hlow rfl ?_), q _⟩
  show _ = _
  rw [rangeSize_one]
  by_cases h0 : (0 : Int) < n
  · rw [if_pos h0]; rfl
  · rw [if_neg h0]
    have : (n : Int) = 0 := by omega
    rw [this]; rfl
theorem N_range {n j : Nat} {it : Addr} : NextV c A k ((it, rangeIt n j) :: cs) (.ref it) (fun r cs2 => match r with | none => j ≥ n ∧ cs2 = cs | some v => j < n ∧ v = .int j 0 ∧ cs2 = (it, rangeIt n (j + 1)) :: cs) := by
  intro hA R s it' hit hs
  rw [nv_ref hit]
  obtain ⟨o, ho, rfl⟩ := hs.at (a := it) (ao := rangeIt n j) (by simp)
  by_cases hj : j < n
  · refine wpAny_pyNext_range_item ho (by omega) fun h' e sb => ?_
    refine ⟨(it, rangeIt n (j + 1)) :: cs, hs.to (Nat.succ_pos _) (hs.own.upd Upd.head (fun b y hb e => (sb.2 b hb).trans e) e ?_), hj, rfl, rfl⟩
    show _ = _
    rw [show (n : Int) - (j + 1 : Nat) = (n : Int) - j - 1 by omega]
    rfl
  · refine wpAny_pyNext_range_end hA.1 ho (by omega) fun h' sb => ?_
    exact ⟨cs, St.but hs sb, by omega, rfl⟩
end
end Mine
end
section
open PySem PySem.W PySem.Calls PyProof.Rows
open PySem.Builtin.Str PySem.StrLaws
namespace Mine

/- ## values of kinds -/
abbrev strV (l : List Nat) : Value := .str ⟨l.toArray⟩ 0
theorem strsAre_of : ∀ {its : List Value} {ls : List (List Nat)}, its.map nv = ls.map strV → StrsAre its (ls.map fun l => ⟨l.toArray⟩)
  | [], [], _ => .nil
  | [], _ :: _, h => by simp at h
  | _ :: _, [], h => by simp at h
  | a :: r, l :: ls, h => by
    simp only [List.map_cons, List.cons.injEq] at h
    obtain ⟨-, t, rfl⟩ := nv_str h.1
    exact .cons _ _ (strsAre_of h.2)
theorem intsAre_of : ∀ {its : List Value} {ns : List Int}, its.map nv = ns.map (fun n => .int n 0) → IntsAre its ns
  | [], [], _ => .nil
  | [], _ :: _, h => by simp at h
  | _ :: _, [], h => by simp at h
  | a :: r, l :: ls, h => by
    simp only [List.map_cons, List.cons.injEq] at h
    obtain ⟨-, t, rfl⟩ := nv_int h.1
    exact .cons _ _ (intsAre_of h.2)

/- ## splitting at one sign -/
def spl (a : Nat) : List Nat → List (List Nat)
  | [] => [[]]
  | c :: r => if c = a then [] :: spl a r else match spl a r with
    | [] => [[c]]
    | p :: ps => (c :: p) :: ps
theorem spl_ne (a : Nat) : ∀ l, spl a l ≠ []
  | [] => by simp [spl]
  | c :: r => by
    unfold spl
    split
    · simp
    · split <;> simp
theorem spl_free (a : Nat) : ∀ p : List Nat, a ∉ p → spl a p = [p]
  | [], _ => rfl
  | c :: r, h => by
    simp only [List.mem_cons, not_or] at h
    unfold spl
    rw [if_neg (fun e => h.1 e.symm), spl_free a r h.2]
theorem spl_cut (a : Nat) (rest : List Nat) : ∀ p : List Nat, a ∉ p → spl a (p ++ a :: rest) = p :: spl a rest
  | [], _ => by show spl a (a :: rest) = _; rw [spl, if_pos rfl]
  | c :: r, h => by
    simp only [List.mem_cons, not_or] at h
    show spl a (c :: (r ++ a :: rest)) = _
    rw [spl, if_neg (fun e => h.1 e.symm), spl_cut a rest r h.2]
theorem spl_join (a : Nat) : ∀ parts : List Str, parts ≠ [] → (∀ p ∈ parts, a ∉ p.cps.toList) → spl a (Str.join ⟨#[a]⟩ parts).cps.toList = parts.map (·.cps.toList)
  | [], h, _ => absurd rfl h
  | [p], _, h => spl_free a _ (h p (List.mem_singleton.mpr rfl))
  | p :: q :: r, _, h => by
    have ih := spl_join a (q :: r) (by simp) fun x hx => h x (List.mem_cons_of_mem _ hx)
    show spl a (p ++ ⟨#[a]⟩ ++ Str.join ⟨#[a]⟩ (q :: r)).cps.toList = _
    simp only [Str.cps_append, Array.toList_append, List.append_assoc]
    show spl a (p.cps.toList ++ a :: (Str.join ⟨#[a]⟩ (q :: r)).cps.toList) = _
    rw [spl_cut a _ _ (h p (List.mem_cons_self ..)), ih]
    rfl
theorem split_ne (x : Str) (a : Nat) : Txt.split x ⟨#[a]⟩ ≠ [] := by
  unfold Txt.split
  split
  · simp
  · split
    · simp
    · rw [partsBetween_eq]
      obtain ⟨p, r, e⟩ := partsFrom_ne x (⟨#[a]⟩ : Str).length 0 (occurrences x ⟨#[a]⟩ 0 x.length (x.length + 1))
      rw [e]; simp
theorem split_eq (l : List Nat) (a : Nat) : Txt.split ⟨l.toArray⟩ ⟨#[a]⟩ = (spl a l).map fun p => ⟨p.toArray⟩ := by
  have := spl_join a _ (split_ne ⟨l.toArray⟩ a) (split_free ⟨l.toArray⟩ a)
  rw [join_split] at this
  show _ = (spl a (⟨l.toArray⟩ : Str).cps.toList).map _
  rw [this, List.map_map]
  conv => lhs; rw [← List.map_id (Txt.split ⟨l.toArray⟩ ⟨#[a]⟩)]
  apply List.map_congr_left
  intro p _
  apply Str.ext'
  simp
theorem spl_len (a : Nat) : ∀ l, (spl a l).length = l.count a + 1
  | [] => rfl
  | c :: r => by
    have ih := spl_len a r
    rw [spl]
    split
    · rename_i e; subst e; simp [ih]
    · rename_i e
      rw [List.count_cons_of_ne (fun q => e q)]
      cases h : spl a r with
      | nil => exact absurd h (spl_ne a r)
      | cons p ps => rw [h] at ih; simpa using ih
theorem spl_last (a : Nat) : ∀ l, ∃ ps p, spl a l = ps ++ [p] ∧ p.length = (l.reverse.takeWhile (· != a)).length := by
  intro l
  by_cases h : a ∈ l
  · obtain ⟨u, v, e, hv⟩ : ∃ u v, l = u ++ a :: v ∧ a ∉ v := by
      obtain ⟨v, u, e, hv⟩ := List.eq_append_cons_of_mem (List.mem_reverse.mpr h)
      refine ⟨u.reverse, v.reverse, ?_, by simpa using hv⟩
      have := congrArg List.reverse e
      simpa using this
    subst e
    have gen : ∀ u : List Nat, ∃ ps, spl a (u ++ a :: v) = ps ++ [v] := by
      intro u
      induction u with
      | nil => exact ⟨[[]], by show spl a (a :: v) = _; rw [spl, if_pos rfl, spl_free a v hv]; rfl⟩
      | cons c r ih =>
        obtain ⟨ps, e⟩ := ih
        show ∃ ps, spl a (c :: (r ++ a :: v)) = _
        rw [spl]
        split
        · exact ⟨[] :: ps, by rw [e]; rfl⟩
        · rw [e]
          cases ps with
          | nil =>
            exfalso
            have h1 := spl_len a (r ++ a :: v)
            rw [e] at h1
            simp at h1
          | cons p ps => exact ⟨(c :: p) :: ps, rfl⟩
    obtain ⟨ps, e⟩ := gen u
    refine ⟨ps, v, e, ?_⟩
    rw [List.reverse_append, List.reverse_cons, List.append_assoc, List.takeWhile_append_of_pos (by intro x hx; simp at hx ⊢; exact fun e => hv (e ▸ hx))]
    simp
  · refine ⟨[], l, by rw [spl_free a l h]; rfl, ?_⟩
    have : l.reverse.takeWhile (· != a) = l.reverse := by
      have := List.takeWhile_append_of_pos (p := (· != a)) (l₁ := l.reverse) (l₂ := []) (by intro x hx; simp at hx ⊢; exact fun e => h (e ▸ hx))
      simpa using this
    rw [this, List.length_reverse]

theorem mapV {l : List (Str × Tok)} {ps : List (List Nat)} (h : l.map (·.1) = ps.map fun p => (⟨p.toArray⟩ : Str)) : (strValues l).map nv = ps.map strV := by
  have e : (strValues l).map nv = (l.map (·.1)).map (fun x => Value.str x 0) := by
    unfold strValues
    rw [List.map_map, List.map_map]; rfl
  rw [e, h, List.map_map]; rfl
section
variable {prog : Program} {w : World} {A : Around} {s : Shared}
theorem split_any {x y : Str} {t u : Tok} {Q : Value → Shared → Prop} (hy : (y.length == 0) = false) (hsz : x.length + 2 ≤ sizeLine)
    (h : ∀ l k, s.toks ≤ k → l.map (·.1) = Txt.split x y → Q (.ref s.heap.objs.size) { s with heap := s.heap.push { cls := .type "list", data := .seq (strValues l).toArray }, toks := k }) :
    wpAny (model prog w) A (call (.builtin "str.split") [.str x t, .str y u]) Q NoE s := by
  have hx : x.length ≤ sizeLine := by omega
  have hn : (partsBetween x (occurrences x y 0 x.length (x.length + 1)) y.length).length ≤ sizeLine := by
    have e1 := StrLaws.occ_length_le_len x y 0 x.length (x.length + 1)
    rw [length_partsBetween]; omega
  cases h1 : (decide (x.length < y.length) || decide (strKind x < strKind y))
  · cases hf : (occurrences x y 0 x.length (x.length + 1)).isEmpty
    · refine call_meets F.slot_str_split (typeIs_str _ _ _) F.entry_str_split (F.args_str_split_2 _ _) (meets_str_split_sep x y t u h1 hy hf hx hn) ?_
      show Q _ { s with toks := _, heap := s.heap.push { cls := .type "list", data := .seq (strsFrom s.toks (partsBetween x (occurrences x y 0 x.length (x.length + 1)) y.length)).toArray } }
      rw [strsFrom_eq]
      exact h (numbered s.toks _) _ (Nat.le_add_right _ _) ((numbered_texts _ _).trans ((if_neg (ne_true_of_eq_false h1)).trans (if_neg (ne_true_of_eq_false hf))).symm)
    · exact call_meets F.slot_str_split (typeIs_str _ _ _) F.entry_str_split (F.args_str_split_2 _ _) (meets_str_split_not_found x y t u h1 hy hf)
        (h [(x, t)] s.toks (Nat.le_refl _) ((if_neg (ne_true_of_eq_false h1)).trans (if_pos hf)).symm)
  · exact call_meets F.slot_str_split (typeIs_str _ _ _) F.entry_str_split (F.args_str_split_2 _ _) (meets_str_split_cannot_occur x y t u h1)
      (h [(x, t)] s.toks (Nat.le_refl _) (if_pos h1).symm)
end
section
variable {c : Cx} {i : Fi} {A : Around} {k : Nat} {m : Fields} {cs cs' : List Chunk}
theorem K_split {l : List Nat} {a : Nat} {Q : Value → List Chunk → Prop} (hne : cs ≠ []) (hz : l.length ≤ 1000000) (q : ∀ r, Q (.ref r) ((r, .list ((spl a l).map strV)) :: cs)) :
    CallV c A k cs (.builtin "str.split") [.str ⟨l.toArray⟩ 0, .str ⟨[a].toArray⟩ 0] Q := by
  intro _ R s as ha hs
  obtain ⟨a1, a2, rfl, h1, h2⟩ := map_two ha
  obtain ⟨-, t1, rfl⟩ := nv_str h1; obtain ⟨-, t2, rfl⟩ := nv_str h2
  refine split_any rfl (by rw [str_len, sizeLine_eq]; omega) fun ll tk htk e => ?_
  have e' : ll.map (·.1) = (spl a l).map fun p => (⟨p.toArray⟩ : Str) := e.trans (split_eq l a)
  refine ⟨_, hs.to (Nat.lt_of_lt_of_le hs.pos htk) (hs.own.push (ao := .list ((spl a l).map strV)) (hs.own.size (by simp [hne])) rfl ⟨_, _, rfl, ?_⟩), q _⟩
  exact mapV e'
theorem glued_nil (ls : List (List Nat)) : Txt.join ⟨([] : List Nat).toArray⟩ (ls.map fun l => (⟨l.toArray⟩ : Str)) = ⟨ls.flatten.toArray⟩ := by
  unfold Txt.join
  rw [glued_eq_join]
  induction ls with
  | nil => rfl
  | cons p r ih =>
    cases r with
    | nil => 
      apply Str.ext'
      simp [Str.join]
    | cons q r' =>
      show (⟨p.toArray⟩ ++ ⟨([] : List Nat).toArray⟩ ++ Str.join ⟨([] : List Nat).toArray⟩ ((q :: r').map fun l => (⟨l.toArray⟩ : Str)) : Str) = _
      rw [ih]
      apply Str.ext'
      apply Array.toList_inj.mp
      simp [Str.cps_append]
theorem K_join {a : Addr} {ls : List (List Nat)} (h : (a, .list (ls.map strV)) ∈ cs) (hz : ls.flatten.length ≤ 1000000) (hl : ls.length ≤ 100000) :
    CallV c A k cs (.builtin "str.join") [.str ⟨([] : List Nat).toArray⟩ 0, .ref a] (Is cs (.str ⟨ls.flatten.toArray⟩ 0)) := by
  intro _ R s as ha hs
  obtain ⟨a1, a2, rfl, h1, h2⟩ := map_two ha
  obtain ⟨-, t1, rfl⟩ := nv_str h1
  rw [nv_ref h2]
  obtain ⟨o, ho, its, u, rfl, hi⟩ := hs.at (List.mem_append_left R h)
  refine toks_fin hs (join_listC (D := a) (items := its) ⟨_, ho, rfl, u, rfl⟩ (strsAre_of hi) (by decide) ?_ ?_)
  · have e : ((ls.map fun l => (⟨l.toArray⟩ : Str)).map (·.length)).sum = ls.flatten.length := by
      rw [List.map_map, List.length_flatten]
      congr 1
    rw [e, List.length_map]
    omega
  · intro t' k'
    rw [glued_nil]
    exact ⟨rfl, k', rfl⟩
/- ## a tuple's item -/
/- ## membership -/
theorem C_in_tup_ints {a : Addr} {ns : List Int} {x : Int} (h : (a, .tup (ns.map fun n => .int n 0)) ∈ cs) : Op2 c A k cs (compareOp .In) (.int x 0) (.ref a) nv (Is cs (.bool (ns.any (· == x)))) := by
  intro _ R s a' b' ha hb hs
  rw [nv_ref hb]
  obtain ⟨-, t, rfl⟩ := nv_int ha
  obtain ⟨o, ho, its, u, rfl, hi⟩ := hs.at (List.mem_append_left R h)
  exact in_tuple_ints ⟨_, ho, rfl, u, rfl⟩ (intsAre_of hi) ⟨cs, hs, rfl, rfl⟩
/-- a row that may be asked for one sign -/
def Row (c : Cx) (cs : List Chunk) (row : Value) (f : Nat → Bool) : Prop :=
  ∀ A k x, Op2 c A k cs (compareOp .In) (.str ⟨[x].toArray⟩ 0) row nv (Is cs (.bool (f x)))
theorem Row_list {a : Addr} {l : List Nat} (h : (a, .list (l.map fun x => strV [x])) ∈ cs) : Row c cs (.ref a) fun x => decide (x ∈ l) := by
  intro A k x _ R s a' b' ha hb hs
  rw [nv_ref hb]
  obtain ⟨-, t, rfl⟩ := nv_str ha
  obtain ⟨o, ho, its, u, rfl, hi⟩ := hs.at (List.mem_append_left R h)
  have e : its.toList.map nv = (l.map fun x => [x]).map strV := by rw [hi, List.map_map]; rfl
  refine in_list_strs (vs := its.toList) ⟨_, ho, rfl, u, by simp⟩ (strsAre_of e) ⟨cs, hs, ?_, rfl⟩
  show Value.bool _ = _
  congr 1
  rw [List.map_map, List.any_map, Bool.eq_iff_iff, List.any_eq_true, decide_eq_true_eq]
  constructor
  · rintro ⟨y, hy, e⟩
    have : (⟨[y].toArray⟩ : Str) = ⟨[x].toArray⟩ := eq_of_beq e
    injection this with this
    have := congrArg Array.toList this
    simp at this
    exact this ▸ hy
  · intro hx
    exact ⟨x, hx, by simp⟩
theorem Row_perm {row : Value} {f : Nat → Bool} {X Y : List Chunk} (h : Row c X row f) (p : cs.Perm (X ++ Y)) : Row c cs row f := by
  intro A k x hA R s a' b' ha hb hs
  refine noE (h A k x hA (Y ++ R) s a' b' ha hb (hs.perm ((p.append_right R).trans (by rw [List.append_assoc])))) ?_
  rintro v s' ⟨cs', h1, e, rfl⟩
  exact ⟨cs, h1.perm (((p.append_right R).trans (by rw [List.append_assoc])).symm), e, rfl⟩

/- ## a list taken several times, compared -/
theorem mul_any {M : Program} {s : Shared} {a : Addr} {its : Array Value} {u : Nat} {y : Int} {x : Tok} {Q : Value → Shared → Prop} {w : World} (ho : s.heap.get? a = some { cls := .type "list", data := .seq its u }) (hlo : -(2 ^ 63 : Int) ≤ y) (hhi : y < 2 ^ 63) (hsz : its.size * y.toNat ≤ 1000000)
    (q : Q (.ref s.heap.objs.size) { s with heap := s.heap.push { cls := .type "list", data := .seq (List.replicate y.toNat its.toList).flatten.toArray } }) : wpAny (model M w) A (binaryOp .Mult (.ref a) (.int y x)) Q NoE s := by
  have g1 : ¬ its.size * y.toNat > (2 ^ 63 - 1) / 8 := by omega
  refine wpAny_binaryOp_repeat_ref (T := "list") (U := "int") (by decide) ⟨_, ho, rfl⟩ (fun s' => typeIs_int s' _ _) noFill_list_mul F.fills_int_mul F.slot_int_rmul repeat_list F.slot_int_index.lookup
    (call_meets F.slot_int_rmul (typeIs_int s _ _) F.entry_int_rmul (F.args_int_rmul_2 _ _) (lm_int_rmul_list_any y x a its u none #[])
      ⟨ho, rfl, ⟨_, ho, rfl⟩, call_meets F.slot_list_mul ⟨_, ho, rfl⟩ F.entry_list_mul (F.args_list_mul_2 _ _)
        (lm_list_mul_any a its u none #[] y x (by simp [Builtin.List.listFitsIndex]; omega) g1 (by simp [Builtin.List.listTooLong, sizeLine]; omega))
        ⟨ho, ?_⟩⟩)
  rw [listMul_foldl_if]
  exact q
theorem B_mulL {a : Addr} {vs : List Value} {n : Nat} {Q : Value → List Chunk → Prop} (h : (a, .list vs) ∈ cs) (hz : vs.length * n ≤ 1000000) (hn : n ≤ 1000000)
    (q : ∀ r, Q (.ref r) ((r, .list (List.replicate n vs).flatten) :: cs)) : Op2 c A k cs (binaryOp .Mult) (.ref a) (.int n 0) nv Q := by
  intro _ R s a' b' ha hb hs
  rw [nv_ref ha]
  obtain ⟨-, x, rfl⟩ := nv_int hb
  obtain ⟨o, ho, its, u, rfl, hi⟩ := hs.at (List.mem_append_left R h)
  have hl := len_its hi
  have hlow := hs.own.size (by intro e; have := List.append_eq_nil_iff.mp e; rw [this.1] at h; cases h)
  have hsz' : its.size * ((n : Int).toNat) ≤ 1000000 := by rw [hl]; simpa using hz
  refine mul_any ho (by omega) (by omega) hsz' ?_
  refine ⟨_, hs.to hs.pos (hs.own.push (ao := .list (List.replicate n vs).flatten) hlow rfl ⟨_, _, rfl, ?_⟩), q _⟩
  rw [← hi]
  simp [List.map_flatten]
theorem readsAll_strs (h : Heap) : ∀ {its : List Value} {ls : List (List Nat)}, its.map nv = ls.map strV → ReadsAll h its (ls.map fun l => .str ⟨l.toArray⟩) []
  | [], [], _ => .nil
  | [], _ :: _, e => by simp at e
  | _ :: _, [], e => by simp at e
  | a :: r, l :: ls, e => by
    simp only [List.map_cons, List.cons.injEq] at e
    obtain ⟨-, t, rfl⟩ := nv_str e.1
    exact ReadsAll.cons (as := []) (.str _ _) (readsAll_strs h e.2)
theorem readsAll_ints (h : Heap) : ∀ {its : List Value} {ns : List Int}, its.map nv = ns.map (fun n => .int n 0) → ReadsAll h its (ns.map .int) []
  | [], [], _ => .nil
  | [], _ :: _, e => by simp at e
  | _ :: _, [], e => by simp at e
  | a :: r, l :: ls, e => by
    simp only [List.map_cons, List.cons.injEq] at e
    obtain ⟨-, t, rfl⟩ := nv_int e.1
    exact ReadsAll.cons (as := []) (.int _ _) (readsAll_ints h e.2)
theorem depth_strs (ls : List (List Nat)) : PyData.depthAll (ls.map fun l => .str ⟨l.toArray⟩) = 0 := by
  induction ls with
  | nil => rfl
  | cons a r ih => simp [PyData.depthAll, PyData.depth, ih]
theorem depth_ints (ls : List Int) : PyData.depthAll (ls.map .int) = 0 := by
  induction ls with
  | nil => rfl
  | cons a r ih => simp [PyData.depthAll, PyData.depth, ih]
def okL (l : List Nat) : Bool := l.all (· < 0x110000)
theorem lay_strs {ls : List (List Nat)} (h : ∀ l ∈ ls, okL l = true) : PyData.canLayAll0 (ls.map fun l => .str ⟨l.toArray⟩) = true := by
  induction ls with
  | nil => rfl
  | cons a r ih =>
    have h1 : PyData.strOk ⟨a.toArray⟩ = true := by
      have := h a (by simp)
      unfold okL at this
      unfold PyData.strOk
      simpa using this
    simp [PyData.canLayAll0, PyData.canLay0, ih (fun l hl => h l (List.mem_cons_of_mem _ hl)), h1]
theorem lay_ints (ls : List Int) : PyData.canLayAll0 (ls.map .int) = true := by
  induction ls with
  | nil => rfl
  | cons a r ih => simp [PyData.canLayAll0, PyData.canLay0, ih]
theorem eqv_strs : ∀ ls ms : List (List Nat), PyData.eqvAll (ls.map fun l => .str ⟨l.toArray⟩) (ms.map fun l => .str ⟨l.toArray⟩) = decide (ls = ms)
  | [], [] => by simp [PyData.eqvAll]
  | [], _ :: _ => by simp [PyData.eqvAll]
  | _ :: _, [] => by simp [PyData.eqvAll]
  | a :: r, b :: q => by
    have h1 : ((⟨a.toArray⟩ : Str) == ⟨b.toArray⟩) = decide (a = b) := by
      rw [Bool.eq_iff_iff, beq_iff_eq, decide_eq_true_eq]
      constructor
      · intro e
        injection e with e
        have := congrArg Array.toList e
        simpa using this
      · intro e; rw [e]
    simp only [List.map_cons, PyData.eqvAll, PyData.eqv, h1, eqv_strs r q]
    simp
theorem eqv_ints : ∀ ls ms : List Int, PyData.eqvAll (ls.map .int) (ms.map .int) = decide (ls = ms)
  | [], [] => by simp [PyData.eqvAll]
  | [], _ :: _ => by simp [PyData.eqvAll]
  | _ :: _, [] => by simp [PyData.eqvAll]
  | a :: r, b :: q => by
    simp only [List.map_cons, PyData.eqvAll, PyData.eqv, eqv_ints r q]
    by_cases h1 : a = b
    · simp [h1]
    · simp [h1]
theorem C_eqL {a b : Addr} {ls ms : List (List Nat)} (ha : (a, .list (ls.map strV)) ∈ cs) (hb : (b, .list (ms.map strV)) ∈ cs) (h1 : ∀ l ∈ ls, okL l = true) (h2 : ∀ l ∈ ms, okL l = true) :
    Op2 c A k cs (compareOp .Eq) (.ref a) (.ref b) nv (Is cs (.bool (decide (ls = ms)))) := by
  intro hA R s a' b' ea eb hs
  rw [nv_ref ea, nv_ref eb]
  obtain ⟨o, ho, its, u, rfl, hi⟩ := hs.at (List.mem_append_left R ha)
  obtain ⟨o', ho', its', u', rfl, hi'⟩ := hs.at (List.mem_append_left R hb)
  refine SeqAt.compareEq_reads (.list ho rfl rfl (readsAll_strs _ hi)) (.list ho' rfl rfl (readsAll_strs _ hi')) (lay_strs h1) (lay_strs h2) ?_ ?_
  · have := hA.2.2
    simp only [PyData.depth, depth_strs, cLine]
    omega
  · refine ⟨cs, hs, ?_, rfl⟩
    show Value.bool (PyData.eqvAll _ _) = _
    rw [eqv_strs]
theorem C_neL {a b : Addr} {ls ms : List (List Nat)} (ha : (a, .list (ls.map strV)) ∈ cs) (hb : (b, .list (ms.map strV)) ∈ cs) (h1 : ∀ l ∈ ls, okL l = true) (h2 : ∀ l ∈ ms, okL l = true) :
    Op2 c A k cs (compareOp .NotEq) (.ref a) (.ref b) nv (Is cs (.bool (!decide (ls = ms)))) := by
  intro hA R s a' b' ea eb hs
  rw [nv_ref ea, nv_ref eb]
  obtain ⟨o, ho, its, u, rfl, hi⟩ := hs.at (List.mem_append_left R ha)
  obtain ⟨o', ho', its', u', rfl, hi'⟩ := hs.at (List.mem_append_left R hb)
  refine SeqAt.compareNe_reads (.list ho rfl rfl (readsAll_strs _ hi)) (.list ho' rfl rfl (readsAll_strs _ hi')) (lay_strs h1) (lay_strs h2) ?_ ?_
  · have := hA.2.2
    simp only [PyData.depth, depth_strs, cLine]
    omega
  · refine ⟨cs, hs, ?_, rfl⟩
    show Value.bool (!PyData.eqvAll _ _) = _
    rw [eqv_strs]
theorem C_neT {a b : Addr} {ls ms : List Int} (ha : (a, .tup (ls.map fun n => .int n 0)) ∈ cs) (hb : (b, .tup (ms.map fun n => .int n 0)) ∈ cs) :
    Op2 c A k cs (compareOp .NotEq) (.ref a) (.ref b) nv (Is cs (.bool (!decide (ls = ms)))) := by
  intro hA R s a' b' ea eb hs
  rw [nv_ref ea, nv_ref eb]
  obtain ⟨o, ho, its, u, rfl, hi⟩ := hs.at (List.mem_append_left R ha)
  obtain ⟨o', ho', its', u', rfl, hi'⟩ := hs.at (List.mem_append_left R hb)
  refine SeqAt.compareNe_reads (.tuple ho rfl rfl (readsAll_ints _ hi)) (.tuple ho' rfl rfl (readsAll_ints _ hi')) (lay_ints _) (lay_ints _) ?_ ?_
  · have := hA.2.2
    simp only [PyData.depth, depth_ints, cLine]
    omega
  · refine ⟨cs, hs, ?_, rfl⟩
    show Value.bool (!PyData.eqvAll _ _) = _
    rw [eqv_ints]
end
end Mine
end
section
open PySem PySem.W PySem.Calls PyProof.Rows
namespace Mine

section
variable {c : Cx} {i : Fi} {A : Around} {k : Nat} {m : Fields} {cs cs' : List Chunk}
theorem PE_meth {o e : Expr} {rest : List Expr} {name : Str} {id : String} {apos pos : Pos} {x : List Nat} {vs : List Value} {v : Value} (slot : Slot "str" name id) (hty : typeOf (.builtin id) = pure (.type "method_descriptor"))
    (ho : PE c i k m cs o (.str ⟨x.toArray⟩ 0)) (ha : PEs c i k m cs (e :: rest) vs) (h : CallV c i.A k cs (.builtin id) (.str ⟨x.toArray⟩ 0 :: vs) (Is cs v))
    (hc : MCall o name (e :: rest) apos pos := by intro _; exact ⟨_, rfl⟩)
    (he : ∀ env, starEach (e :: rest) env = (false, eval e env) :: starEach rest env := by intro _; rfl)
    (hp : ∀ pos env, (backTo pos (starEach rest env)).any (·.1) = false := by intro _ _; rfl) : PE c i k m cs (.Call (.Attribute o name apos) (e :: rest) [] pos) v :=
  EV_methP ho ha (M_str slot hty ⟨rfl, .inl ⟨_, rfl⟩, h⟩) hc he hp
theorem PE_count {o e : Expr} {apos pos p1 p2 : Pos} {u1 u2 : Nat} {l : List Nat} {y : Str} {a n : Nat} (ho : PE c i k m cs o (.str ⟨l.toArray⟩ 0)) (hy : y = ⟨[a].toArray⟩) (he : PE c i k m cs e (.int n 0)) (hn : n ≤ l.length)
    (hc : MCall o "count" [.Constant (.str y) u1 p1, .Constant (.int 0) u2 p2, e] apos pos := by intro _; exact ⟨_, rfl⟩)
    (h1 : ∀ env, starEach [.Constant (.str y) u1 p1, .Constant (.int 0) u2 p2, e] env = (false, eval (.Constant (.str y) u1 p1) env) :: starEach [.Constant (.int 0) u2 p2, e] env := by intro _; rfl)
    (h2 : ∀ env, starEach [.Constant (.int 0) u2 p2, e] env = (false, eval (.Constant (.int 0) u2 p2) env) :: starEach [e] env := by intro _; rfl)
    (h3 : ∀ env, starEach [e] env = (false, eval e env) :: starEach [] env := by intro _; rfl)
    (hp : ∀ pos env, (backTo pos (starEach [.Constant (.int 0) u2 p2, e] env)).any (·.1) = false := by intro _ _; rfl) :
    PE c i k m cs (.Call (.Attribute o "count" apos) [.Constant (.str y) u1 p1, .Constant (.int 0) u2 p2, e] [] pos) (.int ((l.take n).count a : Nat) 0) :=
  PE_meth F.slot_str_count F.type_str_count ho (PEs_cons (PE_str hy) (PEs_cons PE_int (PEs_cons he PEs_nil h3) h2) h1) (K_count hn) hc h1 hp
theorem PE_rfind {o e : Expr} {apos pos p1 p2 : Pos} {u1 u2 : Nat} {l : List Nat} {y : Str} {a n : Nat} (ho : PE c i k m cs o (.str ⟨l.toArray⟩ 0)) (hy : y = ⟨[a].toArray⟩) (he : PE c i k m cs e (.int n 0)) (hn : n ≤ l.length)
    (hc : MCall o "rfind" [.Constant (.str y) u1 p1, .Constant (.int 0) u2 p2, e] apos pos := by intro _; exact ⟨_, rfl⟩)
    (h1 : ∀ env, starEach [.Constant (.str y) u1 p1, .Constant (.int 0) u2 p2, e] env = (false, eval (.Constant (.str y) u1 p1) env) :: starEach [.Constant (.int 0) u2 p2, e] env := by intro _; rfl)
    (h2 : ∀ env, starEach [.Constant (.int 0) u2 p2, e] env = (false, eval (.Constant (.int 0) u2 p2) env) :: starEach [e] env := by intro _; rfl)
    (h3 : ∀ env, starEach [e] env = (false, eval e env) :: starEach [] env := by intro _; rfl)
    (hp : ∀ pos env, (backTo pos (starEach [.Constant (.int 0) u2 p2, e] env)).any (·.1) = false := by intro _ _; rfl) :
    PE c i k m cs (.Call (.Attribute o "rfind" apos) [.Constant (.str y) u1 p1, .Constant (.int 0) u2 p2, e] [] pos) (.int (lastI a (l.take n)) 0) :=
  PE_meth F.slot_str_rfind F.type_str_rfind ho (PEs_cons (PE_str hy) (PEs_cons PE_int (PEs_cons he PEs_nil h3) h2) h1) (K_rfind hn) hc h1 hp
/-- ord of a sign -/
theorem PE_ord {e : Expr} {pos p2 : Pos} {gl : List Str} {n : Nat} (hg : GOk i gl) (hx : Str.ofString "ord" ∈ gl) (he : PE c i k m cs e (.str ⟨[n].toArray⟩ 0))
    (hn : nsIn c.K mainGlobals "ord" = some none)
    (hs : ∀ env, starEach [e] env = (false, eval e env) :: starEach [] env := by intro _; rfl)
    (hc : ∀ env, eval (.Call (.Name "ord" p2) [e] [] pos) env = (do let f ← eval (.Name "ord" p2) env; callWith pos f [] (backTo pos (starEach [e] env)) (backToKw pos (keywordEach [] env))) := by intro _; rfl) :
    PE c i k m cs (.Call (.Name "ord" p2) [e] [] pos) (.int n 0) :=
  EV_callB' (f := "ord") (PE_bi (v := .builtin "ord") hg hx hn (by boot_fast) (by decide)) (PEs_cons he PEs_nil hs) K_ord hc hs
end

section
variable {c : Cx} {i : Fi} {A : Around} {k : Nat} {m : Fields} {cs cs' : List Chunk}
theorem St.pick {cs₁ R : List Chunk} {s : Shared} {p x : Chunk} (t : Pick cs x cs₁) (hs : St c (p :: (cs ++ R)) s) : St c (p :: (cs₁ ++ R)) s := by
  have := hs.perm (((t.perm.append_right R).cons p).trans (List.Perm.swap _ _ _))
  exact this.tail
/-- a chunk let go -/
theorem EXS_pick {cs₁ : List Chunk} {x : Chunk} {e : List Stmt} {Q : Flow → Fields → List Chunk → Prop} (t : Pick cs x cs₁) (h : EXS c i k m cs₁ e Q) : EXS c i k m cs e Q :=
  fun hF R s hs => h hF R s (hs.pick t)
theorem AS_tupleD {cs₁ : List Chunk} {ts : List Expr} {u : Nat} {pos : Pos} {t : Addr} {vs : List Value} {Q : Fields → List Chunk → Prop} (ht : Pick cs (t, .tup vs) cs₁) (h : ASs c i k m cs₁ ts vs Q)
    (hl : ∀ env, (assignEach ts env).length = vs.length := by intro _; rfl) (hf : ∀ env, (assignEach ts env).findIdx? (·.1) = none := by intro _; rfl) : AS c i k m cs (.Tuple ts u pos) (.ref t) Q :=
  AS_tuple (ht.perm.mem_iff.mpr (by simp)) (fun hF R s vs' hv hs => h hF R s vs' hv (hs.pick ht)) hl hf
theorem EV.drop {e : Expr} {Q : Value → List Chunk → Prop} (h : EV c i k m cs e (fun v cs' => ∃ x cs₁, Pick cs' x cs₁ ∧ Q v cs₁)) : EV c i k m cs e Q :=
  fun hF R s hs => noE (h hF R s hs) fun _ _ ⟨cs', g, x, cs₁, p, q⟩ => ⟨cs₁, g.pick p, q⟩
theorem PE_inT {l : Expr} {es : List Expr} {u : Nat} {p pos : Pos} {x : Int} (ns : List Int) (hl : PE c i k m cs l (.int x 0)) (he : PEs c i k m cs es (ns.map fun n => .int n 0)) (hz : ns.length ≤ 1000)
    (hm : behindInMarks .In (.Tuple es u p) = false := by with_unfolding_all rfl) : PE c i k m cs (.Compare l [.In] [.Tuple es u p] pos) (.bool (ns.any (· == x))) := by
  refine EV.drop (EV_cmp (hl.ev (EV_tuple (he.evs ⟨by simp; omega, fun t => ?_⟩))) hm)
  exact (C_in_tup_ints (a := t) (ns := ns) (by simp)).mono fun v cs2 ⟨e1, e2⟩ => by subst e2; exact ⟨_, _, .head, e1, rfl⟩
theorem Take.perm0 {l F : List Chunk} (t : Take l F []) : l.Perm F := by
  have : l.Perm (F ++ []) := t
  rwa [List.append_nil] at this
/-- what a function leaves may stand in another order -/
theorem CodeV.perm {f : Value} {args : List Value} {Q : Value → List Chunk → Prop} (h : CodeV c A k cs f args (fun v cs' => ∃ cs₁, Take cs' cs₁ [] ∧ Q v cs₁)) : CodeV c A k cs f args Q := by
  intro hA R s vs hvs hs
  refine codeAny_mono (h hA R s vs hvs hs) ?_
  intro r s' z
  rcases r with e | (v | _ | _ | _) <;> first | exact z.elim | skip
  obtain ⟨cs', g, cs₁, p, q⟩ := z
  exact ⟨cs₁, g.perm (p.perm0.append_right R), q⟩
/-- what a function leaves may be less -/
theorem CodeV.drop {f : Value} {args : List Value} {Q : Value → List Chunk → Prop} (h : CodeV c A k cs f args (fun v cs' => ∃ x cs₁, Pick cs' x cs₁ ∧ Q v cs₁)) : CodeV c A k cs f args Q := by
  intro hA R s vs hvs hs
  refine codeAny_mono (h hA R s vs hvs hs) ?_
  intro r s' z
  rcases r with e | (v | _ | _ | _) <;> first | exact z.elim | skip
  obtain ⟨cs', g, x, cs₁, p, q⟩ := z
  exact ⟨cs₁, (g.perm (p.perm.append_right R)).tail, q⟩
end

/- ## line and column -/
def colOf (l : List Nat) (pc : Nat) : Nat := if 10 ∈ l then (l.reverse.takeWhile (· != 10)).length else pc + l.length
theorem lastI_no {l : List Nat} (h : 10 ∉ l) : lastI 10 l = -1 := by unfold lastI; rw [if_neg h]
theorem lastI_yes {l : List Nat} (h : 10 ∈ l) : lastI 10 l ≠ -1 ∧ (l.length : Int) - (lastI 10 l + 1) = (l.reverse.takeWhile (· != 10)).length := by
  unfold lastI
  rw [if_pos h]
  obtain ⟨v, u, e, hv⟩ := List.eq_append_cons_of_mem (List.mem_reverse.mpr h)
  have hlt : (l.reverse.takeWhile (· != 10)).length < l.length := by
    have h2 : l.length = l.reverse.length := by simp
    rw [h2, e, List.takeWhile_append_of_pos (by intro x hx; simp; exact fun q => hv (q ▸ hx))]
    simp
  omega
end Mine
end
section
open PySem PySem.W PySem.Calls PyProof.Rows
namespace Mine

section
variable {c : Cx} {i : Fi} {A : Around} {k : Nat} {m : Fields} {cs cs' : List Chunk}
theorem EV_append {o e : Expr} {apos pos : Pos} {a : Addr} {vs : List Value} {v : Value} {Q : Value → List Chunk → Prop} (ho : PE c i k m cs o (.ref a)) (he : PE c i k m cs e v) (h : (a, .list vs) ∈ cs) (U : Upd cs a (.list (vs ++ [v])) cs') (hz : vs.length ≤ 1000000) (q : Q .none cs')
    (hc : MCall o "append" [e] apos pos := by intro _; exact ⟨_, rfl⟩) (hs : ∀ env, starEach [e] env = (false, eval e env) :: starEach [] env := by intro _; rfl) :
    EV c i k m cs (.Call (.Attribute o "append" apos) [e] [] pos) Q :=
  EV_methP ho (PEs_cons he PEs_nil hs) (M_list h F.slot_list_append F.type_list_append ⟨rfl, .inl ⟨_, rfl⟩, K_append h U hz q⟩) hc hs
theorem EV_pop {o : Expr} {apos pos : Pos} {a : Addr} {vs : List Value} {v : Value} {Q : Value → List Chunk → Prop} (ho : PE c i k m cs o (.ref a)) (h : (a, .list (vs ++ [v])) ∈ cs) (U : Upd cs a (.list vs) cs') (hz : vs.length ≤ 1000000) (q : Q v cs')
    (hc : MCall o "pop" [] apos pos := by intro _; exact ⟨_, rfl⟩) :
    EV c i k m cs (.Call (.Attribute o "pop" apos) [] [] pos) Q :=
  EV_methP0 ho (M_list h F.slot_list_pop F.type_list_pop ⟨rfl, .inl ⟨_, rfl⟩, K_pop h U hz q⟩) hc
theorem PE_globR {x : Str} {a : Addr} {pos : Pos} {gl : List Str} (hg : GOk i gl) (hx : x ∈ gl) (e : nsIn c.K mainGlobals x = some (some (.ref a))) (hd : (x == ("__debug__" : Str)) = false := by decide) :
    PE c i k m cs (.Name x pos) (.ref a) := PE_glob hg hx e hd
theorem PE_globN {x : Str} {pos : Pos} {gl : List Str} (hg : GOk i gl) (hx : x ∈ gl) (e : nsIn c.K mainGlobals x = some (some .none)) (hd : (x == ("__debug__" : Str)) = false := by decide) :
    PE c i k m cs (.Name x pos) .none := PE_glob hg hx e hd
/-- a function of the module, called for its value alone -/
theorem PE_callK {func e : Expr} {rest : List Expr} {pos : Pos} {f : Addr} {vs : List Value} {v : Value} (hf : PE c i k m cs func (.ref f)) (hk : keepIn c.K (.ref f) = true) (ha : PEs c i k m cs (e :: rest) vs) (h : CodeV c i.A k cs (.ref f) vs (fun v' cs' => v' = v ∧ cs' = cs))
    (hc : ∀ env, eval (.Call func (e :: rest) [] pos) env = (do let f ← eval func env; callWith pos f [] (backTo pos (starEach (e :: rest) env)) (backToKw pos (keywordEach [] env))) := by intro _; rfl)
    (he : ∀ env, starEach (e :: rest) env = (false, eval e env) :: starEach rest env := by intro _; rfl)
    (hp : ∀ pos env, (backTo pos (starEach rest env)).any (·.1) = false := by intro _ _; rfl) : PE c i k m cs (.Call func (e :: rest) [] pos) v := EV_callK' hf hk ha h hc he hp
/-- the empty join of a list -/
theorem EV_join0 {o e : Expr} {apos pos : Pos} {a : Addr} {ls : List (List Nat)} {Q : Value → List Chunk → Prop} (ho : PE c i k m cs o (.str ⟨([] : List Nat).toArray⟩ 0)) (he : PE c i k m cs e (.ref a)) (h : (a, .list (ls.map strV)) ∈ cs) (hz : ls.flatten.length ≤ 1000000) (hl : ls.length ≤ 100000)
    (q : Q (.str ⟨ls.flatten.toArray⟩ 0) cs) (hc : MCall o "join" [e] apos pos := by intro _; exact ⟨_, rfl⟩) (hs : ∀ env, starEach [e] env = (false, eval e env) :: starEach [] env := by intro _; rfl) :
    EV c i k m cs (.Call (.Attribute o "join" apos) [e] [] pos) Q :=
  EV_methP ho (PEs_cons he PEs_nil hs) (M_str F.slot_str_join F.type_str_join ⟨rfl, .inl ⟨_, rfl⟩, (K_join h hz hl).is q⟩) hc hs
end

theorem noBool_meth : typeLookup (.type "method") "__bool__" = pure none := by rw [typeLookup_type, builtinLookup_eq_fast]; kernel_rfl
theorem noLen_meth : typeLookup (.type "method") "__len__" = pure none := by rw [typeLookup_type, builtinLookup_eq_fast]; kernel_rfl
theorem T_bm {c : Cx} {A : Around} {k : Nat} {cs : List Chunk} {b f x : Addr} (h : (b, .bm f x) ∈ cs) : Op1 c A k cs truthy (.ref b) id (Is cs true) := by
  intro _ R s a' ha hs
  rw [nv_ref ha]
  obtain ⟨o, ho, rfl⟩ := hs.at (List.mem_append_left R h)
  have hT : s.TypeIs (.ref b) "method" := ⟨_, ho, rfl⟩
  unfold truthy
  first
    | refine wpAny_bind (wpAny_callSpecial?_none (name := Str.ofString "__bool__") hT noBool_meth ?_)
    | refine wpAny_bind (wpAny_pure (wpAny_bind (wpAny_callSpecial?_none (name := Str.ofString "__bool__") hT noBool_meth ?_)))
  first
    | refine wpAny_bind (wpAny_specialOf (name := Str.ofString "__len__") hT noLen_meth ?_)
    | refine wpAny_bind (wpAny_pure (wpAny_bind (wpAny_specialOf (name := Str.ofString "__len__") hT noLen_meth ?_)))
  exact wpAny_pure ⟨cs, hs, rfl, rfl⟩
theorem EX.thenR {c : Cx} {i : Fi} {k : Nat} {m m₁ : Fields} {cs cs₁ : List Chunk} {st : Stmt} {rest : List Stmt} {Q : Flow → Fields → List Chunk → Prop} (h : EX c i k m cs st (fun f m' cs' => f = .next ∧ m' = m₁ ∧ cs' = cs₁)) (h2 : EXS c i k m₁ cs₁ rest Q) : EXS c i k m cs (st :: rest) Q :=
  EXS_cons (h.mono fun f m' cs' ⟨e1, e2, e3⟩ => by subst e1 e2 e3; exact h2)
theorem EX_thenR {c : Cx} {i : Fi} {k : Nat} {m m₁ : Fields} {cs cs₁ : List Chunk} {st : Stmt} {rest : List Stmt} {Q : Flow → Fields → List Chunk → Prop} (h : EX c i k m cs st (fun f m' cs' => f = .next ∧ m' = m₁ ∧ cs' = cs₁)) (h2 : EXS c i k m₁ cs₁ rest Q) : EX c i k m cs st (Then c i k rest Q) :=
  h.mono fun f m' cs' ⟨e1, e2, e3⟩ => by subst e1 e2 e3; exact h2
theorem EX_thenE {ι : Type} {c : Cx} {i : Fi} {k : Nat} {m : Fields} (m₁ : ι → Fields) {cs : List Chunk} (cs₁ : ι → List Chunk) {st : Stmt} {rest : List Stmt} {Q : Flow → Fields → List Chunk → Prop} (h : EX c i k m cs st (fun f m' cs' => f = .next ∧ ∃ o, m' = m₁ o ∧ cs' = cs₁ o)) (h2 : ∀ o, EXS c i k (m₁ o) (cs₁ o) rest Q) : EX c i k m cs st (Then c i k rest Q) :=
  h.mono fun f m' cs' ⟨e1, o, e2, e3⟩ => by subst e1 e2 e3; exact h2 o
theorem Turn_brk {J : Fields → List Chunk → Prop} {Q : Flow → Fields → List Chunk → Prop} {m : Fields} {cs : List Chunk} (h : Q .next m cs) : Turn J Q .brk m cs := h
theorem Turn_next {J : Fields → List Chunk → Prop} {Q : Flow → Fields → List Chunk → Prop} {m : Fields} {cs : List Chunk} (h : J m cs) : Turn J Q .next m cs := h
theorem Turn_ret {J : Fields → List Chunk → Prop} {Q : Flow → Fields → List Chunk → Prop} {m : Fields} {cs : List Chunk} {v : Value} (h : Q (.ret v) m cs) : Turn J Q (.ret v) m cs := h
theorem EXS_front {c : Cx} {i : Fi} {k : Nat} {m : Fields} {cs cs₁ : List Chunk} {x : Chunk} {e : List Stmt} {Q : Flow → Fields → List Chunk → Prop} (t : Pick cs x cs₁) (h : EXS c i k m (x :: cs₁) e Q) : EXS c i k m cs e Q := EXS.perm t.perm h
theorem CodeV.permR {c : Cx} {A : Around} {k : Nat} {cs : List Chunk} {f : Value} {args : List Value} {Q : Value → List Chunk → Prop} (h : CodeV c A k cs f args (fun v cs' => ∃ F R₀, Take cs' F R₀ ∧ Q v (F ++ R₀))) : CodeV c A k cs f args Q := by
  intro hA R s vs hvs hs
  refine codeAny_mono (h hA R s vs hvs hs) ?_
  intro r s' z
  rcases r with e | (v | _ | _ | _) <;> first | exact z.elim | skip
  obtain ⟨cs', g, F, R₀, p, q⟩ := z
  exact ⟨F ++ R₀, g.perm (List.Perm.append_right R p), q⟩
theorem countP_take {α : Type} (p : α → Bool) (l : List α) (j : Nat) (x : α) (h : l[j]? = some x) : (l.take (j + 1)).countP p = (l.take j).countP p + (if p x = true then 1 else 0) := by
  obtain ⟨hlt, e⟩ := List.getElem?_eq_some_iff.mp h
  rw [List.take_succ, h, List.countP_append]
  congr 1
  simp [List.countP_cons]
end Mine
end
section
open PySem PySem.W PySem.Calls PyProof.Rows
namespace Mine
theorem lit_a : Str.ofString "a" = ⟨[97].toArray⟩ := by decide +kernel
theorem lit_b : Str.ofString "b" = ⟨[98].toArray⟩ := by decide +kernel
theorem lit_soh : Str.ofString "\x01" = ⟨[1].toArray⟩ := by decide +kernel
section
variable {c : Cx} {i : Fi} {A : Around} {k : Nat} {m : Fields} {cs cs' : List Chunk}
theorem B_fdiv {a b : Int} (h : b ≠ 0) (h2 : b.natAbs.log2 < 9000) : Op2 c A k cs (binaryOp .FloorDiv) (.int a 0) (.int b 0) nv (Is cs (.int (a.fdiv b) 0)) := by
  intro _ R s a' b' ha hb hs
  obtain ⟨-, t, rfl⟩ := nv_int ha; obtain ⟨-, u, rfl⟩ := nv_int hb
  exact PyProof.Rows.floordiv_int h ⟨cs, hs.toks (Nat.succ_pos _), rfl, rfl⟩ (Or.inl (PyProof.noPylong_of_log2 h2))
theorem PE_chr {e : Expr} {pos p2 : Pos} {gl : List Str} {n : Int} (hg : GOk i gl) (hx : Str.ofString "chr" ∈ gl) (he : PE c i k m cs e (.int n 0)) (h0 : 0 ≤ n) (h1 : n ≤ 0x10FFFF)
    (hn : nsIn c.K mainGlobals "chr" = some none)
    (hs : ∀ env, starEach [e] env = (false, eval e env) :: starEach [] env := by intro _; rfl)
    (hc : ∀ env, eval (.Call (.Name "chr" p2) [e] [] pos) env = (do let f ← eval (.Name "chr" p2) env; callWith pos f [] (backTo pos (starEach [e] env)) (backToKw pos (keywordEach [] env))) := by intro _; rfl) :
    PE c i k m cs (.Call (.Name "chr" p2) [e] [] pos) (strV [n.toNat]) :=
  EV_callB' (f := "chr") (PE_bi (v := .builtin "chr") hg hx hn (by boot_fast) (by decide)) (PEs_cons he PEs_nil hs) (K_chr h0 h1) hc hs
theorem PE_lenL {e : Expr} {pos p2 : Pos} {gl : List Str} {a : Addr} {vs : List Value} (hg : GOk i gl) (hx : Str.ofString "len" ∈ gl) (he : PE c i k m cs e (.ref a)) (h : (a, .list vs) ∈ cs) (hz : vs.length ≤ 1000000)
    (hn : nsIn c.K mainGlobals "len" = some none)
    (hs : ∀ env, starEach [e] env = (false, eval e env) :: starEach [] env := by intro _; rfl)
    (hc : ∀ env, eval (.Call (.Name "len" p2) [e] [] pos) env = (do let f ← eval (.Name "len" p2) env; callWith pos f [] (backTo pos (starEach [e] env)) (backToKw pos (keywordEach [] env))) := by intro _; rfl) :
    PE c i k m cs (.Call (.Name "len" p2) [e] [] pos) (.int vs.length 0) :=
  EV_callB' (f := "len") (PE_bi (v := .builtin "len") hg hx hn (by boot_fast) (by decide)) (PEs_cons he PEs_nil hs) (K_len_list h hz) hc hs
theorem PE_ifexpI {test body orelse : Expr} {pos : Pos} {b : Bool} {x y : Int} (ht : PT c i k m cs test b) (h1 : PE c i k m cs body (.int x 0)) (h2 : PE c i k m cs orelse (.int y 0)) :
    PE c i k m cs (.IfExp test body orelse pos) (.int (if b = true then x else y) 0) := by
  have := PE_ifexp (pos := pos) ht (fun _ => h1) (fun _ => h2)
  cases b <;> exact this
theorem EV_callK0' {func : Expr} {pos : Pos} {f : Addr} {Q : Value → List Chunk → Prop} (hf : PE c i k m cs func (.ref f)) (hk : keepIn c.K (.ref f) = true)
    (h : CodeV c i.A k cs (.ref f) [] Q)
    (hc : ∀ env, eval (.Call func [] [] pos) env = (do let f ← eval func env; callWith pos f [] (backTo pos (starEach [] env)) (backToKw pos (keywordEach [] env))) := by intro _; rfl) : EV c i k m cs (.Call func [] [] pos) Q := EV_callK0 hf hk h.call hc
end
end Mine
end
section
open PySem PySem.W PySem.Calls PyProof.Rows
namespace Mine

theorem Own.two {base : Heap} {rest : List Chunk} {h h' : Heap} {e it : Addr} {E1 I1 E2 I2 : AO} {oe oi : Obj} (o : Own base ((e, E1) :: (it, I1) :: rest) h)
    (k : ∀ b y, b ≠ e → b ≠ it → h.get? b = some y → h'.get? b = some y) (he : h'.get? e = some oe) (hoe : OIs oe E2) (hi : h'.get? it = some oi) (hoi : OIs oi I2) : Own base ((e, E2) :: (it, I2) :: rest) h' := by
  obtain ⟨o1, o2, o3⟩ := o
  simp only [List.map_cons, List.nodup_cons, List.mem_cons, not_or] at o2
  have he0 := (o3 _ (List.mem_cons_self ..)).1
  have hi0 := (o3 _ (List.mem_cons_of_mem _ (List.mem_cons_self ..))).1
  refine ⟨fun b y q => k b y (fun z => ?_) (fun z => ?_) (o1 b y q), by simpa only [List.map_cons, List.nodup_cons, List.mem_cons, not_or] using o2, fun p hp => ?_⟩
  · exact absurd (Heap.lt_size q) (by rw [z]; exact Nat.not_lt.mpr he0)
  · exact absurd (Heap.lt_size q) (by rw [z]; exact Nat.not_lt.mpr hi0)
  · rcases List.mem_cons.mp hp with rfl | hp
    · exact ⟨he0, oe, he, hoe⟩
    · rcases List.mem_cons.mp hp with rfl | hp
      · exact ⟨hi0, oi, hi, hoi⟩
      · obtain ⟨h1, x, h2, h3⟩ := o3 p (List.mem_cons_of_mem _ (List.mem_cons_of_mem _ hp))
        refine ⟨h1, x, k _ _ (fun z => ?_) (fun z => ?_) h2, h3⟩
        · exact o2.1.2 (z ▸ List.mem_map_of_mem hp)
        · exact o2.2.1 (z ▸ List.mem_map_of_mem hp)
theorem Own.fresh {base : Heap} {cs : List Chunk} {h' : Heap} {a : Addr} {ao : AO} {x : Obj} (o : Own base cs h') (ha : ∀ p ∈ cs, p.1 ≠ a) (hb : base.objs.size ≤ a) (e : h'.get? a = some x) (i : OIs x ao) : Own base ((a, ao) :: cs) h' := by
  refine ⟨o.1, ?_, fun p hp => ?_⟩
  · simp only [List.map_cons, List.nodup_cons]
    refine ⟨fun q => ?_, o.2.1⟩
    obtain ⟨p, hp, e⟩ := List.mem_map.mp q
    exact ha p hp e
  · rcases List.mem_cons.mp hp with rfl | hp
    · exact ⟨hb, x, e, i⟩
    · exact o.2.2 p hp

def enumAt (it : Addr) (j : Nat) : AO := .pred fun o => ∃ old, o = { cls := .type "enumerate", dict := none, data := .fields #[.none, .bool false, .ref it, rawInt j, .none, old], slots := #[] }

section
variable {c : Cx} {i : Fi} {A : Around} {k : Nat} {m : Fields} {cs cs' : List Chunk}
theorem K_enumS {l : List Nat} {Q : Value → List Chunk → Prop} (hne : cs ≠ []) (q : ∀ e it, Q (.ref e) ((e, enumAt it 0) :: (it, strIt l 0) :: cs)) : CallV c A k cs (.type "enumerate") [.str ⟨l.toArray⟩ 0] Q := by
  intro _ R s as ha hs
  obtain ⟨a', rfl, hv⟩ := map_one ha
  obtain ⟨-, t, rfl⟩ := nv_str hv
  have hb := hs.own.size (by simp [hne])
  refine call_enumerate_str fun h' he hit hz hk => ?_
  obtain ⟨oi, hi, hc, hd⟩ := hit
  have o0 : Own c.base (cs ++ R) h' := hs.own.ext hk
  have lt : ∀ p ∈ cs ++ R, p.1 < s.heap.objs.size := fun p hp => by
    obtain ⟨o, ho, _⟩ := hs.at (a := p.1) (ao := p.2) hp
    exact Heap.lt_size ho
  have o1 : Own c.base ((s.heap.objs.size, strIt l 0) :: (cs ++ R)) h' := o0.fresh (fun p hp e => absurd (lt p hp) (by rw [e]; exact Nat.lt_irrefl _)) hb hi ⟨t, hc, hd⟩
  have o2 : Own c.base ((s.heap.objs.size + 1, enumAt s.heap.objs.size 0) :: (s.heap.objs.size, strIt l 0) :: (cs ++ R)) h' := o1.fresh (fun p hp e => by
    rcases List.mem_cons.mp hp with rfl | hp
    · exact absurd e (Nat.ne_of_lt (Nat.lt_succ_self _))
    · exact absurd (lt p hp) (by rw [e]; exact Nat.not_lt.mpr (Nat.le_succ _))) (Nat.le_succ_of_le hb) he ⟨_, rfl⟩
  exact ⟨_, hs.to hs.pos o2, q _ _⟩
theorem I_enum {e it : Addr} {j : Nat} (h : (e, enumAt it j) ∈ cs) : Op1 c A k cs pyIter (.ref e) nv (Is cs (.ref e)) := by
  intro _ R s a' ha hs
  rw [nv_ref ha]
  obtain ⟨o, ho, old, rfl⟩ := hs.at (List.mem_append_left R h)
  exact wpAny_pyIter_enum ho ⟨cs, hs, rfl, rfl⟩
/-- the next pair of an enumerate over a text, and its letting go of the pair -/
theorem N_enumS {l : List Nat} {e it : Addr} {j : Nat} {elts : List Expr} {u1 : Nat} {pos : Pos} (hA : AOk A k) (hjl : j ≤ l.length) (R : List Chunk) (s : Shared) (hs : St c ((e, enumAt it j) :: (it, strIt l j) :: (cs ++ R)) s) :
    wpAny (model c.prog c.w) A (pyNext (.ref e)) (fun r s1 => match r with
      | none => j ≥ l.length ∧ St c (cs ++ R) s1
      | some v => j < l.length ∧ wpAny (model c.prog c.w) A (letOwnedTupleGo (.Tuple elts u1 pos) (.ref e) v) (fun _ s2 => ∃ a, v = .ref a ∧ St c ((a, .tup [.int j 0, strV [l.getD j 0]]) :: (e, enumAt it (j + 1)) :: (it, strIt l (j + 1)) :: (cs ++ R)) s2) NoE s1) NoE s := by
  obtain ⟨oe, he, old, rfl⟩ := hs.at (a := e) (ao := enumAt it j) (by simp)
  obtain ⟨oi, hi, t, hc, hd⟩ := hs.at (a := it) (ao := strIt l j) (by simp)
  have hnd := hs.own.2.1
  simp only [List.map_cons, List.nodup_cons, List.mem_cons, not_or] at hnd
  have hne : e ≠ it := hnd.1.1
  have lt : ∀ p ∈ (e, enumAt it j) :: (it, strIt l j) :: (cs ++ R), p.1 < s.heap.objs.size := fun p hp => by
    obtain ⟨o, ho, _⟩ := hs.at (a := p.1) (ao := p.2) hp
    exact Heap.lt_size ho
  have hb : c.base.objs.size ≤ s.heap.objs.size := hs.own.size (by simp)
  have main : ∀ (ty : String) (D : Draws c.prog c.w A.in1 it [it] (⟨l.toArray⟩ : Str).cps.size (fun i v => ∃ c u, (⟨l.toArray⟩ : Str).cps[i]? = some c ∧ v = .str ⟨#[c]⟩ u) (fun i h => h.IsStrIter it ty ⟨l.toArray⟩ t i)), strIterType ⟨l.toArray⟩ = ty →
      wpAny (model c.prog c.w) A (pyNext (.ref e)) (fun r s1 => match r with
      | none => j ≥ l.length ∧ St c (cs ++ R) s1
      | some v => j < l.length ∧ wpAny (model c.prog c.w) A (letOwnedTupleGo (.Tuple elts u1 pos) (.ref e) v) (fun _ s2 => ∃ a, v = .ref a ∧ St c ((a, .tup [.int j 0, strV [l.getD j 0]]) :: (e, enumAt it (j + 1)) :: (it, strIt l (j + 1)) :: (cs ++ R)) s2) NoE s1) NoE s := by
    intro ty D ety
    have hst : s.heap.IsStrIter it ty ⟨l.toArray⟩ t j := ⟨oi, hi, ety ▸ hc, hd⟩
    have hsz : (⟨l.toArray⟩ : Str).cps.size = l.length := by simp
    by_cases hj : j < l.length
    · refine wpAny_pyNext_enum_itemD D he hst (by rw [hsz]; exact hj) hne (by simpa using hne) ?_
      rintro x h' tk ⟨ch, u, hch, rfl⟩ heo ⟨o2, hi2, hc2, hd2⟩ htup hz hk
      refine ⟨hj, ?_⟩
      refine wpAny_letOwnedTupleGo_enum heo fun h2 he2 sb => ?_
      have hne' : it ≠ e := fun z => hne z.symm
      have hai : s.heap.objs.size ≠ e := fun z => absurd (lt (e, enumAt it j) (by simp)) (by rw [← z]; exact Nat.lt_irrefl _)
      have o1 : Own c.base ((e, enumAt it (j + 1)) :: (it, strIt l (j + 1)) :: (cs ++ R)) h2 := by
        refine Own.two (oe := { cls := .type "enumerate", dict := none, data := .fields #[.none, .bool false, .ref it, rawInt ((j + 1 : Nat) : Int), .none, .str ⟨#[ch]⟩ u], slots := #[] }) (oi := o2) hs.own (fun b y h1 h3 q => (sb.2 b h1).trans (hk b y h1 h3 q)) he2 ⟨_, rfl⟩ ((sb.2 it hne').trans hi2) ⟨t, by rw [ety]; exact hc2, hd2⟩
      have hv : l.getD j 0 = ch := by
        have : l[j]? = some ch := by simpa using hch
        simp [List.getD, this]
      have o3 := o1.fresh (a := s.heap.objs.size) (ao := .tup [.int j 0, strV [l.getD j 0]]) (x := { cls := .type "tuple", data := .seq #[.int j tk, .str ⟨#[ch]⟩ u] }) (fun p hp z => by
        have : p.1 < s.heap.objs.size := by
          rcases List.mem_cons.mp hp with rfl | hp
          · exact lt (e, enumAt it j) (by simp)
          · rcases List.mem_cons.mp hp with rfl | hp
            · exact lt (it, strIt l j) (by simp)
            · exact lt p (List.mem_cons_of_mem _ (List.mem_cons_of_mem _ hp))
        rw [z] at this
        exact absurd this (Nat.lt_irrefl _)) hb ((sb.2 _ hai).trans htup) ⟨_, _, rfl, by rw [hv]; rfl⟩
      exact ⟨_, rfl, hs.to (Nat.succ_pos _) o3⟩
    · have hj' : j = l.length := by omega
      refine wpAny_pyNext_enum_endD D he (by rw [hsz, ← hj']; exact hst) fun h' sb => ?_
      have p : St c ((it, strIt l j) :: (e, enumAt it j) :: (cs ++ R)) s := hs.perm (List.Perm.swap _ _ _)
      exact ⟨by omega, (p.but sb).tail⟩
  cases ha : (⟨l.toArray⟩ : Str).cps.all (· < 128)
  · exact main _ (Draws.strWide (A := A.in1) hA.1 it _ t) (by unfold strIterType; rw [ha]; rfl)
  · exact main _ (Draws.strAscii (A := A.in1) hA.1 it _ t) (by unfold strIterType; rw [ha]; rfl)
theorem EX_for_enumS {elts : List Expr} {u1 : Nat} {tpos : Pos} {e : Expr} {p1 p2 : Pos} {body : List Stmt} {pos : Pos} {l : List Nat} {gl : List Str} {Q : Flow → Fields → List Chunk → Prop} (I : Nat → Fields → List Chunk → Prop)
    (hg : GOk i gl) (hx : Str.ofString "enumerate" ∈ gl) (hn : nsIn c.K mainGlobals "enumerate" = some none)
    (h : PE c i k m cs e (.str ⟨l.toArray⟩ 0)) (hne : cs ≠ []) (h0 : I 0 m cs)
    (turn : ∀ j x m1 cs1, l[j]? = some x → SameKeys m m1 → I j m1 cs1 → ASs c i k m1 cs1 elts [.int j 0, strV [x]] (fun m2 cs2 => EXS c i k m2 cs2 body (Turn (I (j + 1)) Q)))
    (fin : ∀ m1 cs1, SameKeys m m1 → I l.length m1 cs1 → Q .next m1 cs1)
    (hs : ∀ env, starEach [e] env = (false, eval e env) :: starEach [] env := by intro _; rfl)
    (hc : ∀ env, eval (.Call (.Name "enumerate" p1) [e] [] p2) env = (do let f ← eval (.Name "enumerate" p1) env; callWith p2 f [] (backTo p2 (starEach [e] env)) (backToKw p2 (keywordEach [] env))) := by intro _; rfl)
    (hf : ∀ env x, foldedSetIterable (.Call (.Name "enumerate" p1) [e] [] p2) env x = pure x := by intro _ _; rfl)
    (hl : ∀ env, (assignEach elts env).length = 2 := by intro _; rfl) (hfi : ∀ env, (assignEach elts env).findIdx? (·.1) = none := by intro _; rfl) :
    EX c i k m cs (.For (.Tuple elts u1 tpos) (.Call (.Name "enumerate" p1) [e] [] p2) body [] pos) Q := by
  refine EX_for (EV_callT (f := "enumerate") (PE_bi (v := .type "enumerate") hg hx hn (by boot_fast) (by decide)) ((PEs_cons h PEs_nil hs).evs (K_enumS hne fun en it => (I_enum (j := 0) (it := it) (by simp)).is ?_)) hc hs) hf
  intro hF R s it' hit hst
  rw [nv_ref hit]
  refine codeAny_forLoop_any (fun u s' => ∃ j m1 cs1, u = l.length - j ∧ j ≤ l.length ∧ SameKeys m m1 ∧ St c ((i.L, .ns m1) :: (((en, enumAt it j) :: (it, strIt l j) :: cs1) ++ R)) s' ∧ I j m1 cs1) ?_ l.length ⟨0, m, cs, by omega, by omega, .refl m, hst, h0⟩
  rintro u s1 ⟨j, m1, cs1, rfl, hj, z, h1, hI⟩
  have hF1 := hF.keys z
  have pm : ((i.L, AO.ns m1) :: (((en, enumAt it j) :: (it, strIt l j) :: cs1) ++ R)).Perm ((en, enumAt it j) :: (it, strIt l j) :: (cs1 ++ ((i.L, AO.ns m1) :: R))) := by
    refine (List.Perm.swap _ _ _).trans (List.Perm.cons _ ((List.Perm.swap _ _ _).trans (List.Perm.cons _ mid)))
  refine noE' (N_enumS (cs := cs1) (elts := elts) (u1 := u1) (pos := tpos) hF.2.2 hj ((i.L, .ns m1) :: R) s1 (h1.perm pm)) ?_
  intro r s2 hr
  cases r with
  | none =>
    obtain ⟨hge, h2⟩ := hr
    have : j = l.length := by omega
    subst this
    exact wpAny_execs_nil ⟨m1, cs1, z, h2.perm dim, fin m1 cs1 z hI⟩
  | some v =>
    obtain ⟨hlt, hv⟩ := hr
    refine noE' hv ?_
    rintro _ s3 ⟨a, rfl, h3⟩
    have pm3 : ((a, AO.tup [.int j 0, strV [l.getD j 0]]) :: (en, enumAt it (j + 1)) :: (it, strIt l (j + 1)) :: (cs1 ++ ((i.L, AO.ns m1) :: R))).Perm ((i.L, AO.ns m1) :: (((a, AO.tup [.int j 0, strV [l.getD j 0]]) :: cs1) ++ ((en, enumAt it (j + 1)) :: (it, strIt l (j + 1)) :: R))) := by
      have q : ((en, enumAt it (j + 1)) :: (it, strIt l (j + 1)) :: (cs1 ++ ((i.L, AO.ns m1) :: R))).Perm ((i.L, AO.ns m1) :: (cs1 ++ ((en, enumAt it (j + 1)) :: (it, strIt l (j + 1)) :: R))) := by
        have q1 : ((en, enumAt it (j + 1)) :: (it, strIt l (j + 1)) :: (cs1 ++ ((i.L, AO.ns m1) :: R))).Perm ((i.L, AO.ns m1) :: (en, enumAt it (j + 1)) :: (it, strIt l (j + 1)) :: (cs1 ++ R)) :=
          (List.Perm.cons _ (List.Perm.cons _ dim)).trans ((List.Perm.cons _ (List.Perm.swap _ _ _)).trans (List.Perm.swap _ _ _))
        have q2 : ((en, enumAt it (j + 1)) :: (it, strIt l (j + 1)) :: (cs1 ++ R)).Perm (cs1 ++ ((en, enumAt it (j + 1)) :: (it, strIt l (j + 1)) :: R)) :=
          (List.Perm.cons _ mid).trans mid
        exact q1.trans (List.Perm.cons _ q2)
      exact (List.Perm.cons _ q).trans (List.Perm.swap _ _ _)
    have key : AS c i k m1 ((a, .tup [.int j 0, strV [l.getD j 0]]) :: cs1) (.Tuple elts u1 tpos) (.ref a) (fun m2 cs2 => EXS c i k m2 cs2 body (Turn (I (j + 1)) Q)) :=
      AS_tupleD .head (turn j (l.getD j 0) m1 cs1 (by simp [hlt]) z hI) hl hfi
    refine noE' (key hF1 ((en, enumAt it (j + 1)) :: (it, strIt l (j + 1)) :: R) s3 (.ref a) rfl (h3.perm pm3)) ?_
    rintro _ s4 ⟨m3, cs3, z3, h4, q3⟩
    refine noE' (q3 (hF1.keys z3) _ s4 h4) ?_
    rintro f s5 ⟨m4, cs4, z4, h5, q5⟩
    have z' := z.trans (z3.trans z4)
    have h5' : St c ((i.L, .ns m4) :: (((en, enumAt it (j + 1)) :: (it, strIt l (j + 1)) :: cs4) ++ R)) s5 := h5.perm (List.Perm.cons _ (dim.trans (List.Perm.cons _ dim)))
    have h5'' : St c ((i.L, .ns m4) :: (cs4 ++ R)) s5 := h5'.sub (.cons_cons _ (.cons _ (.cons _ (List.Sublist.refl _))))
    cases f with
    | next => exact ⟨l.length - (j + 1), by omega, j + 1, m4, cs4, rfl, hlt, z', h5', q5⟩
    | cont => exact ⟨l.length - (j + 1), by omega, j + 1, m4, cs4, rfl, hlt, z', h5', q5⟩
    | brk => exact ⟨m4, cs4, z', h5'', q5⟩
    | ret v => exact ⟨m4, cs4, z', h5'', q5⟩
end
end Mine
end
section
open PySem PySem.W PySem.Calls PyProof.Rows
namespace Mine
section
variable {prog : Program} {w : World} {A : Around} {E : Value → Shared → Prop} {s : Shared}
end
section
variable {c : Cx} {i : Fi} {A : Around} {k : Nat} {m : Fields} {cs cs' : List Chunk}
theorem PE_ifexpS {test body orelse : Expr} {pos : Pos} {b : Bool} {x y : List Nat} (ht : PT c i k m cs test b) (h1 : PE c i k m cs body (.str ⟨x.toArray⟩ 0)) (h2 : PE c i k m cs orelse (.str ⟨y.toArray⟩ 0)) :
    PE c i k m cs (.IfExp test body orelse pos) (.str ⟨(if b = true then x else y).toArray⟩ 0) := by
  have := PE_ifexp (pos := pos) ht (fun _ => h1) (fun _ => h2)
  cases b <;> exact this
theorem EV_split {o e : Expr} {apos pos : Pos} {l : List Nat} {a : Nat} {Q : Value → List Chunk → Prop} (ho : PE c i k m cs o (.str ⟨l.toArray⟩ 0)) (he : PE c i k m cs e (.str ⟨[a].toArray⟩ 0)) (hne : cs ≠ []) (hz : l.length ≤ 1000000) (q : ∀ r, Q (.ref r) ((r, .list ((spl a l).map strV)) :: cs))
    (hc : MCall o "split" [e] apos pos := by intro _; exact ⟨_, rfl⟩) (hs : ∀ env, starEach [e] env = (false, eval e env) :: starEach [] env := by intro _; rfl) : EV c i k m cs (.Call (.Attribute o "split" apos) [e] [] pos) Q :=
  EV_methP ho (PEs_cons he PEs_nil hs) (M_str F.slot_str_split F.type_str_split ⟨rfl, .inl ⟨_, rfl⟩, K_split hne hz q⟩) hc hs
theorem EV_joinS {o e : Expr} {apos pos : Pos} {Q : Value → List Chunk → Prop} (ho : PE c i k m cs o (.str ⟨([] : List Nat).toArray⟩ 0))
    (he : EV c i k m cs e (fun v cs1 => ∃ (a : Addr) (ls : List (List Nat)), v = .ref a ∧ (a, .list (ls.map strV)) ∈ cs1 ∧ ls.flatten.length ≤ 1000000 ∧ ls.length ≤ 100000 ∧ Q (.str ⟨ls.flatten.toArray⟩ 0) cs1))
    (hc : MCall o "join" [e] apos pos := by intro _; exact ⟨_, rfl⟩) (hs : ∀ env, starEach [e] env = (false, eval e env) :: starEach [] env := by intro _; rfl) :
    EV c i k m cs (.Call (.Attribute o "join" apos) [e] [] pos) Q := by
  refine EV_meth (ho.ev (M_str F.slot_str_join F.type_str_join ⟨.inl ⟨_, rfl⟩, EVs_cons (he.mono fun v cs1 h => ?_) hs⟩)) hc hs
  obtain ⟨a, ls, rfl, h1, h2, h3, h4⟩ := h
  exact EVs_nil ((K_join h1 h2 h3).is h4)
end
end Mine
end
section
open PySem PySem.W PySem.Calls PyProof.Rows
namespace Mine
/-- a list of the base, or an own one -/
def Seen (c : Cx) (cs : List Chunk) (a : Addr) (vs : List Value) : Prop := (a, .list vs) ∈ cs ∨ ∃ its : Array Value, c.base.IsList a its ∧ its.toList.map nv = vs
theorem Seen.at {c : Cx} {cs R : List Chunk} {a : Addr} {vs : List Value} {s : Shared} (h : Seen c cs a vs) (hs : St c (cs ++ R) s) : ∃ its : Array Value, s.heap.IsList a its ∧ its.toList.map nv = vs := by
  rcases h with h | ⟨its, ⟨o, ho, r⟩, e⟩
  · obtain ⟨o, ho, its, n, rfl, hi⟩ := hs.at (List.mem_append_left R h)
    exact ⟨its, ⟨_, ho, rfl, n, rfl⟩, hi⟩
  · exact ⟨its, ⟨o, hs.keep _ _ ho, r⟩, e⟩
section
variable {c : Cx} {i : Fi} {A : Around} {k : Nat} {m : Fields} {cs cs' : List Chunk}
theorem T_listS {a : Addr} {vs : List Value} (h : Seen c cs a vs) (hz : vs.length ≤ 1000000) : Op1 c A k cs truthy (.ref a) id (Is cs (!vs.isEmpty)) := by
  intro _ R s a' ha hs
  rw [nv_ref ha]
  obtain ⟨its, hL, hi⟩ := h.at hs
  have hl := len_its hi
  refine wpAny_truthy_list hL (by omega) ⟨cs, hs.toks (Nat.succ_pos _), ?_, rfl⟩
  show (!its.isEmpty) = _
  cases vs with
  | nil => simp at hl; simp [hl]
  | cons x r => simp at hl; simp [Array.isEmpty, hl]
theorem EV_sliceS {e : Expr} {lower upper : Option Expr} {p pos : Pos} {lo hi : Option Int} {Q : Value → List Chunk → Prop}
    (h : EV c i k m cs e (fun v cs1 => ∃ (a : Addr) (vs : List Value), v = .ref a ∧ Seen c cs1 a vs ∧ vs.length ≤ 1000000 ∧ PO c i k m cs1 lower lo ∧ PO c i k m cs1 upper hi ∧ ∀ b, Q (.ref b) ((b, .list (sl vs lo hi)) :: cs1))) :
    EV c i k m cs (.Subscript e (.Slice lower upper none p) pos) Q := by
  intro hF R s hs
  refine Subscript_ (noE (h hF R s hs) ?_)
  rintro o s1 ⟨cs1, h1, a, vs, e1, ha, hz, hl, hu, q⟩
  rw [nv_ref e1]
  refine wpAny_Slice (hl.run hF h1 ?_)
  rintro p1 s2 rfl h2
  refine hu.run hF h2 ?_
  rintro p2 s3 rfl h3
  rw [evalPart_none]
  refine wpAny_pure ?_
  obtain ⟨its, hL0, hi⟩ := ha.at (h3.perm mid)
  have ext : ∀ b y, s3.heap.get? b = some y → (s3.heap.push { cls := .type "slice", data := .fields #[partValue p1, partValue p2, .none] }).get? b = some y := fun b y e => Heap.get?_push_of_some _ e
  have h4 := h3.ext (tk := s3.toks) h3.pos ext
  have hL : (s3.heap.push { cls := .type "slice", data := .fields #[partValue p1, partValue p2, .none] }).IsList a its := by
    obtain ⟨o, ho, r⟩ := hL0; exact ⟨o, ext _ _ ho, r⟩
  have part : ∀ q : Option (Int × Tok), IsPart (partValue q) (q.map (·.1)) := fun q => match q with
    | none => .none
    | some (j, t) => .int j t
  have hsz : its.size ≤ sizeLine := by
    have : its.toList.length = vs.length := by rw [← hi, List.length_map]
    rw [Array.length_toList] at this
    rw [sizeLine_eq]; omega
  refine tail_any (ops := [.ref s3.heap.objs.size, .ref a]) hL.typeIs slot_list_getitem.lookup ?_ (by with_unfolding_all rfl)
  refine wpAny_getItem_list_slice hL (Heap.IsSliceOf.new ..) (part p1) (part p2) .none (by simp) ?_ hsz
  refine ⟨(_, .list (sl vs (p1.map fun (x : Int × Tok) => x.1) (p2.map fun (x : Int × Tok) => x.1))) :: cs1, ?_, q _⟩
  rw [pick_eq]
  have h5 := h4.own.push (ao := .list (sl vs (p1.map fun (x : Int × Tok) => x.1) (p2.map fun (x : Int × Tok) => x.1))) (x := { cls := .type "list", data := .seq (sl its.toList (p1.map fun (x : Int × Tok) => x.1) (p2.map fun (x : Int × Tok) => x.1)).toArray })
    (h4.own.size (by simp)) rfl ⟨_, _, rfl, by simp only [List.toList_toArray]; rw [sl_map, hi]⟩
  exact St.perm (h4.to h4.pos h5) (List.Perm.swap ..)
end
end Mine
end
section
open PySem PySem.W PySem.Calls PyProof.Rows
namespace Mine
section
variable {c : Cx} {i : Fi} {A : Around} {k : Nat} {m : Fields} {cs cs' : List Chunk}
theorem seenB {a : Addr} {vs : List Value} {its : Array Value} {n : Nat} (h : c.K.lookup a = some ⟨.type "list", none, .seq its n, #[]⟩) (e : its.toList.map nv = vs) : Seen c cs a vs :=
  .inr ⟨its, ⟨_, c.inK _ _ h, rfl, n, rfl⟩, e⟩
end
end Mine
end
section
open PySem PySem.W PySem.Calls PyProof.Rows
namespace Mine
section
variable {c : Cx} {i : Fi} {A : Around} {k : Nat} {m : Fields} {cs cs' : List Chunk}
end
end Mine
end
section
open PySem PySem.W PySem.Calls PyProof.Rows
namespace Mine
section
variable {c : Cx} {i : Fi} {k : Nat} {m : Fields} {cs : List Chunk}
theorem St.less {F R₀ cs' R : List Chunk} {p : Chunk} {s : Shared} (t : Take cs' F R₀) (h : St c (p :: (cs' ++ R)) s) : St c (p :: (F ++ R)) s := by
  have h2 : St c (p :: ((F ++ R₀) ++ R)) s := h.perm ((List.Perm.append_right R t).cons p)
  exact h2.sub (.cons_cons _ (List.Sublist.append_right (List.sublist_append_left F R₀) R))
/-- what a statement leaves may be less -/
theorem EX.less {st : Stmt} {Q : Flow → Fields → List Chunk → Prop} (h : EX c i k m cs st (fun f m' cs' => ∃ F R₀, Take cs' F R₀ ∧ Q f m' F)) : EX c i k m cs st Q :=
  fun hF R s hs => noE (h hF R s hs) fun _ _ ⟨m', cs', z, a, F, R₀, t, q⟩ => ⟨m', F, z, a.less t, q⟩
theorem EXS.less {st : List Stmt} {Q : Flow → Fields → List Chunk → Prop} (h : EXS c i k m cs st (fun f m' cs' => ∃ F R₀, Take cs' F R₀ ∧ Q f m' F)) : EXS c i k m cs st Q :=
  fun hF R s hs => noE (h hF R s hs) fun _ _ ⟨m', cs', z, a, F, R₀, t, q⟩ => ⟨m', F, z, a.less t, q⟩
theorem EV.less {e : Expr} {Q : Value → List Chunk → Prop} (h : EV c i k m cs e (fun v cs' => ∃ F R₀, Take cs' F R₀ ∧ Q v F)) : EV c i k m cs e Q :=
  fun hF R s hs => noE (h hF R s hs) fun _ _ ⟨cs', a, F, R₀, t, q⟩ => ⟨F, a.less t, q⟩
end
end Mine
end
section
open PySem PySem.W PySem.Calls PyProof.Rows
namespace Mine
/- ## captured names: a cell is an own object -/
def cellAt (v : Option Value) : AO := .pred fun o => ∃ v', o.data = .cell v' ∧ v'.map nv = v
def COk (i : Fi) (x : Str) (a : Addr) : Prop := i.env.kindOf x = some .cell ∧ i.env.cells.lookup x = some a
section
variable {c : Cx} {i : Fi} {A : Around} {k : Nat} {m : Fields} {cs cs' : List Chunk}
theorem PE_cell {x : Str} {a : Addr} {v : Value} {pos : Pos} (h : COk i x a) (hc : (a, cellAt (some v)) ∈ cs) (hd : (x == ("__debug__" : Str)) = false := by decide) : PE c i k m cs (.Name x pos) v := by
  intro hF R s hs
  obtain ⟨o, ho, v', hd', hv⟩ := hs.at (List.mem_cons_of_mem _ (List.mem_append_left R hc))
  cases v' with
  | none => cases hv
  | some v'' => exact wpAny_Name (wpAny_loadName_cell hF.1.1 h.1 h.2 ⟨o, ho, hd'⟩ ⟨cs, hs, by simpa using hv, rfl⟩) hd
theorem AS_cell {x : Str} {a : Addr} {v : Value} {w : Option Value} {pos : Pos} {Q : Fields → List Chunk → Prop} (h : COk i x a) (hc : (a, cellAt w) ∈ cs) (U : Upd cs a (cellAt (some v)) cs') (q : Q m cs') : AS c i k m cs (.Name x pos) v Q := by
  intro hF R s v' hv hs
  obtain ⟨o, ho, v0, hd', hv0⟩ := hs.at (List.mem_cons_of_mem _ (List.mem_append_left R hc))
  refine wpAny_assign_Name (wpAny_storeName_cell hF.1.1 h.1 h.2 ⟨o, ho, hd'⟩ fun h' hc' sb => ?_)
  obtain ⟨o', ho', hd2⟩ := hc'
  exact ⟨m, cs', .refl m, hs.to hs.pos (hs.own.upd (Upd.tail (U.append R)) (fun b y hb e => (sb.2 b hb).trans e) ho' ⟨_, hd2, by simp [hv]⟩), q⟩
end

theorem call_cellsT {prog : Program} {w : World} {A : Around} {s : Shared} {R : Result → Shared → Prop} {a : Addr} {o : Obj} {fd : FuncData} {body : List Stmt} {vals : List Value} {binds : List (Str × Value)}
    (hroom : A.depth < recursionLimit) (ho : s.heap.get? a = some o) (hdata : o.data = .func fd) (hlim : s.heap.NoLimit) (hcd : s.heap.CodeRec fd.code fd.qualname)
    (hbody : fd.body = .stmts body) (hbind : BindsTo s fd ⟨vals, []⟩ binds) (hclo : fd.closure = [])
    (hkind : ∀ x ∈ binds, fd.scope.names.lookup x.1 = some .local ∨ (fd.scope.names.lookup x.1 = some .cell ∧ ((cellsFrom (s.heap.objs.size + 1) fd.scope.names []).lookup x.1).isSome = true))
    (h : ∀ s₁, s.toks ≤ s₁.toks → InCallC s (callEnvC fd s.heap.objs.size a).locals (bindL (callEnvC fd s.heap.objs.size a).kindOf binds fun _ => none) (callEnvC fd s.heap.objs.size a).cells
        (bindC (callEnvC fd s.heap.objs.size a).kindOf binds fun _ => none) s₁ →
      wpAny (model prog w) (A.deeper (callEnvC fd s.heap.objs.size a)) (execs body (callEnvC fd s.heap.objs.size a)) (fun f s' => R (.ok (.ret (match f with | .ret v => v | _ => .none))) s')
        (fun e s' => wpAny (model prog w) (A.deeper (callEnvC fd s.heap.objs.size a)) (leaving (callEnvC fd s.heap.objs.size a) e) (fun _ s'' => R (.error e) s'') (fun e' s'' => R (.error e') s'') s') s₁)
    (hco : fd.scope.isCoroutine = false := by rfl) (hgen : fd.scope.isGenerator = false := by rfl) (hk : fd.scope.kind = .function := by rfl) :
    codeAny (model prog w) A (.call (.ref a) ⟨vals, []⟩) R s := by
  refine codeAny_call_function hroom ho hdata hco hgen hbody hcd ?_
  rw [hclo]
  refine hbind _ _ _ _ ?_
  have n := wpAny_newFunctionEnv_cells (M := model prog w) (A := A.in1) (E := fun e s' => R (.error e) s') (s := s) (globals := fd.globals) (binds := binds) (qual := fd.qualname ++ ".<locals>.") (func := some a) (code := fd.code) (builtins := fd.builtins)
    (Q := fun env s' => env = callEnvC fd s.heap.objs.size a ∧ InCallC s env.locals (bindL env.kindOf binds fun _ => none) env.cells (bindC env.kindOf binds fun _ => none) s') hk hkind (fun env he s' x => ⟨he, x⟩)
  refine wpAny_mono (wpAny_toks n) ?_ (fun _ _ x => x)
  rintro env s' ⟨⟨he, x⟩, ht⟩
  subst he
  exact ⟨hlim.keeps x.toInCall.keep, codeAny_func (h s' ht x)⟩
section
variable {c : Cx} {i : Fi} {A : Around} {k : Nat} {m : Fields} {cs cs' : List Chunk}
/-- the cells of a frame, by their names -/
def cellsL (f : Str → Addr) (cv : List (Str × Option Value)) : List Chunk := cv.map fun p => (f p.1, cellAt p.2)
theorem K_fnC {fa : Addr} {oc : Value} {od : Option Addr} {name qual : Str} {params : Arguments} {body : List Stmt} {scope : Scope} {dV kV doc pm cdv ct : Value} {an : Option Addr} {osl : Array (Option Value)} {args : List Value}
    (ho : c.K.lookup fa = some ⟨oc, od, .func (fnOf name qual params body scope dV kV doc pm an cdv ct), osl⟩) (hcd : codeIn c.K cdv qual = true) (ps : List Str) (m : Fields) (cv : List (Str × Option Value)) (gl : List Str)
    (hb : ∀ (s : Shared) vs, c.K.In s.heap → vs.length = args.length → BindsTo s (fnOf name qual params body scope dV kV doc pm an cdv ct) ⟨vs, []⟩ (ps.zip (vs ++ [])))
    (hl : ps.length = args.length)
    (hkind : ∀ (n : Nat), ∀ x ∈ ps, scope.names.lookup x = some .local ∨ (scope.names.lookup x = some .cell ∧ ((cellsFrom n scope.names []).lookup x).isSome = true))
    (hn : (m.map Prod.fst).Nodup) (hcn : (cv.map Prod.fst).Nodup)
    (hm : ∀ vs : List Value, vs.map nv = args → ∀ p ∈ m, scope.names.lookup p.1 = some .local ∧ (bindL (fun x => scope.names.lookup x) (ps.zip vs) (fun _ => none) p.1).map nv = p.2)
    (hc : ∀ vs : List Value, vs.map nv = args → ∀ p ∈ cv, scope.names.lookup p.1 = some .cell ∧ (bindC (fun x => scope.names.lookup x) (ps.zip vs) (fun _ => none) p.1).map nv = p.2)
    (hci : ∀ (n : Nat), ∀ p ∈ cv, ((cellsFrom n scope.names []).lookup p.1).isSome = true)
    (hgl : ∀ x ∈ gl, scope.names.lookup x = some .globalImplicit)
    (hco : scope.isCoroutine = false) (hgen : scope.isGenerator = false) (hk : scope.kind = .function) (hne : cs ≠ [])
    {Q : Value → List Chunk → Prop} (h : ∀ (i : Fi) (f : Str → Addr), GOk i gl → (∀ p ∈ cv, COk i p.1 (f p.1)) → EXS c i k m (cellsL f cv ++ cs) body (fun fl _ cs' => Q (retv fl) cs')) : CodeV c A (k + 1) cs (.ref fa) args Q := by
  intro hA R s vs hvs hs
  have hlen : vs.length = args.length := by rw [← hvs, List.length_map]
  have hb' := hb s vs hs.inK hlen
  rw [List.append_nil] at hb'
  have hkz : ∀ x ∈ ps.zip vs, x.1 ∈ ps := fun x hx => (List.of_mem_zip hx).1
  refine call_cellsT (fd := fnOf name qual params body scope dV kV doc pm an cdv ct) (body := body) (binds := ps.zip vs) (by have := hA.2.1; unfold recursionLimit; omega)
    (hs.inK _ _ ho) rfl hs.nolimit (codeRec_of hs.inK hcd) rfl hb' rfl (fun x hx => hkind _ x.1 (hkz x hx)) (fun s₁ ht X => ?_) hco hgen hk
  obtain ⟨⟨⟨h', tk, rfl⟩, ⟨oL, es, ep, hoL, hd, hsk, hf⟩, keep, fresh⟩, cell, apart, above⟩ := X
  have hb0 : c.base.objs.size ≤ s.heap.objs.size := hs.own.size (by intro e; rw [List.append_eq_nil_iff] at e; exact hne e.1)
  obtain ⟨f, hfd⟩ : ∃ f : Str → Addr, f = fun x => ((cellsFrom (s.heap.objs.size + 1) scope.names []).lookup x).getD 0 := ⟨_, rfl⟩
  have hfl : ∀ p ∈ cv, (cellsFrom (s.heap.objs.size + 1) scope.names []).lookup p.1 = some (f p.1) := fun p hp => by
    obtain ⟨a, ha⟩ := Option.isSome_iff_exists.mp (hci (s.heap.objs.size + 1) p hp)
    rw [hfd, ha]; simp [ha]
  have habove : ∀ p ∈ cv, s.heap.objs.size < f p.1 := fun p hp => above _ _ (mem_of_lookup (hfl p hp))
  have lt : ∀ p ∈ cs ++ R, p.1 < s.heap.objs.size := fun p hp => by
    obtain ⟨-, o, ho, _⟩ := hs.own.2.2 p hp
    exact Heap.lt_size ho
  have cl : ∀ p ∈ cv, ∃ o, h'.get? (f p.1) = some o ∧ OIs o (cellAt p.2) := fun p hp => by
    obtain ⟨o, ho, hd⟩ := cell p.1 (f p.1) (hfl p hp)
    exact ⟨o, ho, _, hd, (hc vs hvs p hp).2⟩
  have cnd : ((cv.map Prod.fst).map f).Nodup := by
    unfold List.Nodup
    rw [List.pairwise_map]
    refine List.Pairwise.imp_of_mem ?_ hcn
    intro x y hx hy hxy e
    obtain ⟨p, hp, rfl⟩ := List.mem_map.mp hx
    obtain ⟨q, hq, rfl⟩ := List.mem_map.mp hy
    exact hxy (name_of_addr apart (mem_of_lookup (hfl p hp)) (e ▸ mem_of_lookup (hfl q hq)))
  have cm : (cellsL f cv).map Prod.fst = (cv.map Prod.fst).map f := by unfold cellsL; rw [List.map_map, List.map_map]; rfl
  have own : Own c.base ((s.heap.objs.size, .ns m) :: ((cellsL f cv ++ cs) ++ R)) h' := by
    refine ⟨fun b o e => keep _ _ (hs.own.1 b o e), ?_, fun p hp => ?_⟩
    · rw [List.append_assoc]
      simp only [List.map_cons, List.map_append, List.nodup_cons]
      refine ⟨fun hm' => ?_, ?_⟩
      · rcases List.mem_append.mp hm' with q | q
        · rw [cm] at q
          obtain ⟨x, hx, e⟩ := List.mem_map.mp q
          obtain ⟨p, hp, rfl⟩ := List.mem_map.mp hx
          exact absurd (habove p hp) (by rw [e]; exact Nat.lt_irrefl _)
        · rw [← List.map_append] at q
          obtain ⟨p, hp, e⟩ := List.mem_map.mp q
          exact absurd (lt p hp) (by rw [e]; exact Nat.lt_irrefl _)
      · have h2 := hs.own.2.1
        rw [List.map_append] at h2
        rw [cm]
        refine List.nodup_append.mpr ⟨cnd, h2, fun x hx y hy e => ?_⟩
        obtain ⟨z, hz, rfl⟩ := List.mem_map.mp hx
        obtain ⟨p, hp, rfl⟩ := List.mem_map.mp hz
        rw [← List.map_append] at hy
        obtain ⟨q, hq, rfl⟩ := List.mem_map.mp hy
        exact absurd (Nat.lt_trans (habove p hp) (e ▸ lt q hq)) (Nat.lt_irrefl _)
    · rcases List.mem_cons.mp hp with rfl | hp
      · exact ⟨hb0, oL, hoL, es, ep, hd, hsk, hn, fun p hp => by rw [hf]; exact (hm vs hvs p hp).2⟩
      · rw [List.append_assoc] at hp
        rcases List.mem_append.mp hp with hp | hp
        · obtain ⟨q, hq, rfl⟩ := List.mem_map.mp hp
          exact ⟨Nat.le_trans hb0 (Nat.le_of_lt (habove q hq)), cl q hq⟩
        · obtain ⟨h1, o, ho, hi⟩ := hs.own.2.2 p hp
          exact ⟨h1, o, keep _ _ ho, hi⟩
  have F : FOk ⟨A.deeper (callEnvC (fnOf name qual params body scope dV kV doc pm an cdv ct) s.heap.objs.size fa), callEnvC (fnOf name qual params body scope dV kV doc pm an cdv ct) s.heap.objs.size fa, s.heap.objs.size⟩ k m :=
    ⟨⟨hk, rfl, rfl, rfl⟩, fun p hp => (hm vs hvs p hp).1, hA.deeper⟩
  have st : St c ((s.heap.objs.size, .ns m) :: ((cellsL f cv ++ cs) ++ R)) { s with heap := h', toks := tk } := hs.to (Nat.lt_of_lt_of_le hs.pos ht) own
  refine noE' (h ⟨A.deeper (callEnvC (fnOf name qual params body scope dV kV doc pm an cdv ct) s.heap.objs.size fa), callEnvC (fnOf name qual params body scope dV kV doc pm an cdv ct) s.heap.objs.size fa, s.heap.objs.size⟩ f (fun x hx => hgl x hx) (fun p hp => ⟨(hc vs hvs p hp).1, hfl p hp⟩) F R _ st) ?_
  rintro fl s' ⟨m', cs1, z, h2, q⟩
  refine ⟨cs1, h2.sub (.cons _ (List.Sublist.refl _)), ?_⟩
  cases fl <;> exact q
end
end Mine
end
section
open PySem PySem.W PySem.Calls PyProof.Rows
namespace Mine
/- ## comprehensions that read captured names -/
theorem closure_of {scope : Scope} {env : Env} (f : Str → Addr) (h : ∀ x ∈ scope.names, x.2 = .free → env.cells.lookup x.1 = some (f x.1)) :
    closureFor scope env = pure (((scope.names.filter fun x => x.2 == .free).map fun x => (x.1, f x.1)).reverse) := by
  have gen : ∀ (l : List (Str × NameKind)) (acc : List (Str × Addr)), (∀ x ∈ l, x.2 = .free → env.cells.lookup x.1 = some (f x.1)) →
      (forIn l acc fun (x : Str × NameKind) (cs : List (Str × Addr)) => (if (x.2 == NameKind.free) = true then do let a ← cellOf env x.1; pure (ForInStep.yield ((x.1, a) :: cs)) else pure (ForInStep.yield cs) : Sem (ForInStep (List (Str × Addr))))) =
        pure (((l.filter fun x => x.2 == .free).map fun x => (x.1, f x.1)).reverse ++ acc) := by
    intro l
    induction l with
    | nil => intro acc _; rfl
    | cons x r ih =>
      intro acc hx
      rw [List.forIn_cons]
      by_cases hk : (x.2 == NameKind.free) = true
      · rw [if_pos hk, List.filter_cons_of_pos (by simpa using hk)]
        have e := hx x List.mem_cons_self (by simpa using hk)
        have e2 : cellOf env x.1 = pure (f x.1) := by unfold cellOf; rw [e]
        rw [e2]
        show (forIn r ((x.1, f x.1) :: acc) _ : Sem _) = _
        rw [ih _ fun y hy => hx y (List.mem_cons_of_mem _ hy)]
        simp
      · rw [if_neg hk, List.filter_cons_of_neg (by simpa using hk)]
        show (forIn r acc _ : Sem _) = _
        exact ih _ fun y hy => hx y (List.mem_cons_of_mem _ hy)
  have := gen scope.names [] h
  rw [List.append_nil] at this
  unfold closureFor
  show ((forIn scope.names [] fun (x : Str × NameKind) (cs : List (Str × Addr)) => (if (x.2 == NameKind.free) = true then do let a ← cellOf env x.1; pure (ForInStep.yield ((x.1, a) :: cs)) else pure (ForInStep.yield cs) : Sem (ForInStep (List (Str × Addr))))) >>= fun s => (pure s : Sem (List (Str × Addr)))) = _
  rw [this]
  rfl
theorem lookup_all {f : Str → Addr} {y : Str} : ∀ {l : List (Str × Addr)}, (∀ p ∈ l, p.2 = f p.1) → y ∈ l.map Prod.fst → l.lookup y = some (f y)
  | [], _, h => by simp at h
  | (k, v) :: r, h, hy => by
    rw [List.lookup_cons]
    cases e : y == k with
    | true =>
      have := beq_iff_eq.mp e
      subst this
      exact congrArg some (h (y, v) List.mem_cons_self)
    | false =>
      refine lookup_all (fun p hp => h p (List.mem_cons_of_mem _ hp)) ?_
      rcases List.mem_cons.mp hy with q | q
      · rw [q] at e; simp at e
      · exact q
theorem relabel_lookup {env : Env} {x : Str} {kd : NameKind} (hk : kd ≠ .free) : ∀ {names : List (Str × NameKind)}, names.lookup x = some kd →
    (names.map fun (n, k) => if (k == NameKind.free && env.scope.kind == .function && env.kindOf n == some .cell) then (n, NameKind.cell) else (n, k)).lookup x = some kd
  | [], h => by simp at h
  | (n, k) :: r, h => by
    have ih := @relabel_lookup env x kd hk r
    show List.lookup x ((if (k == NameKind.free && env.scope.kind == .function && env.kindOf n == some .cell) = true then (n, NameKind.cell) else (n, k)) :: _) = _
    cases hx : x == n with
    | true =>
      simp only [List.lookup_cons, hx] at h
      cases h
      have : (kd == NameKind.free) = false := by simpa using hk
      simp [List.lookup_cons, hx, this]
    | false =>
      simp only [List.lookup_cons, hx] at h
      by_cases hc : (k == NameKind.free && env.scope.kind == .function && env.kindOf n == some .cell) = true
      · rw [if_pos hc]; simp only [List.lookup_cons, hx]; exact ih h
      · rw [if_neg hc]; simp only [List.lookup_cons, hx]; exact ih h
theorem relabel_free {env : Env} {x : Str} (hf : env.scope.kind = .function) (hc : env.kindOf x = some .cell) : ∀ {names : List (Str × NameKind)}, names.lookup x = some .free →
    (names.map fun (n, k) => if (k == NameKind.free && env.scope.kind == .function && env.kindOf n == some .cell) then (n, NameKind.cell) else (n, k)).lookup x = some .cell
  | [], h => by simp at h
  | (n, k) :: r, h => by
    have ih := @relabel_free env x hf hc r
    show List.lookup x ((if (k == NameKind.free && env.scope.kind == .function && env.kindOf n == some .cell) = true then (n, NameKind.cell) else (n, k)) :: _) = _
    cases hx : x == n with
    | true =>
      simp only [List.lookup_cons, hx] at h
      cases h
      have := beq_iff_eq.mp hx
      subst this
      rw [if_pos (by rw [hf, hc]; rfl)]
      simp [List.lookup_cons]
    | false =>
      simp only [List.lookup_cons, hx] at h
      by_cases hc' : (k == NameKind.free && env.scope.kind == .function && env.kindOf n == some .cell) = true
      · rw [if_pos hc']; simp only [List.lookup_cons, hx]; exact ih h
      · rw [if_neg hc']; simp only [List.lookup_cons, hx]; exact ih h
end Mine
end
section
open PySem PySem.W PySem.Calls PyProof.Rows
namespace Mine
section
variable {c : Cx} {i : Fi} {A : Around} {k : Nat} {m : Fields} {cs cs' : List Chunk}
theorem compStart3 {prog : Program} {w : World} {A : Around} {RR : Result → Shared → Prop} {s : Shared} {elt target iter : Expr} {ifs : List Expr} {rest : List Comprehension} {scope : Scope} {pos : Pos} {it : Addr} {acc : Value} {env : Env}
    (J : Shared → Prop) (hj : J s) (hself : ∀ s, J s → wpAny (model prog w) A (pyIter (.ref it)) (fun v s' => v = .ref it ∧ J s') NoE s)
    (h : ∀ s, J s → codeAny (model prog w) A (.compLoop (.ListComp elt (⟨target, iter, ifs, 0⟩ :: rest) scope pos) 0 (.ref it) acc env) RR s) :
    codeAny (model prog w) A (.compStart (.ListComp elt (⟨target, iter, ifs, 0⟩ :: rest) scope pos) 0 (.ref it) acc env) RR s :=
  codeAny_compStart_list (h s hj) (noE' (hself s hj) fun v s' ⟨e, hj'⟩ => by rw [e]; exact h s' hj')
/-- a list made of whatever is walked, tested or not, reading captured names -/
theorem EV_comp {elt iter : Expr} {x : Str} {px pos : Pos} {ifs : List Expr} {scope : Scope} {gl : List Str} {Q : Value → List Chunk → Prop} {cs1 : List Chunk} (P : Nat → AO) (n : Nat) (X : Nat → Value) (kp : Nat → Bool) (g : Nat → Value) (f : Str → Addr)
    (hit : EV c i k m cs iter (fun v cs2 => Op1 c i.A k cs2 pyIter v nv (fun it cs3 => ∃ ia, it = .ref ia ∧ cs3 = (ia, P 0) :: cs1)))
    (hself : ∀ ia cs2, Op1 c i.A k ((ia, P 0) :: cs2) pyIter (.ref ia) nv (Is ((ia, P 0) :: cs2) (.ref ia)))
    (hnext : ∀ ia j, j ≤ n → NextV c i.A k ((ia, P j) :: cs1) (.ref ia) (fun r cs2 => match r with | none => j = n ∧ cs2 = cs1 | some v => j < n ∧ v = X j ∧ cs2 = (ia, P (j + 1)) :: cs1))
    (hz : n ≤ 100000)
    (hcell : ∀ y ∈ scope.names, y.2 ≠ .cell) (hkind : scope.kind = .function) (hnames : ∀ y ∈ scope.names, y.2 = .local → scope.names.lookup y.1 = some .local)
    (hx : scope.names.lookup x = some .local) (hgl : ∀ y ∈ gl, scope.names.lookup y = some .globalImplicit)
    (hfr : ∀ y ∈ scope.names, y.2 = .free → COk i y.1 (f y.1) ∧ scope.names.lookup y.1 = some .free)
    (htest : (ifs = [] ∧ ∀ j, kp j = true) ∨ ∃ t, ifs = [t] ∧ ∀ (i2 : Fi) ia D E1 j, j < n → GOk i2 gl → (∀ y ∈ scope.names, y.2 = .free → COk i2 y.1 (f y.1)) → PT c i2 k [(x, some (X j))] ((D, E1) :: (ia, P (j + 1)) :: cs1) t (kp j))
    (helt : ∀ (i2 : Fi) ia D E1 j, j < n → kp j = true → GOk i2 gl → (∀ y ∈ scope.names, y.2 = .free → COk i2 y.1 (f y.1)) → PE c i2 k [(x, some (X j))] ((D, E1) :: (ia, P (j + 1)) :: cs1) elt (g j))
    (q : ∀ r, Q (.ref r) ((r, .list (((List.range n).filter kp).map g)) :: cs1))
    (hs : ∀ env x, foldedSetIterable iter env x = pure x := by intro _ _; rfl) :
    EV c i k m cs (.ListComp elt [⟨.Name x px, iter, ifs, 0⟩] scope pos) Q := by
  intro hF R s hst
  have hclos := closure_of (scope := scope) (env := i.env) f (fun y hy hf => (hfr y hy hf).1.2)
  rw [eval_ListComp]
  refine wpAny_comprehension_free (use := none) rfl (hs _) hclos hkind hnames (noE (hit hF R s hst) ?_)
  rintro v s1 ⟨cs2, h1, q1⟩
  refine noE (q1 hF.2.2 _ s1 v rfl (h1.perm mid)) ?_
  rintro itv s2 ⟨cs3, h2, ia, e2, rfl⟩
  rw [nv_ref e2]
  have h2 := h2.perm dim
  refine wpAny_newList ?_ (Nat.zero_le _)
  have hb0 : c.base.objs.size ≤ s2.heap.objs.size := h2.own.size (by simp)
  have o3 : Own c.base ((s2.heap.objs.size, .list []) :: (i.L, .ns m) :: (((ia, P 0) :: cs1) ++ R)) (s2.heap.push { cls := .type "list", data := .seq ([] : List Value).toArray }) :=
    h2.own.push (ao := .list []) hb0 rfl ⟨_, _, rfl, rfl⟩
  refine wpAny_newFunctionEnv hcell (by simp) (fun h4 N sb => ?_) hkind
  dsimp only at N sb ⊢
  generalize hH3 : s2.heap.push { cls := .type "list", data := .seq ([] : List Value).toArray } = H3 at o3 N sb ⊢
  have hC : H3.objs.size = s2.heap.objs.size + 1 := by rw [← hH3, Heap.size_push]
  have o3' : Own c.base ((s2.heap.objs.size, .list []) :: (i.L, .ns m) :: (((ia, P 0) :: cs1) ++ R)) h4 := o3.ext fun b y e => by
    have hlt := Heap.lt_size e
    exact (sb.2 b (Nat.ne_of_lt hlt)).trans (Heap.get?_push_of_some _ e)
  obtain ⟨oC, es, ep, hoC, hd, hsk, hf⟩ := N
  have o4 : Own c.base ((H3.objs.size, .ns [(x, none)]) :: (s2.heap.objs.size, .list []) :: (i.L, .ns m) :: (((ia, P 0) :: cs1) ++ R)) h4 := by
    refine o3'.fresh (fun p hp e => ?_) (by omega) hoC ⟨es, ep, hd, hsk, by simp, fun p hp => ?_⟩
    · obtain ⟨-, y, hy, -⟩ := o3.2.2 p hp
      exact absurd (Heap.lt_size hy) (by rw [e]; exact Nat.lt_irrefl _)
    · rw [List.mem_singleton.mp hp, hf]; rfl
  dsimp only [newEnv]
  generalize hcee : ({ scope := relabel scope i.env, locals := H3.objs.size, globals := i.env.globals, cells := (List.map (fun x => (x.fst, f x.fst)) (List.filter (fun x => x.snd == NameKind.free) scope.names)).reverse, qual := i.env.qual, func := none, code := i.env.code, frame := i.env.frame, builtins := i.env.builtins } : Env) = ce
  have hce : EnvOk ce H3.objs.size := by rw [← hcee]; exact ⟨hkind, rfl, hF.1.2.2.1, hF.1.2.2.2⟩
  have hkd : ∀ y, ce.kindOf y = (relabel scope i.env).names.lookup y := fun y => by rw [← hcee]; rfl
  have hcc : ce.cells = (List.map (fun x => (x.fst, f x.fst)) (List.filter (fun x => x.snd == NameKind.free) scope.names)).reverse := by rw [← hcee]
  clear hcee
  generalize H3.objs.size = C at *
  generalize s2.heap.objs.size = D at *
  have F2 : ∀ o, FOk ⟨i.A, ce, C⟩ k [(x, o)] := fun o => ⟨hce, fun p hp => by rw [List.mem_singleton.mp hp]; show ce.kindOf x = _; rw [hkd]; exact relabel_lookup (by decide) hx, hF.2.2⟩
  have G2 : GOk ⟨i.A, ce, C⟩ gl := fun y hy => by show ce.kindOf y = _; rw [hkd]; exact relabel_lookup (by decide) (hgl y hy)
  have C2 : ∀ y ∈ scope.names, y.2 = .free → COk ⟨i.A, ce, C⟩ y.1 (f y.1) := fun y hy hf => by
    refine ⟨?_, ?_⟩
    · show ce.kindOf y.1 = _
      rw [hkd]; exact relabel_free hF.1.1 (hfr y hy hf).1.1 (hfr y hy hf).2
    · show ce.cells.lookup y.1 = _
      rw [hcc]
      refine lookup_all (fun p hp => ?_) ?_
      · obtain ⟨z, -, rfl⟩ := List.mem_map.mp (List.mem_reverse.mp hp); rfl
      · rw [List.map_reverse, List.map_map]
        exact List.mem_reverse.mpr (List.mem_map.mpr ⟨y, List.mem_filter.mpr ⟨hy, by simp [hf]⟩, rfl⟩)
  have pm : ∀ P1 P2 P3 : List Chunk, (P1 ++ (P2 ++ P3)).Perm (P2 ++ (P1 ++ P3)) := fun P1 P2 P3 => by
    rw [← List.append_assoc, ← List.append_assoc]; exact List.perm_append_comm.append_right _
  have hst4 : St c ((C, .ns [(x, none)]) :: (((D, .list (((List.range 0).filter kp).map g)) :: (ia, P 0) :: cs1) ++ (i.L, .ns m) :: R)) { s2 with heap := h4 } := by
    refine St.perm (h2.to h2.pos o4) (List.Perm.cons _ ?_)
    show ((D, AO.list []) :: (i.L, AO.ns m) :: (((ia, P 0) :: cs1) ++ R)).Perm (((D, AO.list []) :: (ia, P 0) :: cs1) ++ (i.L, AO.ns m) :: R)
    exact List.Perm.cons _ mid
  refine compStart3 (fun s => St c ((C, .ns [(x, none)]) :: (((D, .list (((List.range 0).filter kp).map g)) :: (ia, P 0) :: cs1) ++ (i.L, .ns m) :: R)) s) hst4 (fun s' h5 => ?_) (fun s' h5 => ?_)
  · refine noE (hself ia cs1 hF.2.2 ((C, .ns [(x, none)]) :: (D, .list (((List.range 0).filter kp).map g)) :: (i.L, .ns m) :: R) s' (.ref ia) rfl (h5.perm (pm [_, _] (_ :: _) _))) ?_
    rintro v s6 ⟨cs6, h6, e6, rfl⟩
    exact ⟨nv_ref e6, h6.perm (pm (_ :: _) [_, _] _)⟩
  refine codeAny_compLoop_tests (fun n' s' => ∃ j o, n' = n + 1 - j ∧ j ≤ n ∧ St c ((C, .ns [(x, o)]) :: (((D, .list (((List.range j).filter kp).map g)) :: (ia, P j) :: cs1) ++ (i.L, .ns m) :: R)) s') ?_ (n + 1) ⟨0, none, rfl, Nat.zero_le _, h5⟩
  rintro n' s5 ⟨j, o, rfl, hj, h5⟩
  refine noE' (hnext ia j hj hF.2.2 ((C, .ns [(x, o)]) :: (D, .list (((List.range j).filter kp).map g)) :: (i.L, .ns m) :: R) s5 (.ref ia) rfl (h5.perm (pm [_, _] (_ :: _) _))) ?_
  rintro r s6 ⟨cs6, h6, q6⟩
  cases r with
  | none =>
    obtain ⟨rfl, rfl⟩ := q6
    have h7 : St c ((C, .ns [(x, o)]) :: (i.L, .ns m) :: (((D, .list (((List.range j).filter kp).map g)) :: cs6) ++ R)) s6 := by
      refine h6.perm ?_
      refine (pm cs6 [_, _] _).trans ?_
      refine List.Perm.cons _ ?_
      show ((D, AO.list (((List.range j).filter kp).map g)) :: (cs6 ++ (i.L, AO.ns m) :: R)).Perm _
      exact (List.Perm.cons _ List.perm_middle).trans (List.Perm.swap _ _ _)
    obtain ⟨oc, hoc, es', ep', g1, g2, g3, g4⟩ := h7.at (a := C) (ao := .ns [(x, o)]) (by simp)
    show ∃ m, s6.heap.Ns C m ∧ _
    refine ⟨fun y => nsFind es' y, ⟨oc, es', ep', hoc, g1, g2, fun _ => rfl⟩, fun h' sb' => ?_⟩
    exact ⟨_, h7.but (fun b y hb e => (sb'.2 b hb).trans e), q D⟩
  | some v =>
    obtain ⟨hlt, hv, rfl⟩ := q6
    have h7 : St c ((C, .ns [(x, o)]) :: (((D, .list (((List.range j).filter kp).map g)) :: (ia, P (j + 1)) :: cs1) ++ (i.L, .ns m) :: R)) s6 := h6.perm (pm (_ :: _) [_, _] _)
    refine noE' (AS_name (c := c) (i := ⟨i.A, ce, C⟩) (k := k) (Q := fun m' cs' => m' = [(x, some (nv v))] ∧ cs' = (D, .list (((List.range j).filter kp).map g)) :: (ia, P (j + 1)) :: cs1) (U := Upd.head) ⟨rfl, rfl⟩ (F2 o) ((i.L, .ns m) :: R) s6 v rfl h7) ?_
    rintro _ s7 ⟨m7, cs7, -, h8, rfl, rfl⟩
    rw [hv] at h8
    have tests : ∀ {E : Value → Shared → Prop}, wpAny (model c.prog c.w) i.A (forIn ifs true fun c r => if r = true then do let ok ← isTrue c ce (eval c ce); pure (ForInStep.yield ok) else pure (ForInStep.yield r))
        (fun ok s8 => ok = kp j ∧ St c ((C, .ns [(x, some (X j))]) :: (((D, .list (((List.range j).filter kp).map g)) :: (ia, P (j + 1)) :: cs1) ++ (i.L, .ns m) :: R)) s8) E s7 := by
      intro E
      rcases htest with ⟨rfl, hk⟩ | ⟨t, rfl, ht⟩
      · exact wpAny_tests_nil ⟨(hk j).symm, h8⟩
      · refine wpAny_tests_one (noE' (ht ⟨i.A, ce, C⟩ ia D _ j hlt G2 C2 (F2 _) _ s7 h8) ?_)
        rintro b s8 ⟨cs8, h9, rfl, rfl⟩
        exact ⟨rfl, h9⟩
    refine wpAny_mono tests ?_ (fun _ _ e => e)
    rintro ok s8 ⟨rfl, h9⟩
    have hr : (List.range (j + 1)).filter kp = (List.range j).filter kp ++ (if kp j = true then [j] else []) := by
      rw [List.range_succ, List.filter_append]
      cases hkp : kp j <;> simp [hkp]
    cases hkp : kp j with
    | false =>
      rw [if_neg (by simp)]
      rw [hkp] at hr
      refine ⟨n + 1 - (j + 1), by omega, j + 1, some (X j), rfl, hlt, ?_⟩
      rw [hr]; simpa using h9
    | true =>
      rw [if_pos rfl]
      rw [hkp] at hr
      refine noE' (helt ⟨i.A, ce, C⟩ ia D _ j hlt hkp G2 C2 (F2 _) _ s8 h9) ?_
      rintro y s9 ⟨cs9, h10, hy, rfl⟩
      have htl : (((List.range j).filter kp).map g).length ≤ 1000000 := by
        rw [List.length_map]
        have := List.length_filter_le kp (List.range j)
        rw [List.length_range] at this
        omega
      refine noE' (K_append (c := c) (A := i.A) (k := k) (cs := ((D, .list (((List.range j).filter kp).map g)) :: (ia, P (j + 1)) :: cs1)) (a := D) (v := nv y) (Q := fun _ cs' => cs' = ((D, .list (((List.range j).filter kp).map g ++ [nv y])) :: (ia, P (j + 1)) :: cs1)) mem_hd Upd.head htl rfl hF.2.2 _ s9 [.ref D, y] rfl (h10.perm mid)) ?_
      rintro _ s10 ⟨cs10, h11, rfl⟩
      refine ⟨n + 1 - (j + 1), by omega, j + 1, some (X j), rfl, hlt, ?_⟩
      rw [hr, List.map_append]
      have e : ((List.range j).filter kp).map g ++ [nv y] = ((List.range j).filter kp).map g ++ List.map g (if true = true then [j] else []) := by rw [hy]; rfl
      rw [e] at h11
      exact h11.perm dim
end
end Mine
end
section
open PySem PySem.W PySem.Calls PyProof.Rows
open PySem.StrLaws
namespace Mine
/-- a tuple of the base, or an own one -/
def SeenT (c : Cx) (cs : List Chunk) (a : Addr) (vs : List Value) : Prop := (a, .tup vs) ∈ cs ∨ ∃ its : Array Value, IsTup c.base a its ∧ its.toList.map nv = vs
theorem SeenT.at {c : Cx} {cs R : List Chunk} {a : Addr} {vs : List Value} {s : Shared} (h : SeenT c cs a vs) (hs : St c (cs ++ R) s) : ∃ its : Array Value, IsTup s.heap a its ∧ its.toList.map nv = vs := by
  rcases h with h | ⟨its, ⟨o, ho, r⟩, e⟩
  · obtain ⟨o, ho, its, n, rfl, hi⟩ := hs.at (List.mem_append_left R h)
    exact ⟨its, ⟨_, ho, rfl, n, rfl⟩, hi⟩
  · exact ⟨its, ⟨o, hs.keep _ _ ho, r⟩, e⟩
section
variable {c : Cx} {i : Fi} {A : Around} {k : Nat} {m : Fields} {cs cs' : List Chunk}
theorem seenTB {a : Addr} {vs : List Value} {its : Array Value} {n : Nat} (h : c.K.lookup a = some ⟨.type "tuple", none, .seq its n, #[]⟩) (e : its.toList.map nv = vs) : SeenT c cs a vs :=
  .inr ⟨its, ⟨_, c.inK _ _ h, rfl, n, rfl⟩, e⟩
/- ## an iterator's own iterator -/
theorem I_self_str {l : List Nat} (ia : Addr) (cs2 : List Chunk) : Op1 c A k ((ia, strIt l 0) :: cs2) pyIter (.ref ia) nv (Is ((ia, strIt l 0) :: cs2) (.ref ia)) := by
  intro _ R s a' ha hs
  rw [nv_ref ha]
  obtain ⟨o, ho, t, hc, hd⟩ := hs.at (a := ia) (ao := strIt l 0) (by simp)
  cases e : (⟨l.toArray⟩ : Str).cps.all (· < 128)
  · exact wpAny_pyIter_striter_wide (x := ⟨l.toArray⟩) (t := t) (i := 0) ⟨o, ho, by rw [hc]; unfold strIterType; rw [e]; rfl, hd⟩ ⟨_, hs, rfl, rfl⟩
  · exact wpAny_pyIter_striter_ascii (x := ⟨l.toArray⟩) (t := t) (i := 0) ⟨o, ho, by rw [hc]; unfold strIterType; rw [e]; rfl, hd⟩ ⟨_, hs, rfl, rfl⟩
theorem I_self_range {n : Nat} (ia : Addr) (cs2 : List Chunk) : Op1 c A k ((ia, rangeIt n 0) :: cs2) pyIter (.ref ia) nv (Is ((ia, rangeIt n 0) :: cs2) (.ref ia)) := by
  intro _ R s a' ha hs
  rw [nv_ref ha]
  obtain ⟨o, ho, rfl⟩ := hs.at (a := ia) (ao := rangeIt n 0) (by simp)
  exact wpAny_pyIter_rangeiter ho ⟨_, hs, rfl, rfl⟩
/- ## lists and tuples, added -/
theorem B_addL {a b : Addr} {vs ws : List Value} {Q : Value → List Chunk → Prop} (ha : Seen c cs a vs) (hb : Seen c cs b ws) (hne : cs ≠ []) (hz : vs.length + ws.length ≤ 1000000) (q : ∀ r, Q (.ref r) ((r, .list (vs ++ ws)) :: cs)) :
    Op2 c A k cs (binaryOp .Add) (.ref a) (.ref b) nv Q := by
  intro _ R s a' b' ea eb hs
  rw [nv_ref ea, nv_ref eb]
  obtain ⟨its, hl, hi⟩ := ha.at hs
  obtain ⟨its2, hl2, hi2⟩ := hb.at hs
  obtain ⟨⟨cls, dd, data, sl⟩, ho, hc, n, hd⟩ := id hl
  obtain ⟨⟨cls2, dd2, data2, sl2⟩, ho2, hc2, n2, hd2⟩ := id hl2
  simp only at hc hd hc2 hd2
  subst hc hd hc2 hd2
  have z1 := len_its hi
  have z2 := len_its hi2
  refine concat_meets ⟨_, ho, rfl⟩ ⟨_, ho2, rfl⟩ noFill_list_add seq_list_add PySem.F.slot_list_add PySem.F.entry_list_add (PySem.F.args_list_add_2 _ _) (list_addW a b its its2 n n2 dd dd2 sl sl2 (by rw [sizeLine_eq]; omega)) ⟨ho, ho2, ?_⟩
  refine ⟨_, hs.to hs.pos (hs.own.push (ao := .list (vs ++ ws)) (hs.own.size (by simp [hne])) rfl ⟨its ++ its2, _, rfl, ?_⟩), q _⟩
  rw [Array.toList_append, List.map_append, hi, hi2]
theorem B_addT {a b : Addr} {vs ws : List Value} {Q : Value → List Chunk → Prop} (ha : SeenT c cs a vs) (hb : SeenT c cs b ws) (hv : vs ≠ []) (hw : ws ≠ []) (hne : cs ≠ []) (hz : vs.length + ws.length ≤ 1000000) (q : ∀ r, Q (.ref r) ((r, .tup (vs ++ ws)) :: cs)) :
    Op2 c A k cs (binaryOp .Add) (.ref a) (.ref b) nv Q := by
  intro _ R s a' b' ea eb hs
  rw [nv_ref ea, nv_ref eb]
  obtain ⟨its, hl, hi⟩ := ha.at hs
  obtain ⟨its2, hl2, hi2⟩ := hb.at hs
  obtain ⟨⟨cls, dd, data, sl⟩, ho, hc, n, hd⟩ := id hl
  obtain ⟨⟨cls2, dd2, data2, sl2⟩, ho2, hc2, n2, hd2⟩ := id hl2
  simp only at hc hd hc2 hd2
  subst hc hd hc2 hd2
  have z1 := len_its hi
  have z2 := len_its hi2
  have p1 := List.length_pos_iff.mpr hv
  have p2 := List.length_pos_iff.mpr hw
  refine concat_meets ⟨_, ho, rfl⟩ ⟨_, ho2, rfl⟩ noFill_tuple_add seq_tuple_add PySem.F.slot_tuple_add PySem.F.entry_tuple_add (PySem.F.args_tuple_add_2 _ _)
    (tuple_addW2 a b its its2 n n2 dd dd2 sl sl2 (by simp only [Array.isEmpty, decide_eq_true_eq]; omega) (by simp only [Array.isEmpty, decide_eq_true_eq]; omega) (by rw [sizeLine_eq]; omega)) ⟨ho, ho2, ?_⟩
  refine ⟨_, hs.to hs.pos (hs.own.push (ao := .tup (vs ++ ws)) (hs.own.size (by simp [hne])) rfl ⟨its ++ its2, _, rfl, ?_⟩), q _⟩
  rw [Array.toList_append, List.map_append, hi, hi2]
/- ## membership -/
theorem any_strs (ls : List (List Nat)) (x : List Nat) : (ls.map fun l => (⟨l.toArray⟩ : Str)).any (· == ⟨x.toArray⟩) = decide (x ∈ ls) := by
  rw [List.any_map, Bool.eq_iff_iff, List.any_eq_true, decide_eq_true_eq]
  constructor
  · rintro ⟨y, hy, e⟩
    have : (⟨y.toArray⟩ : Str) = ⟨x.toArray⟩ := eq_of_beq e
    injection this with this
    have := congrArg Array.toList this
    simp at this
    exact this ▸ hy
  · intro hx
    exact ⟨x, hx, by simp⟩
theorem C_notinT {a : Addr} {ls : List (List Nat)} {x : List Nat} (h : SeenT c cs a (ls.map strV)) : Op2 c A k cs (compareOp .NotIn) (strV x) (.ref a) nv (Is cs (.bool (!decide (x ∈ ls)))) := by
  intro _ R s a' b' ha hb hs
  rw [nv_ref hb]
  obtain ⟨-, t, rfl⟩ := nv_str ha
  obtain ⟨its, ht, hi⟩ := h.at hs
  exact notin_tuple_strs ht (strsAre_of hi) ⟨cs, hs, by rw [← any_strs]; rfl, rfl⟩
theorem C_notinS {l : List Nat} {x : Nat} : Op2 c A k cs (compareOp .NotIn) (strV [x]) (strV l) nv (Is cs (.bool (!decide (x ∈ l)))) := by
  intro _ R s a' b' ha hb hs
  obtain ⟨-, t, rfl⟩ := nv_str ha
  obtain ⟨-, u, rfl⟩ := nv_str hb
  refine PyProof.Rows.notIn_str ⟨cs, hs, ?_, rfl⟩
  have := found_one ⟨l.toArray⟩ x
  show Value.bool _ = _
  congr 2
/- ## a tuple's item -/
theorem S_tupS {e sl' : Expr} {a : Addr} {vs : List Value} {n : Int} {j : Nat} {v : Value} (h : SeenT c cs a vs) (h0 : -1000000 ≤ n) (h1 : n ≤ 1000000) (hk : seqIndex? n vs.length = some j) (he : vs[j]? = some v)
    (hs' : ∀ t, subscripted sl' false (.ref a) (.int n t) = operate [.ref a, .int n t] (getItem (.ref a) (.int n t)) := by intro _; with_unfolding_all rfl) : Op2 c A k cs (subscriptTail e sl') (.ref a) (.int n 0) nv (Is cs v) := by
  intro hA R s a' b' ha hb hs
  rw [nv_ref ha]
  obtain ⟨-, t, rfl⟩ := nv_int hb
  obtain ⟨its, ht, hi⟩ := h.at hs
  obtain ⟨v', q1, q2⟩ := at_its hi he
  have hl := len_its hi
  exact item_tupleT (l := its.toList) (j := j) (x := v') (by simpa using ht) (by omega) (by omega) (by simpa [hl] using hk) (by simpa using q1) ⟨cs, hs, q2, rfl⟩ (hs' t)
/- ## an empty list filled with a text's signs -/
theorem call_extend_str {prog : Program} {w : World} {s : Shared} {S : Addr} {x : Str} {t : Tok} {n : Nat} {Q : Value → Shared → Prop} (hh : A.handled = none) (hS : s.heap.get? S = some { cls := .type "list", data := .seq #[] n }) (hn : x.cps.size ≤ sizeLine)
    (hQ : ∀ h' tk acc' c', (∀ b o, b ≠ S → s.heap.get? b = some o → h'.get? b = some o) → h'.get? S = some { cls := .type "list", dict := none, data := .seq acc' c', slots := #[] } →
      ItemsOf (SignAt x) acc' x.cps.size → Q .none { s with heap := h', toks := tk }) : wpAny (model prog w) A (call (.builtin "list.extend") [.ref S, .str x t]) Q NoE s := by
  refine wpAny_call (codeAny_call_builtin F.slot_list_extend.plain F.entry_list_extend (F.slot_list_extend.check _ _ _ _ _ _ _ _ ⟨_, hS, rfl⟩ (F.args_list_extend_2 _ _) ?_))
  show wpAny _ _ (Builtin.List.listExtendWith (.ref S) (.str x t) .none) _ _ _
  exact wpAny_extend_str (R := fun r s' => match r with | .ok (.ret v) => Q v s' | .ok _ => False | .error e => NoE e s') (hn := hn) hh x t S .none n hS hQ
theorem K_extendS {a : Addr} {l : List Nat} {Q : Value → List Chunk → Prop} (h : (a, .list []) ∈ cs) (U : Upd cs a (.list (l.map fun x => strV [x])) cs') (hz : l.length ≤ 1000000) (q : Q .none cs') :
    CallV c A k cs (.builtin "list.extend") [.ref a, strV l] Q := by
  intro hA R s as ha hs
  obtain ⟨a', v', rfl, hv, hw⟩ := map_two ha
  rw [nv_ref hv]
  obtain ⟨-, t, rfl⟩ := nv_str hw
  obtain ⟨o, ho, its, n, rfl, hi⟩ := hs.at (List.mem_append_left R h)
  have e0 : its = #[] := by
    have := congrArg List.length hi
    simp at this
    exact this
  subst e0
  have := wpAny_toks (call_extend_str (prog := c.prog) (w := c.w) (A := A) (t := t) (Q := fun v s' => v = .none ∧ ∃ h' tk acc' c', (∀ b o, b ≠ a → s.heap.get? b = some o → h'.get? b = some o) ∧ h'.get? a = some { cls := .type "list", dict := none, data := .seq acc' c', slots := #[] } ∧
      ItemsOf (SignAt ⟨l.toArray⟩) acc' (⟨l.toArray⟩ : Str).cps.size ∧ s' = { s with heap := h', toks := tk }) hA.1 ho (by rw [sizeLine_eq]; simp; omega) fun h' tk acc' c' h1 h2 h3 => ⟨rfl, h', tk, acc', c', h1, h2, h3, rfl⟩)
  refine noE this ?_
  rintro _ _ ⟨⟨rfl, h', tk, acc', c', h1, h2, ⟨h3, h4⟩, rfl⟩, le⟩
  refine ⟨cs', hs.to (Nat.lt_of_lt_of_le hs.pos le) (hs.own.upd (U.append R) h1 h2 ⟨_, _, rfl, ?_⟩), q⟩
  apply List.ext_getElem?
  intro j
  rw [List.getElem?_map, List.getElem?_map, Array.getElem?_toList]
  by_cases hj : j < l.length
  · have hj' : j < acc'.size := by rw [h3]; simpa using hj
    obtain ⟨ch, u, e1, e2⟩ := h4 j _ (Array.getElem?_eq_getElem hj')
    have e3 : l[j]? = some ch := by simpa using e1
    rw [Array.getElem?_eq_getElem hj', e2, e3]; rfl
  · have hj' : ¬ j < acc'.size := by rw [h3]; simpa using hj
    rw [Array.getElem?_eq_none (by omega), List.getElem?_eq_none (by omega)]; rfl
theorem EV_extendS {o e : Expr} {apos pos : Pos} {a : Addr} {l : List Nat} {Q : Value → List Chunk → Prop} (ho : PE c i k m cs o (.ref a)) (he : PE c i k m cs e (strV l)) (h : (a, .list []) ∈ cs) (U : Upd cs a (.list (l.map fun x => strV [x])) cs') (hz : l.length ≤ 1000000) (q : Q .none cs')
    (hc : MCall o "extend" [e] apos pos := by intro _; exact ⟨_, rfl⟩) (hs : ∀ env, starEach [e] env = (false, eval e env) :: starEach [] env := by intro _; rfl) :
    EV c i k m cs (.Call (.Attribute o "extend" apos) [e] [] pos) Q :=
  EV_methP ho (PEs_cons he PEs_nil hs) (M_list h F.slot_list_extend F.type_list_extend ⟨rfl, .inl ⟨_, rfl⟩, K_extendS h U hz q⟩) hc hs
end
end Mine
end
section
open PySem PySem.W PySem.Calls PyProof.Rows
namespace Mine
/- ## an enumerate over a list -/
section
variable {c : Cx} {i : Fi} {A : Around} {k : Nat} {m : Fields} {cs cs' : List Chunk}
theorem K_enumL {a : Addr} {vs : List Value} {Q : Value → List Chunk → Prop} (h : (a, .list vs) ∈ cs) (q : ∀ e it, Q (.ref e) ((e, enumAt it 0) :: (it, listIt a 0) :: cs)) : CallV c A k cs (.type "enumerate") [.ref a] Q := by
  intro _ R s as ha hs
  obtain ⟨a', rfl, hv⟩ := map_one ha
  rw [nv_ref hv]
  obtain ⟨o, ho, its, u, rfl, hi⟩ := hs.at (List.mem_append_left R h)
  have hb := hs.own.size (by simp [List.ne_nil_of_mem h])
  refine call_enumerate_list ⟨_, ho, rfl, u, rfl⟩ fun h' he hit hz hk => ?_
  obtain ⟨oi, hi2, hc, hd⟩ := hit
  have o0 : Own c.base (cs ++ R) h' := hs.own.ext hk
  have lt : ∀ p ∈ cs ++ R, p.1 < s.heap.objs.size := fun p hp => by
    obtain ⟨o, ho, _⟩ := hs.at (a := p.1) (ao := p.2) hp
    exact Heap.lt_size ho
  have o1 : Own c.base ((s.heap.objs.size, listIt a 0) :: (cs ++ R)) h' := o0.fresh (fun p hp e => absurd (lt p hp) (by rw [e]; exact Nat.lt_irrefl _)) hb hi2 ⟨hc, hd⟩
  have o2 : Own c.base ((s.heap.objs.size + 1, enumAt s.heap.objs.size 0) :: (s.heap.objs.size, listIt a 0) :: (cs ++ R)) h' := o1.fresh (fun p hp e => by
    rcases List.mem_cons.mp hp with rfl | hp
    · exact absurd e (Nat.ne_of_lt (Nat.lt_succ_self _))
    · exact absurd (lt p hp) (by rw [e]; exact Nat.not_lt.mpr (Nat.le_succ _))) (Nat.le_succ_of_le hb) he ⟨_, rfl⟩
  exact ⟨_, hs.to hs.pos o2, q _ _⟩
/-- the next pair of an enumerate over a list, and its letting go of the pair -/
theorem N_enumL {a : Addr} {vs : List Value} {e it : Addr} {j : Nat} {elts : List Expr} {u1 : Nat} {pos : Pos} (hA : AOk A k) (hjl : j ≤ vs.length) (R : List Chunk) (s : Shared) (h : (a, .list vs) ∈ cs ++ R) (hs : St c ((e, enumAt it j) :: (it, listIt a j) :: (cs ++ R)) s) :
    wpAny (model c.prog c.w) A (pyNext (.ref e)) (fun r s1 => match r with
      | none => j ≥ vs.length ∧ St c (cs ++ R) s1
      | some v => j < vs.length ∧ wpAny (model c.prog c.w) A (letOwnedTupleGo (.Tuple elts u1 pos) (.ref e) v) (fun _ s2 => ∃ t, v = .ref t ∧ St c ((t, .tup [.int j 0, vs.getD j .none]) :: (e, enumAt it (j + 1)) :: (it, listIt a (j + 1)) :: (cs ++ R)) s2) NoE s1) NoE s := by
  obtain ⟨oe, he, old, rfl⟩ := hs.at (a := e) (ao := enumAt it j) (by simp)
  obtain ⟨oi, hi, hc, hd⟩ := hs.at (a := it) (ao := listIt a j) (by simp)
  obtain ⟨ol, hol, its, u, rfl, hits⟩ := hs.at (a := a) (ao := .list vs) (List.mem_cons_of_mem _ (List.mem_cons_of_mem _ h))
  have hnd := hs.own.2.1
  simp only [List.map_cons, List.nodup_cons, List.mem_cons, not_or] at hnd
  have hne : e ≠ it := hnd.1.1
  have hea : e ≠ a := fun z => hnd.1.2 (z ▸ List.mem_map_of_mem h)
  have hia : a ≠ it := fun z => hnd.2.1 (z ▸ List.mem_map_of_mem h)
  have lt : ∀ p ∈ (e, enumAt it j) :: (it, listIt a j) :: (cs ++ R), p.1 < s.heap.objs.size := fun p hp => by
    obtain ⟨o, ho, _⟩ := hs.at (a := p.1) (ao := p.2) hp
    exact Heap.lt_size ho
  have hb : c.base.objs.size ≤ s.heap.objs.size := hs.own.size (by simp)
  have D := Draws.list (prog := c.prog) (w := c.w) (A := A.in1) hA.1 it a hia its
  have hst : s.heap.IsListIter it a j ∧ s.heap.IsList a its := ⟨⟨oi, hi, hc, hd⟩, ⟨_, hol, rfl, u, rfl⟩⟩
  have hsz : its.size = vs.length := len_its hits
  by_cases hj : j < vs.length
  · refine wpAny_pyNext_enum_itemD D he hst (by rw [hsz]; exact hj) hne (by simp [hne, hea]) ?_
    rintro x h' tk hx heo ⟨⟨o2, hi2, hc2, hd2⟩, -⟩ htup hz hk
    refine ⟨hj, ?_⟩
    refine wpAny_letOwnedTupleGo_enum heo fun h2 he2 sb => ?_
    have hne' : it ≠ e := fun z => hne z.symm
    have hai : s.heap.objs.size ≠ e := fun z => absurd (lt (e, enumAt it j) (by simp)) (by rw [← z]; exact Nat.lt_irrefl _)
    have o1 : Own c.base ((e, enumAt it (j + 1)) :: (it, listIt a (j + 1)) :: (cs ++ R)) h2 := by
      refine Own.two (oe := { cls := .type "enumerate", dict := none, data := .fields #[.none, .bool false, .ref it, rawInt ((j + 1 : Nat) : Int), .none, x], slots := #[] }) (oi := o2) hs.own (fun b y h1 h3 q => (sb.2 b h1).trans (hk b y h1 h3 q)) he2 ⟨_, rfl⟩ ((sb.2 it hne').trans hi2) ⟨hc2, hd2⟩
    have hv : vs.getD j .none = nv x := by
      have : (its.toList.map nv)[j]? = some (nv x) := by rw [List.getElem?_map, Array.getElem?_toList, hx]; rfl
      rw [hits] at this
      simp [List.getD, this]
    have o3 := o1.fresh (a := s.heap.objs.size) (ao := .tup [.int j 0, vs.getD j .none]) (x := { cls := .type "tuple", data := .seq #[.int j tk, x] }) (fun p hp z => by
      have : p.1 < s.heap.objs.size := by
        rcases List.mem_cons.mp hp with rfl | hp
        · exact lt (e, enumAt it j) (by simp)
        · rcases List.mem_cons.mp hp with rfl | hp
          · exact lt (it, listIt a j) (by simp)
          · exact lt p (List.mem_cons_of_mem _ (List.mem_cons_of_mem _ hp))
      rw [z] at this
      exact absurd this (Nat.lt_irrefl _)) hb ((sb.2 _ hai).trans htup) ⟨_, _, rfl, by rw [hv]; rfl⟩
    exact ⟨_, rfl, hs.to (Nat.succ_pos _) o3⟩
  · have hj' : j = vs.length := by omega
    refine wpAny_pyNext_enum_endD D he (by rw [hsz, ← hj']; exact hst) fun h' sb => ?_
    have p : St c ((it, listIt a j) :: (e, enumAt it j) :: (cs ++ R)) s := hs.perm (List.Perm.swap _ _ _)
    exact ⟨by omega, (p.but sb).tail⟩
theorem EX_for_enumL {elts : List Expr} {u1 : Nat} {tpos : Pos} {e : Expr} {p1 p2 : Pos} {body : List Stmt} {pos : Pos} {a : Addr} {vs : List Value} {gl : List Str} {Q : Flow → Fields → List Chunk → Prop} (I : Nat → Fields → List Chunk → Prop)
    (hg : GOk i gl) (hx : Str.ofString "enumerate" ∈ gl) (hn : nsIn c.K mainGlobals "enumerate" = some none)
    (h : PE c i k m cs e (.ref a)) (h0 : I 0 m cs) (hm : ∀ j m1 cs1, I j m1 cs1 → (a, .list vs) ∈ cs1)
    (turn : ∀ j x m1 cs1, vs[j]? = some x → SameKeys m m1 → I j m1 cs1 → ASs c i k m1 cs1 elts [.int j 0, x] (fun m2 cs2 => EXS c i k m2 cs2 body (Turn (I (j + 1)) Q)))
    (fin : ∀ m1 cs1, SameKeys m m1 → I vs.length m1 cs1 → Q .next m1 cs1)
    (hs : ∀ env, starEach [e] env = (false, eval e env) :: starEach [] env := by intro _; rfl)
    (hc : ∀ env, eval (.Call (.Name "enumerate" p1) [e] [] p2) env = (do let f ← eval (.Name "enumerate" p1) env; callWith p2 f [] (backTo p2 (starEach [e] env)) (backToKw p2 (keywordEach [] env))) := by intro _; rfl)
    (hf : ∀ env x, foldedSetIterable (.Call (.Name "enumerate" p1) [e] [] p2) env x = pure x := by intro _ _; rfl)
    (hl : ∀ env, (assignEach elts env).length = 2 := by intro _; rfl) (hfi : ∀ env, (assignEach elts env).findIdx? (·.1) = none := by intro _; rfl) :
    EX c i k m cs (.For (.Tuple elts u1 tpos) (.Call (.Name "enumerate" p1) [e] [] p2) body [] pos) Q := by
  refine EX_for (EV_callT (f := "enumerate") (PE_bi (v := .type "enumerate") hg hx hn (by boot_fast) (by decide)) ((PEs_cons h PEs_nil hs).evs (K_enumL (hm _ _ _ h0) fun en it => (I_enum (j := 0) (it := it) (by simp)).is ?_)) hc hs) hf
  intro hF R s it' hit hst
  rw [nv_ref hit]
  refine codeAny_forLoop_any (fun u s' => ∃ j m1 cs1, u = vs.length - j ∧ j ≤ vs.length ∧ SameKeys m m1 ∧ St c ((i.L, .ns m1) :: (((en, enumAt it j) :: (it, listIt a j) :: cs1) ++ R)) s' ∧ I j m1 cs1) ?_ vs.length ⟨0, m, cs, by omega, by omega, .refl m, hst, h0⟩
  rintro u s1 ⟨j, m1, cs1, rfl, hj, z, h1, hI⟩
  have hF1 := hF.keys z
  have pm : ((i.L, AO.ns m1) :: (((en, enumAt it j) :: (it, listIt a j) :: cs1) ++ R)).Perm ((en, enumAt it j) :: (it, listIt a j) :: (cs1 ++ ((i.L, AO.ns m1) :: R))) := by
    refine (List.Perm.swap _ _ _).trans (List.Perm.cons _ ((List.Perm.swap _ _ _).trans (List.Perm.cons _ mid)))
  refine noE' (N_enumL (cs := cs1) (elts := elts) (u1 := u1) (pos := tpos) hF.2.2 hj ((i.L, .ns m1) :: R) s1 (List.mem_append_left _ (hm _ _ _ hI)) (h1.perm pm)) ?_
  intro r s2 hr
  cases r with
  | none =>
    obtain ⟨hge, h2⟩ := hr
    have : j = vs.length := by omega
    subst this
    exact wpAny_execs_nil ⟨m1, cs1, z, h2.perm dim, fin m1 cs1 z hI⟩
  | some v =>
    obtain ⟨hlt, hv⟩ := hr
    refine noE' hv ?_
    rintro _ s3 ⟨t, rfl, h3⟩
    have pm3 : ((t, AO.tup [.int j 0, vs.getD j .none]) :: (en, enumAt it (j + 1)) :: (it, listIt a (j + 1)) :: (cs1 ++ ((i.L, AO.ns m1) :: R))).Perm ((i.L, AO.ns m1) :: (((t, AO.tup [.int j 0, vs.getD j .none]) :: cs1) ++ ((en, enumAt it (j + 1)) :: (it, listIt a (j + 1)) :: R))) := by
      have q : ((en, enumAt it (j + 1)) :: (it, listIt a (j + 1)) :: (cs1 ++ ((i.L, AO.ns m1) :: R))).Perm ((i.L, AO.ns m1) :: (cs1 ++ ((en, enumAt it (j + 1)) :: (it, listIt a (j + 1)) :: R))) := by
        have q1 : ((en, enumAt it (j + 1)) :: (it, listIt a (j + 1)) :: (cs1 ++ ((i.L, AO.ns m1) :: R))).Perm ((i.L, AO.ns m1) :: (en, enumAt it (j + 1)) :: (it, listIt a (j + 1)) :: (cs1 ++ R)) :=
          (List.Perm.cons _ (List.Perm.cons _ dim)).trans ((List.Perm.cons _ (List.Perm.swap _ _ _)).trans (List.Perm.swap _ _ _))
        have q2 : ((en, enumAt it (j + 1)) :: (it, listIt a (j + 1)) :: (cs1 ++ R)).Perm (cs1 ++ ((en, enumAt it (j + 1)) :: (it, listIt a (j + 1)) :: R)) :=
          (List.Perm.cons _ mid).trans mid
        exact q1.trans (List.Perm.cons _ q2)
      exact (List.Perm.cons _ q).trans (List.Perm.swap _ _ _)
    have key : AS c i k m1 ((t, .tup [.int j 0, vs.getD j .none]) :: cs1) (.Tuple elts u1 tpos) (.ref t) (fun m2 cs2 => EXS c i k m2 cs2 body (Turn (I (j + 1)) Q)) :=
      AS_tupleD .head (turn j (vs.getD j .none) m1 cs1 (by simp [hlt]) z hI) hl hfi
    refine noE' (key hF1 ((en, enumAt it (j + 1)) :: (it, listIt a (j + 1)) :: R) s3 (.ref t) rfl (h3.perm pm3)) ?_
    rintro _ s4 ⟨m3, cs3, z3, h4, q3⟩
    refine noE' (q3 (hF1.keys z3) _ s4 h4) ?_
    rintro f s5 ⟨m4, cs4, z4, h5, q5⟩
    have z' := z.trans (z3.trans z4)
    have h5' : St c ((i.L, .ns m4) :: (((en, enumAt it (j + 1)) :: (it, listIt a (j + 1)) :: cs4) ++ R)) s5 := h5.perm (List.Perm.cons _ (dim.trans (List.Perm.cons _ dim)))
    have h5'' : St c ((i.L, .ns m4) :: (cs4 ++ R)) s5 := h5'.sub (.cons_cons _ (.cons _ (.cons _ (List.Sublist.refl _))))
    cases f with
    | next => exact ⟨vs.length - (j + 1), by omega, j + 1, m4, cs4, rfl, hlt, z', h5', q5⟩
    | cont => exact ⟨vs.length - (j + 1), by omega, j + 1, m4, cs4, rfl, hlt, z', h5', q5⟩
    | brk => exact ⟨m4, cs4, z', h5'', q5⟩
    | ret v => exact ⟨m4, cs4, z', h5'', q5⟩
end
end Mine
end
section
open PySem PySem.W PySem.Calls PyProof.Rows
namespace Mine
/- ## two names stored at once -/
section
variable {c : Cx} {i : Fi} {A : Around} {k : Nat} {m : Fields} {cs cs' : List Chunk}
theorem swapped_folded {ts vs : List Expr} {u1 u2 : Nat} {p1 p2 : Pos} (h : vs.all (foldedForSure 8) = true) (env : Env) : swappedStores [.Tuple ts u1 p1] (.Tuple vs u2 p2) env = pure none := by
  unfold swappedStores
  simp only
  split
  · rfl
  · split
    · rfl
    · split
      · rfl
      · first | rfl | rw [if_pos h]
theorem swapped_two {x y : Str} {px py p1 p2 : Pos} {u1 u2 : Nat} {e1 e2 : Expr} {env : Env} (hk : env.scope.kind = .function) (hx : env.kindOf x = some .local) (hy : env.kindOf y = some .local) (hne : x ≠ y) (hl : py.line = px.line)
    (hf : ([e1, e2].all (foldedForSure 8)) = false) (hc : ([e1, e2].all (constantsAlone 8)) = false) (hs : ([e1, e2].any fun | .Starred .. => true | _ => false) = false) :
    swappedStores [.Tuple [.Name x px, .Name y py] u1 p1] (.Tuple [e1, e2] u2 p2) env = pure (some [x, y]) := by
  have hb : env.blockKind = .function := by unfold Env.blockKind; rw [hk]; rfl
  have e1' : ([.Name x px, .Name y py] : List Expr).filterMap (fun
    | .Name id pos => if env.kindOf id == some .local && pos.line == (([.Name x px, .Name y py] : List Expr).head?.map (·.pos.line)).getD 0 then some id else none
    | _ => none) = [x, y] := by
    have hp : (Expr.Name x px).pos = px := rfl
    simp [hx, hy, hl, hp]
  have hd : ([x, y] : List Str).eraseDups = [x, y] := by
    have : (x == y) = false := beq_eq_false_iff_ne.mpr hne
    have h2 : (y == x) = false := beq_eq_false_iff_ne.mpr (Ne.symm hne)
    simp [List.eraseDups_cons, h2, List.filter]
  unfold swappedStores
  simp only
  rw [hb]
  rw [if_neg (by simp)]
  refine Eq.trans (if_neg fun q => by have := hs.symm.trans q; cases this) ?_
  have gen : ∀ (L : List Str), L = [x, y] → (if (L.length != ([.Name x px, .Name y py] : List Expr).length || L.eraseDups.length != L.length) = true then (pure none : Sem (Option (List Str))) else
      if ([e1, e2].all (foldedForSure 8)) = true then pure none else if ([e1, e2].all (constantsAlone 8)) = true then «unsupported» "assign.tuple-of-constant-expressions:order-of-the-stores" else pure (some L)) = pure (some [x, y]) := by
    rintro L rfl
    rw [hd, if_neg (by simp), if_neg (by rw [hf]; simp), if_neg (by rw [hc]; simp)]
  exact gen _ e1'
theorem EX_assignC {x y : Str} {px py p1 p2 pos : Pos} {u1 u2 : Nat} {e1 e2 : Expr} {v1 v2 : Value} {Q : Flow → Fields → List Chunk → Prop} {m1 m2 : Fields} (h1 : PE c i k m cs e1 v1) (h2 : PE c i k m cs e2 v2) (U1 : Upd m x (some v1) m1) (U2 : Upd m1 y (some v2) m2) (q : Q .next m2 cs)
    (hf : ([e1, e2].all (foldedForSure 8)) = true := by rfl)
    (ha1 : ∀ env, starEach [e1, e2] env = (false, eval e1 env) :: starEach [e2] env := by intro _; rfl) (ha2 : ∀ env, starEach [e2] env = (false, eval e2 env) :: starEach [] env := by intro _; rfl)
    (hsw : ∀ env, swapsWithSole [.Tuple [.Name x px, .Name y py] u1 p1] (.Tuple [e1, e2] u2 p2) pos.line env = pure false := by intro _; rfl) :
    EX c i k m cs (.Assign [.Tuple [.Name x px, .Name y py] u1 p1] (.Tuple [e1, e2] u2 p2) pos) Q := by
  intro hF R s hs
  refine (EX_assign (Q := fun f m' cs' => ∃ t, f = .next ∧ m' = m2 ∧ cs' = (t, .tup [v1, v2]) :: cs) (EV_tuple (EVs_cons (PE.ev h1 (EVs_cons (PE.ev h2 (EVs_nil ⟨by simp, fun t => AS_tuple (vs := [v1, v2]) mem_hd (ASs_cons (AS_name U1 (ASs_cons (AS_name U2 (ASs_nil ⟨t, rfl, rfl, rfl⟩)))))⟩)) ha2)) ha1)) hsw (fun env => swapped_folded hf env) (by intro _; rfl) hF R s hs) |> fun h => noE h ?_
  rintro f s' ⟨m', cs1, z, g, t, e1, rfl, rfl⟩
  rw [e1]
  exact ⟨_, cs, z, g.sub (.cons_cons _ (List.sublist_cons_self _ _)), q⟩
theorem unpack_tup {t : Addr} {vs : List Value} (ht : (t, .tup vs) ∈ cs) (hF : FOk i k m) {R : List Chunk} {s : Shared} (hs : St c ((i.L, .ns m) :: (cs ++ R)) s) {Q : List Value → Shared → Prop}
    (q : ∀ its s', its.map nv = vs → St c ((i.L, .ns m) :: (cs ++ R)) s' → Q its s') : wpAny (model c.prog c.w) i.A (unpackItems (.ref t) vs.length none) Q NoE s := by
  obtain ⟨o, ho, its, n, rfl, hi⟩ := hs.at (List.mem_cons_of_mem _ (List.mem_append_left R ht))
  have hl := len_its hi
  rw [← hl]
  refine unpackItems_tuple hF.2.2.1 ⟨_, ho, rfl, n, rfl⟩ fun h' hk => ?_
  exact q its.toList _ hi (hs.ext hs.pos fun b y e => hk b y (Nat.ne_of_lt (Heap.lt_size e)) e)
theorem EX_assign2 {x y : Str} {px py p1 p2 pos : Pos} {u1 u2 : Nat} {e1 e2 : Expr} {Q : Flow → Fields → List Chunk → Prop}
    (h : EV c i k m cs e1 (fun v1 cs1 => EV c i k m cs1 e2 (fun v2 cs2 => ∃ m1 m2, Upd m y (some v2) m1 ∧ Upd m1 x (some v1) m2 ∧ Q .next m2 cs2)))
    {ux uy : Option Value} (hx : (x, ux) ∈ m) (hy : (y, uy) ∈ m) (hne : x ≠ y := by decide) (hl : py.line = px.line := by rfl)
    (hf : ([e1, e2].all (foldedForSure 8)) = false := by rfl) (hc : ([e1, e2].all (constantsAlone 8)) = false := by rfl) (hs' : ([e1, e2].any fun | .Starred .. => true | _ => false) = false := by rfl)
    (ha1 : ∀ env, starEach [e1, e2] env = (false, eval e1 env) :: starEach [e2] env := by intro _; rfl) (ha2 : ∀ env, starEach [e2] env = (false, eval e2 env) :: starEach [] env := by intro _; rfl)
    (hsw : ∀ env, swapsWithSole [.Tuple [.Name x px, .Name y py] u1 p1] (.Tuple [e1, e2] u2 p2) pos.line env = pure false := by intro _; rfl) :
    EX c i k m cs (.Assign [.Tuple [.Name x px, .Name y py] u1 p1] (.Tuple [e1, e2] u2 p2) pos) Q := by
  intro hF R s hs
  have kx : i.env.kindOf x = some .local := hF.2.1 _ hx
  have ky : i.env.kindOf y = some .local := hF.2.1 _ hy
  have hT : EV c i k m cs (.Tuple [e1, e2] u2 p2) (fun v cs2 => ∃ t v1 v2 cs3 m1 m2, v = .ref t ∧ cs2 = (t, .tup [v1, v2]) :: cs3 ∧ Upd m y (some v2) m1 ∧ Upd m1 x (some v1) m2 ∧ Q .next m2 cs3) := by
    refine EV_tuple (EVs_cons (h.mono fun v1 cs1 h1 => EVs_cons (h1.mono fun v2 cs2 h2 => EVs_nil ⟨by simp, fun t => ?_⟩) ha2) ha1)
    obtain ⟨m1, m2, U1, U2, q⟩ := h2
    exact ⟨t, v1, v2, cs2, m1, m2, rfl, rfl, U1, U2, q⟩
  refine Assign_Tuple_swapped (names := [x, y]) (noE (hT hF R s hs) ?_) (hsw _) (swapped_two hF.1.1 kx ky hne hl hf hc hs')
  rintro v s1 ⟨cs2, h1, t, v1, v2, cs3, m1, m2, e, rfl, U1, U2, q⟩
  rw [nv_ref e]
  refine unpack_tup (vs := [v1, v2]) mem_hd hF h1 fun its s2 hits h2 => ?_
  obtain ⟨w1, w2, rfl, q1, q2⟩ := map_two hits
  have st : ∀ {n : Str} {a b : Fields} {w : Value} {S : List Chunk} {s' : Shared} {P : Unit → Shared → Prop}, SameKeys m a → Upd a n (some (nv w)) b → St c ((i.L, .ns a) :: S) s' → (∀ s'', St c ((i.L, .ns b) :: S) s'' → P () s'') → wpAny (model c.prog c.w) i.A (bindName i.env n w) P NoE s' := by
    intro n a b w S s' P ka U g hP
    have g' : St c ((i.L, .ns a) :: (S ++ [])) s' := by rw [List.append_nil]; exact g
    obtain ⟨m₀, F, hn, hm⟩ := frame g'
    have hx : i.env.kindOf n = some .local := by
      obtain ⟨pre, u, post, rfl, rfl⟩ := U
      exact (hF.keys ka).2.1 (n, u) (by simp)
    refine bindName_ (wpAny_storeName_local hx (by rw [hF.1.2.1]; exact F.ns) (fun h' N sb => ?_) (scopeF hF.1.1))
    rw [hF.1.2.1] at N sb
    obtain ⟨o, ho, hi⟩ := ns_upd hn hm N U
    exact hP _ (g.to (Nat.succ_pos _) (g.own.upd Upd.head (fun b y hb e => (sb.2 b hb).trans e) ho hi))
  show wpAny _ _ (assignInOrder [fun v => bindName i.env y v, fun v => bindName i.env x v] [w2, w1]) _ _ _
  refine assignInOrder_cons (st (.refl m) (by rw [q2]; exact U1) h2 fun s3 h3 => ?_)
  refine assignInOrder_cons (st (U1.keys) (by rw [q1]; exact U2) h3 fun s4 h4 => ?_)
  refine wpAny_pure ⟨m2, cs3, (SameKeys.trans U1.keys U2.keys), ?_, q⟩
  exact h4.sub (.cons_cons _ (List.sublist_cons_self _ _))
end
end Mine
end
section
open PySem PySem.W PySem.Calls PyProof.Rows
namespace Mine
example (w : World) : (heapW w.params) = (heapW w.params) ∧ PySem.Challenge.rw_im0056_03 = PySem.Challenge.rw_im0056_03 := by k_fill; exact ⟨rfl, rfl⟩
/-- what the written part says of the third law's own names -/
abbrev PL3 (c : Cx) : Prop := Nonempty (PLift (c.K = heapW c.w.params))
theorem PL3.hK {c : Cx} [h : PL3 c] : c.K = heapW c.w.params := h.elim PLift.down
theorem PL3.SIGNS {c : Cx} [h : PL3 c] : nsIn c.K mainGlobals "_law_SIGNS" = some (some (.ref 136)) := by rw [PL3.hK (c := c)]; k_is
theorem PL3.QUOTES {c : Cx} [h : PL3 c] : nsIn c.K mainGlobals "_law_QUOTES" = some (some (.ref 137)) := by rw [PL3.hK (c := c)]; k_is
theorem PL3.ENDS {c : Cx} [h : PL3 c] : nsIn c.K mainGlobals "_law_ENDS" = some (some (.ref 144)) := by rw [PL3.hK (c := c)]; k_is
theorem PL3.faulty {c : Cx} [h : PL3 c] : nsIn c.K mainGlobals "_law_faulty" = some (some (.ref 151)) := by rw [PL3.hK (c := c)]; k_is
theorem PL3.value {c : Cx} [h : PL3 c] : nsIn c.K mainGlobals "_law_value" = some (some (.ref 156)) := by rw [PL3.hK (c := c)]; k_is
theorem PL3.field {c : Cx} [h : PL3 c] : nsIn c.K mainGlobals "_law_field" = some (some (.ref 161)) := by rw [PL3.hK (c := c)]; k_is
theorem PL3.written {c : Cx} [h : PL3 c] : nsIn c.K mainGlobals "_law_written" = some (some (.ref 168)) := by rw [PL3.hK (c := c)]; k_is
theorem PL3.spot {c : Cx} [h : PL3 c] : nsIn c.K mainGlobals "_law_spot" = some (some (.ref 175)) := by rw [PL3.hK (c := c)]; k_is
theorem PL3.filled {c : Cx} [h : PL3 c] : nsIn c.K mainGlobals "_law_filled" = some (some (.ref 182)) := by rw [PL3.hK (c := c)]; k_is
theorem PL3.read {c : Cx} [h : PL3 c] : nsIn c.K mainGlobals "_law_read" = some (some (.ref 189)) := by rw [PL3.hK (c := c)]; k_is
theorem PL3.stream {c : Cx} [h : PL3 c] : nsIn c.K mainGlobals "HTMLUnicodeInputStream" = some (some (.ref 131)) := by rw [PL3.hK (c := c)]; k_is
theorem PL3.chr {c : Cx} [h : PL3 c] : nsIn c.K mainGlobals "chr" = some none := by rw [PL3.hK (c := c)]; k_is
theorem PL3.range {c : Cx} [h : PL3 c] : nsIn c.K mainGlobals "range" = some none := by rw [PL3.hK (c := c)]; k_is
theorem PL3.enumerate {c : Cx} [h : PL3 c] : nsIn c.K mainGlobals "enumerate" = some none := by rw [PL3.hK (c := c)]; k_is
theorem PL3.kENDS {c : Cx} [h : PL3 c] : keepIn c.K (.ref 144) = true := by rw [PL3.hK (c := c)]; k_is
theorem PL3.kfaulty {c : Cx} [h : PL3 c] : keepIn c.K (.ref 151) = true := by rw [PL3.hK (c := c)]; k_is
theorem PL3.kvalue {c : Cx} [h : PL3 c] : keepIn c.K (.ref 156) = true := by rw [PL3.hK (c := c)]; k_is
theorem PL3.kfield {c : Cx} [h : PL3 c] : keepIn c.K (.ref 161) = true := by rw [PL3.hK (c := c)]; k_is
theorem PL3.kwritten {c : Cx} [h : PL3 c] : keepIn c.K (.ref 168) = true := by rw [PL3.hK (c := c)]; k_is
theorem PL3.kspot {c : Cx} [h : PL3 c] : keepIn c.K (.ref 175) = true := by rw [PL3.hK (c := c)]; k_is
theorem PL3.kfilled {c : Cx} [h : PL3 c] : keepIn c.K (.ref 182) = true := by rw [PL3.hK (c := c)]; k_is
theorem PL3.kread {c : Cx} [h : PL3 c] : keepIn c.K (.ref 189) = true := by rw [PL3.hK (c := c)]; k_is
theorem pl3_of {c : Cx} (hK : c.K = heapW c.w.params) : PL3 c := ⟨⟨hK⟩⟩
theorem lit_dq : Str.ofString "\"" = ⟨[34].toArray⟩ := by decide +kernel
theorem lit_sq : Str.ofString "'" = ⟨[39].toArray⟩ := by decide +kernel
theorem lit_bq : Str.ofString "`" = ⟨[96].toArray⟩ := by decide +kernel
theorem lit_cm : Str.ofString "," = ⟨[44].toArray⟩ := by decide +kernel
theorem lit_sp : Str.ofString " " = ⟨[32].toArray⟩ := by decide +kernel
theorem lit_spt : Str.ofString " \t" = ⟨[32, 9].toArray⟩ := by decide +kernel
theorem lit_tab : Str.ofString "\t" = ⟨[9].toArray⟩ := by decide +kernel
theorem lit_cmnl : Str.ofString ",\n" = ⟨[44, 10].toArray⟩ := by decide +kernel
theorem quotes_seen {c : Cx} (hK : c.K = heapW c.w.params) {cs : List Chunk} : SeenT c cs 137 [strV [34], strV [39], strV [96]] := by
  refine seenTB (by rw [hK]; k_is) ?_
  show [Value.str (Str.ofString "\"") 0, .str (Str.ofString "'") 0, .str (Str.ofString "`") 0] = _
  rw [lit_dq, lit_sq, lit_bq]
def signs3 : List (List Nat) := [[97], [34], [10], [39], [44], [98], [96], [32], [1], [10]]
theorem signs_seen {c : Cx} (hK : c.K = heapW c.w.params) {cs : List Chunk} : Seen c cs 136 (signs3.map strV) := by
  refine seenB (by rw [hK]; k_is) ?_
  show [Value.str (Str.ofString "a") 0, .str (Str.ofString "\"") 0, .str (Str.ofString "\n") 0, .str (Str.ofString "'") 0, .str (Str.ofString ",") 0, .str (Str.ofString "b") 0, .str (Str.ofString "`") 0, .str (Str.ofString " ") 0, .str (Str.ofString "\x01") 0, .str (Str.ofString "\n") 0] = _
  rw [lit_dq, lit_sq, lit_bq, lit_cm, lit_sp, lit_a, lit_b, lit_nl, lit_soh]; rfl
end Mine
end
open PySem PySem.W PySem.Calls PyProof.Rows
set_option compiler.extract_closed false
namespace Mine
/- ## my own steps, under names of the library's that stand empty (local) -/
-- kba_ints: a pair stands in a written list
local macro_rules | `(tactic| kba_ints) => `(tactic| first
  | (with_reducible exact mem_hd)
  | ((with_reducible refine' mem_tl ?h); (case h => kba_ints)))
-- kbo_bools: a place of a written list turned
local macro_rules | `(tactic| kbo_bools) => `(tactic| first
  | (with_reducible exact Upd.head)
  | ((with_reducible refine' Upd.tail ?h); (case h => kbo_bools)))
-- kbt_split: chunks taken from a written list
local macro_rules | `(tactic| kbt_split) => `(tactic| first
  | (with_reducible exact Pick.head)
  | ((with_reducible refine' Pick.tail ?h); (case h => kbt_split)))
local macro_rules | `(tactic| kct_strs) => `(tactic| first
  | (with_reducible exact Take.nil)
  | (refine' Take.cons ?hp ?ht; (case hp => kbt_split); (case ht => kct_strs)))
-- kcf_m: a written text as a list of signs
local macro_rules | `(tactic| kcf_m) => `(tactic| first | exact lit_nl | exact lit_cr | exact lit_crnl | exact lit_empty | exact lit_err)
-- kas_types: sizes, bounds
local macro_rules | `(tactic| kas_types) => `(tactic| first | with_reducible assumption | omega | decide | (refine' Nat.le_trans (sl_length _ _ _) ?h; (case h => kas_types)) | (simp only [List.length_append, List.length_cons, List.length_nil, List.length_replicate, List.length_drop, List.length_take, List.length_map, List.length_set]; omega) | (simp only [List.length_append, List.length_cons, List.length_nil, List.length_replicate, List.length_drop, List.length_take, List.length_map, List.length_set] at *; omega))
-- kat_tups: what the class says
local macro_rules | `(tactic| kat_tups) => `(tactic| with_reducible (first
  | exact PF.s_chunk | exact PF.s_chunkSize | exact PF.s_chunkOffset | exact PF.s_errors | exact PF.s_prevNumLines | exact PF.s_prevNumCols | exact PF.s_buf | exact PF.s_dataStream | exact PF.s_rce | exact PF.s_newLines
  | exact PF.t_text | exact PF.t_place | exact PF.g_EOF | exact PF.g_Text | exact PF.g_inv | exact PF.i_Text | exact PF.i_S | exact PF.m_read | exact PF.m_reset | exact PF.m_open | exact PF.m_pos_ | exact PF.m_position | exact PF.m_char | exact PF.m_readChunk | exact PF.m_errs | exact PF.m_charsUntil | exact PF.m_unget))
local macro_rules | `(tactic| kaf_pre) => `(tactic| first | exact PF.S | exact PF.T)
-- kcj_in: one operation on values
local macro_rules | `(tactic| kcj_in) => `(tactic| first
  | ((with_reducible refine' A_fld ?hC ?h1 ?h2 ?h3 ?h5 ?h4); (case h1 => kba_ints); (case h2 => kba_ints); (case h3 => kba_ints); (case hC => kaf_pre); (case h5 => kat_tups); (case h4 => rfl))
  | ((with_reducible show Op2 _ _ _ _ (subscriptTail _ _) (.str _ _) (.int (-1) _) _ _); refine' G_str_last ?hz; (case hz => kas_types))
  | ((with_reducible show Op2 _ _ _ _ (subscriptTail _ _) (.str _ _) (.int _ _) _ _); refine' G_str ?h ?hz; (case h => assumption); (case hz => kas_types))
  | ((with_reducible refine' A_dcs ?h1 ?h2 ?h3 ?h4); (case h1 => kba_ints); (case h2 => kba_ints); (case h3 => kba_ints); (case h4 => rfl))
  | with_reducible (first | exact B_add | exact B_sub | exact I_add | exact I_sub)
  | ((with_reducible refine' B_mod ?h); (case h => decide))
  | with_reducible (first | exact C_eq | exact C_ne | exact C_lt | exact C_le | exact C_gt | exact C_ge | exact C_eqb | exact C_is | exact C_isnot | exact T_bool | exact T_none)
  | ((with_reducible refine' T_str ?h); (case h => kas_types))
  | ((with_reducible refine' B_adds ?h); (case h => kas_types))
  | ((with_reducible refine' I_adds ?h); (case h => kas_types))
  | with_reducible (first | exact C_eqs | exact C_nes | exact C_ne_ns | exact C_ne_nn)
  | ((with_reducible refine' T_bm ?h); (case h => kba_ints))
  | ((with_reducible refine' T_list ?h ?hz); (case h => kba_ints); (case hz => kas_types)))
-- kcf_all: a pure expression
local macro_rules | `(tactic| kcf_all) => `(tactic| first
  | with_reducible (first | exact PE_int | exact PE_none | exact PE_bool | exact PE_neg)
  | ((with_reducible refine' PE_str ?h); (case h => kcf_m))
  | ((with_reducible refine' PE_loc ?h); (case h => kba_ints))
  | ((with_reducible show PE _ _ _ _ _ (.Attribute _ _ _) _); refine' PE_attr ?h ?ha; (case h => kcf_all); (case ha => kcj_in))
  | ((with_reducible refine' PE_slice ?h ?hl ?hu ?hz); (case h => kcf_all); (case hl => kcj_m); (case hu => kcj_m); (case hz => kas_types))
  | ((with_reducible refine' PE_bin ?h1 ?h2 ?h3); (case h1 => kcf_all); (case h2 => kcf_all); (case h3 => kcj_in))
  | ((with_reducible show PE _ _ _ _ _ (.BoolOp _ [_] _) _); refine' PE_one ?h; (case h => kcf_all))
  | ((with_reducible refine' PE_or ?h ?h2); (case h => kcf_all); (case h2 => intro _; kcf_all))
  | ((with_reducible refine' PE_and ?h ?h2); (case h => kcf_all); (case h2 => intro _; kcf_all))
  | ((with_reducible show PE _ _ _ _ _ (.Compare _ [_, _] [_, _] _) _); refine' PE_chain ?h1 ?h2 ?h3 ?h4 ?h5; (case h1 => kcf_all); (case h2 => kcf_all); (case h4 => kcf_all); (case h3 => kcj_in); (case h5 => kcj_in))
  | ((with_reducible show PE _ _ _ _ _ (.Compare _ [_] [_] _) _); refine' PE_cmp ?h1 ?h2 ?h3; (case h1 => kcf_all); (case h2 => kcf_all); (case h3 => kcj_in))
  | ((with_reducible show PE _ _ _ _ _ (.Subscript _ _ _) _); refine' PE_sub ?h ?hj ?ha; (case h => kcf_all); (case hj => kcf_all); (case ha => kcj_in))
  | ((with_reducible show PE _ _ _ _ _ (.Name _ _) _); refine' PE_globR ?hg ?hx ?hn; (case hg => assumption); (case hx => kba_ints); (case hn => kat_tups))
  | ((with_reducible show PE _ _ _ _ _ (.Name _ _) _); refine' PE_globN ?hg ?hx ?hn; (case hg => assumption); (case hx => kba_ints); (case hn => kat_tups))
  | ((with_reducible show PE _ _ _ _ _ (.Call (.Attribute _ (Str.ofString "count") _) _ _ _) _); refine' PE_count ?h1 ?h2 ?h3 ?h4; (case h1 => kcf_all); (case h2 => kcf_m); (case h3 => kcf_all); (case h4 => kas_types))
  | ((with_reducible show PE _ _ _ _ _ (.Call (.Attribute _ (Str.ofString "rfind") _) _ _ _) _); refine' PE_rfind ?h1 ?h2 ?h3 ?h4; (case h1 => kcf_all); (case h2 => kcf_m); (case h3 => kcf_all); (case h4 => kas_types))
  | ((with_reducible show PE _ _ _ _ _ (.Call (.Name (Str.ofString "ord") _) _ _ _) _); refine' PE_ord ?hg ?hx ?h PF.g_ord; (case hg => assumption); (case hx => kba_ints); (case h => kcf_all))
  | ((with_reducible show PE _ _ _ _ _ (.Call (.Name (Str.ofString "len") _) _ _ _) _); refine' PE_len ?hg ?hx ?h ?hz PF.g_len; (case hg => assumption); (case hx => kba_ints); (case h => kcf_all); (case hz => kas_types)))
-- kcj_m: a slice's part
local macro_rules | `(tactic| kcj_m) => `(tactic| first | with_reducible exact PO.no | ((with_reducible refine' PO.yes ?h); (case h => kcf_all)))
-- kd_in: a pure test
local macro_rules | `(tactic| kd_in) => `(tactic| first
  | with_reducible (first | exact PT_or_nil | exact PT_and_nil)
  | ((with_reducible refine' PT_not ?h); (case h => kd_in))
  | ((with_reducible refine' PT_or ?h ?h2); (case h => kd_in); (case h2 => intro _; kd_in))
  | ((with_reducible refine' PT_and ?h ?h2); (case h => kd_in); (case h2 => intro _; kd_in))
  | ((with_reducible show PT _ _ _ _ _ (.Compare _ [_, _] [_, _] _) _); refine' PT_chain ?h1 ?h2 ?h3 ?h4 ?h5; (case h1 => kcf_all); (case h2 => kcf_all); (case h4 => kcf_all); (case h3 => kcj_in); (case h5 => kcj_in))
  | ((with_reducible show PT _ _ _ _ _ (.Compare _ [_] [_] _) _); refine' PT_cmp ?h1 ?h2 ?h3; (case h1 => kcf_all); (case h2 => kcf_all); (case h3 => kcj_in))
  | (refine' PT_plain ?h1 ?h2; (case h1 => kcf_all); (case h2 => kcj_in)))
-- kst_facts: pure arguments
local macro_rules | `(tactic| kst_facts) => `(tactic| first
  | with_reducible exact PEs_nil | exact PEs_nil
  | (refine' PEs_cons ?h1 ?h2; (case h1 => kcf_all); (case h2 => kst_facts)))
-- kqd_sub: a side goal of a call
local macro_rules | `(tactic| kqd_sub) => `(tactic| first
  | ((with_reducible show PE _ _ _ _ _ _ _); kcf_all)
  | ((with_reducible show PEs _ _ _ _ _ _ _); kst_facts)
  | ((with_reducible show (_ : Addr × AO) ∈ _); kba_ints)
  | ((with_reducible show (_ : Str × Option Value) ∈ _); kba_ints)
  | ((with_reducible show plainGet _ _ _ = true); exact ClsF.get (by kaf_pre) _)
  | ((with_reducible show hasDictIn _ _ = true); exact ClsF.dict (by kaf_pre))
  | ((with_reducible show findIn _ _ _ = _); kat_tups)
  | ((with_reducible show isFn _ _ = true); exact (PF.fn _ (by decide)).1)
  | ((with_reducible show keepIn _ _ = true); first | exact (PF.fn _ (by decide)).2.1 | exact PF.kc_Text | exact PF.kc_S)
  | ((with_reducible show fnIn _ _ = true); exact (PF.fn _ (by decide)).2.2)
  | ((with_reducible show noGet _ _ = true); rfl)
  | ((with_reducible show Option.all _ _ = true); rfl)
  | ((with_reducible show Take _ _ _); kct_strs)
  | ((with_reducible show (_ : Nat) ≤ _); kas_types)
  | ((with_reducible show Upd _ _ _ _); kbo_bools)
  | ((with_reducible show GOk _ _); assumption)
  | ((with_reducible show (_ : Str) ∈ _); kba_ints)
  | ((with_reducible show nsIn _ _ _ = _); kat_tups))
local macro_rules | `(tactic| kqd_all) => `(tactic| all_goals (try kqd_sub))
-- keq_hits: one step of the walk
local macro_rules | `(tactic| keq_hits) => `(tactic| first
  | ((with_reducible show EXS _ _ _ _ _ (_ :: _) _); refine' EXS_cons ?h)
  | ((with_reducible show EXS _ _ _ _ _ [] _); refine' EXS_nil ?h)
  | ((with_reducible show EX _ _ _ _ _ (.Assign _ _ _) _); refine' EX_assign ?h)
  | ((with_reducible show EX _ _ _ _ _ (.Return (some _) _) _); refine' EX_return ?h)
  | ((with_reducible show EX _ _ _ _ _ (.Expr _ _) _); refine' EX_expr ?h)
  | ((with_reducible show EX _ _ _ _ _ (.Assert _ _ _) _); refine' EX_assert ?h)
  | ((with_reducible show EX _ _ _ _ _ (.Break _) _); refine' EX_break ?h)
  | ((with_reducible show EX _ _ _ _ _ (.AugAssign (.Name _ _) _ _ _) _); refine' EX_aug_name ?hx ?h; (case hx => kba_ints))
  | ((with_reducible show EX _ _ _ _ _ (.AugAssign (.Attribute _ _ _) _ _ _) _); refine' EX_aug_attr ?h)
  | ((with_reducible show EX _ _ _ _ _ (.AugAssign (.Subscript _ _ _) _ _ _) _); refine' EX_aug_sub ?h)
  | ((with_reducible show EV _ _ _ _ _ _ _); refine' PE.ev ?h1 ?h2; (case h1 => kcf_all))
  | ((with_reducible show EV _ _ _ _ _ (.Call (.Attribute _ (Str.ofString "append") _) _ _ _) _); refine' EV_append ?h1 ?h2 ?h3 ?h4 ?h5 ?q; (case h1 => kcf_all); (case h2 => kcf_all); (case h3 => kba_ints); (case h4 => kbo_bools); (case h5 => kas_types))
  | ((with_reducible show EV _ _ _ _ _ (.Call (.Attribute _ (Str.ofString "replace") _) [.Constant (.str _) _ _, .Constant (.str (Str.ofString "\n")) _ _] _ _) _); refine' EV_replace ?h1 ?h2 ?h3 ?h4 ?h5 ?h6 ?q; (case h1 => kcf_all); (case h2 => kcf_m); (case h3 => kcf_m); (case h4 => decide); (case h6 => first | exact replace_two _ | exact replace_cr _); (case h5 => kas_types))
  | ((with_reducible show EV _ _ _ _ _ (.Tuple _ _ _) _); refine' EV_tuple ?h)
  | ((with_reducible show EV _ _ _ _ _ (.List _ _) _); refine' EV_list ?h)
  | ((with_reducible show EVs _ _ _ _ _ (_ :: _) _); refine' EVs_cons ?h)
  | ((with_reducible show EVs _ _ _ _ _ [] _); refine' EVs_nil ?h)
  | ((with_reducible show AS _ _ _ _ _ (.Tuple _ _ _) _ _); refine' AS_tuple ?h1 ?h2 ?h3 ?h4; (case h1 => kba_ints); (case h3 => intro _; rfl); (case h4 => intro _; rfl))
  | ((with_reducible show ASs _ _ _ _ _ (_ :: _) _ _); refine' ASs_cons ?h)
  | ((with_reducible show ASs _ _ _ _ _ [] _ _); refine' ASs_nil ?h)
  | ((with_reducible show TV _ _ _ _ _ _ _); refine' PT.tv ?h1 ?h2; (case h1 => kd_in))
  | ((with_reducible show AS _ _ _ _ _ (.Name _ _) _ _); refine' AS_name ?h1 ?h2; (case h1 => kbo_bools))
  | ((with_reducible show AS _ _ _ _ _ (.Attribute _ _ _) _ _); refine' AS_attr ?h)
  | ((with_reducible show AS _ _ _ _ _ (.Subscript _ _ _) _ _); refine' AS_sub ?h)
  | ((with_reducible show Op2 _ _ _ _ (fun a b => setAttr a (Str.ofString "_defaultChunkSize") b) _ _ _ _); refine' A_set ?h1 ?h2 ?h3 ?h4 ?h5 ?h6 ?h7 PF.t_dcs ?h9 ?q; (case h1 => kba_ints); (case h2 => kba_ints); (case h3 => kbo_bools); (case h4 => kbo_bools); (case h5 => kas_types); (case h6 => exact ClsF.sets (by kaf_pre)); (case h7 => exact ClsF.over (by kaf_pre)); (case h9 => exact ClsF.dict (by kaf_pre)))
  | ((with_reducible show Op2 _ _ _ _ (fun a b => setAttr a _ b) _ _ _ _); refine' A_set ?h1 ?h2 ?h3 ?h4 ?h5 ?h6 ?h7 (taker_none ?h8) ?h9 ?q; (case h1 => kba_ints); (case h2 => kba_ints); (case h3 => kbo_bools); (case h4 => kbo_bools); (case h5 => kas_types); (case h6 => exact ClsF.sets (by kaf_pre)); (case h7 => exact ClsF.over (by kaf_pre)); (case h9 => exact ClsF.dict (by kaf_pre)); (case h8 => kat_tups))
  | ((with_reducible show (∃ _, Upd _ _ _ _ ∧ _)); refine' ⟨?mm, ?u, ?h⟩; (case u => kbo_bools))
  | ((with_reducible show Op1 _ _ _ _ _ _ _ _); refine' Op1.is ?h1 ?h2; (case h1 => kcj_in))
  | ((with_reducible show Op2 _ _ _ _ _ _ _ _ _); refine' Op2.is ?h1 ?h2; (case h1 => kcj_in))
  | ((with_reducible show Then _ _ _ _ _ Flow.next _ _); refine' Then_next ?h)
  | ((with_reducible show Then _ _ _ _ _ (Flow.ret _) _ _); refine' Then_ret ?h)
  | ((with_reducible show Then _ _ _ _ _ Flow.brk _ _); refine' Then_brk ?h)
  | ((with_reducible show Turn _ _ Flow.brk _ _); refine' Turn_brk ?h)
  | ((with_reducible show Turn _ _ Flow.next _ _); refine' Turn_next ?h)
  | ((with_reducible show Turn _ _ (Flow.ret _) _ _); refine' Turn_ret ?h))
local macro_rules | `(tactic| keq_rows) => `(tactic| first | (keq_hits; keq_rows) | skip)
-- kpf_c: a pure test's branching
local macro_rules | `(tactic| kpf_c) => `(tactic| (refine' EX_if ?h; (try (refine' PT.tv ?h1 ?h2; (case h1 => kd_in)))))
theorem read_spec {c : Cx} (hK : c.K = heapW c.w.params) [pf : PF c] {A : Around} {ds dd : Addr} {src : List Nat} {place size : Nat} (hz : src.length ≤ 1000) (hp : place ≤ src.length) (hs : size ≤ 1000) :
    CodeV c A 2 [(ds, .inst 38 dd), (dd, .obj [("text", some (.str ⟨src.toArray⟩ 0)), ("place", some (.int place 0)), ("read", none)])] (.ref 35) [.ref ds, .int size 0]
      (fun v cs' => v = .str ⟨((src.drop place).take size).toArray⟩ 0 ∧
        cs' = [(ds, .inst 38 dd), (dd, .obj [("text", some (.str ⟨src.toArray⟩ 0)), ("place", some (.int (min (place + size) src.length : Nat) 0)), ("read", none)])]) := by
  refine K_fn (k := 1) (by rw [hK]; k_is) (by rw [hK]; k_is) ["self", "size"] ["part"] ["len"] [] (fun s vs _ h => by refine bnd2 h fun a b => ?_; exact .of_eq rfl) rfl (by decide) (by decide) (by decide) (by decide) rfl rfl rfl (by simp) ?_
  intro i hg
  conv => arg 6; whnf
  simp only [locals0, List.zip_cons_cons, List.zip_nil_right, List.map_cons, List.map_nil, List.append_nil, List.cons_append, List.nil_append]
  keq_rows
  have e : sl src (some (place : Int)) (some ((place : Int) + size)) = (src.drop place).take size := by
    have := sl_nn src place (place + size)
    rw [show ((place + size : Nat) : Int) = (place : Int) + size by omega] at this
    rw [this]; congr 1; omega
  rw [e]
  refine ⟨rfl, ?_⟩
  have e2 : (place : Int) + ((src.drop place).take size).length = (min (place + size) src.length : Nat) := by
    simp only [List.length_take, List.length_drop]; omega
  rw [e2]

/-- a faulty sign -/
def faultyI (n : Int) : Bool := (decide (1 ≤ n) && decide (n ≤ 8)) || ((n == 11) || ((decide (14 ≤ n) && decide (n ≤ 31)) || ((decide (127 ≤ n) && decide (n ≤ 159)) || ((decide (64976 ≤ n) && decide (n ≤ 65007)) || ([65534, 65535].any (· == n.fmod 65536) || (decide (55296 ≤ n) && decide (n ≤ 57343)))))))
def faulty (n : Nat) : Bool := faultyI n
/- ## the stream -/
structure SA where
  st : Addr
  sd : Addr
  ds : Addr
  dd : Addr
  er : Addr
  bm : Addr
structure SS where
  src : List Nat
  place : Nat
  chunk : List Nat
  off : Nat
  errs : Nat
  pl : Nat
  pc : Nat
  buf : List Nat
  dcs : Nat
def bufV : List Nat → Value
  | [] => .none
  | l => .str ⟨l.toArray⟩ 0
/-- the stream's fields, whatever they hold -/
def fldG (rce nl ds ch cz co er pl pc bf dc : Option Value) : Fields := [("reportCharacterErrors", rce), ("newLines", nl), ("dataStream", ds), ("chunk", ch), ("chunkSize", cz), ("chunkOffset", co),
  ("errors", er), ("prevNumLines", pl), ("prevNumCols", pc), ("_bufferedCharacter", bf), ("_defaultChunkSize", dc),
  ("reset", none), ("openStream", none), ("_position", none), ("position", none), ("char", none), ("readChunk", none), ("characterErrorsUCS4", none), ("charsUntil", none), ("unget", none)]
def fldS (a : SA) (z : SS) (nl : Addr) : Fields := fldG (some (.ref a.bm)) (some (.ref nl)) (some (.ref a.ds)) (some (.str ⟨z.chunk.toArray⟩ 0)) (some (.int z.chunk.length 0)) (some (.int z.off 0))
  (some (.ref a.er)) (some (.int z.pl 0)) (some (.int z.pc 0)) (some (bufV z.buf)) (some (.int z.dcs 0))
def fldT (z : SS) : Fields := [("text", some (.str ⟨z.src.toArray⟩ 0)), ("place", some (.int z.place 0)), ("read", none)]
/-- the stream's chunks; the first and second alone are what a position needs -/
def stmO (a : SA) (z : SS) (nl : Addr) : List Chunk := [(a.st, .inst 131 a.sd), (a.sd, .obj (fldS a z nl))]
def stm (a : SA) (z : SS) (nl : Addr) : List Chunk := [(a.st, .inst 131 a.sd), (a.sd, .obj (fldS a z nl)), (a.ds, .inst 38 a.dd), (a.dd, .obj (fldT z)), (a.er, .list (List.replicate z.errs (strV errT))), (a.bm, .bm 113 a.st)]

theorem pos__spec {c : Cx} (hK : c.K = heapW c.w.params) [pf : PF c] {A : Around} {a : SA} {z : SS} {nl : Addr} {n : Nat} (hz : z.chunk.length ≤ 100000) (hn : n ≤ z.chunk.length) :
    CodeV c A 2 (stmO a z nl) (.ref 84) [.ref a.st, .int n 0]
      (fun v cs' => ∃ t, v = .ref t ∧ cs' = (t, .tup [.int (z.pl + (z.chunk.take n).count 10 : Nat) 0, .int (colOf (z.chunk.take n) z.pc : Nat) 0]) :: stmO a z nl) := by
  simp only [stmO, fldS, fldG]
  refine K_fn (k := 1) (by rw [hK]; k_is) (by rw [hK]; k_is) ["self", "offset"] ["chunk", "nLines", "positionLine", "lastLinePos", "positionColumn"] [] [] (fun s vs _ h => by refine bnd2 h fun a b => ?_; exact .of_eq rfl) rfl (by decide) (by decide) (by decide) (by decide) rfl rfl rfl (by simp) ?_
  intro i hg
  conv => arg 6; whnf
  simp only [locals0, List.zip_cons_cons, List.zip_nil_right, List.map_cons, List.map_nil, List.append_nil, List.cons_append, List.nil_append]
  keq_rows
  kpf_c
  refine ⟨fun e => ?_, fun e => ?_⟩
  · keq_rows
    refine ⟨by simp, fun t => ?_⟩
    refine ⟨t, rfl, ?_⟩
    have e' : lastI 10 (z.chunk.take n) = -1 := by simpa using e
    have h10 : 10 ∉ z.chunk.take n := fun h => (lastI_yes h).1 e'
    have e3 : (colOf (z.chunk.take n) z.pc : Int) = (z.pc : Int) + n := by
      unfold colOf; rw [if_neg h10, List.length_take]; omega
    rw [e3]; rfl
  · keq_rows
    refine ⟨by simp, fun t => ?_⟩
    refine ⟨t, rfl, ?_⟩
    have e' : lastI 10 (z.chunk.take n) ≠ -1 := by simpa using e
    have h10 : 10 ∈ z.chunk.take n := Classical.byContradiction fun h => e' (lastI_no h)
    have e3 : (colOf (z.chunk.take n) z.pc : Int) = (n : Int) - (lastI 10 (z.chunk.take n) + 1) := by
      unfold colOf; rw [if_pos h10, ← (lastI_yes h10).2, List.length_take]; omega
    rw [e3]; rfl

theorem position_spec {c : Cx} (hK : c.K = heapW c.w.params) [pf : PF c] {A : Around} {a : SA} {z : SS} {nl : Addr} (hz : z.chunk.length ≤ 100000) (hn : z.off ≤ z.chunk.length) :
    CodeV c A 3 (stmO a z nl) (.ref 91) [.ref a.st]
      (fun v cs' => ∃ t, v = .ref t ∧ cs' = (t, .tup [.int (z.pl + (z.chunk.take z.off).count 10 + 1 : Nat) 0, .int (colOf (z.chunk.take z.off) z.pc : Nat) 0]) :: stmO a z nl) := by
  have hp := fun A => pos__spec hK (A := A) (a := a) (z := z) (nl := nl) hz hn
  simp only [stmO, fldS, fldG] at hp ⊢
  refine K_fn (k := 2) (by rw [hK]; k_is) (by rw [hK]; k_is) ["self"] ["line", "col"] [] [] (fun s vs _ h => by refine bnd1 h fun a => ?_; exact .of_eq rfl) rfl (by decide) (by decide) (by decide) (by decide) rfl rfl rfl (by simp) ?_
  intro i hg
  conv => arg 6; whnf
  simp only [locals0, List.zip_cons_cons, List.zip_nil_right, List.map_cons, List.map_nil, List.append_nil, List.cons_append, List.nil_append]
  keq_rows
  refine' EV_instM ?_ ?_ ?_ ?_ ?_ ?_ ?_ ?_ ?_ (CodeV.by (hp i.A) ?_ ?_ ?q)
  kqd_all
  rintro v F' ⟨t, rfl, rfl⟩
  simp only [List.cons_append, List.nil_append]
  refine AS_tupleD .head ?_
  keq_rows
  exact ⟨by simp, fun t2 => ⟨t2, rfl, rfl⟩⟩

theorem reset_spec {c : Cx} (hK : c.K = heapW c.w.params) [pf : PF c] {A : Around} {st sd : Addr} {rce nl ds ch cz co er pl pc bf dc : Option Value} :
    CodeV c A 2 [(st, .inst 131 sd), (sd, .obj (fldG rce nl ds ch cz co er pl pc bf dc))] (.ref 70) [.ref st]
      (fun v cs' => ∃ e, v = .none ∧ cs' = [(e, .list []), (st, .inst 131 sd), (sd, .obj (fldG rce nl ds (some (.str ⟨([] : List Nat).toArray⟩ 0)) (some (.int 0 0)) (some (.int 0 0)) (some (.ref e)) (some (.int 0 0)) (some (.int 0 0)) (some .none) dc))]) := by
  simp only [fldG]
  refine K_fn (k := 1) (by rw [hK]; k_is) (by rw [hK]; k_is) ["self"] [] [] [] (fun s vs _ h => by refine bnd1 h fun a => ?_; exact .of_eq rfl) rfl (by decide) (by decide) (by decide) (by decide) rfl rfl rfl (by simp) ?_
  intro i hg
  conv => arg 6; whnf
  simp only [locals0, List.zip_cons_cons, List.zip_nil_right, List.map_cons, List.map_nil, List.append_nil, List.cons_append, List.nil_append]
  keq_rows
  refine ⟨by simp, fun e => ?_⟩
  keq_rows
  exact ⟨e, rfl, rfl⟩

theorem char_spec1 {c : Cx} (hK : c.K = heapW c.w.params) [pf : PF c] {A : Around} {a : SA} {z : SS} {nl : Addr} {x : Nat} (hz : z.chunk.length ≤ 100000) (hx : z.chunk[z.off]? = some x) :
    CodeV c A 2 (stmO a z nl) (.ref 98) [.ref a.st] (fun v cs' => v = strV [x] ∧ cs' = stmO a { z with off := z.off + 1 } nl) := by
  have hlt := (List.getElem?_eq_some_iff.mp hx).1
  simp only [stmO, fldS, fldG]
  refine K_fn (k := 1) (by rw [hK]; k_is) (by rw [hK]; k_is) ["self"] ["chunkOffset", "char"] ["EOF"] [] (fun s vs _ h => by refine bnd1 h fun a => ?_; exact .of_eq rfl) rfl (by decide) (by decide) (by decide) (by decide) rfl rfl rfl (by simp) ?_
  intro i hg
  conv => arg 6; whnf
  simp only [locals0, List.zip_cons_cons, List.zip_nil_right, List.map_cons, List.map_nil, List.append_nil, List.cons_append, List.nil_append]
  keq_rows
  kpf_c
  refine ⟨fun e => ?_, fun e => ?_⟩
  · simp at e; omega
  keq_rows
  exact ⟨rfl, rfl⟩

theorem invalid_spec {c : Cx} (hK : c.K = heapW c.w.params) [pf : PF c] {A : Around} {n : Nat} {cs : List Chunk} (hne : cs ≠ []) :
    CodeV c A 2 cs (.ref 49) [.int n 0] (fun v cs' => v = .bool (faulty n) ∧ cs' = cs) := by
  refine K_fn (k := 1) (by rw [hK]; k_is) (by rw [hK]; k_is) ["codepoint"] [] [] [] (fun s vs _ h => by refine bnd1 h fun a => ?_; exact .of_eq rfl) rfl (by decide) (by decide) (by decide) (by decide) rfl rfl rfl hne ?_
  intro i hg
  conv => arg 6; whnf
  simp only [locals0, List.zip_cons_cons, List.zip_nil_right, List.map_cons, List.map_nil, List.append_nil, List.cons_append, List.nil_append]
  keq_hits
  keq_hits
  refine' PE.ev ?P ?R
  case P =>
    refine' PE_or ?_ (fun _ => PE_or ?_ (fun _ => PE_or ?_ (fun _ => PE_or ?_ (fun _ => PE_or ?_ (fun _ => PE_or ?S (fun _ => PE_one ?_))))))
    case S =>
      refine' PE_inT [65534, 65535] ?_ ?_ (by decide)
      kqd_all
    kqd_all
  exact ⟨rfl, rfl⟩
theorem errs_spec {c : Cx} (hK : c.K = heapW c.w.params) [pf : PF c] {A : Around} {st sd er : Addr} {n : Nat} {data : List Nat} {rce nl ds ch cz co pl pc bf dc : Option Value} (hz : data.length ≤ 100000) (hn : n ≤ 100000) :
    CodeV c A 3 [(st, .inst 131 sd), (sd, .obj (fldG rce nl ds ch cz co (some (.ref er)) pl pc bf dc)), (er, .list (List.replicate n (strV errT)))] (.ref 113) [.ref st, strV data]
      (fun v cs' => v = .none ∧ cs' = [(st, .inst 131 sd), (sd, .obj (fldG rce nl ds ch cz co (some (.ref er)) pl pc bf dc)), (er, .list (List.replicate (n + data.countP faulty) (strV errT)))]) := by
  simp only [fldG]
  refine K_fn (k := 2) (by rw [hK]; k_is) (by rw [hK]; k_is) ["self", "data"] ["c"] ["_is_invalid", "ord"] [] (fun s vs _ h => by refine bnd2 h fun a b => ?_; exact .of_eq rfl) rfl (by decide) (by decide) (by decide) (by decide) rfl rfl rfl (by simp) ?_
  intro i hg
  conv => arg 6; whnf
  simp only [locals0, List.zip_cons_cons, List.zip_nil_right, List.map_cons, List.map_nil, List.append_nil, List.cons_append, List.nil_append]
  keq_hits
  refine EX_for_str (l := data) (fun j m1 cs1 => ∃ o, m1 = ([("self", some (.ref st)), ("data", some (strV data)), ("c", o)] : Fields) ∧ cs1 = [(st, .inst 131 sd), (sd, .obj (fldG rce nl ds ch cz co (some (.ref er)) pl pc bf dc)), (er, .list (List.replicate (n + (data.take j).countP faulty) (strV errT)))]) ?_ (by simp) ⟨_, rfl, rfl⟩ ?_ ?_
  · kcf_all
  · rintro j x m1 cs1 hx z ⟨o, rfl, rfl⟩
    have hc : n + (data.take j).countP faulty ≤ 200000 := by
      have h1 : (data.take j).countP faulty ≤ (data.take j).length := List.countP_le_length
      rw [List.length_take] at h1
      omega
    simp only [fldG]
    keq_rows
    refine' EX_if (TV_plain (PE.ev (PE_callK (vs := [.int x 0]) ?P PF.kinv ?a (invalid_spec hK (by simp))) ?_))
    case P => kcf_all
    case a => kst_facts
    keq_rows
    rw [countP_take faulty data j x hx]
    refine ⟨fun e => ?_, fun e => ?_⟩
    · have e : faulty x = true := e
      keq_rows
      refine ⟨_, rfl, ?_⟩
      rw [if_pos e, ← Nat.add_assoc, List.replicate_succ']
    · have e : faulty x = false := e
      keq_rows
      refine ⟨_, rfl, ?_⟩
      rw [if_neg (by rw [e]; simp), Nat.add_zero]
  · rintro m1 cs1 z ⟨o, rfl, rfl⟩
    rw [List.take_length]
    simp only [fldG]
    keq_rows
    exact ⟨rfl, rfl⟩
def holds (d : List Nat) : Bool := decide (1 < d.length) && (let x := d.getLastD 0; x == 13 || (55296 ≤ x && x ≤ 56319))
def cutD (d : List Nat) : List Nat := if holds d then d.dropLast else d
def heldD (d : List Nat) : List Nat := if holds d then [d.getLastD 0] else []
def norm (d : List Nat) : List Nat := (rep2 d).map crf
/-- the next piece -/
def rdc (z : SS) : Bool × SS :=
  let part := (z.src.drop z.place).take z.dcs
  let d := z.buf ++ part
  let z1 : SS := { z with place := min (z.place + z.dcs) z.src.length, pl := z.pl + z.chunk.count 10, pc := colOf z.chunk z.pc, off := 0, chunk := [], buf := [] }
  if d = [] then (false, z1) else (true, { z1 with buf := heldD d, errs := z.errs + (cutD d).countP faulty, chunk := norm (cutD d) })
theorem rep2_le : ∀ l : List Nat, (rep2 l).length ≤ l.length
  | [] => Nat.le_refl _
  | [a] => Nat.le_refl _
  | a :: b :: r => by
    rw [rep2_cc]
    have h1 := rep2_le r
    have h2 := rep2_le (b :: r)
    split <;> simp at * <;> omega

theorem cutD_le (d : List Nat) : (cutD d).length ≤ d.length := by unfold cutD; split <;> simp
theorem readChunk_spec {c : Cx} (hK : c.K = heapW c.w.params) [pf : PF c] {A : Around} {a : SA} {z : SS} {nl : Addr} (hz : z.chunk.length ≤ 1000) (hs : z.src.length ≤ 1000) (hp : z.place ≤ z.src.length) (hd : z.dcs ≤ 1000) (he : z.errs ≤ 50000) (hb : z.buf.length ≤ 1) :
    CodeV c A 4 (stm a z nl) (.ref 106) [.ref a.st] (fun v cs' => v = .bool (rdc z).1 ∧ cs' = stm a (rdc z).2 nl) := by
  have h1 := fun A => pos__spec hK (A := A) (a := a) (z := z) (nl := nl) (by omega) (Nat.le_refl _)
  have h2 := fun A => read_spec hK (A := A) (ds := a.ds) (dd := a.dd) hs hp hd
  obtain ⟨a, sd, ds, dd, er, bm⟩ := a
  obtain ⟨src, place, chunk, off, errs, pl, pc, buf, dcs⟩ := z
  simp only at hz hs hp hd he hb h1 h2
  simp only [List.take_length] at h1
  simp only [stm, stmO, fldS, fldG, fldT] at h1 h2 ⊢
  refine CodeV.perm ?_
  refine K_fn (k := 3) (by rw [hK]; k_is) (by rw [hK]; k_is) ["self", "chunkSize"] ["data", "lastv"] ["len", "ord"] [.none] (fun s vs X h => by refine bnd1 h fun a => ?_; exact binds_K X rfl (by rw [hK]; k_is) rfl rfl rfl) rfl (by decide) (by decide) (by decide) (by decide) rfl rfl rfl (by simp) ?_
  intro i hg
  conv => arg 6; whnf
  simp only [locals0, List.zip_cons_cons, List.zip_nil_right, List.map_cons, List.map_nil, List.append_nil, List.cons_append, List.nil_append, nv]
  keq_rows
  kpf_c
  refine ⟨fun _ => ?_, fun e => by simp at e⟩
  keq_rows
  refine' EV_instM ?_ ?_ ?_ ?_ ?_ ?_ ?_ ?_ ?_ (CodeV.by (h1 i.A) ?_ ?_ ?q)
  kqd_all
  rintro v F' ⟨t, rfl, rfl⟩
  simp only [List.cons_append, List.nil_append]
  refine AS_tupleD .head ?_
  keq_rows
  refine' EV_instM ?_ ?_ ?_ ?_ ?_ ?_ ?_ ?_ ?_ (CodeV.by (h2 i.A) ?_ ?_ ?q2)
  kqd_all
  rintro v F' ⟨rfl, rfl⟩
  simp only [List.cons_append, List.nil_append]
  keq_rows
  clear h1 h2
  have hpl : ((src.drop place).take dcs).length ≤ 1000 := by simp only [List.length_take, List.length_drop]; omega
  obtain ⟨r, hr⟩ : ∃ r, r = rdc ⟨src, place, chunk, off, errs, pl, pc, buf, dcs⟩ := ⟨_, rfl⟩
  rw [← hr]
  unfold rdc at hr
  simp only at hr
  generalize hpart : (src.drop place).take dcs = part at hr hpl ⊢
  by_cases hemp : buf ++ part = []
  · rw [if_pos hemp] at hr
    obtain ⟨rfl, rfl⟩ := List.append_eq_nil_iff.mp hemp
    subst hr
    simp only [bufV]
    kpf_c
    refine ⟨fun e => by simp at e, fun _ => ?_⟩
    keq_rows
    kpf_c
    refine ⟨fun _ => ?_, fun e => by simp at e⟩
    keq_rows
    (refine' ⟨[(a, ?e11), (sd, ?e12), (ds, ?e13), (dd, ?e14), (er, ?e15), (bm, ?e16)], ?t1, ?r11, ?r12⟩; (case t1 => kct_strs); (case r11 => rfl); (case r12 => rfl))
  · rw [if_neg hemp] at hr
    subst hr
    have hbuf : bufV [] = Value.none := rfl
    refine' EX_thenR (m₁ := [("self", some (.ref a)), ("chunkSize", some (.int dcs 0)), ("data", some (strV (buf ++ part))), ("lastv", none)]) (cs₁ := [(ds, .inst 38 dd), (dd, .obj (fldT ⟨src, min (place + dcs) src.length, chunk, off, errs, pl, pc, buf, dcs⟩)), (a, .inst 131 sd), (sd, .obj (fldG (some (.ref bm)) (some (.ref nl)) (some (.ref ds)) (some (strV [])) (some (.int 0 0)) (some (.int 0 0)) (some (.ref er)) (some (.int (pl + chunk.count 10 : Nat) 0)) (some (.int (colOf chunk pc : Nat) 0)) (some .none) (some (.int dcs 0)))), (er, .list (List.replicate errs (strV errT))), (bm, .bm 113 a)]) ?X ?Y
    case X =>
      rcases buf with _ | ⟨b, _ | ⟨b2, bt⟩⟩
      · simp only [bufV, List.nil_append] at hemp ⊢
        kpf_c
        refine ⟨fun e => by simp at e, fun _ => ?_⟩
        keq_rows
        kpf_c
        refine ⟨fun e => absurd (by simpa using e) hemp, fun _ => ?_⟩
        keq_rows
        exact ⟨rfl, rfl, rfl⟩
      · simp only [bufV]
        kpf_c
        refine ⟨fun _ => ?_, fun e => by simp at e⟩
        keq_rows
        exact ⟨rfl, rfl, rfl⟩
      · simp at hb
    case Y =>
    simp only [fldT, fldG]
    keq_rows
    have hdl : (buf ++ part).length ≤ 1001 := by rw [List.length_append]; omega
    generalize buf ++ part = d at hemp hdl ⊢
    clear hpart hpl hb
    refine' EX_thenE (fun o => [("self", some (.ref a)), ("chunkSize", some (.int dcs 0)), ("data", some (strV (cutD d))), ("lastv", o)]) (fun _ => [(ds, .inst 38 dd), (dd, .obj (fldT ⟨src, min (place + dcs) src.length, chunk, off, errs, pl, pc, buf, dcs⟩)), (a, .inst 131 sd), (sd, .obj (fldG (some (.ref bm)) (some (.ref nl)) (some (.ref ds)) (some (strV [])) (some (.int 0 0)) (some (.int 0 0)) (some (.ref er)) (some (.int (pl + chunk.count 10 : Nat) 0)) (some (.int (colOf chunk pc : Nat) 0)) (some (bufV (heldD d))) (some (.int dcs 0)))), (er, .list (List.replicate errs (strV errT))), (bm, .bm 113 a)]) ?X2 ?Y2
    case X2 =>
      simp only [fldT, fldG]
      obtain ⟨l, x, rfl⟩ : ∃ l x, d = l ++ [x] := ⟨d.dropLast, d.getLast hemp, (List.dropLast_concat_getLast hemp).symm⟩
      have hlast : (l ++ [x]).getLastD 0 = x := by simp [List.getLastD_eq_getLast?]
      kpf_c
      refine ⟨fun e => ?_, fun e => ?_⟩
      · have e1 : 1 < (l ++ [x]).length := by have := of_decide_eq_true e; omega
        keq_rows
        kpf_c
        refine ⟨fun e2 => ?_, fun e2 => ?_⟩
        · have hh : holds (l ++ [x]) = true := by
            unfold holds
            rw [hlast]
            simp only [Bool.and_eq_true, decide_eq_true_eq, Bool.or_eq_true, beq_iff_eq, Bool.or_false] at e2 ⊢
            omega
          keq_rows
          refine ⟨rfl, some (.int x 0), ?_, ?_⟩
          · rw [sl__m1]; unfold cutD; rw [if_pos hh]
          · unfold heldD; rw [if_pos hh, hlast]; rfl
        · have hh : holds (l ++ [x]) = false := by
            unfold holds
            rw [hlast]
            rw [Bool.eq_false_iff] at e2 ⊢
            intro q
            apply e2
            simp only [Bool.and_eq_true, decide_eq_true_eq, Bool.or_eq_true, beq_iff_eq, Bool.or_false] at q ⊢
            omega
          keq_rows
          refine ⟨rfl, some (.int x 0), ?_, ?_⟩
          · unfold cutD; rw [if_neg (by rw [hh]; simp)]
          · unfold heldD; rw [if_neg (by rw [hh]; simp)]; rfl
      · have hh : holds (l ++ [x]) = false := by
          unfold holds
          have e1 : ¬ 1 < (l ++ [x]).length := by have := of_decide_eq_false e; omega
          rw [decide_eq_false e1]; rfl
        keq_rows
        refine ⟨rfl, none, ?_, ?_⟩
        · unfold cutD; rw [if_neg (by rw [hh]; simp)]
        · unfold heldD; rw [if_neg (by rw [hh]; simp)]; rfl
    case Y2 =>
    intro o
    have h3 := fun A => errs_spec hK (A := A) (st := a) (sd := sd) (er := er) (n := errs) (data := cutD d) (rce := some (.ref bm)) (nl := some (.ref nl)) (ds := some (.ref ds)) (ch := some (strV [])) (cz := some (.int 0 0)) (co := some (.int 0 0)) (pl := some (.int (pl + chunk.count 10 : Nat) 0)) (pc := some (.int (colOf chunk pc : Nat) 0)) (bf := some (bufV (heldD d))) (dc := some (.int dcs 0)) (Nat.le_trans (cutD_le d) (by omega)) (by omega)
    simp only [fldT, fldG] at h3 ⊢
    keq_rows
    kpf_c
    refine ⟨fun _ => ?_, fun e => by simp at e⟩
    keq_rows
    refine' EV_ownM ?_ ?_ ?_ ?_ ?_ ?_ ?_ ?_ ?_ ?_ ?_ ?_ (CodeV.by (h3 i.A) ?_ ?_ ?q3)
    kqd_all
    rintro v F' ⟨rfl, rfl⟩
    simp only [List.cons_append, List.nil_append]
    have hcl : (cutD d).length ≤ 1001 := Nat.le_trans (cutD_le d) hdl
    have hrl : (rep2 (cutD d)).length ≤ 1001 := Nat.le_trans (rep2_le _) hcl
    keq_rows
    (refine' ⟨[(a, ?e21), (sd, ?e22), (ds, ?e23), (dd, ?e24), (er, ?e25), (bm, ?e26)], ?t2, ?r21, ?r22⟩; (case t2 => kct_strs); (case r21 => rfl); (case r22 => rfl))
theorem unget_none {c : Cx} (hK : c.K = heapW c.w.params) [pf : PF c] {A : Around} {a : SA} {z : SS} {nl : Addr} :
    CodeV c A 2 (stmO a z nl) (.ref 128) [.ref a.st, .none] (fun v cs' => v = .none ∧ cs' = stmO a z nl) := by
  simp only [stmO, fldS, fldG]
  refine K_fn (k := 1) (by rw [hK]; k_is) (by rw [hK]; k_is) ["self", "char"] [] ["EOF"] [] (fun s vs _ h => by refine bnd2 h fun a b => ?_; exact .of_eq rfl) rfl (by decide) (by decide) (by decide) (by decide) rfl rfl rfl (by simp) ?_
  intro i hg
  conv => arg 6; whnf
  simp only [locals0, List.zip_cons_cons, List.zip_nil_right, List.map_cons, List.map_nil, List.append_nil, List.cons_append, List.nil_append]
  keq_rows
  kpf_c
  refine ⟨fun e => by simp at e, fun _ => ?_⟩
  keq_rows
  exact ⟨rfl, rfl⟩
theorem unget_back {c : Cx} (hK : c.K = heapW c.w.params) [pf : PF c] {A : Around} {a : SA} {z : SS} {nl : Addr} {x n : Nat} (hz : z.chunk.length ≤ 100000) (h0 : z.off = n + 1) (hx : z.chunk[n]? = some x) :
    CodeV c A 2 (stmO a z nl) (.ref 128) [.ref a.st, strV [x]] (fun v cs' => v = .none ∧ cs' = stmO a { z with off := n } nl) := by
  simp only [stmO, fldS, fldG, h0]
  have e1 : ((n + 1 : Nat) : Int) - 1 = n := by omega
  refine K_fn (k := 1) (by rw [hK]; k_is) (by rw [hK]; k_is) ["self", "char"] [] ["EOF"] [] (fun s vs _ h => by refine bnd2 h fun a b => ?_; exact .of_eq rfl) rfl (by decide) (by decide) (by decide) (by decide) rfl rfl rfl (by simp) ?_
  intro i hg
  conv => arg 6; whnf
  simp only [locals0, List.zip_cons_cons, List.zip_nil_right, List.map_cons, List.map_nil, List.append_nil, List.cons_append, List.nil_append]
  keq_rows
  kpf_c
  refine ⟨fun _ => ?_, fun e => by simp at e⟩
  keq_rows
  kpf_c
  refine ⟨fun e => by simp at e; omega, fun _ => ?_⟩
  keq_rows
  rw [e1]
  keq_rows
  refine ⟨by simp, ?_⟩
  keq_rows
  exact ⟨rfl, rfl⟩

/-- char -/
def optV : Option Nat → Value
  | none => .none
  | some x => strV [x]
def chr1 (z : SS) : Option Nat × SS :=
  match z.chunk[z.off]? with
  | some x => (some x, { z with off := z.off + 1 })
  | none => if (rdc z).1 = true then ((rdc z).2.chunk[0]?, { (rdc z).2 with off := 1 }) else (none, (rdc z).2)
theorem rep2_ne {l : List Nat} (h : l ≠ []) : rep2 l ≠ [] := by
  match l with
  | [a] => simp [rep2]
  | a :: b :: r => rw [rep2_cc]; split <;> simp
theorem cutD_ne {d : List Nat} (h : d ≠ []) : cutD d ≠ [] := by
  unfold cutD
  split
  · rename_i q
    unfold holds at q
    simp only [Bool.and_eq_true, decide_eq_true_eq] at q
    intro e
    have := congrArg List.length e
    simp at this
    omega
  · exact h
theorem rdc_true {z : SS} (h : (rdc z).1 = true) : (rdc z).2.chunk ≠ [] ∧ (rdc z).2.off = 0 := by
  unfold rdc at h ⊢
  simp only at h ⊢
  split at h
  · simp at h
  · rename_i q
    rw [if_neg q]
    refine ⟨?_, rfl⟩
    show norm _ ≠ []
    unfold norm
    simp only [ne_eq, List.map_eq_nil_iff]
    exact rep2_ne (cutD_ne q)
structure Good (z : SS) : Prop where
  src : z.src.length ≤ 900
  place : z.place ≤ z.src.length
  dcs : z.dcs ≤ 900
  errs : z.errs + z.buf.length ≤ z.place
  buf : z.buf.length ≤ 1
  chunk : z.chunk.length ≤ 1000
  off : z.off ≤ z.chunk.length
theorem norm_le (d : List Nat) : (norm d).length ≤ d.length := by unfold norm; rw [List.length_map]; exact rep2_le d
theorem cut_held (d : List Nat) : (cutD d).length + (heldD d).length = d.length := by
  unfold cutD heldD
  cases h : holds d
  · simp
  · unfold holds at h
    simp only [Bool.and_eq_true, decide_eq_true_eq] at h
    simp
    omega
theorem rdc_good {z : SS} (g : Good z) : Good (rdc z).2 := by
  obtain ⟨h1, h2, h3, h4, h5, h6, h7⟩ := g
  have hpl : ((z.src.drop z.place).take z.dcs).length = min z.dcs (z.src.length - z.place) := by simp
  unfold rdc
  simp only
  split
  · exact ⟨h1, Nat.min_le_right _ _, h3, by show z.errs + 0 ≤ min _ _; omega, by simp, by simp, by simp⟩
  · have e1 := cut_held (z.buf ++ (z.src.drop z.place).take z.dcs)
    have e2 : (z.buf ++ (z.src.drop z.place).take z.dcs).length = z.buf.length + min z.dcs (z.src.length - z.place) := by rw [List.length_append, hpl]
    have e3 := norm_le (cutD (z.buf ++ (z.src.drop z.place).take z.dcs))
    have e4 : (cutD (z.buf ++ (z.src.drop z.place).take z.dcs)).countP faulty ≤ _ := List.countP_le_length
    generalize z.buf ++ (z.src.drop z.place).take z.dcs = d at e1 e2 e3 e4
    have e5 : (heldD d).length ≤ 1 := by unfold heldD; split <;> simp
    refine ⟨h1, Nat.min_le_right _ _, h3, ?_, e5, ?_, Nat.zero_le _⟩
    · show z.errs + (cutD d).countP faulty + (heldD d).length ≤ min (z.place + z.dcs) z.src.length
      omega
    · show (norm (cutD d)).length ≤ 1000
      omega

theorem char_spec {c : Cx} (hK : c.K = heapW c.w.params) [pf : PF c] {A : Around} {a : SA} {z : SS} {nl : Addr} (g : Good z) :
    CodeV c A 5 (stm a z nl) (.ref 98) [.ref a.st] (fun v cs' => v = optV (chr1 z).1 ∧ cs' = stm a (chr1 z).2 nl) := by
  cases hx : z.chunk[z.off]? with
  | some x =>
    have e : chr1 z = (some x, { z with off := z.off + 1 }) := by unfold chr1; rw [hx]
    rw [e]
    refine CodeV.by (char_spec1 hK (nl := nl) (by have := g.chunk; omega) hx) (R₀ := [(a.ds, .inst 38 a.dd), (a.dd, .obj (fldT z)), (a.er, .list (List.replicate z.errs (strV errT))), (a.bm, .bm 113 a.st)]) ?_ (by decide) ?_
    · show List.Perm _ _
      exact List.Perm.refl _
    · rintro v F' ⟨rfl, rfl⟩
      exact ⟨rfl, rfl⟩
  | none =>
    have hle : z.chunk.length ≤ z.off := List.getElem?_eq_none_iff.mp hx
    have e : chr1 z = if (rdc z).1 = true then ((rdc z).2.chunk[0]?, { (rdc z).2 with off := 1 }) else (none, (rdc z).2) := by unfold chr1; rw [hx]
    have h1 := fun A => readChunk_spec hK (A := A) (a := a) (z := z) (nl := nl) g.chunk (by have := g.src; omega) g.place (by have := g.dcs; omega) (by have := g.errs; have := g.place; have := g.src; omega) g.buf
    have h2 := @rdc_true z
    have h5 := (rdc_good g).chunk
    rw [e]
    generalize rdc z = r at h1 h2 h5 ⊢
    obtain ⟨rb, z1⟩ := r
    simp only at h1 h2 h5 ⊢
    obtain ⟨a, sd, ds, dd, er, bm⟩ := a
    simp only [stm, fldS, fldG, fldT] at h1 ⊢
    refine CodeV.perm ?_
    refine K_fn (k := 4) (by rw [hK]; k_is) (by rw [hK]; k_is) ["self"] ["chunkOffset", "char"] ["EOF"] [] (fun s vs _ h => by refine bnd1 h fun a => ?_; exact .of_eq rfl) rfl (by decide) (by decide) (by decide) (by decide) rfl rfl rfl (by simp) ?_
    intro i hg
    conv => arg 6; whnf
    simp only [locals0, List.zip_cons_cons, List.zip_nil_right, List.map_cons, List.map_nil, List.append_nil, List.cons_append, List.nil_append]
    keq_rows
    kpf_c
    refine ⟨fun _ => ?_, fun e => by simp at e; omega⟩
    keq_rows
    refine' EX_if (TV_not (TV_plain (EV_instM0 ?_ ?_ ?_ ?_ ?_ ?_ ?_ ?_ (CodeV.by (h1 i.A) ?_ ?_ ?q1))))
    kqd_all
    rintro v F' ⟨rfl, rfl⟩
    simp only [List.cons_append, List.nil_append]
    keq_rows
    refine ⟨fun e2 => ?_, fun e2 => ?_⟩
    · have e3 : rb = false := by simpa using e2
      subst e3
      keq_rows
      (refine' ⟨[(a, ?e11), (sd, ?e12), (ds, ?e13), (dd, ?e14), (er, ?e15), (bm, ?e16)], ?t1, ?r11, ?r12⟩; (case t1 => kct_strs); (case r11 => rfl); (case r12 => rfl))
    · have e3 : rb = true := by simpa using e2
      subst e3
      obtain ⟨h3, h4⟩ := h2 rfl
      obtain ⟨src', place', chunk', off', errs', pl', pc', buf', dcs'⟩ := z1
      simp only at h3 h4 h5 ⊢
      subst h4
      obtain ⟨x, ct, rfl⟩ := List.exists_cons_of_ne_nil h3
      have hx0 : (x :: ct)[0]? = some x := rfl
      have hct : (x :: ct).length ≤ 1000000 := Nat.le_trans h5 (by decide)
      keq_rows
      (refine' ⟨[(a, ?e21), (sd, ?e22), (ds, ?e23), (dd, ?e24), (er, ?e25), (bm, ?e26)], ?t2, ?r21, ?r22⟩; (case t2 => kct_strs); (case r21 => rfl); (case r22 => rfl))
/-- reading along a row, piece after piece -/
inductive CU (mt : Nat → Bool) : Nat → SS → List Nat → SS → Prop
  | stop {n : Nat} {z : SS} {g r : List Nat} {x : Nat} (h : z.chunk.drop z.off = g ++ x :: r) (hg : ∀ y ∈ g, mt y = true) (hx : mt x = false) : CU mt n z g { z with off := z.off + g.length }
  | eof {n : Nat} {z : SS} (hg : ∀ y ∈ z.chunk.drop z.off, mt y = true) (h : (rdc z).1 = false) : CU mt n z (z.chunk.drop z.off) (rdc z).2
  | more {n : Nat} {z z2 : SS} {t : List Nat} (hg : ∀ y ∈ z.chunk.drop z.off, mt y = true) (h : (rdc z).1 = true) (c : CU mt n (rdc z).2 t z2) : CU mt (n + 1) z (z.chunk.drop z.off ++ t) z2
theorem charsUntil_any {c : Cx} (hK : c.K = heapW c.w.params) [pf : PF c] {A : Around} {a : SA} {z z2 : SS} {nl : Addr} {X : List Chunk} {row : Value} {f : Nat → Bool} {opp : Bool} {n : Nat} {res : List Nat} {args dfl : List Value}
    (hargs : (args = [.ref a.st, row, .bool opp] ∧ dfl = []) ∨ (args = [.ref a.st, row] ∧ opp = false ∧ dfl = [.bool false])) (hrow : Row c X row f) (hrv : nv row = row)
    (g : Good z) (hn : n ≤ 5000) (hres : res.length ≤ 100000) (hcu : CU (fun x => f x == opp) n z res z2) :
    CodeV c A 6 (stm a z nl ++ X) (.ref 121) args (fun v cs' => v = strV res ∧ cs' = stm a z2 nl ++ X) := by
  refine K_fn (k := 5) (by rw [hK]; k_is) (by rw [hK]; k_is) ["self", "characters", "opposite"] ["rv", "end", "r"] [] dfl ?_ ?_ (by decide) (by decide) (by decide) (by decide) rfl rfl rfl (by simp [stm]) ?_
  · rcases hargs with ⟨rfl, rfl⟩ | ⟨rfl, rfl, rfl⟩
    · exact fun s vs X h => by refine bnd3 h fun a b d => ?_; exact binds_K X rfl (by rw [hK]; k_is) rfl rfl rfl
    · exact fun s vs X h => by refine bnd2 h fun a b => ?_; exact binds_K X rfl (by rw [hK]; k_is) rfl rfl rfl
  · rcases hargs with ⟨rfl, rfl⟩ | ⟨rfl, rfl, rfl⟩ <;> rfl
  have ha : args ++ dfl.map nv = [.ref a.st, row, .bool opp] := by rcases hargs with ⟨rfl, rfl⟩ | ⟨rfl, rfl, rfl⟩ <;> rfl
  intro i hg
  rw [ha]
  conv => arg 6; whnf
  simp only [locals0, List.zip_cons_cons, List.zip_nil_right, List.map_cons, List.map_nil, List.append_nil, List.cons_append, List.nil_append]
  keq_rows
  refine ⟨by simp, fun rv => ?_⟩
  keq_rows
  refine' EX_thenE (ι := { ps : List (List Nat) // ps.flatten = res ∧ ps.length ≤ 6000 } × Option Value) (fun o => [("self", some (.ref a.st)), ("characters", some row), ("opposite", some (.bool opp)), ("rv", some (.ref rv)), ("end", o.2), ("r", none)]) (fun o => (rv, .list (o.1.1.map strV)) :: (stm a z2 nl ++ X)) ?X1 ?Y1
  case Y1 =>
    rintro ⟨⟨ps, e1, e2⟩, o⟩
    simp only
    keq_hits
    keq_hits
    refine' EV_join0 ?j1 ?j2 ?j3 ?j4 ?j5 ?j6
    case j1 => kcf_all
    case j2 => kcf_all
    case j3 => kba_ints
    case j4 => rw [e1]; omega
    case j5 => omega
    rw [e1]
    refine AS_name (by kbo_bools) ?_
    refine Then_next ?_
    refine EXS_pick .head ?_
    keq_rows
    exact ⟨rfl, rfl⟩
  case X1 =>
  refine EX_while (n := n) (fun j m1 cs1 => ∃ (ps : List (List Nat)) (z' : SS) (res' : List Nat) (o : Option Value), Good z' ∧ CU (fun x => f x == opp) j z' res' z2 ∧ ps.flatten ++ res' = res ∧ ps.length + j = n ∧
    m1 = ([("self", some (.ref a.st)), ("characters", some row), ("opposite", some (.bool opp)), ("rv", some (.ref rv)), ("end", o), ("r", none)] : Fields) ∧ cs1 = (rv, .list (ps.map strV)) :: (stm a z' nl ++ X)) ⟨[], z, res, none, g, hcu, rfl, by simp, rfl, rfl⟩ ?_
  rintro j m1 cs1 zz ⟨ps, z', res', o, g', hcu', hfl, hlen, rfl, rfl⟩
  keq_hits
  refine ⟨fun _ => ?_, fun e => by simp at e⟩
  have hzc := g'.chunk
  have hzo := g'.off
  have g0 := g'
  simp only [stm, fldS, fldG, fldT, List.cons_append, List.nil_append]
  keq_rows
  have hR : Row c ((rv, .list (ps.map strV)) :: (stm a z' nl ++ X)) row f := Row_perm hrow (Y := (rv, .list (ps.map strV)) :: stm a z' nl) (List.perm_append_comm (l₁ := ((rv, AO.list (ps.map strV)) :: stm a z' nl : List Chunk)) (l₂ := X))
  simp only [stm, fldS, fldG, fldT, List.cons_append, List.nil_append] at hR
  refine' EX_thenE (ι := { e : Nat // z'.off ≤ e ∧ e ≤ z'.chunk.length ∧ (∀ y ∈ (z'.chunk.drop z'.off).take (e - z'.off), (f y == opp) = true) ∧ (e = z'.chunk.length ∨ ∃ x, z'.chunk[e]? = some x ∧ (f x == opp) = false) }) (fun e => [("self", some (.ref a.st)), ("characters", some row), ("opposite", some (.bool opp)), ("rv", some (.ref rv)), ("end", some (.int e.1 0)), ("r", none)]) (fun _ => (rv, .list (ps.map strV)) :: (stm a z' nl ++ X)) ?X2 ?Y2
  case X2 =>
    refine EX_while (n := z'.chunk.length - z'.off) (fun j m1 cs1 => ∃ e : Nat, z'.off ≤ e ∧ e ≤ z'.chunk.length ∧ (∀ y ∈ (z'.chunk.drop z'.off).take (e - z'.off), (f y == opp) = true) ∧ j = z'.chunk.length - e ∧
      m1 = ([("self", some (.ref a.st)), ("characters", some row), ("opposite", some (.bool opp)), ("rv", some (.ref rv)), ("end", some (.int e 0)), ("r", none)] : Fields) ∧ cs1 = (rv, .list (ps.map strV)) :: (stm a z' nl ++ X)) ⟨z'.off, Nat.le_refl _, hzo, by simp, rfl, rfl, rfl⟩ ?_
    rintro j2 m1 cs1 zz2 ⟨e, q1, q2, q3, rfl, rfl, rfl⟩
    simp only [stm, fldS, fldG, fldT, List.cons_append, List.nil_append]
    refine TV_and ?_
    refine' PT.tv ?p1 ?p2
    case p1 => kd_in
    refine ⟨fun h => ?_, fun h => ⟨fun h2 => (by cases h2), fun _ => ⟨trivial, ⟨e, q1, q2, q3, .inl ?_⟩, rfl, rfl⟩⟩⟩
    · have hlt : e < z'.chunk.length := by
        have : (e : Int) ≠ z'.chunk.length := by simpa using h
        omega
      have hx : z'.chunk[e]? = some (z'.chunk[e]) := List.getElem?_eq_getElem hlt
      generalize z'.chunk[e] = x at hx
      refine TV_and ?_
      refine' PT.tv ?p3 ?p4
      case p3 =>
        refine' PT_cmp (PE_cmp ?a1 ?a2 (hR _ _ x)) ?a3 C_eqb
        case a1 => kcf_all
        case a2 => kcf_all
        case a3 => kcf_all
      refine ⟨fun h3 => TV_and_nil ⟨fun _ => ?_, fun h4 => (by cases h4)⟩, fun h3 => ⟨fun h4 => (by cases h4), fun _ => ⟨trivial, ⟨e, q1, q2, q3, .inr ⟨x, hx, h3⟩⟩, rfl, rfl⟩⟩⟩
      keq_rows
      refine ⟨z'.chunk.length - (e + 1), by omega, e + 1, by omega, by omega, ?_, rfl, rfl, rfl⟩
      intro y hy
      rw [show e + 1 - z'.off = (e - z'.off) + 1 by omega, List.take_succ] at hy
      rcases List.mem_append.mp hy with hy | hy
      · exact q3 y hy
      · rw [List.getElem?_drop, show z'.off + (e - z'.off) = e by omega, hx] at hy
        simp at hy
        rw [hy]; exact h3
    · have : (e : Int) = z'.chunk.length := by simpa using h
      omega
  case Y2 =>
  rintro ⟨e, q1, q2, q3, q4⟩
  have hpc : ps.length ≤ 5000 := by omega
  by_cases he : e = z'.chunk.length
  · subst he
    have hall : ∀ y ∈ z'.chunk.drop z'.off, (f y == opp) = true := fun y hy => q3 y (by rw [List.take_of_length_le (by rw [List.length_drop]; exact Nat.le_refl _)]; exact hy)
    have h1 := fun A => readChunk_spec hK (A := A) (a := a) (z := z') (nl := nl) g'.chunk (by have := g'.src; omega) g'.place (by have := g'.dcs; omega) (by have := g'.errs; have := g'.place; have := g'.src; omega) g'.buf
    have hgd := rdc_good g'
    have es : sl z'.chunk (some (z'.off : Int)) none = z'.chunk.drop z'.off := sl_n_ _ _
    have em : List.map strV ps ++ [Value.str ⟨(z'.chunk.drop z'.off).toArray⟩ 0] = (ps ++ [z'.chunk.drop z'.off]).map strV := by simp
    have hrd : (res' = z'.chunk.drop z'.off ∧ z2 = (rdc z').2 ∧ (rdc z').1 = false) ∨ ∃ t j', j = j' + 1 ∧ res' = z'.chunk.drop z'.off ++ t ∧ (rdc z').1 = true ∧ CU (fun x => f x == opp) j' (rdc z').2 t z2 := by
      cases hcu' with
      | stop h hg hx =>
        exfalso
        rw [hall _ (by rw [h]; simp)] at hx
        cases hx
      | eof hg h => exact .inl ⟨rfl, rfl, h⟩
      | more hg h c => exact .inr ⟨_, _, rfl, rfl, h, c⟩
    clear hcu'
    generalize rdc z' = r at h1 hgd hrd
    obtain ⟨rb, z3⟩ := r
    simp only at h1 hgd hrd
    simp only [stm, fldS, fldG, fldT, List.cons_append, List.nil_append] at h1 ⊢
    refine' EX.thenR ?X3 ?Y3
    case X3 =>
      kpf_c
      refine ⟨fun h => ?_, fun h => ?_⟩
      · have h' : (z'.chunk.length : Int) = z'.off := by simpa using h
        keq_rows
        kpf_c
        refine ⟨fun h2 => ?_, fun _ => ?_⟩
        · have h3 : (z'.off : Int) ≠ z'.chunk.length := by simpa using h2
          omega
        · keq_rows
          exact ⟨rfl, rfl, rfl⟩
      · keq_rows
        kpf_c
        refine ⟨fun h2 => by simp at h2, fun _ => ?_⟩
        keq_rows
        exact ⟨rfl, rfl, rfl⟩
    case Y3 =>
    keq_rows
    rw [es, em]
    refine' EX_if (TV_not (TV_plain (EV_instM0 ?_ ?_ ?_ ?_ ?_ ?_ ?_ ?_ (CodeV.by (h1 i.A) ?_ ?_ ?q1))))
    kqd_all
    rintro v F' ⟨rfl, rfl⟩
    simp only [List.cons_append, List.nil_append]
    keq_rows
    rcases hrd with ⟨rfl, rfl, rfl⟩ | ⟨t, j', rfl, rfl, rfl, hc⟩
    · refine ⟨fun _ => ?_, fun e2 => by simp at e2⟩
      refine' EXS_front (x := (rv, ?l1)) ?t1 ?k1
      case t1 => kbt_split
      keq_rows
      exact ⟨rfl, (⟨ps ++ [z'.chunk.drop z'.off], by rw [← hfl]; simp, by simp; omega⟩, _), rfl, rfl⟩
    · refine ⟨fun e2 => by simp at e2, fun _ => ?_⟩
      refine' EXS_front (x := (rv, ?l2)) ?t2 ?k2
      case t2 => kbt_split
      keq_rows
      exact ⟨j', by omega, ps ++ [z'.chunk.drop z'.off], z3, t, _, hgd, hc, by rw [← hfl]; simp, by simp; omega, rfl, rfl⟩
  · rcases q4 with q4 | ⟨x, hx, hxm⟩
    · exact absurd q4 he
    have hlt : e < z'.chunk.length := by omega
    have hxd : (z'.chunk.drop z'.off)[e - z'.off]? = some x := by rw [List.getElem?_drop, show z'.off + (e - z'.off) = e by omega]; exact hx
    have hmem : x ∈ z'.chunk.drop z'.off := List.mem_of_getElem? hxd
    have hst : res' = (z'.chunk.drop z'.off).take (e - z'.off) ∧ z2 = { z' with off := e } := by
      cases hcu' with
      | stop h hg hx2 =>
        rename_i r y
        have hl : res'.length = e - z'.off := by
          rcases Nat.lt_trichotomy res'.length (e - z'.off) with hh | hh | hh
          · exfalso
            have : y ∈ (z'.chunk.drop z'.off).take (e - z'.off) := by
              rw [h]
              refine List.mem_of_getElem? (i := res'.length) ?_
              rw [List.getElem?_take, if_pos hh]
              simp
            rw [q3 y this] at hx2
            cases hx2
          · exact hh
          · exfalso
            rw [h, List.getElem?_append_left hh] at hxd
            rw [hg x (List.mem_of_getElem? hxd)] at hxm
            cases hxm
        refine ⟨?_, ?_⟩
        · rw [h, ← hl, List.take_left']
          rfl
        · rw [hl, show z'.off + (e - z'.off) = e by omega]
      | eof hg h => rw [hg x hmem] at hxm; cases hxm
      | more hg h c => rw [hg x hmem] at hxm; cases hxm
    clear hcu'
    obtain ⟨rfl, rfl⟩ := hst
    have es : sl z'.chunk (some (z'.off : Int)) (some (e : Int)) = (z'.chunk.drop z'.off).take (e - z'.off) := sl_nn _ _ _
    have em : List.map strV ps ++ [Value.str ⟨((z'.chunk.drop z'.off).take (e - z'.off)).toArray⟩ 0] = (ps ++ [(z'.chunk.drop z'.off).take (e - z'.off)]).map strV := by simp
    simp only [stm, fldS, fldG, fldT, List.cons_append, List.nil_append]
    keq_rows
    kpf_c
    refine ⟨fun h => ?_, fun h => ?_⟩
    · have h' : e = z'.off := by have : (e : Int) = z'.off := by simpa using h
                                 omega
      subst h'
      keq_rows
      kpf_c
      refine ⟨fun _ => ?_, fun h2 => ?_⟩
      · keq_rows
        exact ⟨rfl, (⟨ps, by rw [← hfl]; simp, by omega⟩, _), rfl, rfl⟩
      · have : (z'.off : Int) = z'.chunk.length := by simpa using h2
        omega
    · keq_rows
      kpf_c
      refine ⟨fun _ => ?_, fun h2 => ?_⟩
      · keq_rows
        rw [es, em]
        exact ⟨rfl, (⟨ps ++ [_], by rw [← hfl]; simp, by simp; omega⟩, _), rfl, rfl⟩
      · have : (e : Int) = z'.chunk.length := by simpa using h2
        omega
theorem text_new {c : Cx} (hK : c.K = heapW c.w.params) [pf : PF c] {A : Around} {src : List Nat} {cs : List Chunk} (hne : cs ≠ []) :
    CodeV c A 3 cs (.ref 38) [strV src] (fun v cs' => ∃ ds dd, v = .ref ds ∧ cs' = (ds, .inst 38 dd) :: (dd, .obj [("text", some (strV src)), ("place", some (.int 0 0)), ("read", none)]) :: cs) := by
  refine K_new (k := 2) (names := ["text", "place", "read"]) PF.k_Text PF.i_Text (by rw [hK]; k_is) (by decide) hne ?_
  intro A x d
  simp only [List.map_cons, List.map_nil]
  refine K_fn (k := 1) (by rw [hK]; k_is) (by rw [hK]; k_is) ["self", "text"] [] [] [] (fun s vs _ h => by refine bnd2 h fun a b => ?_; exact .of_eq rfl) rfl (by decide) (by decide) (by decide) (by decide) rfl rfl rfl (by simp) ?_
  intro i hg
  conv => arg 6; whnf
  simp only [locals0, List.zip_cons_cons, List.zip_nil_right, List.map_cons, List.map_nil, List.append_nil, List.cons_append, List.nil_append]
  keq_rows
  exact ⟨rfl, x, d, rfl, rfl⟩
theorem open_spec {c : Cx} (hK : c.K = heapW c.w.params) [pf : PF c] {A : Around} {src : List Nat} {st : Addr} {cs : List Chunk} (hne : cs ≠ []) :
    CodeV c A 4 cs (.ref 77) [.ref st, strV src] (fun v cs' => ∃ ds dd, v = .ref ds ∧ cs' = (ds, .inst 38 dd) :: (dd, .obj [("text", some (strV src)), ("place", some (.int 0 0)), ("read", none)]) :: cs) := by
  refine K_fn (k := 3) (by rw [hK]; k_is) (by rw [hK]; k_is) ["self", "source"] ["stream"] ["Text"] [] (fun s vs _ h => by refine bnd2 h fun a b => ?_; exact .of_eq rfl) rfl (by decide) (by decide) (by decide) (by decide) rfl rfl rfl hne ?_
  intro i hg
  conv => arg 6; whnf
  simp only [locals0, List.zip_cons_cons, List.zip_nil_right, List.map_cons, List.map_nil, List.append_nil, List.cons_append, List.nil_append]
  keq_rows
  refine' EV_callK' ?_ PF.kc_Text ?_ ((text_new hK (A := i.A) (src := src) hne).mono ?q)
  kqd_all
  rintro v cs' ⟨ds, dd, rfl, rfl⟩
  keq_rows
  exact ⟨ds, dd, rfl, rfl⟩
/-- a stream's chunks, the size of its pieces set or not -/
def stmD (a : SA) (z : SS) (nl : Addr) (dc : Option Value) : List Chunk := [(a.st, .inst 131 a.sd), (a.sd, .obj (fldG (some (.ref a.bm)) (some (.ref nl)) (some (.ref a.ds)) (some (.str ⟨z.chunk.toArray⟩ 0)) (some (.int z.chunk.length 0)) (some (.int z.off 0))
  (some (.ref a.er)) (some (.int z.pl 0)) (some (.int z.pc 0)) (some (bufV z.buf)) dc)), (a.ds, .inst 38 a.dd), (a.dd, .obj (fldT z)), (a.er, .list (List.replicate z.errs (strV errT))), (a.bm, .bm 113 a.st)]
theorem init_spec {c : Cx} (hK : c.K = heapW c.w.params) [pf : PF c] {A : Around} {src : List Nat} {st sd : Addr} {cs : List Chunk} :
    CodeV c A 6 ((st, .inst 131 sd) :: (sd, .obj (fldG none none none none none none none none none none none)) :: cs) (.ref 63) [.ref st, strV src] (fun v cs' => v = .none ∧ ∃ ds dd er bm nl, cs' = stmD ⟨st, sd, ds, dd, er, bm⟩ ⟨src, 0, [], 0, 0, 0, 0, [], 0⟩ nl none ++ (nl, .list [.int 0 0]) :: cs) := by
  simp only [stmD, fldG, fldT, bufV, List.cons_append, List.nil_append]
  refine CodeV.permR ?_
  refine K_fn (k := 5) (by rw [hK]; k_is) (by rw [hK]; k_is) ["self", "source"] [] [] [] (fun s vs _ h => by refine bnd2 h fun a b => ?_; exact .of_eq rfl) rfl (by decide) (by decide) (by decide) (by decide) rfl rfl rfl (by simp) ?_
  intro i hg
  conv => arg 6; whnf
  simp only [locals0, List.zip_cons_cons, List.zip_nil_right, List.map_cons, List.map_nil, List.append_nil, List.cons_append, List.nil_append]
  keq_rows
  refine' EV_attr (PE.ev ?o (A_bound (f := 113) ?_ ?_ ?_ ?_ ?_ ?_ ?_ ?_ ?_ ?_ ?q))
  case o => kcf_all
  kqd_all
  · rw [hK]; k_is
  · rw [hK]; k_is
  · decide
  intro bm
  keq_rows
  refine ⟨by simp, fun nl => ?_⟩
  keq_rows
  refine' EV_instM ?_ ?_ ?_ ?_ ?_ ?_ ?_ ?_ ?_ ((open_spec hK (A := i.A) (src := src) (by simp)).level (by decide) |>.mono ?q2)
  kqd_all
  rintro v cs' ⟨ds, dd, rfl, rfl⟩
  keq_rows
  have hr := reset_spec hK (A := i.A) (st := st) (sd := sd) (rce := some (.ref bm)) (nl := some (.ref nl)) (ds := some (.ref ds)) (ch := none) (cz := none) (co := none) (er := none) (pl := none) (pc := none) (bf := none) (dc := none)
  simp only [fldG] at hr
  refine' EV_instM0 ?_ ?_ ?_ ?_ ?_ ?_ ?_ ?_ (CodeV.by hr ?_ ?_ ?q3)
  kqd_all
  rintro v F' ⟨er, rfl, rfl⟩
  simp only [List.cons_append, List.nil_append]
  refine Then_next (EXS_nil ?_)
  refine' ⟨[(st, ?e1), (sd, ?e2), (ds, ?e3), (dd, ?e4), (er, ?e5), (bm, ?e6), (nl, ?e7)], ?e8, ?t, rfl, ds, dd, er, bm, nl, ?r⟩
  case t => kct_strs
  case r => rfl
/-- the stream's class called -/
theorem stream_new {c : Cx} (hK : c.K = heapW c.w.params) [pf : PF c] {A : Around} {src : List Nat} {cs : List Chunk} (hne : cs ≠ []) :
    CodeV c A 7 cs (.ref 131) [strV src] (fun v cs' => ∃ a nl, v = .ref a.st ∧ cs' = stmD a ⟨src, 0, [], 0, 0, 0, 0, [], 0⟩ nl none ++ (nl, .list [.int 0 0]) :: cs) := by
  refine K_new (k := 6) (names := ["reportCharacterErrors", "newLines", "dataStream", "chunk", "chunkSize", "chunkOffset", "errors", "prevNumLines", "prevNumCols", "_bufferedCharacter", "_defaultChunkSize", "reset", "openStream", "_position", "position", "char", "readChunk", "characterErrorsUCS4", "charsUntil", "unget"]) PF.k_S PF.i_S (by rw [hK]; k_is) (by decide) hne ?_
  intro A x d
  refine (init_spec hK (A := A) (src := src) (st := x) (sd := d) (cs := cs)).mono ?_
  rintro v cs' ⟨rfl, ds, dd, er, bm, nl, rfl⟩
  exact ⟨rfl, ⟨x, d, ds, dd, er, bm⟩, nl, rfl, rfl⟩
local macro_rules | `(tactic| kat_tups) => `(tactic| with_reducible (first
  | exact PL3.SIGNS | exact PL3.QUOTES | exact PL3.ENDS | exact PL3.faulty | exact PL3.value | exact PL3.field | exact PL3.written | exact PL3.spot | exact PL3.filled | exact PL3.read | exact PL3.stream | exact PL3.chr | exact PL3.range))
local macro_rules | `(tactic| kqd_sub) => `(tactic| ((with_reducible show keepIn _ _ = true); first | exact PL3.kENDS | exact PL3.kfaulty | exact PL3.kvalue | exact PL3.kfield | exact PL3.kwritten | exact PL3.kspot | exact PL3.kfilled | exact PL3.kread))
local macro_rules | `(tactic| kcf_m) => `(tactic| first | exact lit_a | exact lit_b | exact lit_soh | exact lit_dq | exact lit_sq | exact lit_bq | exact lit_cm | exact lit_sp | exact lit_spt | exact lit_tab | exact lit_cmnl)
local macro_rules | `(tactic| kcj_in) => `(tactic| first | ((with_reducible refine' B_fdiv ?h ?h2); (case h => decide); (case h2 => decide +kernel)))
local macro_rules | `(tactic| kcf_all) => `(tactic| first
  | ((with_reducible refine' PE_cell ?h ?hc); (case h => assumption); (case hc => kba_ints))
  | ((with_reducible show PE _ _ _ _ _ (.IfExp _ _ _ _) _); refine' PE_ifexpI ?h ?h1 ?h2; (case h => kd_in); (case h1 => kcf_all); (case h2 => kcf_all))
  | ((with_reducible show PE _ _ _ _ _ (.IfExp _ _ _ _) _); refine' PE_ifexpS ?h ?h1 ?h2; (case h => kd_in); (case h1 => kcf_all); (case h2 => kcf_all))
  | ((with_reducible show PE _ _ _ _ _ (.Call (.Name (Str.ofString "chr") _) _ _ _) _); refine' PE_chr ?hg ?hx ?h ?h0 ?h1 PL3.chr; (case hg => assumption); (case hx => kba_ints); (case h => kcf_all); (case h0 => first | assumption | omega); (case h1 => first | assumption | omega))
  | ((with_reducible show PE _ _ _ _ _ (.Call (.Name (Str.ofString "len") _) _ _ _) _); refine' PE_lenL ?hg ?hx ?h ?h2 ?hz PF.g_len; (case hg => assumption); (case hx => kba_ints); (case h => kcf_all); (case h2 => kba_ints); (case hz => kas_types)))
local macro_rules | `(tactic| keq_hits) => `(tactic| ((with_reducible show AS _ _ _ _ _ (.Name _ _) _ _); refine' AS_cell ?h ?h1 ?h2 ?h3; (case h => assumption); (case h1 => kba_ints); (case h2 => kbo_bools)))
local macro_rules | `(tactic| kcj_in) => `(tactic| ((with_reducible show Op2 _ _ _ _ (subscriptTail _ _) (.ref _) (.int (-1) _) _ _); refine' S_list_last ?h ?hz; (case h => kba_ints); (case hz => kas_types)))
local macro_rules | `(tactic| kcf_all) => `(tactic| ((with_reducible show PE _ _ _ _ _ (.UnaryOp .Not _ _) _); refine' PE_notv ?h1 ?h2; (case h1 => kcf_all); (case h2 => kcj_in)))
/- ## the third law's own functions -/
def ends3 : List (List Nat) := [[13, 10], [13], [10]]
theorem ends_spec {c : Cx} (hK : c.K = heapW c.w.params) [pf : PF c] [pl : PL3 c] {A : Around} {cs : List Chunk} (hne : cs ≠ []) :
    CodeV c A 2 cs (.ref 144) [] (fun v cs' => ∃ t, v = .ref t ∧ cs' = (t, .list (ends3.map strV)) :: cs) := by
  refine K_fn (k := 1) (by rw [hK]; k_is) (by rw [hK]; k_is) [] [] [] [] (fun s vs _ h => by refine bnd0 h ?_; exact .of_eq rfl) rfl (by decide) (by decide) (by decide) (by decide) rfl rfl rfl hne ?_
  intro i hg
  conv => arg 6; whnf
  simp only [locals0, List.zip_cons_cons, List.zip_nil_right, List.map_cons, List.map_nil, List.append_nil, List.cons_append, List.nil_append]
  keq_rows
  exact ⟨by simp, fun t => ⟨t, rfl, rfl⟩⟩
theorem faulty_high (n : Nat) (e3 : (n : Int).fmod 65536 = (n % 65536 : Nat)) (h : ¬ n < 32) (hs : n < 55296 ∨ 57343 < n) :
    ((decide ((127 : Int) ≤ n) && decide ((n : Int) < 160)) || ((decide ((64976 : Int) ≤ n) && decide ((n : Int) < 65008)) || decide ((65533 : Int) < (n : Int).fmod 65536))) = faulty n := by
  unfold faulty faultyI
  have a1 : decide ((n : Int) ≤ 8) = false := decide_eq_false (by omega)
  have a2 : ((n : Int) == 11) = false := beq_eq_false_iff_ne.mpr (by omega)
  have a3 : decide ((n : Int) ≤ 31) = false := decide_eq_false (by omega)
  have a4 : decide ((n : Int) ≤ 159) = decide ((n : Int) < 160) := decide_eq_decide.mpr ⟨fun q => by omega, fun q => by omega⟩
  have a5 : decide ((n : Int) ≤ 65007) = decide ((n : Int) < 65008) := decide_eq_decide.mpr ⟨fun q => by omega, fun q => by omega⟩
  have a6 : (decide (55296 ≤ (n : Int)) && decide ((n : Int) ≤ 57343)) = false := by
    rcases hs with hs | hs
    · rw [decide_eq_false (show ¬ (55296 : Int) ≤ n by omega)]; rfl
    · rw [decide_eq_false (show ¬ (n : Int) ≤ 57343 by omega), Bool.and_false]
  have a7 : [65534, 65535].any (· == (n : Int).fmod 65536) = decide ((65533 : Int) < (n : Int).fmod 65536) := by
    rw [e3]
    have hm : n % 65536 < 65536 := Nat.mod_lt _ (by decide)
    generalize n % 65536 = m at hm
    by_cases q : m = 65534
    · subst q; rfl
    · by_cases q2 : m = 65535
      · subst q2; rfl
      · rw [decide_eq_false (by omega)]
        simp only [List.any_cons, List.any_nil, Bool.or_false]
        rw [beq_eq_false_iff_ne.mpr (by omega), beq_eq_false_iff_ne.mpr (by omega)]; rfl
  rw [a1, a2, a3, a4, a5, a6, a7, Bool.and_false, Bool.and_false, Bool.or_false, Bool.false_or, Bool.false_or, Bool.false_or]
theorem faulty3_eq (n : Nat) (e3 : (n : Int).fmod 65536 = (n % 65536 : Nat)) (h : (n = 1 ∨ n = 9 ∨ n = 10) ∨ 32 ≤ n) (hs : n < 55296 ∨ 57343 < n) :
    (((n : Int) == 1) || ((decide ((127 : Int) ≤ n) && decide ((n : Int) < 160)) || ((decide ((64976 : Int) ≤ n) && decide ((n : Int) < 65008)) || decide ((65533 : Int) < (n : Int).fmod 65536)))) = faulty n := by
  rcases h with (rfl | rfl | rfl) | h
  · decide
  · decide
  · decide
  · rw [faulty_high n e3 (by omega) hs, beq_eq_false_iff_ne.mpr (by omega), Bool.false_or]
theorem faulty_spec {c : Cx} (hK : c.K = heapW c.w.params) [pf : PF c] [pl : PL3 c] {A : Around} {n : Nat} {cs : List Chunk} (h : (n = 1 ∨ n = 9 ∨ n = 10) ∨ 32 ≤ n) (hs : n < 55296 ∨ 57343 < n) (hne : cs ≠ []) :
    CodeV c A 2 cs (.ref 151) [.int n 0] (fun v cs' => v = .bool (faulty n) ∧ cs' = cs) := by
  refine K_fn (k := 1) (by rw [hK]; k_is) (by rw [hK]; k_is) ["point"] [] [] [] (fun s vs _ h => by refine bnd1 h fun a => ?_; exact .of_eq rfl) rfl (by decide) (by decide) (by decide) (by decide) rfl rfl rfl hne ?_
  intro i hg
  conv => arg 6; whnf
  simp only [locals0, List.zip_cons_cons, List.zip_nil_right, List.map_cons, List.map_nil, List.append_nil, List.cons_append, List.nil_append]
  have e3 : (n : Int).fmod 65536 = (n % 65536 : Nat) := by rw [Int.fmod_eq_emod_of_nonneg _ (by omega)]; omega
  keq_rows
  refine ⟨?_, rfl⟩
  show Value.bool _ = _
  congr 1
  exact faulty3_eq n e3 h hs
def pt3 (n : Int) : Int := 32 + (n.fdiv 1100).fmod 1112032
def ch3 (n : Int) : Nat := (if decide (pt3 n < 55296) = true then pt3 n else pt3 n + 2048).toNat
def sg3 (n : Int) : List (List Nat) := signs3 ++ [[ch3 n]]
def ix3 (n : Int) (j : Nat) : Int := (n.fdiv 20 + j * (1 + (n.fdiv 220).fmod 5)).fmod 11
def sz3 (n : Int) : Nat := ((n.fdiv 4).fmod 5).toNat
def val3 (n : Int) : List (List Nat) := (List.range (sz3 n)).map fun j => (sg3 n).getD (ix3 n j).toNat []
theorem mulOk_small {j : Nat} {b : Int} (h : j < 5) : IntMulOk (j : Int) b := by
  refine .of_left ?_
  have : ∀ j : Nat, j < 5 → Builtin.Int.intBits (j : Int) ≤ 64 := by decide
  exact this j h
theorem one_flat : ∀ {ls : List (List Nat)}, (∀ l ∈ ls, l.length = 1) → ls.flatten.length = ls.length
  | [], _ => rfl
  | l :: r, h => by
    rw [List.flatten_cons, List.length_append, one_flat fun x hx => h x (List.mem_cons_of_mem _ hx), h l List.mem_cons_self, List.length_cons]; omega
theorem sg3_len (n : Int) : (sg3 n).length = 11 := rfl
theorem sg3_one (n : Int) : ∀ l ∈ sg3 n, l.length = 1 := by
  intro l hl
  rcases List.mem_append.mp hl with h | h
  · have : ∀ l ∈ signs3, l.length = 1 := by decide
    exact this l h
  · rw [List.mem_singleton.mp h]; rfl
theorem ix3_lt (n : Int) (j : Nat) : 0 ≤ ix3 n j ∧ (ix3 n j).toNat < 11 := by
  have h0 : 0 ≤ ix3 n j := Int.fmod_nonneg_of_pos _ (by decide)
  have h1 : ix3 n j < 11 := Int.fmod_lt_of_pos _ (by decide)
  exact ⟨h0, by omega⟩
theorem val3_one (n : Int) : ∀ l ∈ val3 n, l.length = 1 := by
  intro l hl
  obtain ⟨j, -, rfl⟩ := List.mem_map.mp hl
  have h := (ix3_lt n j).2
  rw [← sg3_len n] at h
  rw [List.getD_eq_getElem?_getD, List.getElem?_eq_getElem h]
  exact sg3_one n _ (List.getElem_mem h)
theorem sz3_lt (n : Int) : sz3 n < 5 := by
  have h0 : 0 ≤ (n.fdiv 4).fmod 5 := Int.fmod_nonneg_of_pos _ (by decide)
  have h1 : (n.fdiv 4).fmod 5 < 5 := Int.fmod_lt_of_pos _ (by decide)
  unfold sz3; omega
theorem val3_len (n : Int) : (val3 n).length < 5 := by unfold val3; rw [List.length_map, List.length_range]; exact sz3_lt n
theorem value_spec {c : Cx} (hK : c.K = heapW c.w.params) [pf : PF c] [pl : PL3 c] {A : Around} {n : Int} {cs : List Chunk} (hne : cs ≠ []) :
    CodeV c A 2 cs (.ref 156) [.int n 0] (fun v cs' => v = strV (val3 n).flatten ∧ cs' = cs) := by
  refine CodeV.drop (CodeV.drop (CodeV.drop (CodeV.drop (CodeV.drop ?_))))
  refine K_fnC (k := 1) (by rw [hK]; k_is) (by rw [hK]; k_is) ["n"] [("point", none)] [("n", some (.int n 0)), ("signs", none)] ["_law_SIGNS", "chr", "range"] (fun s vs _ h => by refine bnd1 h fun a => ?_; exact .of_eq rfl) rfl ?hk (by decide) (by simp only [List.map_cons, List.map_nil]; decide) ?hm ?hc ?hi (by decide) rfl rfl rfl hne ?_
  case hk =>
    intro _ x hx
    rw [List.mem_singleton.mp hx]
    exact .inr ⟨rfl, rfl⟩
  case hm =>
    intro vs hv p hp
    obtain ⟨a, rfl, e⟩ := map_one hv
    rw [List.mem_singleton.mp hp]
    exact ⟨rfl, rfl⟩
  case hc =>
    intro vs hv p hp
    obtain ⟨a, rfl, e⟩ := map_one hv
    rcases List.mem_cons.mp hp with rfl | hp
    · exact ⟨rfl, congrArg some e⟩
    · rw [List.mem_singleton.mp hp]; exact ⟨rfl, rfl⟩
  case hi =>
    intro _ p hp
    rcases List.mem_cons.mp hp with rfl | hp
    · rfl
    · rw [List.mem_singleton.mp hp]; rfl
  intro i f hg hcc
  conv => arg 6; whnf
  have hn : COk i "n" (f "n") := hcc ("n", some (.int n 0)) (by simp)
  have hs : COk i "signs" (f "signs") := hcc ("signs", none) (by simp)
  clear hcc
  simp only [cellsL, List.map_cons, List.map_nil, List.cons_append, List.nil_append]
  have b0 : 0 ≤ (n.fdiv 1100).fmod 1112032 := Int.fmod_nonneg_of_pos _ (by decide)
  have b1 : (n.fdiv 1100).fmod 1112032 < 1112032 := Int.fmod_lt_of_pos _ (by decide)
  have c0 : 0 ≤ (if decide (32 + (n.fdiv 1100).fmod 1112032 < 55296) = true then 32 + (n.fdiv 1100).fmod 1112032 else 32 + (n.fdiv 1100).fmod 1112032 + 2048) := by split <;> omega
  have c1 : (if decide (32 + (n.fdiv 1100).fmod 1112032 < 55296) = true then 32 + (n.fdiv 1100).fmod 1112032 else 32 + (n.fdiv 1100).fmod 1112032 + 2048) ≤ 0x10FFFF := by split <;> omega
  keq_rows
  refine EV_bin (PE.ev (v := .ref 136) ?p1 (EV_list (PEs.evs (vs := [strV [ch3 n]]) ?p2 ⟨by simp, fun t => ?_⟩)))
  case p1 => kcf_all
  case p2 =>
    show PEs _ _ _ _ _ _ [strV [(if decide (32 + (n.fdiv 1100).fmod 1112032 < 55296) = true then 32 + (n.fdiv 1100).fmod 1112032 else 32 + (n.fdiv 1100).fmod 1112032 + 2048).toNat]]
    kst_facts
  refine B_addL (vs := signs3.map strV) (ws := [strV [ch3 n]]) (signs_seen hK) (.inl mem_hd) (by simp) (by simp [signs3]) fun r => ?_
  keq_rows
  refine EV_joinS ?p3 ?_
  case p3 => kcf_all
  have hN : ((sz3 n : Nat) : Int) = (n.fdiv 4).fmod 5 := by
    have h0 : 0 ≤ (n.fdiv 4).fmod 5 := Int.fmod_nonneg_of_pos _ (by decide)
    unfold sz3; omega
  refine EV_comp (gl := []) (cs1 := (r, .list (signs3.map strV ++ [strV [ch3 n]])) :: (t, .list [strV [ch3 n]]) :: (f "n", cellAt (some (.int n 0))) :: (f "signs", cellAt (some (.ref r))) :: cs) (rangeIt (sz3 n)) (sz3 n) (fun j => .int j 0) (fun _ => true) (fun j => strV ((sg3 n).getD (ix3 n j).toNat [])) f ?it ?self ?nxt ?z (by decide) rfl (by decide) rfl (by simp) ?fr (.inl ⟨rfl, fun _ => rfl⟩) ?el ?q
  case it =>
    refine EV_callT (f := "range") (PE_bi (v := .type "range") hg (by kba_ints) PL3.range (by boot_fast) (by decide)) ((PEs_cons (v := .int (sz3 n : Nat) 0) ?e1 PEs_nil).evs (K_range (by simp) fun rr => I_range (by have := sz3_lt n; omega) fun it => ⟨it, rfl, rfl⟩))
    case e1 => rw [hN]; kcf_all
  case self => exact fun ia cs2 => I_self_range ia cs2
  case nxt =>
    intro ia j hj hA R s it' hit hs
    refine noE (N_range (n := sz3 n) (j := j) hA R s it' hit hs) ?_
    rintro r s2 ⟨cs2, h2, q2⟩
    refine ⟨cs2, h2, ?_⟩
    cases hr : r.map nv with
    | none => rw [hr] at q2; exact ⟨Nat.le_antisymm hj q2.1, q2.2⟩
    | some v => rw [hr] at q2; exact q2
  case z => have := sz3_lt n; omega
  case fr =>
    intro y hy hf
    simp only [List.mem_cons, List.not_mem_nil, or_false] at hy
    rcases hy with rfl | rfl | rfl | rfl
    · cases hf
    · cases hf
    · exact ⟨hn, rfl⟩
    · exact ⟨hs, rfl⟩
  case el =>
    intro i2 ia D E1 j hj _ hg2 hf2
    have hn2 : COk i2 "n" (f "n") := hf2 ("n", .free) (by simp) rfl
    have hs2 : COk i2 "signs" (f "signs") := hf2 ("signs", .free) (by simp) rfl
    have hj5 : j < 5 := Nat.lt_trans hj (sz3_lt n)
    have hix := ix3_lt n j
    have hv : (signs3.map strV ++ [strV [ch3 n]])[(ix3 n j).toNat]? = some (strV ((sg3 n).getD (ix3 n j).toNat [])) := by
      have h2 : (ix3 n j).toNat < (sg3 n).length := hix.2
      have : signs3.map strV ++ [strV [ch3 n]] = (sg3 n).map strV := by unfold sg3; rw [List.map_append]; rfl
      rw [this, List.getElem?_map, List.getD_eq_getElem?_getD, List.getElem?_eq_getElem h2]; rfl
    refine PE_sub (o := .ref r) (n := .int (ix3 n j) 0) ?a1 ?a2 (S_list (a := r) (vs := signs3.map strV ++ [strV [ch3 n]]) ?a3 hix.1 (by simp [signs3]) hv)
    case a1 => kcf_all
    case a2 =>
      unfold ix3
      refine PE_bin (PE_bin ?g1 (PE_bin ?g2 ?g3 (B_mul (mulOk_small hj5))) B_add) PE_int (B_mod (by decide))
      case g1 => kcf_all
      case g2 => kcf_all
      case g3 => kcf_all
    case a3 => kba_ints
  case q =>
    intro rr
    have e1 : ((List.range (sz3 n)).filter fun _ => true) = List.range (sz3 n) := List.filter_eq_self.mpr fun _ _ => rfl
    have hl := val3_len n
    have hf := one_flat (val3_one n)
    refine ⟨rr, val3 n, rfl, ?_, by omega, by omega, ?_⟩
    · rw [e1]
      unfold val3
      rw [List.map_map]
      exact List.mem_cons_self
    · keq_rows
      exact ⟨_, _, .head, _, _, .head, _, _, .head, _, _, .head, _, _, .head, rfl, rfl⟩
section
variable {c : Cx} {i : Fi} {A : Around} {k : Nat} {m : Fields} {cs : List Chunk}
theorem St.suf {pre cs0 R : List Chunk} {s : Shared} {p : Chunk} (h : St c (p :: ((pre ++ cs0) ++ R)) s) : St c (p :: (cs0 ++ R)) s :=
  h.sub (.cons_cons _ (List.Sublist.append_right (List.sublist_append_right pre cs0) R))
/-- what is made ahead may be let go -/
theorem CodeV.suf {cs0 : List Chunk} {f : Value} {args : List Value} {Q : Value → List Chunk → Prop} (h : CodeV c A k cs f args (fun v cs' => ∃ pre, cs' = pre ++ cs0 ∧ Q v cs0)) : CodeV c A k cs f args Q := by
  intro hA R s vs hvs hs
  refine codeAny_mono (h hA R s vs hvs hs) ?_
  intro r s' z
  rcases r with e | (v | _ | _ | _) <;> first | exact z.elim | skip
  obtain ⟨cs', g, pre, rfl, q⟩ := z
  exact ⟨cs0, g.sub (List.Sublist.append_right (List.sublist_append_right pre cs0) R), q⟩
theorem PT.suf {e : Expr} {b : Bool} (h : TV c i k m cs e (fun b' cs' => b' = b ∧ ∃ pre, cs' = pre ++ cs)) : PT c i k m cs e b :=
  fun hF R s hs => noE (h hF R s hs) fun _ _ ⟨cs', g, e, pre, e2⟩ => ⟨cs, (e2 ▸ g).suf, e, rfl⟩
end
def bare3 (n : Int) (v : List Nat) : Bool := (n.fmod 4 == 0) && (!decide (v.take 1 ∈ [[34], [39], [96], [32]]) && (!decide (44 ∈ v) && (!decide (10 ∈ v) && true)))
def mk3 (n : Int) : Nat := if n.fmod 4 = 0 then 96 else if n.fmod 4 = 1 then 34 else if n.fmod 4 = 2 then 39 else 96
def dbl1 (q x : Nat) : List Nat := if ([x] == [q]) = true then [x] ++ [x] else [x]
def dbl (q : Nat) (v : List Nat) : List (List Nat) := v.map (dbl1 q)
def fld3 (n : Int) (v : List Nat) : List Nat := if bare3 n v = true then v else [mk3 n] ++ (dbl (mk3 n) v).flatten ++ [mk3 n]
theorem mk3_at (n : Int) : ∃ j, seqIndex? (n.fmod 4 - 1) 3 = some j ∧ [strV [34], strV [39], strV [96]][j]? = some (strV [mk3 n]) := by
  have h0 : 0 ≤ n.fmod 4 := Int.fmod_nonneg_of_pos _ (by decide)
  have h1 : n.fmod 4 < 4 := Int.fmod_lt_of_pos _ (by decide)
  unfold mk3
  obtain h | h | h | h : n.fmod 4 = 0 ∨ n.fmod 4 = 1 ∨ n.fmod 4 = 2 ∨ n.fmod 4 = 3 := by omega
  all_goals rw [h]
  · exact ⟨2, by decide, rfl⟩
  · exact ⟨0, by decide, rfl⟩
  · exact ⟨1, by decide, rfl⟩
  · exact ⟨2, by decide, rfl⟩
theorem dbl1_len (q x : Nat) : (dbl1 q x).length ≤ 2 := by unfold dbl1; split <;> simp
theorem dbl_len (q : Nat) : ∀ v, (dbl q v).flatten.length ≤ 2 * v.length
  | [] => Nat.le_refl _
  | x :: r => by
    have := dbl_len q r
    have := dbl1_len q x
    show (dbl1 q x ++ (dbl q r).flatten).length ≤ _
    rw [List.length_append, List.length_cons]; omega
theorem field_spec {c : Cx} (hK : c.K = heapW c.w.params) [pf : PF c] [pl : PL3 c] {A : Around} {n : Int} {v : List Nat} {cs : List Chunk} (hv : v.length ≤ 100) (hne : cs ≠ []) :
    CodeV c A 2 cs (.ref 161) [.int n 0, strV v] (fun r cs' => r = strV (fld3 n v) ∧ cs' = cs) := by
  refine CodeV.suf (cs0 := cs) ?_
  refine K_fnC (k := 1) (by rw [hK]; k_is) (by rw [hK]; k_is) ["n", "value"] [("n", some (.int n 0)), ("value", some (strV v))] [("mark", none)] ["_law_QUOTES"] (fun s vs _ h => by refine bnd2 h fun a b => ?_; exact .of_eq rfl) rfl ?hk (by simp only [List.map_cons, List.map_nil]; decide) (by decide) ?hm ?hc ?hi (by decide) rfl rfl rfl hne ?_
  case hk =>
    intro _ x hx
    rcases List.mem_cons.mp hx with rfl | hx
    · exact .inl rfl
    · rw [List.mem_singleton.mp hx]; exact .inl rfl
  case hm =>
    intro vs hv p hp
    obtain ⟨a, b, rfl, e1, e2⟩ := map_two hv
    rcases List.mem_cons.mp hp with rfl | hp
    · exact ⟨rfl, congrArg some e1⟩
    · rw [List.mem_singleton.mp hp]; exact ⟨rfl, congrArg some e2⟩
  case hc =>
    intro vs hv p hp
    obtain ⟨a, b, rfl, e1, e2⟩ := map_two hv
    rw [List.mem_singleton.mp hp]; exact ⟨rfl, rfl⟩
  case hi =>
    intro _ p hp
    rw [List.mem_singleton.mp hp]; rfl
  intro i f hg hcc
  conv => arg 6; whnf
  have hm : COk i "mark" (f "mark") := hcc ("mark", none) (by simp)
  clear hcc
  simp only [cellsL, List.map_cons, List.map_nil, List.cons_append, List.nil_append]
  refine EXS_cons (EX_if (PT.tv (v := bare3 n v) ?t1 ⟨fun hb => ?_, fun hb => ?_⟩))
  case t1 =>
    unfold bare3
    refine PT_and ?a1 fun _ => PT_and ?a2 fun _ => PT_and ?a3 fun _ => PT_and ?a4 fun _ => PT_and_nil
    case a1 => kd_in
    case a2 =>
      have e1 : sl v none (some 1) = v.take 1 := sl__n v 1
      refine PT.suf (TV_cmp (PE.ev (v := strV (v.take 1)) ?b1 (EV_bin (PE.ev (v := .ref 137) ?b2 (EV_tuple (PEs.evs (vs := [strV [32]]) ?b3 ⟨by simp, fun t => ?_⟩))))))
      case b1 => rw [← e1]; kcf_all
      case b2 => kcf_all
      case b3 => kst_facts
      refine B_addT (vs := [strV [34], strV [39], strV [96]]) (ws := [strV [32]]) (quotes_seen hK) (.inl mem_hd) (by simp) (by simp) (by simp) (by simp) fun r => ?_
      refine Op2.is (C_notinT (ls := [[34], [39], [96], [32]]) (.inl mem_hd)) (Op1.is T_bool ⟨rfl, [_, _], rfl⟩)
    case a3 => exact PT_cmp (by kcf_all) (by kcf_all) C_notinS
    case a4 => exact PT_cmp (by kcf_all) (by kcf_all) C_notinS
  · keq_rows
    exact ⟨[_], rfl, by unfold fld3; rw [if_pos hb]; rfl, trivial⟩
  · obtain ⟨j, hj1, hj2⟩ := mk3_at n
    have h0 : 0 ≤ n.fmod 4 := Int.fmod_nonneg_of_pos _ (by decide)
    have h1 : n.fmod 4 < 4 := Int.fmod_lt_of_pos _ (by decide)
    have hd := dbl_len (mk3 n) v
    keq_rows
    refine PE.ev (v := strV [mk3 n]) (PE_sub (o := .ref 137) (n := .int (n.fmod 4 - 1) 0) ?c1 ?c2 (S_tupS (quotes_seen hK) (by omega) (by omega) hj1 hj2)) ?_
    case c1 => kcf_all
    case c2 => kcf_all
    keq_rows
    refine EV_bin (EV_bin (PE.ev (v := strV [mk3 n]) ?d1 (EV_joinS ?d2 ?_)))
    case d1 => kcf_all
    case d2 => kcf_all
    refine EV_comp (gl := []) (cs1 := (f "mark", cellAt (some (strV [mk3 n]))) :: cs) (strIt v) v.length (fun j => strV [v.getD j 0]) (fun _ => true) (fun j => strV (dbl1 (mk3 n) (v.getD j 0))) f ?it ?self ?nxt ?z (by decide) rfl (by decide) rfl (by simp) ?fr (.inl ⟨rfl, fun _ => rfl⟩) ?el ?q
    case it =>
      refine PE.ev (v := strV v) ?e1 (I_str (by simp) fun it => ⟨it, rfl, rfl⟩)
      case e1 => kcf_all
    case self => exact fun ia cs2 => I_self_str ia cs2
    case nxt =>
      intro ia j hj hA R s it' hit hs
      refine noE (N_str (l := v) (j := j) hA R s it' hit hs) ?_
      rintro r s2 ⟨cs2, h2, q2⟩
      refine ⟨cs2, h2, ?_⟩
      cases hr : r.map nv with
      | none => rw [hr] at q2; exact ⟨Nat.le_antisymm hj q2.1, q2.2⟩
      | some v => rw [hr] at q2; exact q2
    case z => omega
    case fr =>
      intro y hy hf
      simp only [List.mem_cons, List.not_mem_nil, or_false] at hy
      rcases hy with rfl | rfl | rfl
      · cases hf
      · cases hf
      · exact ⟨hm, rfl⟩
    case el =>
      intro i2 ia D E1 j hj _ hg2 hf2
      have hm2 : COk i2 "mark" (f "mark") := hf2 ("mark", .free) (by simp) rfl
      unfold dbl1
      kcf_all
    case q =>
      intro rr
      have e1 : ((List.range v.length).filter fun _ => true) = List.range v.length := List.filter_eq_self.mpr fun _ _ => rfl
      have e2 : (List.range v.length).map (fun j => dbl1 (mk3 n) (v.getD j 0)) = dbl (mk3 n) v := by
        apply List.ext_getElem?
        intro j
        unfold dbl
        rw [List.getElem?_map, List.getElem?_map]
        by_cases h : j < v.length
        · rw [List.getElem?_range h, List.getElem?_eq_getElem h, Option.map_some, Option.map_some, List.getD_eq_getElem?_getD, List.getElem?_eq_getElem h]; rfl
        · rw [List.getElem?_eq_none (by simpa using h), List.getElem?_eq_none (by simpa using h)]; rfl
      refine ⟨rr, dbl (mk3 n) v, rfl, ?_, by omega, by unfold dbl; rw [List.length_map]; omega, ?_⟩
      · rw [e1, ← e2, List.map_map]
        exact List.mem_cons_self
      · keq_rows
        refine ⟨[_, _], rfl, ?_, trivial⟩
        unfold fld3
        rw [if_neg (by rw [hb]; simp)]
        rfl
theorem colOf_zero (l : List Nat) : colOf l 0 = (l.reverse.takeWhile (· != 10)).length := by
  unfold colOf
  split
  · rfl
  · rename_i h
    have := List.takeWhile_append_of_pos (p := (· != 10)) (l₁ := l.reverse) (l₂ := []) (by intro x hx; simp at hx ⊢; exact fun e => h (e ▸ hx))
    have e : l.reverse.takeWhile (· != 10) = l.reverse := by simpa using this
    rw [e]; simp
def end3 (turn : Int) (j : Nat) : List Nat := ends3.getD ((turn + j).fmod 3).toNat []
def wr1 (turn : Int) (raw : List Nat) (j x : Nat) : List Nat :=
  if x = 10 then raw ++ (if ((end3 turn j == [10]) && ((sl raw (some (-1)) none == [13]) && true)) = true then [13, 10] else end3 turn j) else raw ++ [x]
def wrt (turn : Int) (raw L : List Nat) : List Nat := L.zipIdx.foldl (fun r p => wr1 turn r p.2 p.1) raw
theorem wrt_snoc (turn : Int) (raw L : List Nat) (x : Nat) : wrt turn raw (L ++ [x]) = wr1 turn (wrt turn raw L) L.length x := by
  unfold wrt
  rw [List.zipIdx_append, List.foldl_append]
  simp
theorem end3_at (turn : Int) (j : Nat) : 0 ≤ (turn + j).fmod 3 ∧ (ends3.map strV)[((turn + j).fmod 3).toNat]? = some (strV (end3 turn j)) ∧ (end3 turn j).length ≤ 2 := by
  have h0 : 0 ≤ (turn + j).fmod 3 := Int.fmod_nonneg_of_pos _ (by decide)
  have h1 : (turn + j).fmod 3 < 3 := Int.fmod_lt_of_pos _ (by decide)
  refine ⟨h0, ?_⟩
  unfold end3
  generalize (turn + j).fmod 3 = q at h0 h1
  obtain rfl | rfl | rfl : q = 0 ∨ q = 1 ∨ q = 2 := by omega
  · exact ⟨rfl, by decide⟩
  · exact ⟨rfl, by decide⟩
  · exact ⟨rfl, by decide⟩
theorem wr1_len (turn : Int) (raw : List Nat) (j x : Nat) : (wr1 turn raw j x).length ≤ raw.length + 2 := by
  have h := (end3_at turn j).2.2
  unfold wr1
  split
  · rw [List.length_append]
    split
    · simp
    · omega
  · simp
theorem wrt_len (turn : Int) (raw : List Nat) : ∀ (n : Nat) (L : List Nat), L.length = n → (wrt turn raw L).length ≤ raw.length + 2 * n
  | 0, L, h => by rw [List.eq_nil_of_length_eq_zero h]; exact Nat.le_refl _
  | n + 1, L, h => by
    have hne : L ≠ [] := fun q => by rw [q] at h; cases h
    obtain ⟨d, x, rfl⟩ : ∃ d x, L = d ++ [x] := ⟨L.dropLast, L.getLast hne, (List.dropLast_concat_getLast hne).symm⟩
    rw [List.length_append, List.length_singleton] at h
    have := wrt_len turn raw n d (by omega)
    have h2 := wr1_len turn (wrt turn raw d) d.length x
    rw [wrt_snoc]; omega
theorem written_spec {c : Cx} (hK : c.K = heapW c.w.params) [pf : PF c] [pl : PL3 c] {A : Around} {turn : Int} {raw text : List Nat} {cs : List Chunk} (hz : raw.length + 2 * text.length ≤ 900000) (hne : cs ≠ []) :
    CodeV c A 3 cs (.ref 168) [strV raw, strV text, .int turn 0] (fun v cs' => v = strV (wrt turn raw text) ∧ cs' = cs) := by
  refine K_fn (k := 2) (by rw [hK]; k_is) (by rw [hK]; k_is) ["raw", "text", "turn"] ["j", "sign", "end"] ["enumerate", "_law_ENDS"] [] (fun s vs _ h => by refine bnd3 h fun a b d => ?_; exact .of_eq rfl) rfl (by decide) (by decide) (by decide) (by decide) rfl rfl rfl hne ?_
  intro i hg
  conv => arg 6; whnf
  simp only [locals0, List.zip_cons_cons, List.zip_nil_right, List.map_cons, List.map_nil, List.append_nil, List.cons_append, List.nil_append]
  refine EXS_cons ?_
  refine EX_thenE (ι := Option Value × Option Value × Option Value) (fun o => [("raw", some (strV (wrt turn raw text))), ("text", some (strV text)), ("turn", some (.int turn 0)), ("j", o.1), ("sign", o.2.1), ("end", o.2.2)]) (fun _ => cs) ?_ ?_
  · refine' EX_for_enumS (l := text) (fun j m1 cs1 => ∃ o : Option Value × Option Value × Option Value, m1 = ([("raw", some (strV (wrt turn raw (text.take j)))), ("text", some (strV text)), ("turn", some (.int turn 0)), ("j", o.1), ("sign", o.2.1), ("end", o.2.2)] : Fields) ∧ cs1 = cs) hg (by kba_ints) PL3.enumerate ?q1 hne ⟨(none, none, none), rfl, rfl⟩ ?q2 ?q3
    case q1 => kcf_all
    case q3 =>
      rintro m1 cs1 z ⟨o, rfl, rfl⟩
      rw [List.take_length]
      exact ⟨rfl, o, rfl, rfl⟩
    case q2 =>
      rintro j x m1 cs1 hx z ⟨o, rfl, rfl⟩
      have hj := (List.getElem?_eq_some_iff.mp hx).1
      have hw := wrt_len turn raw j (text.take j) (by rw [List.length_take]; omega)
      have hsn : wrt turn raw (text.take (j + 1)) = wr1 turn (wrt turn raw (text.take j)) j x := by
        rw [List.take_succ, hx]
        have := wrt_snoc turn raw (text.take j) x
        rw [List.length_take, Nat.min_eq_left (by omega)] at this
        exact this
      rw [hsn]
      generalize wrt turn raw (text.take j) = W at hw ⊢
      clear hsn
      have hW : W.length ≤ 900000 := by omega
      obtain ⟨h0, he, hl⟩ := end3_at turn j
      unfold wr1
      generalize end3 turn j = E at he hl ⊢
      keq_rows
      kpf_c
      refine ⟨fun e => ?_, fun e => ?_⟩
      · have e1 : x = 10 := by simpa using e
        rw [if_pos e1]
        keq_rows
        refine EV.drop (EV_sub (EV_callK0' ?c1 PL3.kENDS ((ends_spec hK hne).mono ?_)))
        case c1 => kcf_all
        rintro v cs' ⟨t, rfl, rfl⟩
        refine PE.ev (v := .int ((turn + j).fmod 3) 0) ?c2 (Op2.is (S_list (a := t) (vs := ends3.map strV) mem_hd h0 (by decide) he) ⟨_, _, .head, ?_⟩)
        case c2 => kcf_all
        have hI : ∀ b : Bool, (if b = true then [13, 10] else E).length ≤ 2 := by
          intro b; cases b
          · exact hl
          · exact Nat.le_refl _
        keq_rows
        refine Op2.is (I_adds (Nat.le_trans (Nat.add_le_add_left (hI _) _) (by omega))) ?_
        keq_rows
        exact ⟨(_, _, _), rfl, rfl⟩
      · have e1 : x ≠ 10 := by simpa using e
        rw [if_neg e1]
        keq_rows
        exact ⟨(_, _, _), rfl, rfl⟩
  · rintro o
    keq_rows
    exact ⟨rfl, rfl⟩
theorem spot_spec {c : Cx} (hK : c.K = heapW c.w.params) [pf : PF c] [pl : PL3 c] {A : Around} {page : List Nat} {cs : List Chunk} (hz : page.length ≤ 5000) (hne : cs ≠ []) :
    CodeV c A 2 cs (.ref 175) [strV page] (fun v cs' => ∃ t, v = .ref t ∧ cs' = (t, .tup [.int (page.count 10 + 1 : Nat) 0, .int (colOf page 0 : Nat) 0]) :: cs) := by
  obtain ⟨ps, p, e1, e2⟩ := spl_last 10 page
  have hlen : (spl 10 page).length ≤ 5001 := by
    rw [spl_len]
    have : page.count 10 ≤ page.length := List.count_le_length
    omega
  have hp : p.length ≤ 5000 := by
    rw [e2]
    exact Nat.le_trans (List.takeWhile_sublist _).length_le (by rw [List.length_reverse]; exact hz)
  refine CodeV.drop ?_
  refine K_fn (k := 1) (by rw [hK]; k_is) (by rw [hK]; k_is) ["page"] ["lines"] ["len"] [] (fun s vs _ h => by refine bnd1 h fun a => ?_; exact .of_eq rfl) rfl (by decide) (by decide) (by decide) (by decide) rfl rfl rfl hne ?_
  intro i hg
  conv => arg 6; whnf
  simp only [locals0, List.zip_cons_cons, List.zip_nil_right, List.map_cons, List.map_nil, List.append_nil, List.cons_append, List.nil_append]
  keq_rows
  refine' EV_split (l := page) (a := 10) ?a1 ?a6 ?a7 ?a8 ?a9
  case a1 => kcf_all
  case a6 => kcf_all
  case a7 => exact hne
  case a8 => omega
  intro r
  rw [e1, List.map_append, List.map_cons, List.map_nil]
  have hl1 : (ps.map strV ++ [strV p]).length = page.count 10 + 1 := by
    have := spl_len 10 page
    rw [e1] at this
    simpa using this
  have hpl : ps.length ≤ 5001 := by simp at hl1; have : page.count 10 ≤ page.length := List.count_le_length; omega
  keq_rows
  rw [hl1]
  refine ⟨by simp, fun t => ?_⟩
  keq_rows
  refine ⟨_, _, .tail .head, t, rfl, ?_⟩
  rw [colOf_zero, ← e2]
abbrev oneV (x : Nat) : Value := strV [x]
theorem filled_spec {c : Cx} (hK : c.K = heapW c.w.params) [pf : PF c] [pl : PL3 c] {A : Around} {r : Addr} {vs : List Value} {signs : List Nat} (hz : vs.length ≤ 1000) (hs : signs.length ≤ 1000) :
    CodeV c A 2 [(r, .list vs)] (.ref 182) [.ref r, strV signs] (fun v cs' => v = .ref r ∧ cs' = [(r, .list (signs.map oneV))]) := by
  refine K_fn (k := 1) (by rw [hK]; k_is) (by rw [hK]; k_is) ["row", "signs"] [] [] [] (fun s vs _ h => by refine bnd2 h fun a b => ?_; exact .of_eq rfl) rfl (by decide) (by decide) (by decide) (by decide) rfl rfl rfl (by simp) ?_
  intro i hg
  conv => arg 6; whnf
  simp only [locals0, List.zip_cons_cons, List.zip_nil_right, List.map_cons, List.map_nil, List.append_nil, List.cons_append, List.nil_append]
  refine' EX.thenR (m₁ := [("row", some (.ref r)), ("signs", some (strV signs))]) (cs₁ := [(r, .list [])]) ?X ?Y
  case X =>
    refine EX_while (n := vs.length) (fun k m1 cs1 => ∃ ws : List Value, ws.length = k ∧ k ≤ 1000 ∧ m1 = ([("row", some (.ref r)), ("signs", some (strV signs))] : Fields) ∧ cs1 = [(r, .list ws)]) ⟨vs, rfl, hz, rfl, rfl⟩ ?_
    rintro k m1 cs1 z ⟨ws, rfl, hk, rfl, rfl⟩
    refine' PT.tv ?p1 ?p2
    case p1 => kd_in
    refine ⟨fun e => ?_, fun e => ?_⟩
    · have hne : ws ≠ [] := fun q => by rw [q] at e; cases e
      obtain ⟨d, x, rfl⟩ : ∃ d x, ws = d ++ [x] := ⟨ws.dropLast, ws.getLast hne, (List.dropLast_concat_getLast hne).symm⟩
      rw [List.length_append, List.length_singleton] at hk
      keq_rows
      refine EV_pop (vs := d) (v := x) ?a1 mem_hd .head (by omega) ?_
      case a1 => kcf_all
      keq_rows
      exact ⟨d.length, by simp, d, rfl, by omega, rfl, rfl⟩
    · have : ws = [] := by cases ws with
        | nil => rfl
        | cons _ _ => cases e
      subst this
      exact ⟨rfl, rfl, rfl⟩
  case Y =>
  keq_rows
  refine EV_extendS (l := signs) ?b1 ?b2 mem_hd .head (by omega) ?_
  case b1 => kcf_all
  case b2 => kcf_all
  keq_rows
  exact ⟨rfl, rfl⟩
/- ## law 03, in plain lists: what the stream gives of what is unread -/
def NoSur (text : List Nat) : Prop := ∀ x ∈ text, x < 55296 ∨ 57343 < x
theorem drop_take_mid {α : Type} (l : List α) (a b : Nat) (h : a ≤ b) : (l.drop a).take (b - a) = (l.take b).drop a := by
  rw [List.drop_take]
theorem colOf_append (G l : List Nat) : colOf (G ++ l) 0 = colOf l (colOf G 0) := by
  unfold colOf
  by_cases h : 10 ∈ l
  · rw [if_pos (List.mem_append_right _ h), if_pos h]
    obtain ⟨v, u, e, hv⟩ := List.eq_append_cons_of_mem (List.mem_reverse.mpr h)
    have : (G ++ l).reverse = v ++ 10 :: (u ++ G.reverse) := by rw [List.reverse_append, e]; simp
    rw [this, e]
    have hp : ∀ x ∈ v, (x != 10) = true := fun x hx => by simp; exact fun q => hv (q ▸ hx)
    rw [List.takeWhile_append_of_pos hp, List.takeWhile_append_of_pos hp]
    simp
  · rw [if_neg h]
    by_cases hG : 10 ∈ G
    · rw [if_pos (List.mem_append_left _ hG), if_pos hG, List.reverse_append]
      have hp : ∀ x ∈ l.reverse, (x != 10) = true := fun x hx => by simp at hx ⊢; exact fun q => h (q ▸ hx)
      rw [List.takeWhile_append_of_pos hp, List.length_append, List.length_reverse]; omega
    · rw [if_neg (by simp [h, hG]), if_neg hG, List.length_append]; omega
theorem cut_eq {text : List Nat} {asked s1 cut : Nat} (ns : NoSur text) (ha : asked ≤ text.length) (hs : s1 ≤ asked) (hc : cut = if s1 + 1 < asked ∧ text[asked - 1]? = some 13 then asked - 1 else asked) :
    cutD ((text.take asked).drop s1) = (text.take cut).drop s1 ∧ heldD ((text.take asked).drop s1) = (text.drop cut).take (asked - cut) ∧ s1 ≤ cut ∧ cut ≤ asked ∧ asked ≤ cut + 1 ∧ (s1 < asked → s1 < cut) := by
  revert hc
  have hlen : ((text.take asked).drop s1).length = asked - s1 := by rw [List.length_drop, List.length_take, Nat.min_eq_left ha]
  have hlast : s1 < asked → ∃ x, text[asked - 1]? = some x ∧ x ∈ text ∧ ((text.take asked).drop s1).getLastD 0 = x := by
    intro hlt
    have hlt2 : asked - 1 < text.length := Nat.lt_of_lt_of_le (Nat.sub_lt (Nat.lt_of_le_of_lt (Nat.zero_le _) hlt) Nat.one_pos) ha
    refine ⟨text[asked - 1], List.getElem?_eq_getElem hlt2, List.getElem_mem _, ?_⟩
    rw [List.getLastD_eq_getLast?, List.getLast?_eq_getElem?, hlen, List.getElem?_drop, List.getElem?_take, if_pos (by omega), show s1 + (asked - s1 - 1) = asked - 1 by omega, List.getElem?_eq_getElem hlt2]
    rfl
  have hh : holds ((text.take asked).drop s1) = decide (s1 + 1 < asked ∧ text[asked - 1]? = some 13) := by
    unfold holds
    rw [hlen]
    by_cases h1 : 1 < asked - s1
    · obtain ⟨x, e1, e2, e3⟩ := hlast (by omega)
      have := ns x e2
      rw [e3, e1]
      rw [Bool.eq_iff_iff]
      simp only [Bool.and_eq_true, decide_eq_true_eq, Bool.or_eq_true, beq_iff_eq, Option.some.injEq]
      omega
    · rw [decide_eq_false h1, decide_eq_false (fun q => by omega)]; rfl
  intro hc
  unfold cutD heldD
  rw [hh]
  by_cases hq : s1 + 1 < asked ∧ text[asked - 1]? = some 13
  · rw [if_pos hq] at hc
    subst hc
    rw [decide_eq_true hq, if_pos rfl, if_pos rfl]
    obtain ⟨x, e1, e2, e3⟩ := hlast (by omega)
    refine ⟨?_, ?_, by omega, by omega, by omega, by omega⟩
    · rw [List.dropLast_eq_take, hlen, List.drop_take, List.drop_take, List.take_take]; congr 1; omega
    · rw [e3, show asked - (asked - 1) = 1 by omega]
      have hlt2 : asked - 1 < text.length := by omega
      rw [List.drop_eq_getElem_cons hlt2]
      rw [List.getElem?_eq_getElem hlt2] at e1
      cases e1
      rfl
  · rw [if_neg hq] at hc
    subst hc
    rw [decide_eq_false hq, if_neg (by simp), if_neg (by simp)]
    refine ⟨rfl, by simp, hs, Nat.le_refl _, by omega, fun q => q⟩
theorem rep2_append : ∀ (n : Nat) (a b : List Nat), a.length ≤ n → ¬ (a.getLast? = some 13 ∧ b.head? = some 10) → rep2 (a ++ b) = rep2 a ++ rep2 b
  | _, [], b, _, _ => rfl
  | _, [x], b, _, h => by
    cases b with
    | nil => simp [rep2]
    | cons y r =>
      show rep2 (x :: y :: r) = rep2 [x] ++ _
      rw [rep2_cc, if_neg (fun q => h (by simp [q.1, q.2]))]; rfl
  | 0, x :: y :: r, b, hn, _ => by simp at hn
  | n + 1, x :: y :: r, b, hn, h => by
    simp only [List.length_cons] at hn
    have h1 := rep2_append n r b (by omega) (fun q => h ⟨by
      cases r with
      | nil => cases q.1
      | cons z w => rw [List.getLast?_cons_cons, List.getLast?_cons_cons]; exact q.1, q.2⟩)
    have h2 := rep2_append n (y :: r) b (by simp only [List.length_cons]; omega) (fun q => h ⟨by rw [List.getLast?_cons_cons]; exact q.1, q.2⟩)
    show rep2 (x :: y :: (r ++ b)) = _
    rw [rep2_cc, rep2_cc]
    split
    · rw [h1]; rfl
    · have : rep2 (y :: (r ++ b)) = rep2 (y :: r) ++ rep2 b := h2
      rw [this]; rfl
theorem norm_append {a b : List Nat} (h : ¬ (a.getLast? = some 13 ∧ b.head? = some 10)) : norm (a ++ b) = norm a ++ norm b := by
  unfold norm
  rw [rep2_append a.length a b (Nat.le_refl _) h, List.map_append]
theorem norm_ne {l : List Nat} (h : l ≠ []) : norm l ≠ [] := by unfold norm; simp only [ne_eq, List.map_eq_nil_iff]; exact rep2_ne h
/-- what the stream's state says of what went by and what is unread -/
structure R3 (text : List Nat) (s1 : Nat) (z : SS) (gone rem : List Nat) : Prop where
  src : z.src = text
  place : z.place ≤ text.length
  low : s1 ≤ z.place
  one : z.place ≤ s1 + 1
  buf : z.buf = (text.drop s1).take (z.place - s1)
  off : z.off ≤ z.chunk.length
  chunk : z.chunk.length ≤ text.length
  rem : rem = z.chunk.drop z.off ++ norm (text.drop s1)
  gone : ∃ G, gone = G ++ z.chunk.take z.off ∧ z.pl = G.count 10 ∧ z.pc = colOf G 0
  errs : z.errs = (text.take s1).countP faulty
  dcs : 2 ≤ z.dcs
theorem r3_good {text : List Nat} {s1 : Nat} {z : SS} {gone rem : List Nat} (R : R3 text s1 z gone rem) (ht : text.length ≤ 900) (hd : z.dcs ≤ 900) : Good z := by
  have h0 := R.place
  have h1 := R.low
  have h2 := R.one
  have h3 := R.chunk
  have hb : z.buf.length ≤ z.place - s1 := by rw [R.buf, List.length_take]; omega
  have he : z.errs ≤ s1 := by
    rw [R.errs]
    refine Nat.le_trans List.countP_le_length ?_
    rw [List.length_take]; omega
  exact ⟨by rw [R.src]; exact ht, by rw [R.src]; exact h0, hd, by omega, by omega, by omega, R.off⟩
theorem r3_dcs {text : List Nat} {s1 : Nat} {z : SS} {gone rem : List Nat} (R : R3 text s1 z gone rem) {k : Nat} (hk : 2 ≤ k) : R3 text s1 { z with dcs := k } gone rem :=
  ⟨R.src, R.place, R.low, R.one, R.buf, R.off, R.chunk, R.rem, R.gone, R.errs, hk⟩
theorem r3_pos {text : List Nat} {s1 : Nat} {z : SS} {gone rem : List Nat} (R : R3 text s1 z gone rem) : z.pl + (z.chunk.take z.off).count 10 = gone.count 10 ∧ colOf (z.chunk.take z.off) z.pc = colOf gone 0 := by
  obtain ⟨G, g1, g2, g3⟩ := R.gone
  rw [g1, g2, g3, List.count_append, colOf_append]
  exact ⟨rfl, rfl⟩
theorem data_eq {text : List Nat} {s1 : Nat} {z : SS} {gone rem : List Nat} (R : R3 text s1 z gone rem) : z.buf ++ (z.src.drop z.place).take z.dcs = (text.take (min (z.place + z.dcs) text.length)).drop s1 := by
  rw [R.buf, R.src, drop_take_mid _ _ _ R.low]
  have h0 := R.place
  have h1 := R.low
  have e1 : (text.take z.place).drop s1 ++ (text.drop z.place).take z.dcs = ((text.take z.place) ++ (text.drop z.place).take z.dcs).drop s1 := by
    rw [List.drop_append_of_le_length (by rw [List.length_take]; omega)]
  rw [e1, ← List.take_add]
  congr 1
  rw [List.take_eq_take_iff]
  omega
/-- the next piece is filled in -/
theorem r3_read {text : List Nat} {s1 : Nat} {z : SS} {gone rem : List Nat} (ns : NoSur text) (R : R3 text s1 z gone rem) (ho : z.off = z.chunk.length) :
    ∃ s2, R3 text s2 (rdc z).2 gone rem ∧ ((rdc z).1 = true → s1 < s2 ∧ (rdc z).2.chunk ≠ []) ∧ ((rdc z).1 = false → rem = [] ∧ s2 = text.length) := by
  have h0 := R.place
  have h1 := R.low
  have h3 := R.one
  have h2 := R.dcs
  obtain ⟨asked, e1⟩ : ∃ asked, asked = min (z.place + z.dcs) text.length := ⟨_, rfl⟩
  obtain ⟨cut, e2⟩ : ∃ cut, cut = if s1 + 1 < asked ∧ text[asked - 1]? = some 13 then asked - 1 else asked := ⟨_, rfl⟩
  have hle : asked ≤ text.length := by omega
  have hs : s1 ≤ asked := by omega
  obtain ⟨c1, c2, c3, c4, c5, c6⟩ := cut_eq ns hle hs e2
  have hd := data_eq R
  rw [← e1] at hd
  have hcl : ((text.take cut).drop s1).length = cut - s1 := by rw [List.length_drop, List.length_take, Nat.min_eq_left (Nat.le_trans c4 hle)]
  have hdl : ((text.take asked).drop s1).length = asked - s1 := by rw [List.length_drop, List.length_take, Nat.min_eq_left hle]
  obtain ⟨G, g1, g2, g3⟩ := R.gone
  rw [ho, List.take_length] at g1
  have hpl : z.pl + z.chunk.count 10 = gone.count 10 := by rw [g1, g2, List.count_append]
  have hpc : colOf z.chunk z.pc = colOf gone 0 := by rw [g1, g3, colOf_append]
  have hrem : rem = norm (text.drop s1) := by rw [R.rem, ho, List.drop_length, List.nil_append]
  have hcount : (text.take s1).countP faulty + ((text.take cut).drop s1).countP faulty = (text.take cut).countP faulty := by
    rw [← List.countP_append]
    congr 1
    have := List.take_append_drop s1 (text.take cut)
    rw [List.take_take, Nat.min_eq_left c3] at this
    exact this
  unfold rdc
  simp only [hd]
  by_cases hemp : (text.take asked).drop s1 = []
  · rw [if_pos hemp]
    rw [hemp, List.length_nil] at hdl
    have e4 : s1 = text.length := by omega
    refine ⟨text.length, ⟨R.src, ?_, ?_, ?_, ?_, Nat.zero_le _, Nat.zero_le _, ?_, ⟨gone, by simp, hpl, hpc⟩, ?_, h2⟩, by simp, fun _ => ⟨?_, rfl⟩⟩
    · show min (z.place + z.dcs) z.src.length ≤ _
      rw [R.src]; omega
    · show _ ≤ min (z.place + z.dcs) z.src.length
      rw [R.src]; omega
    · show min (z.place + z.dcs) z.src.length ≤ _
      rw [R.src]; omega
    · show [] = _
      rw [List.drop_length, List.take_nil]
    · show rem = [] ++ norm (text.drop text.length)
      rw [hrem, e4]; rfl
    · show z.errs = _
      rw [R.errs, e4]
    · rw [hrem, e4, List.drop_length]; rfl
  · rw [if_neg hemp]
    have hlt : s1 < asked := Nat.lt_of_le_of_ne hs fun q => hemp (List.length_eq_zero_iff.mp (by rw [hdl, ← q, Nat.sub_self]))
    have hcut := c6 hlt
    have hsplit : text.drop s1 = (text.take cut).drop s1 ++ text.drop cut := by
      have := List.take_append_drop cut text
      conv => lhs; rw [← this]
      rw [List.drop_append_of_le_length (by rw [List.length_take]; omega)]
    have hno : ¬ (((text.take cut).drop s1).getLast? = some 13 ∧ (text.drop cut).head? = some 10) := by
      rintro ⟨q1, q2⟩
      rw [List.getLast?_eq_getElem?, hcl, List.getElem?_drop, List.getElem?_take, if_pos (by omega), show s1 + (cut - s1 - 1) = cut - 1 by omega] at q1
      rw [List.head?_drop] at q2
      by_cases q : s1 + 1 < asked ∧ text[asked - 1]? = some 13
      · rw [if_pos q] at e2
        rw [e2] at q2
        rw [q.2] at q2; cases q2
      · rw [if_neg q] at e2
        have : asked < text.length := by
          have := (List.getElem?_eq_some_iff.mp q2).1
          omega
        rw [e2] at q1
        exact q ⟨by omega, q1⟩
    have hnorm : norm (text.drop s1) = norm ((text.take cut).drop s1) ++ norm (text.drop cut) := by
      rw [hsplit]; exact norm_append hno
    have hne : (text.take cut).drop s1 ≠ [] := fun q => by rw [q, List.length_nil] at hcl; omega
    refine ⟨cut, ⟨R.src, ?_, ?_, ?_, ?_, Nat.zero_le _, ?_, ?_, ⟨gone, by simp, hpl, hpc⟩, ?_, h2⟩, fun _ => ⟨hcut, ?_⟩, by simp⟩
    · show min (z.place + z.dcs) z.src.length ≤ _
      rw [R.src]; omega
    · show _ ≤ min (z.place + z.dcs) z.src.length
      rw [R.src]; omega
    · show min (z.place + z.dcs) z.src.length ≤ _
      rw [R.src]; omega
    · show heldD _ = (text.drop cut).take (min (z.place + z.dcs) z.src.length - cut)
      rw [R.src, ← e1]; exact c2
    · show (norm (cutD _)).length ≤ _
      rw [c1]
      refine Nat.le_trans (norm_le _) ?_
      rw [hcl]; omega
    · show rem = (norm (cutD _)).drop 0 ++ _
      rw [c1, hrem, hnorm]; rfl
    · show z.errs + (cutD ((text.take asked).drop s1)).countP faulty = _
      rw [c1, R.errs, hcount]
    · show norm (cutD _) ≠ []
      rw [c1]; exact norm_ne hne
theorem r3_pass {text : List Nat} {s1 : Nat} {z : SS} {gone rem g r : List Nat} (R : R3 text s1 z gone rem) (e : z.chunk.drop z.off = g ++ r) :
    rem = g ++ (r ++ norm (text.drop s1)) ∧ R3 text s1 { z with off := z.off + g.length } (gone ++ g) (r ++ norm (text.drop s1)) := by
  have ht : z.chunk.take (z.off + g.length) = z.chunk.take z.off ++ g := by rw [List.take_add, e, List.take_left']; rfl
  have hl := congrArg List.length e
  rw [List.length_append, List.length_drop] at hl
  have ho := R.off
  obtain ⟨G, g1, g2, g3⟩ := R.gone
  refine ⟨by rw [R.rem, e, List.append_assoc], R.src, R.place, R.low, R.one, R.buf, ?_, R.chunk, ?_, ⟨G, ?_, g2, g3⟩, R.errs, R.dcs⟩
  · show z.off + g.length ≤ z.chunk.length
    omega
  · show _ = z.chunk.drop (z.off + g.length) ++ _
    rw [← List.drop_drop, e, List.drop_left']; rfl
  · show gone ++ g = G ++ z.chunk.take (z.off + g.length)
    rw [g1, ht, List.append_assoc]
/-- one sign asked for, when the piece holds it -/
theorem r3_one {text : List Nat} {s1 : Nat} {z : SS} {gone rem : List Nat} {x : Nat} {q : List Nat} (R : R3 text s1 z gone rem) (e : z.chunk.drop z.off = x :: q) :
    ∃ r, rem = x :: r ∧ z.chunk[z.off]? = some x ∧ R3 text s1 { z with off := z.off + 1 } (gone ++ [x]) r := by
  obtain ⟨e1, R1⟩ := r3_pass (g := [x]) R e
  refine ⟨_, e1, ?_, R1⟩
  have : (z.chunk.drop z.off)[0]? = some x := by rw [e]; rfl
  rwa [List.getElem?_drop] at this
theorem r3_char {text : List Nat} {s1 : Nat} {z : SS} {gone rem : List Nat} (ns : NoSur text) (R : R3 text s1 z gone rem) :
    (chr1 z).1 = rem.head? ∧ (chr1 z).2.dcs = z.dcs ∧ (rem = [] → R3 text text.length (chr1 z).2 gone []) ∧
    ∀ x r, rem = x :: r → ∃ s2 n, R3 text s2 (chr1 z).2 (gone ++ [x]) r ∧ (chr1 z).2.off = n + 1 ∧ (chr1 z).2.chunk[n]? = some x ∧ R3 text s2 { (chr1 z).2 with off := n } gone (x :: r) := by
  cases hd : z.chunk.drop z.off with
  | cons x q =>
    obtain ⟨r, e, hx, R1⟩ := r3_one R hd
    have ec : chr1 z = (some x, { z with off := z.off + 1 }) := by unfold chr1; rw [hx]
    rw [ec]
    refine ⟨by rw [e]; rfl, rfl, fun h => (by rw [e] at h; cases h), fun x' r' h => ?_⟩
    rw [e] at h
    cases h
    exact ⟨s1, z.off, R1, rfl, hx, by rw [← e]; exact R⟩
  | nil =>
    have ho : z.off = z.chunk.length := by
      have := List.drop_eq_nil_iff.mp hd
      exact Nat.le_antisymm R.off this
    have hx : z.chunk[z.off]? = none := List.getElem?_eq_none (by omega)
    obtain ⟨s2, R2, t1, t2⟩ := r3_read ns R ho
    cases hr : (rdc z).1 with
    | false =>
      obtain ⟨e1, e2⟩ := t2 hr
      have ec : chr1 z = (none, (rdc z).2) := by unfold chr1; rw [hx]; simp only; rw [if_neg (by rw [hr]; simp)]
      rw [ec, e1]
      refine ⟨rfl, ?_, fun _ => by rw [e1, e2] at R2; exact R2, fun x r h => by cases h⟩
      unfold rdc; simp only; split <;> rfl
    | true =>
      obtain ⟨q1, q2⟩ := t1 hr
      obtain ⟨-, ho2⟩ := rdc_true hr
      obtain ⟨x, q, hxq⟩ := List.exists_cons_of_ne_nil q2
      obtain ⟨r, e, hx2, R3'⟩ := r3_one R2 (x := x) (q := q) (by rw [ho2, hxq]; rfl)
      rw [ho2] at hx2 R3'
      have ec : chr1 z = (some x, { (rdc z).2 with off := 1 }) := by unfold chr1; rw [hx]; simp only; rw [if_pos hr, hx2]
      rw [ec]
      refine ⟨by rw [e]; rfl, ?_, fun h => (by rw [e] at h; cases h), fun x' r' h => ?_⟩
      · show (rdc z).2.dcs = z.dcs
        unfold rdc; simp only; split <;> rfl
      rw [e] at h
      cases h
      refine ⟨s2, 0, R3', rfl, hx2, ?_⟩
      have : ({ (rdc z).2 with off := 0 } : SS) = (rdc z).2 := by
        revert ho2
        generalize (rdc z).2 = y
        intro ho2
        obtain ⟨a, b, c, d, e, f, g, h, i⟩ := y
        simp only at ho2
        subst ho2; rfl
      show R3 text s2 ({ (rdc z).2 with off := 0 } : SS) gone _
      rw [this, ← e]; exact R2
theorem rest_split (mt : Nat → Bool) (l : List Nat) : (∀ y ∈ l, mt y = true) ∨ ∃ g x r, l = g ++ x :: r ∧ (∀ y ∈ g, mt y = true) ∧ mt x = false := by
  induction l with
  | nil => exact .inl (by simp)
  | cons a l ih =>
    cases ha : mt a with
    | false => exact .inr ⟨[], a, l, rfl, by simp, ha⟩
    | true =>
      rcases ih with ih | ⟨g, x, r, e, h1, h2⟩
      · exact .inl fun y hy => by
          rcases List.mem_cons.mp hy with rfl | hy
          · exact ha
          · exact ih y hy
      · refine .inr ⟨a :: g, x, r, by rw [e]; rfl, fun y hy => ?_, h2⟩
        rcases List.mem_cons.mp hy with rfl | hy
        · exact ha
        · exact h1 y hy
theorem tw_stop {mt : Nat → Bool} {g r : List Nat} {x : Nat} (hg : ∀ y ∈ g, mt y = true) (hx : mt x = false) : (g ++ x :: r).takeWhile mt = g ∧ (g ++ x :: r).dropWhile mt = x :: r := by
  rw [List.takeWhile_append_of_pos hg, List.dropWhile_append_of_pos hg, List.takeWhile_cons, List.dropWhile_cons, hx]; simp
theorem tw_all {mt : Nat → Bool} : ∀ {l : List Nat}, (∀ y ∈ l, mt y = true) → l.takeWhile mt = l ∧ l.dropWhile mt = []
  | [], _ => ⟨rfl, rfl⟩
  | x :: r, h => by
    obtain ⟨h1, h2⟩ := tw_all (l := r) fun y hy => h y (List.mem_cons_of_mem _ hy)
    have hx := h x List.mem_cons_self
    exact ⟨by rw [List.takeWhile_cons, hx, h1]; rfl, by rw [List.dropWhile_cons, hx, h2]; rfl⟩
theorem rdc_dcs (z : SS) : (rdc z).2.dcs = z.dcs := by unfold rdc; simp only; split <;> rfl
theorem rdc_off (z : SS) (k : Nat) : rdc { z with off := k } = rdc z := rfl
theorem r3_run {text : List Nat} {mt : Nat → Bool} (ns : NoSur text) : ∀ (n : Nat) {s1 : Nat} {z : SS} {gone rem : List Nat}, text.length - s1 ≤ n → R3 text s1 z gone rem →
    ∃ s2 z2, CU mt n z (rem.takeWhile mt) z2 ∧ R3 text s2 z2 (gone ++ rem.takeWhile mt) (rem.dropWhile mt) ∧ z2.dcs = z.dcs := by
  intro n
  induction n with
  | zero =>
    intro s1 z gone rem hn R
    rcases rest_split mt (z.chunk.drop z.off) with hall | ⟨g, x, r, e, hg, hx⟩
    · obtain ⟨e1, R1⟩ := r3_pass (g := z.chunk.drop z.off) (r := []) R (by simp)
      have hlen : z.off + (z.chunk.drop z.off).length = z.chunk.length := by have := R.off; rw [List.length_drop]; omega
      obtain ⟨s2, R2, t1, t2⟩ := r3_read ns R1 hlen
      rw [rdc_off] at R2 t1 t2
      have hs2 : s2 ≤ text.length := Nat.le_trans R2.low R2.place
      cases hr : (rdc z).1 with
      | true => have := (t1 hr).1; omega
      | false =>
        obtain ⟨q1, q2⟩ := t2 hr
        rw [q1] at R2
        rw [List.nil_append] at q1 e1
        rw [q1, List.append_nil] at e1
        have w1 : rem.takeWhile mt = rem := by rw [e1]; exact (tw_all hall).1
        have w2 : rem.dropWhile mt = [] := by rw [e1]; exact (tw_all hall).2
        rw [w1, w2, e1]
        refine ⟨s2, (rdc z).2, .eof hall hr, ?_, rdc_dcs z⟩
        exact R2
    · obtain ⟨e1, R1⟩ := r3_pass R e
      obtain ⟨w1, w2⟩ := tw_stop (r := r ++ norm (text.drop s1)) hg hx
      have e2 : rem = g ++ x :: (r ++ norm (text.drop s1)) := e1
      rw [e2, w1, w2]
      exact ⟨s1, _, .stop e hg hx, R1, rfl⟩
  | succ n ih =>
    intro s1 z gone rem hn R
    rcases rest_split mt (z.chunk.drop z.off) with hall | ⟨g, x, r, e, hg, hx⟩
    · obtain ⟨e1, R1⟩ := r3_pass (g := z.chunk.drop z.off) (r := []) R (by simp)
      have hlen : z.off + (z.chunk.drop z.off).length = z.chunk.length := by have := R.off; rw [List.length_drop]; omega
      obtain ⟨s2, R2, t1, t2⟩ := r3_read ns R1 hlen
      rw [rdc_off] at R2 t1 t2
      cases hr : (rdc z).1 with
      | true =>
        have hlt := (t1 hr).1
        obtain ⟨s3, z2, c, R4, q⟩ := ih (by omega) R2
        rw [List.nil_append] at e1 c R4
        have w1 : rem.takeWhile mt = z.chunk.drop z.off ++ (norm (text.drop s1)).takeWhile mt := by rw [e1, List.takeWhile_append_of_pos hall]
        have w2 : rem.dropWhile mt = (norm (text.drop s1)).dropWhile mt := by rw [e1, List.dropWhile_append_of_pos hall]
        rw [w1, w2]
        refine ⟨s3, z2, .more hall hr c, ?_, by rw [q, rdc_dcs]⟩
        rw [← List.append_assoc]; exact R4
      | false =>
        obtain ⟨q1, q2⟩ := t2 hr
        rw [q1] at R2
        rw [List.nil_append] at q1 e1
        rw [q1, List.append_nil] at e1
        have w1 : rem.takeWhile mt = rem := by rw [e1]; exact (tw_all hall).1
        have w2 : rem.dropWhile mt = [] := by rw [e1]; exact (tw_all hall).2
        rw [w1, w2, e1]
        refine ⟨s2, (rdc z).2, .eof hall hr, ?_, rdc_dcs z⟩
        exact R2
    · obtain ⟨e1, R1⟩ := r3_pass R e
      obtain ⟨w1, w2⟩ := tw_stop (r := r ++ norm (text.drop s1)) hg hx
      have e2 : rem = g ++ x :: (r ++ norm (text.drop s1)) := e1
      rw [e2, w1, w2]
      exact ⟨s1, _, .stop e hg hx, R1, rfl⟩
/- ## law 03: what is written is the page, its line ends in three kinds -/
theorem end3_cases (turn : Int) (j : Nat) : end3 turn j = [13, 10] ∨ end3 turn j = [13] ∨ end3 turn j = [10] := by
  have h0 : 0 ≤ (turn + j).fmod 3 := Int.fmod_nonneg_of_pos _ (by decide)
  have h1 : (turn + j).fmod 3 < 3 := Int.fmod_lt_of_pos _ (by decide)
  unfold end3
  generalize (turn + j).fmod 3 = q at h0 h1
  obtain rfl | rfl | rfl : q = 0 ∨ q = 1 ∨ q = 2 := by omega
  · exact .inl rfl
  · exact .inr (.inl rfl)
  · exact .inr (.inr rfl)
theorem sl_m1 (l : List Nat) : sl l (some (-1)) none = l.getLast?.toList := by
  cases h : l.getLast? with
  | none =>
    rw [List.getLast?_eq_none_iff.mp h]; rfl
  | some x =>
    obtain ⟨d, rfl⟩ := List.getLast?_eq_some_iff.mp h
    unfold sl lo0 hi0 cl
    simp
    rw [show (-1 + ((d.length : Int) + 1)).toNat = d.length by omega, show d.length + 1 - d.length = 1 by omega, List.drop_left']
    · rfl
    · rfl
theorem norm_keep {raw : List Nat} {x : Nat} (h10 : x ≠ 10) (h13 : x ≠ 13) : norm (raw ++ [x]) = norm raw ++ [x] := by
  rw [norm_append (by rintro ⟨-, q⟩; simp at q; exact h10 q)]
  congr 1
  show [crf x] = [x]
  unfold crf; rw [if_neg h13]
theorem norm_wr1 {turn : Int} {raw : List Nat} {j x : Nat} (h : x ≠ 13) : norm (wr1 turn raw j x) = norm raw ++ [x] := by
  unfold wr1
  by_cases hx : x = 10
  · rw [if_pos hx, sl_m1]
    subst hx
    rcases end3_cases turn j with e | e | e <;> rw [e]
    · rw [if_neg (by simp), norm_append (by simp)]; rfl
    · rw [if_neg (by simp), norm_append (by simp)]; rfl
    · by_cases q : raw.getLast? = some 13
      · rw [if_pos (by rw [q]; rfl), norm_append (by simp)]; rfl
      · have : (([10] == [10]) && ((raw.getLast?.toList == [13]) && true)) = false := by
          cases hl : raw.getLast? with
          | none => rfl
          | some y =>
            rw [hl] at q
            have : y ≠ 13 := fun e => q (by rw [e])
            simp [this]
        rw [this, if_neg (by simp), norm_append (by rintro ⟨q1, -⟩; exact q q1)]; rfl
  · rw [if_neg hx]; exact norm_keep hx h
theorem norm_wrt {turn : Int} {raw : List Nat} : ∀ (n : Nat) {L : List Nat}, L.length = n → (∀ x ∈ L, x ≠ 13) → norm (wrt turn raw L) = norm raw ++ L
  | 0, L, h, _ => by rw [List.eq_nil_of_length_eq_zero h, List.append_nil]; rfl
  | n + 1, L, h, hL => by
    have hne : L ≠ [] := fun q => by rw [q] at h; cases h
    obtain ⟨d, x, rfl⟩ : ∃ d x, L = d ++ [x] := ⟨L.dropLast, L.getLast hne, (List.dropLast_concat_getLast hne).symm⟩
    rw [List.length_append, List.length_singleton] at h
    rw [wrt_snoc, norm_wr1 (hL x (by simp)), norm_wrt n (by omega) fun y hy => hL y (List.mem_append_left _ hy), List.append_assoc]
theorem count_wr1 {turn : Int} {raw : List Nat} {j x : Nat} : (wr1 turn raw j x).countP faulty = raw.countP faulty + [x].countP faulty := by
  have f13 : faulty 13 = false := by decide
  have f10 : faulty 10 = false := by decide
  unfold wr1
  by_cases hx : x = 10
  · rw [if_pos hx, List.countP_append]
    subst hx
    have : ∀ b : Bool, (if b = true then [13, 10] else end3 turn j).countP faulty = [10].countP faulty := by
      intro b
      rcases end3_cases turn j with e | e | e <;> rw [e] <;> cases b <;> simp [f13, f10]
    rw [this]
  · rw [if_neg hx, List.countP_append]
theorem count_wrt {turn : Int} {raw : List Nat} : ∀ (n : Nat) {L : List Nat}, L.length = n → (wrt turn raw L).countP faulty = raw.countP faulty + L.countP faulty
  | 0, L, h => by rw [List.eq_nil_of_length_eq_zero h]; rfl
  | n + 1, L, h => by
    have hne : L ≠ [] := fun q => by rw [q] at h; cases h
    obtain ⟨d, x, rfl⟩ : ∃ d x, L = d ++ [x] := ⟨L.dropLast, L.getLast hne, (List.dropLast_concat_getLast hne).symm⟩
    rw [List.length_append, List.length_singleton] at h
    rw [wrt_snoc, count_wr1, count_wrt n (by omega), List.countP_append]; omega
/- ## the stream's methods, its chunks kept folded -/
section
variable {c : Cx} {i : Fi} {k : Nat} {m : Fields} {X : List Chunk} {a : SA} {z : SS} {nl : Addr} {o : Expr} {apos pos : Pos} {Q : Value → List Chunk → Prop}
theorem stm_hx : (a.st, AO.inst 131 a.sd) ∈ stm a z nl ++ X := List.mem_append_left _ mem_hd
theorem stm_hd : (a.sd, AO.obj (fldS a z nl)) ∈ stm a z nl ++ X := List.mem_append_left _ (mem_tl mem_hd)
theorem EV_charS (hK : c.K = heapW c.w.params) [pf : PF c] (hk : 5 ≤ k) (ho : PE c i k m (stm a z nl ++ X) o (.ref a.st)) (G : Good z) (q : Q (optV (chr1 z).1) (stm a (chr1 z).2 nl ++ X))
    (hc : MCall o "char" [] apos pos := by intro _; exact ⟨_, rfl⟩) : EV c i k m (stm a z nl ++ X) (.Call (.Attribute o "char" apos) [] [] pos) Q := by
  refine EV_instM0 (x := a.st) (C := 131) (d := a.sd) (f := 98) (fm := fldS a z nl) ho stm_hx stm_hd ?_ (PF.S.get _) PF.m_char (PF.fn _ (by decide)).1 (PF.fn _ (by decide)).2.1 (CodeV.by (char_spec hK (nl := nl) G) (R₀ := X) (List.Perm.refl _) hk ?_) hc
  · unfold fldS fldG; kba_ints
  · rintro v F' ⟨rfl, rfl⟩; exact q
theorem stm_take : Take (stm a z nl ++ X) (stmO a z nl) ([(a.ds, AO.inst 38 a.dd), (a.dd, AO.obj (fldT z)), (a.er, AO.list (List.replicate z.errs (strV errT))), (a.bm, AO.bm 113 a.st)] ++ X) := List.Perm.refl (stm a z nl ++ X)
theorem EV_ungetN (hK : c.K = heapW c.w.params) [pf : PF c] (hk : 2 ≤ k) {e : Expr} (ho : PE c i k m (stm a z nl ++ X) o (.ref a.st)) (he : PE c i k m (stm a z nl ++ X) e .none) (q : Q .none (stm a z nl ++ X))
    (hc : MCall o "unget" [e] apos pos := by intro _; exact ⟨_, rfl⟩) (hs : ∀ env, starEach [e] env = (false, eval e env) :: starEach [] env := by intro _; rfl) : EV c i k m (stm a z nl ++ X) (.Call (.Attribute o "unget" apos) [e] [] pos) Q := by
  refine EV_instM (x := a.st) (C := 131) (d := a.sd) (f := 128) (fm := fldS a z nl) ho (PEs_cons he PEs_nil hs) stm_hx stm_hd ?_ (PF.S.get _) PF.m_unget (PF.fn _ (by decide)).1 (PF.fn _ (by decide)).2.1
    (CodeV.by (unget_none hK (a := a) (z := z) (nl := nl)) stm_take hk ?_) hc hs
  · unfold fldS fldG; kba_ints
  · rintro v F' ⟨rfl, rfl⟩; exact q
theorem EV_ungetS (hK : c.K = heapW c.w.params) [pf : PF c] (hk : 2 ≤ k) {e : Expr} {x n : Nat} (hz : z.chunk.length ≤ 100000) (h0 : z.off = n + 1) (hx : z.chunk[n]? = some x) (ho : PE c i k m (stm a z nl ++ X) o (.ref a.st)) (he : PE c i k m (stm a z nl ++ X) e (strV [x])) (q : Q .none (stm a { z with off := n } nl ++ X))
    (hc : MCall o "unget" [e] apos pos := by intro _; exact ⟨_, rfl⟩) (hs : ∀ env, starEach [e] env = (false, eval e env) :: starEach [] env := by intro _; rfl) : EV c i k m (stm a z nl ++ X) (.Call (.Attribute o "unget" apos) [e] [] pos) Q := by
  refine EV_instM (x := a.st) (C := 131) (d := a.sd) (f := 128) (fm := fldS a z nl) ho (PEs_cons he PEs_nil hs) stm_hx stm_hd ?_ (PF.S.get _) PF.m_unget (PF.fn _ (by decide)).1 (PF.fn _ (by decide)).2.1
    (CodeV.by (unget_back hK (a := a) (z := z) (nl := nl) hz h0 hx) stm_take hk ?_) hc hs
  · unfold fldS fldG; kba_ints
  · rintro v F' ⟨rfl, rfl⟩; exact q
theorem EV_untilS (hK : c.K = heapW c.w.params) [pf : PF c] (hk : 6 ≤ k) {e : Expr} {f : Nat → Bool} {n : Nat} {res : List Nat} {z2 : SS} {r : Addr} (ho : PE c i k m (stm a z nl ++ X) o (.ref a.st)) (G : Good z) (hn : n ≤ 5000) (hres : res.length ≤ 100000) (hcu : CU (fun x => f x == false) n z res z2)
    (he : EV c i k m (stm a z nl ++ X) e (fun v cs2 => v = .ref r ∧ ∃ X2, cs2 = stm a z nl ++ X2 ∧ Row c X2 (.ref r) f ∧ Q (strV res) (stm a z2 nl ++ X2)))
    (hc : MCall o "charsUntil" [e] apos pos := by intro _; exact ⟨_, rfl⟩) (hs : ∀ env, starEach [e] env = (false, eval e env) :: starEach [] env := by intro _; rfl) : EV c i k m (stm a z nl ++ X) (.Call (.Attribute o "charsUntil" apos) [e] [] pos) Q := by
  refine EV_meth (PE.ev ho (M_fn (f := 121) (m := fldS a z nl) stm_hx stm_hd ?_ (PF.S.get _) PF.m_charsUntil (PF.fn _ (by decide)).1 ⟨.inr ⟨121, rfl, (PF.fn _ (by decide)).2.1⟩, EVs_cons (he.mono fun v cs2 h => ?_) hs⟩)) hc hs
  · unfold fldS fldG; kba_ints
  · obtain ⟨rfl, X2, rfl, hR, q⟩ := h
    refine EVs_nil (CodeV.call (CodeV.by (charsUntil_any hK (nl := nl) (args := [.ref a.st, .ref r]) (dfl := [.bool false]) (.inr ⟨rfl, rfl, rfl⟩) hR rfl G hn hres hcu) (R₀ := []) ?_ hk ?_))
    · exact Take.all (l := stm a z nl ++ X2)
    · rintro v F' ⟨rfl, rfl⟩; rw [List.append_nil]; exact q
theorem EV_untilT (hK : c.K = heapW c.w.params) [pf : PF c] (hk : 6 ≤ k) {e : Expr} {u : Nat} {p2 : Pos} {f : Nat → Bool} {n : Nat} {res : List Nat} {z2 : SS} {r : Addr} (ho : PE c i k m (stm a z nl ++ X) o (.ref a.st)) (G : Good z) (hn : n ≤ 5000) (hres : res.length ≤ 100000) (hcu : CU (fun x => f x == true) n z res z2)
    (he : EV c i k m (stm a z nl ++ X) e (fun v cs2 => v = .ref r ∧ ∃ X2, cs2 = stm a z nl ++ X2 ∧ Row c X2 (.ref r) f ∧ Q (strV res) (stm a z2 nl ++ X2)))
    (hc : MCall o "charsUntil" [e, .Constant (.bool true) u p2] apos pos := by intro _; exact ⟨_, rfl⟩) (hs : ∀ env, starEach [e, .Constant (.bool true) u p2] env = (false, eval e env) :: starEach [.Constant (.bool true) u p2] env := by intro _; rfl)
    (hs2 : ∀ env, starEach [.Constant (.bool true) u p2] env = (false, eval (.Constant (.bool true) u p2) env) :: starEach [] env := by intro _; rfl)
    (hp : ∀ pos env, (backTo pos (starEach [.Constant (.bool true) u p2] env)).any (·.1) = false := by intro _ _; rfl) : EV c i k m (stm a z nl ++ X) (.Call (.Attribute o "charsUntil" apos) [e, .Constant (.bool true) u p2] [] pos) Q := by
  refine EV_meth (PE.ev ho (M_fn (f := 121) (m := fldS a z nl) stm_hx stm_hd ?_ (PF.S.get _) PF.m_charsUntil (PF.fn _ (by decide)).1 ⟨.inr ⟨121, rfl, (PF.fn _ (by decide)).2.1⟩, EVs_cons (he.mono fun v cs2 h => ?_) hs⟩)) hc hs hp
  · unfold fldS fldG; kba_ints
  · obtain ⟨rfl, X2, rfl, hR, q⟩ := h
    refine EVs_cons (PE.ev PE_bool ?_) hs2
    refine EVs_nil (CodeV.call (CodeV.by (charsUntil_any hK (nl := nl) (args := [.ref a.st, .ref r, .bool true]) (dfl := []) (.inl ⟨rfl, rfl⟩) hR rfl G hn hres hcu) (R₀ := []) ?_ hk ?_))
    · exact Take.all (l := stm a z nl ++ X2)
    · rintro v F' ⟨rfl, rfl⟩; rw [List.append_nil]; exact q
theorem EV_posS (hK : c.K = heapW c.w.params) [pf : PF c] (hk : 3 ≤ k) (ho : PE c i k m (stm a z nl ++ X) o (.ref a.st)) (hz : z.chunk.length ≤ 100000) (h0 : z.off ≤ z.chunk.length)
    (q : ∀ t, Q (.ref t) ((t, .tup [.int (z.pl + (z.chunk.take z.off).count 10 + 1 : Nat) 0, .int (colOf (z.chunk.take z.off) z.pc : Nat) 0]) :: (stm a z nl ++ X)))
    (hc : MCall o "position" [] apos pos := by intro _; exact ⟨_, rfl⟩) : EV c i k m (stm a z nl ++ X) (.Call (.Attribute o "position" apos) [] [] pos) Q := by
  refine EV_instM0 (x := a.st) (C := 131) (d := a.sd) (f := 91) (fm := fldS a z nl) ho stm_hx stm_hd ?_ (PF.S.get _) PF.m_position (PF.fn _ (by decide)).1 (PF.fn _ (by decide)).2.1 (CodeV.by (position_spec hK (nl := nl) hz h0) stm_take hk ?_) hc
  · unfold fldS fldG; kba_ints
  · rintro v F' ⟨t, rfl, rfl⟩; exact q t
end
/- ## a field read -/
theorem r3_len {text : List Nat} {s1 : Nat} {z : SS} {gone rem : List Nat} (R : R3 text s1 z gone rem) : rem.length ≤ 2 * text.length := by
  have h1 := R.chunk
  have h2 := norm_le (text.drop s1)
  rw [R.rem, List.length_append, List.length_drop]
  rw [List.length_drop] at h2
  omega
theorem tw_len {α : Type} (p : α → Bool) (l : List α) : (l.takeWhile p).length ≤ l.length := (List.takeWhile_sublist p).length_le
theorem dbl_ne {q x : Nat} (h : x ≠ q) : dbl1 q x = [x] := by unfold dbl1; rw [if_neg (by simpa using h)]
theorem dbl_q (q : Nat) : dbl1 q q = [q, q] := by unfold dbl1; rw [if_pos (by simp)]; rfl
theorem isq_f {q x : Nat} : (decide (x ∈ [q]) == false) = decide (x ≠ q) := by
  by_cases h : x = q <;> simp [h]
theorem dbl_run (q : Nat) (rest : List Nat) : ∀ v : List Nat, ((dbl q v).flatten ++ q :: rest).takeWhile (fun x => decide (x ∈ [q]) == false) = v.takeWhile (fun x => decide (x ∈ [q]) == false) ∧
    ((dbl q v).flatten ++ q :: rest).dropWhile (fun x => decide (x ∈ [q]) == false) = (dbl q (v.dropWhile fun x => decide (x ∈ [q]) == false)).flatten ++ q :: rest
  | [] => by
    have e : (decide (q ∈ [q]) == false) = false := by rw [isq_f]; simp
    show (q :: rest).takeWhile _ = _ ∧ (q :: rest).dropWhile _ = _
    rw [List.takeWhile_cons, List.dropWhile_cons, e]; exact ⟨rfl, rfl⟩
  | x :: v => by
    obtain ⟨h1, h2⟩ := dbl_run q rest v
    by_cases h : x = q
    · subst h
      have e : (decide (x ∈ [x]) == false) = false := by rw [isq_f]; simp
      have e2 : (dbl x (x :: v)).flatten ++ x :: rest = x :: (x :: ((dbl x v).flatten ++ x :: rest)) := by
        show (dbl1 x x ++ (dbl x v).flatten) ++ _ = _
        rw [dbl_q]; rfl
      have w1 : (x :: v).takeWhile (fun y => decide (y ∈ [x]) == false) = [] := by rw [List.takeWhile_cons, e]; rfl
      have w2 : (x :: v).dropWhile (fun y => decide (y ∈ [x]) == false) = x :: v := by rw [List.dropWhile_cons, e]; rfl
      rw [w1, w2, e2, List.takeWhile_cons, List.dropWhile_cons, e]
      exact ⟨rfl, rfl⟩
    · have e : (decide (x ∈ [q]) == false) = true := by rw [isq_f]; simpa using h
      have e2 : (dbl q (x :: v)).flatten ++ q :: rest = x :: ((dbl q v).flatten ++ q :: rest) := by
        show (dbl1 q x ++ (dbl q v).flatten) ++ _ = _
        rw [dbl_ne h]; rfl
      rw [e2, List.takeWhile_cons, List.dropWhile_cons, List.takeWhile_cons, List.dropWhile_cons, e]
      simp only [if_true]
      rw [h1, h2]; exact ⟨rfl, rfl⟩
theorem drop_head (q : Nat) : ∀ v : List Nat, (v.dropWhile fun x => decide (x ∈ [q]) == false) = [] ∨ ∃ w, (v.dropWhile fun x => decide (x ∈ [q]) == false) = q :: w
  | [] => .inl rfl
  | x :: v => by
    rw [List.dropWhile_cons]
    by_cases h : x = q
    · have e : (decide (x ∈ [q]) == false) = false := by rw [isq_f]; simp [h]
      rw [e, h]; exact .inr ⟨v, rfl⟩
    · have e : (decide (x ∈ [q]) == false) = true := by rw [isq_f]; simpa using h
      rw [e]; exact drop_head q v
/- ## the row is filled anew, and the stream read by it -/
section
variable {c : Cx} {i : Fi} {k : Nat} {m : Fields} {Y : List Chunk} {a : SA} {z : SS} {nl r : Addr} {o e1 e2 : Expr} {apos pos p1 p2 : Pos} {gl : List Str} {Q : Value → List Chunk → Prop} {vs : List Value} {signs text gone rem : List Nat} {s1 : Nat}
theorem EV_fill (hK : c.K = heapW c.w.params) [pf : PF c] [pl : PL3 c] {S : List Chunk} (hg : GOk i gl) (hx : ("_law_filled" : Str) ∈ gl) (hk : 2 ≤ k) (h1 : PE c i k m (S ++ (r, .list vs) :: Y) e1 (.ref r)) (h2 : PE c i k m (S ++ (r, .list vs) :: Y) e2 (strV signs)) (hz : vs.length ≤ 1000) (hs : signs.length ≤ 1000)
    (q : Q (.ref r) (S ++ (r, .list (signs.map oneV)) :: Y))
    (hc : ∀ env, eval (.Call (.Name "_law_filled" p1) [e1, e2] [] p2) env = (do let f ← eval (.Name "_law_filled" p1) env; callWith p2 f [] (backTo p2 (starEach [e1, e2] env)) (backToKw p2 (keywordEach [] env))) := by intro _; rfl)
    (ha : ∀ env, starEach [e1, e2] env = (false, eval e1 env) :: starEach [e2] env := by intro _; rfl) (ha2 : ∀ env, starEach [e2] env = (false, eval e2 env) :: starEach [] env := by intro _; rfl)
    (hp : ∀ pos env, (backTo pos (starEach [e2] env)).any (·.1) = false := by intro _ _; rfl) :
    EV c i k m (S ++ (r, .list vs) :: Y) (.Call (.Name "_law_filled" p1) [e1, e2] [] p2) Q := by
  refine EV.less ?_
  refine EV_callK' (PE_globR hg hx PL3.filled) PL3.kfilled (PEs_cons h1 (PEs_cons h2 PEs_nil ha2) ha) (CodeV.by (filled_spec hK (A := i.A) (r := r) hz hs) (R₀ := S ++ Y) ?t hk ?f) hc ha hp
  case t => exact List.perm_middle
  case f =>
    rintro v F' ⟨rfl, rfl⟩
    exact ⟨_, [], (by rw [Take, List.append_nil]; exact List.Perm.symm (List.perm_middle (a := (r, AO.list (signs.map oneV))) (l₁ := S) (l₂ := Y))), q⟩
theorem EV_untilF (hK : c.K = heapW c.w.params) [pf : PF c] [pl : PL3 c] (ns : NoSur text) (ht : text.length ≤ 900) (hd : z.dcs ≤ 900) (R : R3 text s1 z gone rem) (hk : 6 ≤ k) (hg : GOk i gl) (hx : ("_law_filled" : Str) ∈ gl)
    (ho : PE c i k m (stm a z nl ++ (r, .list vs) :: Y) o (.ref a.st)) (h1 : PE c i k m (stm a z nl ++ (r, .list vs) :: Y) e1 (.ref r)) (h2 : PE c i k m (stm a z nl ++ (r, .list vs) :: Y) e2 (strV signs)) (hz : vs.length ≤ 1000) (hs : signs.length ≤ 1000)
    (q : ∀ s2 z2, R3 text s2 z2 (gone ++ rem.takeWhile fun x => decide (x ∈ signs) == false) (rem.dropWhile fun x => decide (x ∈ signs) == false) → z2.dcs = z.dcs → Q (strV (rem.takeWhile fun x => decide (x ∈ signs) == false)) (stm a z2 nl ++ (r, .list (signs.map oneV)) :: Y))
    (hc : ∀ env, eval (.Call (.Name "_law_filled" p1) [e1, e2] [] p2) env = (do let f ← eval (.Name "_law_filled" p1) env; callWith p2 f [] (backTo p2 (starEach [e1, e2] env)) (backToKw p2 (keywordEach [] env))) := by intro _; rfl)
    (ha : ∀ env, starEach [e1, e2] env = (false, eval e1 env) :: starEach [e2] env := by intro _; rfl) (ha2 : ∀ env, starEach [e2] env = (false, eval e2 env) :: starEach [] env := by intro _; rfl)
    (hp : ∀ pos env, (backTo pos (starEach [e2] env)).any (·.1) = false := by intro _ _; rfl)
    (hc2 : MCall o "charsUntil" [.Call (.Name "_law_filled" p1) [e1, e2] [] p2] apos pos := by intro _; exact ⟨_, rfl⟩) :
    EV c i k m (stm a z nl ++ (r, .list vs) :: Y) (.Call (.Attribute o "charsUntil" apos) [.Call (.Name "_law_filled" p1) [e1, e2] [] p2] [] pos) Q := by
  obtain ⟨s2, z2, cu, R2, e2'⟩ := r3_run (mt := fun x => decide (x ∈ signs) == false) ns text.length (by omega) R
  have hl := r3_len R
  have htw := tw_len (fun x => decide (x ∈ signs) == false) rem
  refine EV_untilS hK hk (f := fun x => decide (x ∈ signs)) (r := r) ho (r3_good R ht hd) (by omega) (by omega) cu (EV_fill hK hg hx (by omega) h1 h2 hz hs ?_ hc ha ha2 hp) hc2
  exact ⟨rfl, _, rfl, Row_list mem_hd, q s2 z2 R2 e2'⟩
theorem EV_untilFT (hK : c.K = heapW c.w.params) [pf : PF c] [pl : PL3 c] {u : Nat} {p3 : Pos} (ns : NoSur text) (ht : text.length ≤ 900) (hd : z.dcs ≤ 900) (R : R3 text s1 z gone rem) (hk : 6 ≤ k) (hg : GOk i gl) (hx : ("_law_filled" : Str) ∈ gl)
    (ho : PE c i k m (stm a z nl ++ (r, .list vs) :: Y) o (.ref a.st)) (h1 : PE c i k m (stm a z nl ++ (r, .list vs) :: Y) e1 (.ref r)) (h2 : PE c i k m (stm a z nl ++ (r, .list vs) :: Y) e2 (strV signs)) (hz : vs.length ≤ 1000) (hs : signs.length ≤ 1000)
    (q : ∀ s2 z2, R3 text s2 z2 (gone ++ rem.takeWhile fun x => decide (x ∈ signs) == true) (rem.dropWhile fun x => decide (x ∈ signs) == true) → z2.dcs = z.dcs → Q (strV (rem.takeWhile fun x => decide (x ∈ signs) == true)) (stm a z2 nl ++ (r, .list (signs.map oneV)) :: Y))
    (hc : ∀ env, eval (.Call (.Name "_law_filled" p1) [e1, e2] [] p2) env = (do let f ← eval (.Name "_law_filled" p1) env; callWith p2 f [] (backTo p2 (starEach [e1, e2] env)) (backToKw p2 (keywordEach [] env))) := by intro _; rfl)
    (ha : ∀ env, starEach [e1, e2] env = (false, eval e1 env) :: starEach [e2] env := by intro _; rfl) (ha2 : ∀ env, starEach [e2] env = (false, eval e2 env) :: starEach [] env := by intro _; rfl)
    (hp : ∀ pos env, (backTo pos (starEach [e2] env)).any (·.1) = false := by intro _ _; rfl)
    (hc2 : MCall o "charsUntil" [.Call (.Name "_law_filled" p1) [e1, e2] [] p2, .Constant (.bool true) u p3] apos pos := by intro _; exact ⟨_, rfl⟩) :
    EV c i k m (stm a z nl ++ (r, .list vs) :: Y) (.Call (.Attribute o "charsUntil" apos) [.Call (.Name "_law_filled" p1) [e1, e2] [] p2, .Constant (.bool true) u p3] [] pos) Q := by
  obtain ⟨s2, z2, cu, R2, e2'⟩ := r3_run (mt := fun x => decide (x ∈ signs) == true) ns text.length (by omega) R
  have hl := r3_len R
  have htw := tw_len (fun x => decide (x ∈ signs) == true) rem
  refine EV_untilT hK hk (f := fun x => decide (x ∈ signs)) (r := r) ho (r3_good R ht hd) (by omega) (by omega) cu (EV_fill hK hg hx (by omega) h1 h2 hz hs ?_ hc ha ha2 hp) hc2
  exact ⟨rfl, _, rfl, Row_list mem_hd, q s2 z2 R2 e2'⟩
end
theorem read_bare {c : Cx} (hK : c.K = heapW c.w.params) [pf : PF c] [pl : PL3 c] {A : Around} {a : SA} {z : SS} {nl r : Addr} {vs : List Value} {text gone rem : List Nat} {s1 : Nat}
    (ns : NoSur text) (ht : text.length ≤ 900) (hd : z.dcs ≤ 900) (R : R3 text s1 z gone rem) (hz : vs.length ≤ 1000) (hq : ∀ x, rem.head? = some x → x ∉ [34, 39, 96]) :
    CodeV c A 7 (stm a z nl ++ [(r, .list vs)]) (.ref 189) [.ref a.st, .ref r]
      (fun v cs' => v = strV (rem.takeWhile fun x => decide (x ∈ [44, 10]) == false) ∧ ∃ s2 z2, R3 text s2 z2 (gone ++ rem.takeWhile fun x => decide (x ∈ [44, 10]) == false) (rem.dropWhile fun x => decide (x ∈ [44, 10]) == false) ∧ z2.dcs = z.dcs ∧ cs' = stm a z2 nl ++ [(r, .list ([44, 10].map oneV))]) := by
  refine K_fn (k := 6) (by rw [hK]; k_is) (by rw [hK]; k_is) ["stream", "row"] ["mark", "value", "after"] ["_law_QUOTES", "_law_filled"] [] (fun s vs _ h => by refine bnd2 h fun a b => ?_; exact .of_eq rfl) rfl (by decide) (by decide) (by decide) (by decide) rfl rfl rfl (by simp [stm]) ?_
  intro i hg
  conv => arg 6; whnf
  simp only [locals0, List.zip_cons_cons, List.zip_nil_right, List.map_cons, List.map_nil, List.append_nil, List.cons_append, List.nil_append]
  obtain ⟨c1, c2, c3, c4⟩ := r3_char ns R
  have G := r3_good R ht hd
  keq_hits
  keq_hits
  refine EV_charS hK (by decide) ?o1 G ?q1
  case o1 => kcf_all
  rw [c1]
  cases rem with
  | nil =>
    have R' := c3 rfl
    have hd' : (chr1 z).2.dcs ≤ 900 := by rw [c2]; exact hd
    generalize (chr1 z).2 = y at c2 R' hd' ⊢
    simp only [List.head?_nil, optV]
    keq_rows
    refine EX_if (TV_or (PT.tv (v := (Value.none == Value.none)) ?t1 ⟨fun _ => ⟨fun _ => ?_, fun e => by cases e⟩, fun e => absurd e (by decide)⟩))
    case t1 => kd_in
    keq_rows
    refine EV_ungetN hK (by decide) ?o2 ?e2 ?q2
    case o2 => kcf_all
    case e2 => kcf_all
    keq_rows
    refine EV_untilF (signs := [44, 10]) hK ns ht hd' R' (by decide) hg (by kba_ints) ?o3 ?e31 ?e32 hz (by simp) ?q3
    case o3 => kcf_all
    case e31 => kcf_all
    case e32 => kcf_all
    intro s2 z2 R2 d2
    keq_rows
    exact ⟨rfl, s2, z2, R2, d2.trans c2, rfl⟩
  | cons x rm =>
    obtain ⟨s3, n, R3', q1, q2, q3⟩ := c4 x rm rfl
    have hx := hq x rfl
    have hd' : (chr1 z).2.dcs ≤ 900 := by rw [c2]; exact hd
    have hch := R3'.chunk
    generalize (chr1 z).2 = y at c2 R3' q1 q2 q3 hd' hch ⊢
    simp only [List.head?_cons, optV]
    keq_rows
    refine EX_if (TV_or (PT.tv (v := (strV [x] == Value.none)) ?t1c ⟨fun e => absurd e (by simp), fun _ => TV_or (PT.tv (v := true) ?t2c ⟨fun _ => ⟨fun _ => ?_, fun e => nomatch e⟩, fun e => nomatch e⟩)⟩))
    case t1c => kd_in
    case t2c =>
      have : (!decide ([x] ∈ [[34], [39], [96]])) = true := by simpa using hx
      rw [← this]
      refine PT_cmp (a := strV [x]) (b := .ref 137) ?u1c ?u2c (C_notinT (quotes_seen hK))
      case u1c => kcf_all
      case u2c => kcf_all
    keq_rows
    refine EV_ungetS hK (by decide) (by omega) q1 q2 ?o2c ?e2c ?q2c
    case o2c => kcf_all
    case e2c => kcf_all
    keq_rows
    refine EV_untilF (signs := [44, 10]) hK ns ht hd' q3 (by decide) hg (by kba_ints) ?o3c ?e31c ?e32c hz (by simp) ?q3c
    case o3c => kcf_all
    case e31c => kcf_all
    case e32c => kcf_all
    intro s2 z2 R2 d2
    keq_rows
    exact ⟨rfl, s2, z2, R2, d2.trans c2, rfl⟩
theorem dbl_cons (q : Nat) (w : List Nat) : (dbl q (q :: w)).flatten = q :: q :: (dbl q w).flatten := by
  show dbl1 q q ++ (dbl q w).flatten = _
  rw [dbl_q]; rfl
theorem read_quoted {c : Cx} (hK : c.K = heapW c.w.params) [pf : PF c] [pl : PL3 c] {A : Around} {a : SA} {z : SS} {nl r : Addr} {vs : List Value} {text gone rest v : List Nat} {q s1 : Nat}
    (ns : NoSur text) (ht : text.length ≤ 900) (hd : z.dcs ≤ 900) (R : R3 text s1 z gone (q :: ((dbl q v).flatten ++ q :: rest))) (hz : vs.length ≤ 1000) (hq : q ∈ [34, 39, 96]) (hv : v.length ≤ 100) (hr : ∀ y, rest.head? = some y → y ≠ q) :
    CodeV c A 7 (stm a z nl ++ [(r, .list vs)]) (.ref 189) [.ref a.st, .ref r]
      (fun u cs' => u = strV v ∧ ∃ s2 z2, R3 text s2 z2 (gone ++ q :: ((dbl q v).flatten ++ [q])) rest ∧ z2.dcs = z.dcs ∧ cs' = stm a z2 nl ++ [(r, .list [oneV q])]) := by
  refine K_fn (k := 6) (by rw [hK]; k_is) (by rw [hK]; k_is) ["stream", "row"] ["mark", "value", "after"] ["_law_QUOTES", "_law_filled"] [] (fun s vs _ h => by refine bnd2 h fun a b => ?_; exact .of_eq rfl) rfl (by decide) (by decide) (by decide) (by decide) rfl rfl rfl (by simp [stm]) ?_
  intro i hg
  conv => arg 6; whnf
  simp only [locals0, List.zip_cons_cons, List.zip_nil_right, List.map_cons, List.map_nil, List.append_nil, List.cons_append, List.nil_append]
  obtain ⟨c1, c2, -, c4⟩ := r3_char ns R
  have G := r3_good R ht hd
  keq_hits
  keq_hits
  refine EV_charS hK (by decide) ?o1 G ?q1
  case o1 => kcf_all
  rw [c1]
  obtain ⟨s3, -, R3', -, -, -⟩ := c4 q _ rfl
  have hd' : (chr1 z).2.dcs ≤ 900 := by rw [c2]; exact hd
  generalize (chr1 z).2 = y at c2 R3' hd' ⊢
  clear c1 c4 G
  simp only [List.head?_cons, optV]
  keq_rows
  refine EX_if (TV_or (PT.tv (v := (strV [q] == Value.none)) ?t1 ⟨fun e => absurd e (by simp), fun _ => TV_or (PT.tv (v := false) ?t2 ⟨fun e => (nomatch e), fun _ => TV_or_nil ⟨fun e => (nomatch e), fun _ => ?_⟩⟩)⟩))
  case t1 => kd_in
  case t2 =>
    have : (!decide ([q] ∈ [[34], [39], [96]])) = false := by
      rw [decide_eq_true (by simp at hq ⊢; exact hq)]; rfl
    rw [← this]
    refine PT_cmp (a := strV [q]) (b := .ref 137) ?u1 ?u2 (C_notinT (quotes_seen hK))
    case u1 => kcf_all
    case u2 => kcf_all
  keq_rows
  refine EV_untilF (signs := [q]) hK ns ht hd' R3' (by decide) hg (by kba_ints) ?o3 ?e31 ?e32 hz (by simp) ?q3
  case o3 => kcf_all
  case e31 => kcf_all
  case e32 => kcf_all
  intro s2 z2 R2 d2
  obtain ⟨w1, w2⟩ := dbl_run q rest v
  have e0 := List.takeWhile_append_dropWhile (p := fun x => decide (x ∈ [q]) == false) (l := (dbl q v).flatten ++ q :: rest)
  have e1 := List.takeWhile_append_dropWhile (p := fun x => decide (x ∈ [q]) == false) (l := v)
  have hh := drop_head q v
  rw [w1, w2] at R2 e0
  rw [w1]
  generalize v.takeWhile (fun x => decide (x ∈ [q]) == false) = p0 at R2 e0 e1 ⊢
  generalize v.dropWhile (fun x => decide (x ∈ [q]) == false) = v0 at R2 e0 e1 hh ⊢
  have hg0 : (gone ++ [q] ++ p0) ++ ((dbl q v0).flatten ++ q :: rest) = (gone ++ q :: ((dbl q v).flatten ++ [q])) ++ rest := by
    rw [List.append_assoc, e0]; simp
  have hd2 := d2.trans c2
  generalize gone ++ [q] ++ p0 = g0 at R2 hg0
  generalize gone ++ q :: ((dbl q v).flatten ++ [q]) = gF at hg0 ⊢
  clear e0 w1 w2 R R3' d2 c2 hd'
  keq_rows
  refine EX_while (n := v0.length) (fun k m1 cs1 => ∃ (p v' : List Nat) (o : Option Value) (s' : Nat) (z' : SS) (g : List Nat), k = v'.length ∧ p ++ v' = v ∧ (v' = [] ∨ ∃ w, v' = q :: w) ∧ R3 text s' z' g ((dbl q v').flatten ++ q :: rest) ∧ g ++ ((dbl q v').flatten ++ q :: rest) = gF ++ rest ∧ z'.dcs = z.dcs ∧
    m1 = ([("stream", some (.ref a.st)), ("row", some (.ref r)), ("mark", some (strV [q])), ("value", some (strV p)), ("after", o)] : Fields) ∧ cs1 = stm a z' nl ++ [(r, .list [oneV q])]) ⟨p0, v0, none, s2, z2, g0, rfl, e1, hh, R2, hg0, hd2, rfl, rfl⟩ ?_
  clear e1 hh R2 hg0 hd2
  rintro k m1 cs1 zz ⟨p, v', o, s', z', g, rfl, e1, hh, R', eg, d', rfl, rfl⟩
  have hd' : z'.dcs ≤ 900 := by rw [d']; exact hd
  have G' := r3_good R' ht hd'
  obtain ⟨c1, c2, -, c4⟩ := r3_char ns R'
  rcases hh with rfl | ⟨w, rfl⟩
  · -- the quote that ends the field
    rw [List.append_nil] at e1
    subst e1
    obtain ⟨s3, -, R3', -, -, -⟩ := c4 q rest rfl
    have eg2 : g ++ [q] = gF := by
      have : (g ++ [q]) ++ rest = gF ++ rest := by rw [← eg]; simp [dbl]
      exact List.append_cancel_right this
    refine TV_cmp (EV_charS hK (by decide) ?o4 G' ?q4)
    case o4 => kcf_all
    rw [c1]
    have d3 := c2.trans d'
    generalize (chr1 z').2 = y3 at c2 R3' d3 ⊢
    clear c1 c4 G' R' c2
    have hd3 : y3.dcs ≤ 900 := by rw [d3]; exact hd
    have G3 := r3_good R3' ht hd3
    obtain ⟨c1, c2, c3, c4⟩ := r3_char ns R3'
    simp only [dbl, List.map_nil, List.flatten_nil, List.nil_append, List.head?_cons, optV]
    keq_rows
    refine ⟨fun _ => ?_, fun e => absurd e (by simp)⟩
    keq_rows
    refine EV_charS hK (by decide) ?o5 G3 ?q5
    case o5 => kcf_all
    rw [c1]
    cases rest with
    | nil =>
      have R4 := c3 rfl
      have d4 := c2.trans d3
      generalize (chr1 y3).2 = y4 at R4 d4 ⊢
      simp only [List.head?_nil, optV]
      keq_rows
      refine EX_if (PT.tv (v := true) ?t6 ⟨fun _ => ?_, fun e => nomatch e⟩)
      case t6 => kd_in
      keq_rows
      refine EV_ungetN hK (by decide) ?o6 ?e6 ?q6
      case o6 => kcf_all
      case e6 => kcf_all
      keq_rows
      rw [eg2] at R4
      exact ⟨rfl, _, y4, R4, d4, rfl⟩
    | cons x rest =>
      obtain ⟨s4, n, R4, q1, q2, R5⟩ := c4 x rest rfl
      have hx := hr x rfl
      have d4 := c2.trans d3
      have hch := R4.chunk
      generalize (chr1 y3).2 = y4 at R4 R5 d4 q1 q2 hch ⊢
      simp only [List.head?_cons, optV]
      keq_rows
      refine EX_if (PT.tv (v := ([x] != [q])) ?t7 ⟨fun _ => ?_, fun e => absurd e (by simpa using hx)⟩)
      case t7 => kd_in
      keq_rows
      refine EV_ungetS hK (by decide) (by omega) q1 q2 ?o7 ?e7 ?q7
      case o7 => kcf_all
      case e7 => kcf_all
      keq_rows
      rw [eg2] at R5
      exact ⟨rfl, _, _, R5, d4, rfl⟩
  · -- a quote written twice
    have er : (dbl q (q :: w)).flatten ++ q :: rest = q :: (q :: ((dbl q w).flatten ++ q :: rest)) := by rw [dbl_cons]; rfl
    rw [er] at R' eg c1 c4
    have hl := congrArg List.length e1
    rw [List.length_append, List.length_cons] at hl
    obtain ⟨s3, -, R3', -, -, -⟩ := c4 q _ rfl
    refine TV_cmp (EV_charS hK (by decide) ?o8 G' ?q8)
    case o8 => kcf_all
    rw [c1]
    have d3 := c2.trans d'
    generalize (chr1 z').2 = y3 at c2 R3' d3 ⊢
    clear c1 c4 G' R' c2
    have hd3 : y3.dcs ≤ 900 := by rw [d3]; exact hd
    have G3 := r3_good R3' ht hd3
    obtain ⟨c1, c2, -, c4⟩ := r3_char ns R3'
    simp only [List.head?_cons, optV]
    keq_rows
    refine ⟨fun _ => ?_, fun e => absurd e (by simp)⟩
    keq_rows
    refine EV_charS hK (by decide) ?o9 G3 ?q9
    case o9 => kcf_all
    rw [c1]
    obtain ⟨s4, -, R4, -, -, -⟩ := c4 q _ rfl
    have d4 := c2.trans d3
    generalize (chr1 y3).2 = y4 at R4 d4 ⊢
    clear c1 c4 G3 R3' c2
    have hd4 : y4.dcs ≤ 900 := by rw [d4]; exact hd
    simp only [List.head?_cons, optV]
    keq_rows
    refine EX_if (PT.tv (v := ([q] != [q])) ?t10 ⟨fun e => absurd e (by simp), fun _ => ?_⟩)
    case t10 => kd_in
    keq_rows
    obtain ⟨s5, z5, cu, R5, d5⟩ := r3_run (mt := fun x => decide (x ∈ [q]) == false) ns text.length (by omega) R4
    have hl5 := r3_len R4
    obtain ⟨w1, w2⟩ := dbl_run q rest w
    have e5 := List.takeWhile_append_dropWhile (p := fun x => decide (x ∈ [q]) == false) (l := (dbl q w).flatten ++ q :: rest)
    have e6 := List.takeWhile_append_dropWhile (p := fun x => decide (x ∈ [q]) == false) (l := w)
    have hh5 := drop_head q w
    rw [w1, w2] at R5 e5
    rw [w1] at cu
    generalize w.takeWhile (fun x => decide (x ∈ [q]) == false) = p5 at R5 e5 e6 cu
    generalize w.dropWhile (fun x => decide (x ∈ [q]) == false) = v5 at R5 e5 e6 hh5
    have hl6 := congrArg List.length e6
    rw [List.length_append] at hl6
    refine EV_bin (PE.ev (v := strV [q]) ?o11 (EV_untilS hK (by decide) (f := fun x => decide (x ∈ [q])) (r := r) ?o12 (r3_good R4 ht hd4) (by omega) (by omega) cu (PE.ev ?o13 ⟨rfl, _, rfl, Row_list (l := [q]) mem_hd, ?_⟩)))
    case o11 => kcf_all
    case o12 => kcf_all
    case o13 => kcf_all
    have ez : ([q] ++ p5).length = p5.length + 1 := by simp
    keq_rows
    refine ⟨v5.length, by rw [List.length_cons]; omega, p ++ ([q] ++ p5), v5, _, s5, z5, _, rfl, ?_, hh5, R5, ?_, d5.trans d4, rfl, rfl⟩
    · rw [← e1, ← e6]; simp
    · rw [List.append_assoc, e5, ← eg]; simp
example (w : World) : (heapW w.params) = (heapW w.params) ∧ PySem.Challenge.rw_im0056_03 = PySem.Challenge.rw_im0056_03 := by k_fill; exact ⟨rfl, rfl⟩
/-- a call by its code, from the base alone -/
theorem K_fn0 {c : Cx} {A : Around} {k : Nat} {fa : Addr} {oc : Value} {od : Option Addr} {name qual : Str} {params : Arguments} {body : List Stmt} {scope : Scope} {dV kV doc pm cdv ct : Value} {an : Option Addr} {osl : Array (Option Value)} {args : List Value}
    (ho : c.K.lookup fa = some ⟨oc, od, .func (fnOf name qual params body scope dV kV doc pm an cdv ct), osl⟩) (hcd : codeIn c.K cdv qual = true) (ps rest gl : List Str) (dfl : List Value)
    (hb : ∀ (s : Shared) vs, c.K.In s.heap → vs.length = args.length → BindsTo s (fnOf name qual params body scope dV kV doc pm an cdv ct) ⟨vs, []⟩ (ps.zip (vs ++ dfl)))
    (hl : ps.length = args.length + dfl.length) (hn : (ps ++ rest).Nodup) (hloc : ∀ x ∈ ps ++ rest, scope.names.lookup x = some .local) (hgl : ∀ x ∈ gl, scope.names.lookup x = some .globalImplicit)
    (hcell : ∀ x ∈ scope.names, x.2 ≠ .cell) (hco : scope.isCoroutine = false) (hgen : scope.isGenerator = false) (hk : scope.kind = .function) (hne : ps ≠ [])
    {Q : Value → List Chunk → Prop} (h : ∀ i : Fi, GOk i gl → EXS c i k (locals0 ps rest (args ++ dfl.map nv)) [] body (fun fl _ cs' => Q (retv fl) cs')) (hA : AOk A (k + 1))
    {s : Shared} {vs : List Value} (hvs : vs.map nv = args) (hg : s.gens = #[]) (hos : s.os = c.os) (hh : s.heap = c.base) :
    codeAny (model c.prog c.w) A (.call (.ref fa) ⟨vs, []⟩) (fun r s' => match r with
      | .ok (.ret v) => ∃ cs', St c cs' s' ∧ Q (nv v) cs'
      | _ => False) s := by
  have hlen : vs.length = args.length := by rw [← hvs, List.length_map]
  have hwl : (vs ++ dfl).map nv = args ++ dfl.map nv := by rw [List.map_append, hvs]
  have hpl : ps.length = (args ++ dfl.map nv).length := by rw [List.length_append, List.length_map, hl]
  have hk1 : (ps.zip (vs ++ dfl)).map Prod.fst = ps := List.map_fst_zip (by rw [List.length_append]; omega)
  have hin : c.K.In s.heap := by rw [hh]; exact c.inK
  have hnl : s.heap.NoLimit := by rw [hh]; exact c.top.nolimit
  refine codeAny_call_def (fd := fnOf name qual params body scope dV kV doc pm an cdv ct) (body := body) (binds := ps.zip (vs ++ dfl)) (by have := hA.2.1; unfold recursionLimit; omega)
    (hin _ _ ho) rfl hnl (codeRec_of hin hcd) rfl (hb s vs hin hlen) hcell (fun x hx => hloc _ (List.mem_append_left _ (by rw [← hk1]; exact List.mem_map_of_mem hx))) (fun h₀ N hk₀ => ?_) hco hgen hk
  obtain ⟨z1, z2⟩ := locals0_at hwl hpl hn
  have F : FOk ⟨A.deeper (envOf qual scope s.heap.objs.size fa cdv), envOf qual scope s.heap.objs.size fa cdv, s.heap.objs.size⟩ k (locals0 ps rest (args ++ dfl.map nv)) := by
    refine ⟨⟨hk, rfl, rfl, rfl⟩, fun p hp => hloc _ ?_, hA.deeper⟩
    have : p.1 ∈ (locals0 ps rest (args ++ dfl.map nv)).map Prod.fst := List.mem_map_of_mem hp
    unfold locals0 at this
    rw [List.map_append, List.map_fst_zip (by simp only [List.length_map, List.length_append] at hpl ⊢; omega), List.map_map] at this
    rcases List.mem_append.mp this with q | q
    · exact List.mem_append_left _ q
    · refine List.mem_append_right _ ?_
      obtain ⟨y, hy, e⟩ := List.mem_map.mp q
      rw [← e]; exact hy
  obtain ⟨o, es, ep, hoL, hd, hsk, hf⟩ := N
  have hzl : 0 < (ps.zip (vs ++ dfl)).length := by
    rw [← List.length_map (f := Prod.fst), hk1]
    exact List.length_pos_iff.mpr hne
  have ow : Own c.base [] s.heap := ⟨fun b o e => by rw [hh]; exact e, by simp, by simp⟩
  have h1 : St c ((s.heap.objs.size, .ns (locals0 ps rest (args ++ dfl.map nv))) :: ([] ++ [])) { s with heap := h₀, toks := s.toks + (ps.zip (vs ++ dfl)).length } :=
    ⟨by show 0 < s.toks + (ps.zip (vs ++ dfl)).length; omega, hg, hos, ow.new (heap_size_none _ (Nat.le_refl _)) (by rw [hh]; exact Nat.le_refl _) hk₀ hoL ⟨es, ep, hd, hsk, z1, fun p hp => by rw [hf]; exact z2 p hp⟩⟩
  refine noE' (h ⟨A.deeper (envOf qual scope s.heap.objs.size fa cdv), envOf qual scope s.heap.objs.size fa cdv, s.heap.objs.size⟩ (fun x hx => hgl x hx) F [] _ h1) ?_
  rintro fl s' ⟨m', cs1, z, h2, q⟩
  refine ⟨cs1, ?_, ?_⟩
  · have := h2.tail
    rwa [List.append_nil] at this
  · cases fl <;> exact q

abbrev LawOk : Prop := ∀ (c : Cx), c.K = heapW c.w.params → ∀ (a : Addr) (vs : List Value) (ns : List Int), c.base.IsList a vs.toArray → IntsAre vs ns → ns.length ≤ 63 →
  ∀ s : Shared, s.gens = #[] → s.os = c.os → s.heap = c.base → codeAny (model c.prog c.w) callerA (.call (.ref 194) ⟨[.ref a], []⟩) (fun r s' => match r with
      | .ok (.ret v) => ∃ cs', St c cs' s' ∧ nv v = .bool true
      | _ => False) s
theorem claim_of (law : LawOk) : PySem.Challenge.rw_im0056_03.Holds := by
  w_on
  refine holds_law saidW fun said => ?_
  refine holds_open (q := viewW) (loose := looseW') (Xt := fun s => xlAt viewW [] s && recOk (RowW.records PySem.Challenge.rw_im0056_03.row.toRowW) s) (XP := XL viewW []) (Yf := hookW.obs) (Ya := hookW.val) (YP := hookW.says) (N := 2444) leftW hookW.of hookW.keeps
    (fun s e => xl_of s (Bool.and_eq_true_iff.mp e).1) XL.keeps (by rfl) (by rfl) (by rfl) (fun s e => recFacts_of (Bool.and_eq_true_iff.mp e).2) (by rfl) (by assumption) (by decide +kernel) ⟨rfl, rfl, rfl, rfl, rfl, by decide +kernel⟩ ?hw ?hc
  case hw => w_witness2
  case hc =>
  intro w s₀ s₁ mg mb G Y fa o pm cd doc dV kV ho hd hcd hD hmg hg args vals as hpre hlay hrd hwl hlo
  have KX : (heapW w.params).In s₁.heap := kIn_of (K := heapW) (as := addrsW) (e := fun _ => by kernel_rfl) Y
  refine Ground.open G ?_
  intro T B D TE TW
  try (refine guard_noD D (by decide +kernel) ?_; clear D)
  wrow_args hpre hlay hrd hwl hlo
  all_goals (first | refine callC_kw (enter_call ?_) | refine enter_call ?_ | refine callC_kw (enter_callW ?_) | refine enter_callW ?_)
  have hfa : (some (Value.ref fa)) = some (.ref 194) := hmg.symm.trans (mg_of (v := .ref 194) KX T.g (by k_is))
  cases hfa
  rename_i ns hL hI hlen _
  refine codeAny_mono (law ⟨PySem.Challenge.rw_im0056_03.row.prog, w, s₁.heap, s₁.os, heapW w.params, _, _, mg, mb, KX, topRead_of T⟩ rfl _ _ _ (by assumption) (by assumption) (by omega) s₁ hg rfl rfl) ?_
  intro r s' hr
  rcases r with e | (v | _ | _ | _) <;> first | exact hr.elim | skip
  obtain ⟨cs', hst, hv⟩ := hr
  rw [nv_bool hv]
  refine ⟨.inl ⟨.bool true, .bool true, [], rfl, ?_, ?_, ?_, ?_⟩, ?_, hst.2.2.1, ?_⟩
  · first | exact fun _ => rfl | exact raisesW_false (by wrow_none_raised)
  · first | exact .bool | exact .bool _ | constructor
  · exact postW_of (by wrow_shape) (by wtm_val) (by str_meet; first | done | w_fin)
  · exact fun _ => ⟨by simp, fun a ha => by simp at ha⟩
  · exact .of_keep hst.keep
  · exact .of_eq hst.2.1
/- ## law 03: the page's fields, in plain lists -/
def blk3 (n : Int) : List Nat := sl [32, 9] none (some (n.fmod 3))
abbrev vl3 (n : Int) : List Nat := (val3 n).flatten
abbrev fd3 (n : Int) : List Nat := fld3 n (vl3 n)
/-- a sign that the law's faulty speaks rightly of -/
def Sgn (x : Nat) : Prop := x ≠ 13 ∧ ((x = 1 ∨ x = 9 ∨ x = 10) ∨ 32 ≤ x) ∧ (x < 55296 ∨ 57343 < x)
theorem blk3_cases (n : Int) : blk3 n = [] ∨ blk3 n = [32] ∨ blk3 n = [32, 9] := by
  have h0 : 0 ≤ n.fmod 3 := Int.fmod_nonneg_of_pos _ (by decide)
  have h1 : n.fmod 3 < 3 := Int.fmod_lt_of_pos _ (by decide)
  unfold blk3
  obtain h | h | h : n.fmod 3 = 0 ∨ n.fmod 3 = 1 ∨ n.fmod 3 = 2 := by omega
  all_goals rw [h]
  · exact .inl rfl
  · exact .inr (.inl rfl)
  · exact .inr (.inr rfl)
theorem blk3_mem {n : Int} {x : Nat} (h : x ∈ blk3 n) : x = 32 ∨ x = 9 := by
  rcases blk3_cases n with e | e | e <;> rw [e] at h <;> simp at h
  · exact .inl h
  · exact h
theorem blk3_len (n : Int) : (blk3 n).length ≤ 2 := by
  rcases blk3_cases n with e | e | e <;> rw [e] <;> simp
theorem vl3_len (n : Int) : (vl3 n).length ≤ 4 := by
  have h := one_flat (val3_one n)
  have h2 := val3_len n
  unfold vl3
  omega
theorem ch3_ok (n : Int) : 32 ≤ ch3 n ∧ (ch3 n < 55296 ∨ 57343 < ch3 n) := by
  have b0 : 0 ≤ (n.fdiv 1100).fmod 1112032 := Int.fmod_nonneg_of_pos _ (by decide)
  unfold ch3 pt3
  split
  · rename_i h
    have := of_decide_eq_true h
    omega
  · rename_i h
    have : ¬ (32 + (n.fdiv 1100).fmod 1112032 < 55296) := fun q => h (decide_eq_true q)
    omega
theorem vl3_sign {n : Int} {x : Nat} (h : x ∈ vl3 n) : Sgn x ∧ x ≠ 9 := by
  obtain ⟨l, hl, hx⟩ := List.mem_flatten.mp h
  obtain ⟨j, -, rfl⟩ := List.mem_map.mp hl
  have hk := (ix3_lt n j).2
  rw [← sg3_len n] at hk
  rw [List.getD_eq_getElem?_getD, List.getElem?_eq_getElem hk] at hx
  have hm : (sg3 n)[(ix3 n j).toNat] ∈ sg3 n := List.getElem_mem hk
  rcases List.mem_append.mp hm with q | q
  · have : ∀ l ∈ signs3, ∀ x ∈ l, (x ≠ 13 ∧ ((x = 1 ∨ x = 9 ∨ x = 10) ∨ 32 ≤ x) ∧ (x < 55296 ∨ 57343 < x)) ∧ x ≠ 9 := by decide
    exact this _ q x hx
  · have e := List.mem_singleton.mp q
    have hx' : x ∈ (sg3 n)[(ix3 n j).toNat] := hx
    rw [e, List.mem_singleton] at hx'
    obtain ⟨h1, h2⟩ := ch3_ok n
    subst hx'
    exact ⟨⟨by omega, .inr h1, h2⟩, by omega⟩
theorem mk3_mem (n : Int) : mk3 n ∈ [34, 39, 96] := by
  unfold mk3
  repeat' split
  all_goals simp
theorem dbl_mem {q x : Nat} {v : List Nat} (h : x ∈ (dbl q v).flatten) : x ∈ v := by
  obtain ⟨l, hl, hx⟩ := List.mem_flatten.mp h
  obtain ⟨y, hy, rfl⟩ := List.mem_map.mp hl
  unfold dbl1 at hx
  split at hx <;> simp at hx <;> exact hx ▸ hy
theorem mk3_sgn (n : Int) : Sgn (mk3 n) := by
  have h := mk3_mem n
  simp at h
  unfold Sgn
  omega
theorem fd3_sign {n : Int} {x : Nat} (h : x ∈ fd3 n) : Sgn x := by
  unfold fd3 fld3 at h
  split at h
  · exact (vl3_sign h).1
  · rcases List.mem_append.mp h with h | h
    · rcases List.mem_append.mp h with h | h
      · exact List.mem_singleton.mp h ▸ mk3_sgn n
      · exact (vl3_sign (dbl_mem h)).1
    · exact List.mem_singleton.mp h ▸ mk3_sgn n
theorem fd3_len (n : Int) : (fd3 n).length ≤ 10 := by
  have h := vl3_len n
  have h2 := dbl_len (mk3 n) (vl3 n)
  unfold fd3 fld3
  split
  · omega
  · simp only [List.length_append, List.length_cons, List.length_nil]; omega
theorem tw_dw {p : Nat → Bool} {g r : List Nat} (hg : ∀ y ∈ g, p y = true) (hr : ∀ x, r.head? = some x → p x = false) : (g ++ r).takeWhile p = g ∧ (g ++ r).dropWhile p = r := by
  cases r with
  | nil => rw [List.append_nil]; exact tw_all hg
  | cons x r => exact tw_stop hg (hr x rfl)
/-- what stands behind a field -/
def Beh (rest : List Nat) : Prop := ∀ x, rest.head? = some x → x = 44 ∨ x = 10
theorem bare_and {n : Int} {v : List Nat} (h : bare3 n v = true) : v.take 1 ∉ [[34], [39], [96], [32]] ∧ 44 ∉ v ∧ 10 ∉ v := by
  unfold bare3 at h
  simp only [Bool.and_eq_true, Bool.not_eq_true', decide_eq_false_iff_not] at h
  exact ⟨h.2.1, h.2.2.1, h.2.2.2.1⟩
theorem bare_head {n : Int} {rest : List Nat} (hb : bare3 n (vl3 n) = true) (hr : Beh rest) {x : Nat} (h : (vl3 n ++ rest).head? = some x) : x ∉ [34, 39, 96] ∧ x ≠ 32 ∧ x ≠ 9 := by
  obtain ⟨h1, -, -⟩ := bare_and hb
  cases hv : vl3 n with
  | nil =>
    rw [hv] at h
    have := hr x h
    simp; omega
  | cons y v =>
    rw [hv] at h h1
    have e : y = x := by simpa using h
    subst e
    have h2 := (vl3_sign (n := n) (x := y) (by rw [hv]; simp)).2
    simp at h1 ⊢
    omega
theorem bare_run {n : Int} {rest : List Nat} (hb : bare3 n (vl3 n) = true) (hr : Beh rest) :
    (vl3 n ++ rest).takeWhile (fun x => decide (x ∈ [44, 10]) == false) = vl3 n ∧ (vl3 n ++ rest).dropWhile (fun x => decide (x ∈ [44, 10]) == false) = rest := by
  obtain ⟨-, h2, h3⟩ := bare_and hb
  refine tw_dw (fun y hy => ?_) (fun x hx => ?_)
  · have : y ∉ [44, 10] := by
      simp only [List.mem_cons, List.not_mem_nil, or_false, not_or]
      exact ⟨fun e => h2 (e ▸ hy), fun e => h3 (e ▸ hy)⟩
    rw [decide_eq_false this]; rfl
  · have : x ∈ [44, 10] := by have := hr x hx; simp; exact this
    rw [decide_eq_true this]; rfl
theorem fd3_head {n : Int} {rest : List Nat} (hr : Beh rest) {x : Nat} (h : (fd3 n ++ rest).head? = some x) : x ≠ 32 ∧ x ≠ 9 := by
  unfold fd3 fld3 at h
  split at h
  · rename_i hb
    exact (bare_head hb hr h).2
  · have e : mk3 n = x := by simpa using h
    have := mk3_mem n
    rw [e] at this
    simp at this
    omega
theorem blk_run {n : Int} {rest : List Nat} (hr : Beh rest) :
    (blk3 n ++ (fd3 n ++ rest)).takeWhile (fun x => decide (x ∈ [32, 9]) == true) = blk3 n ∧ (blk3 n ++ (fd3 n ++ rest)).dropWhile (fun x => decide (x ∈ [32, 9]) == true) = fd3 n ++ rest := by
  refine tw_dw (fun y hy => ?_) (fun x hx => ?_)
  · have : y ∈ [32, 9] := by have := blk3_mem hy; simp; exact this
    rw [decide_eq_true this]; rfl
  · have : x ∉ [32, 9] := by have := fd3_head hr hx; simp; exact this
    rw [decide_eq_false this]; rfl
/-- what is written, and the page it stands for -/
structure W3 (raw page : List Nat) : Prop where
  nrm : norm raw = page
  cnt : raw.countP faulty = page.countP faulty
  ns : NoSur raw
  sg : ∀ x ∈ page, Sgn x
theorem W3.nil : W3 [] [] := ⟨rfl, rfl, by intro x h; simp at h, by intro x h; simp at h⟩
theorem W3.blanks {raw page : List Nat} (W : W3 raw page) (n : Int) : W3 (raw ++ blk3 n) (page ++ blk3 n) := by
  refine ⟨?_, by rw [List.countP_append, List.countP_append, W.cnt], ?_, ?_⟩
  · have e : norm (blk3 n) = blk3 n := by rcases blk3_cases n with e | e | e <;> rw [e] <;> rfl
    rw [norm_append, e, W.nrm]
    rintro ⟨-, q⟩
    rcases blk3_cases n with e | e | e <;> rw [e] at q <;> simp at q
  · intro x hx
    rcases List.mem_append.mp hx with h | h
    · exact W.ns x h
    · have := blk3_mem h; omega
  · intro x hx
    rcases List.mem_append.mp hx with h | h
    · exact W.sg x h
    · have := blk3_mem h; unfold Sgn; omega
theorem wr1_sur {turn : Int} {raw : List Nat} {j x : Nat} (h : NoSur raw) (hx : x < 55296 ∨ 57343 < x) : NoSur (wr1 turn raw j x) := by
  intro y hy
  unfold wr1 at hy
  split at hy
  · rcases List.mem_append.mp hy with q | q
    · exact h y q
    · revert q
      have : ∀ b : Bool, y ∈ (if b = true then [13, 10] else end3 turn j) → y = 13 ∨ y = 10 := by
        intro b q
        rcases end3_cases turn j with e | e | e <;> rw [e] at q <;> cases b <;> simp at q <;> omega
      intro q
      have := this _ q
      omega
  · rcases List.mem_append.mp hy with q | q
    · exact h y q
    · rw [List.mem_singleton.mp q]; exact hx
theorem wrt_sur {turn : Int} {raw : List Nat} (h : NoSur raw) : ∀ (n : Nat) {L : List Nat}, L.length = n → (∀ x ∈ L, x < 55296 ∨ 57343 < x) → NoSur (wrt turn raw L)
  | 0, L, hl, _ => by rw [List.eq_nil_of_length_eq_zero hl]; exact h
  | n + 1, L, hl, hx => by
    have hne : L ≠ [] := fun q => by rw [q] at hl; cases hl
    obtain ⟨d, x, rfl⟩ : ∃ d x, L = d ++ [x] := ⟨L.dropLast, L.getLast hne, (List.dropLast_concat_getLast hne).symm⟩
    rw [List.length_append, List.length_singleton] at hl
    rw [wrt_snoc]
    exact wr1_sur (wrt_sur h n (by omega) fun y hy => hx y (List.mem_append_left _ hy)) (hx x (by simp))
theorem W3.wrt {raw page L : List Nat} (W : W3 raw page) (turn : Int) (hL : ∀ x ∈ L, Sgn x) : W3 (wrt turn raw L) (page ++ L) := by
  refine ⟨by rw [norm_wrt _ rfl fun x hx => (hL x hx).1, W.nrm], by rw [count_wrt _ rfl, W.cnt, List.countP_append], wrt_sur W.ns _ rfl fun x hx => (hL x hx).2.2, ?_⟩
  intro x hx
  rcases List.mem_append.mp hx with h | h
  · exact W.sg x h
  · exact hL x h
/-- one field's record -/
structure Rec where
  n : Int
  b : Option Nat
  t : Addr
  h : Addr
  l : Addr
def item3 (r : Rec) : List Nat := blk3 r.n ++ (fd3 r.n ++ r.b.toList)
def page3 (rs : List Rec) : List Nat := (rs.map item3).flatten
theorem page3_snoc (rs : List Rec) (r : Rec) : page3 (rs ++ [r]) = page3 rs ++ item3 r := by
  unfold page3; simp
theorem page3_cons (rs : List Rec) (r : Rec) : page3 (r :: rs) = item3 r ++ page3 rs := rfl
def bh3 (len j : Nat) (n : Int) : Option Nat := if j + 1 < len then (if n.fmod 5 < 3 then some 44 else some 10) else none
theorem bh3_sgn {len j : Nat} {n : Int} {x : Nat} (h : x ∈ (bh3 len j n).toList) : Sgn x ∧ (x = 44 ∨ x = 10) := by
  have hx : x = 44 ∨ x = 10 := by
    unfold bh3 at h
    split at h
    · split at h <;> simp at h <;> omega
    · simp at h
  refine ⟨?_, hx⟩
  unfold Sgn; omega
theorem bh3_len (len j : Nat) (n : Int) : (bh3 len j n).toList.length ≤ 1 := by
  unfold bh3
  split
  · split <;> simp
  · simp
/-- what stands behind a record's field -/
theorem beh_rec {len j : Nat} {n : Int} {post : List Nat} (h : j + 1 = len → post = []) (hj : j < len) : Beh ((bh3 len j n).toList ++ post) := by
  intro x hx
  by_cases q : j + 1 < len
  · have e : ∃ y, bh3 len j n = some y := by unfold bh3; rw [if_pos q]; split <;> exact ⟨_, rfl⟩
    obtain ⟨y, e⟩ := e
    rw [e] at hx
    have : y = x := by simpa using hx
    subst this
    exact (bh3_sgn (len := len) (j := j) (n := n) (by rw [e]; simp)).2
  · have e : bh3 len j n = none := by unfold bh3; rw [if_neg q]
    rw [e, h (by omega)] at hx
    simp at hx
def tupS (p : List Nat) : AO := .tup [.int (p.count 10 + 1 : Nat) 0, .int (colOf p 0 : Nat) 0]
def recC (p : List Nat) (r : Rec) : List Chunk := [(r.t, .tup [.int r.n 0, strV (blk3 r.n), .ref r.h, strV (vl3 r.n), .ref r.l, optV r.b]), (r.l, tupS (p ++ blk3 r.n ++ fd3 r.n)), (r.h, tupS (p ++ blk3 r.n))]
/-- the chunks of the records -/
def recsC : List Nat → List Rec → List Chunk
  | _, [] => []
  | p, r :: rs => recC p r ++ recsC (p ++ item3 r) rs
theorem recsC_append : ∀ (p : List Nat) (a b : List Rec), recsC p (a ++ b) = recsC p a ++ recsC (p ++ page3 a) b
  | p, [], b => by show recsC p b = recsC (p ++ []) b; rw [List.append_nil]
  | p, r :: a, b => by
    show recC p r ++ recsC _ (a ++ b) = _
    rw [recsC_append, page3_cons, ← List.append_assoc p]
    exact (List.append_assoc _ _ _).symm
theorem recsC_snoc (rs : List Rec) (r : Rec) : recsC [] (rs ++ [r]) = recsC [] rs ++ recC (page3 rs) r := by
  rw [recsC_append]
  show _ ++ (recC ([] ++ page3 rs) r ++ []) = _
  rw [List.append_nil, List.nil_append]
theorem recsC_at {rs pre post : List Rec} {r : Rec} (h : rs = pre ++ r :: post) {x : Chunk} (hx : x ∈ recC (page3 pre) r) : x ∈ recsC [] rs := by
  rw [h, recsC_append]
  refine List.mem_append_right _ ?_
  show x ∈ recC ([] ++ page3 pre) r ++ _
  rw [List.nil_append]
  exact List.mem_append_left _ hx
/- ## the third law's own steps -/
theorem read_fld {c : Cx} (hK : c.K = heapW c.w.params) [pf : PF c] [pl : PL3 c] {A : Around} {a : SA} {z : SS} {nl r : Addr} {vs : List Value} {text gone rest : List Nat} {n : Int} {s1 : Nat}
    (ns : NoSur text) (ht : text.length ≤ 900) (hd : z.dcs ≤ 900) (R : R3 text s1 z gone (fd3 n ++ rest)) (hz : vs.length ≤ 1000) (hr : Beh rest) :
    CodeV c A 7 (stm a z nl ++ [(r, .list vs)]) (.ref 189) [.ref a.st, .ref r]
      (fun u cs' => u = strV (vl3 n) ∧ ∃ s2 z2 ws, R3 text s2 z2 (gone ++ fd3 n) rest ∧ z2.dcs = z.dcs ∧ ws.length ≤ 1000 ∧ cs' = stm a z2 nl ++ [(r, .list ws)]) := by
  by_cases hb : bare3 n (vl3 n) = true
  · have e : fd3 n = vl3 n := by unfold fd3 fld3; rw [if_pos hb]
    rw [e] at R ⊢
    obtain ⟨w1, w2⟩ := bare_run hb hr
    have h := read_bare hK (A := A) (a := a) (nl := nl) (r := r) ns ht hd R hz fun x hx => (bare_head hb hr hx).1
    rw [w1, w2] at h
    refine h.mono ?_
    rintro u cs' ⟨rfl, s2, z2, R2, d2, rfl⟩
    exact ⟨rfl, s2, z2, _, R2, d2, by simp, rfl⟩
  · have e : fd3 n = mk3 n :: ((dbl (mk3 n) (vl3 n)).flatten ++ [mk3 n]) := by unfold fd3 fld3; rw [if_neg hb]; simp
    have e2 : fd3 n ++ rest = mk3 n :: ((dbl (mk3 n) (vl3 n)).flatten ++ mk3 n :: rest) := by rw [e]; simp
    rw [e2] at R
    have hl := vl3_len n
    have hq := mk3_mem n
    have h := read_quoted hK (A := A) (a := a) (nl := nl) (r := r) ns ht hd R hz hq (by omega) fun y hy => by
      have := hr y hy
      simp at hq
      omega
    rw [← e] at h
    refine h.mono ?_
    rintro u cs' ⟨rfl, s2, z2, R2, d2, rfl⟩
    exact ⟨rfl, s2, z2, _, R2, d2, by simp, rfl⟩
section
variable {c : Cx} {i : Fi} {k : Nat} {m : Fields} {cs Y : List Chunk} {a : SA} {z : SS} {nl r : Addr} {e1 e2 : Expr} {p1 p2 : Pos} {gl : List Str} {Q : Value → List Chunk → Prop} {vs : List Value} {text gone rest : List Nat} {n : Int} {s1 : Nat}
theorem EV_readS (hK : c.K = heapW c.w.params) [pf : PF c] [pl : PL3 c] (hg : GOk i gl) (hx : ("_law_read" : Str) ∈ gl) (hk : 7 ≤ k)
    (h1 : PE c i k m (stm a z nl ++ (r, .list vs) :: Y) e1 (.ref a.st)) (h2 : PE c i k m (stm a z nl ++ (r, .list vs) :: Y) e2 (.ref r)) (ns : NoSur text) (ht : text.length ≤ 900) (hd : z.dcs ≤ 900) (R : R3 text s1 z gone (fd3 n ++ rest)) (hz : vs.length ≤ 1000) (hr : Beh rest)
    (q : ∀ s2 z2 ws, R3 text s2 z2 (gone ++ fd3 n) rest → z2.dcs = z.dcs → ws.length ≤ 1000 → Q (strV (vl3 n)) (stm a z2 nl ++ (r, .list ws) :: Y))
    (hc : ∀ env, eval (.Call (.Name "_law_read" p1) [e1, e2] [] p2) env = (do let f ← eval (.Name "_law_read" p1) env; callWith p2 f [] (backTo p2 (starEach [e1, e2] env)) (backToKw p2 (keywordEach [] env))) := by intro _; rfl)
    (ha : ∀ env, starEach [e1, e2] env = (false, eval e1 env) :: starEach [e2] env := by intro _; rfl) (ha2 : ∀ env, starEach [e2] env = (false, eval e2 env) :: starEach [] env := by intro _; rfl)
    (hp : ∀ pos env, (backTo pos (starEach [e2] env)).any (·.1) = false := by intro _ _; rfl) :
    EV c i k m (stm a z nl ++ (r, .list vs) :: Y) (.Call (.Name "_law_read" p1) [e1, e2] [] p2) Q := by
  refine EV_callK' (PE_globR hg hx PL3.read) PL3.kread (PEs_cons h1 (PEs_cons h2 PEs_nil ha2) ha) (CodeV.by (read_fld hK (A := i.A) (nl := nl) (r := r) ns ht hd R hz hr) (R₀ := Y) ?t hk ?f) hc ha hp
  case t => rw [Take, List.append_assoc]; exact List.Perm.refl _
  case f =>
    rintro v F' ⟨rfl, s2, z2, ws, R2, d2, hw, rfl⟩
    rw [List.append_assoc]
    exact q s2 z2 ws R2 d2 hw
/-- the line and column told are those of what went by -/
theorem PT_posS (hK : c.K = heapW c.w.params) [pf : PF c] {o e : Expr} {apos p3 p4 : Pos} {h : Addr} {rem : List Nat} (hk : 3 ≤ k) (ho : PE c i k m (stm a z nl ++ Y) o (.ref a.st)) (he : ∀ t, PE c i k m (t :: (stm a z nl ++ Y)) e (.ref h)) (ht : text.length ≤ 900)
    (R : R3 text s1 z gone rem) (hh : (h, tupS gone) ∈ Y)
    (hc : MCall o "position" [] apos p3 := by intro _; exact ⟨_, rfl⟩) (hm : behindInMarks .NotEq e = false := by with_unfolding_all rfl) :
    PT c i k m (stm a z nl ++ Y) (.Compare (.Call (.Attribute o "position" apos) [] [] p3) [.NotEq] [e] p4) false := by
  have hch := R.chunk
  obtain ⟨q1, q2⟩ := r3_pos R
  refine PT.suf (TV_cmp (EV_posS hK hk ho (by omega) R.off (fun t => ?_) hc) hm)
  rw [q1, q2]
  refine PE.ev (he _) ?_
  refine Op2.is (C_neT (ls := [((gone.count 10 + 1 : Nat) : Int), ((colOf gone 0 : Nat) : Int)]) (ms := [((gone.count 10 + 1 : Nat) : Int), ((colOf gone 0 : Nat) : Int)]) mem_hd (List.mem_cons_of_mem _ (List.mem_append_right _ hh))) ?_
  exact Op1.is T_bool ⟨by simp, [_], rfl⟩
theorem C_neO {A : Around} (o : Option Nat) : Op2 c A k cs (compareOp .NotEq) (optV o) (optV o) nv (Is cs (.bool false)) := by
  cases o with
  | none => exact C_ne_nn
  | some x =>
    have : (([x] : List Nat) != [x]) = false := by simp
    rw [← this]
    exact C_nes
theorem EV_appendE {o e : Expr} {apos pos : Pos} {d : Addr} {ws : List Value} (ho : PE c i k m cs o (.ref d)) (hd : (d, .list ws) ∈ cs) (hz : ws.length ≤ 1000000)
    (he : EV c i k m cs e (fun v cs1 => ∃ cs2, (d, .list ws) ∈ cs1 ∧ Upd cs1 d (.list (ws ++ [v])) cs2 ∧ Q .none cs2))
    (hc : MCall o "append" [e] apos pos := by intro _; exact ⟨_, rfl⟩) (hs : ∀ env, starEach [e] env = (false, eval e env) :: starEach [] env := by intro _; rfl) :
    EV c i k m cs (.Call (.Attribute o "append" apos) [e] [] pos) Q := by
  refine EV_meth (ho.ev (M_list hd F.slot_list_append F.type_list_append ⟨.inl ⟨_, rfl⟩, EVs_cons (he.mono fun v cs1 h => ?_) hs⟩)) hc hs
  obtain ⟨cs2, h1, h2, h3⟩ := h
  exact EVs_nil (K_append h1 h2 hz h3)
theorem EV_lenE {e : Expr} {pos p2 : Pos} (hg : GOk i gl) (hx : Str.ofString "len" ∈ gl) (hn : nsIn c.K mainGlobals "len" = some none)
    (he : EV c i k m cs e (fun v cs1 => ∃ (d : Addr) (ws : List Value), v = .ref d ∧ (d, .list ws) ∈ cs1 ∧ ws.length ≤ 1000000 ∧ Q (.int ws.length 0) cs1))
    (hs : ∀ env, starEach [e] env = (false, eval e env) :: starEach [] env := by intro _; rfl)
    (hc : ∀ env, eval (.Call (.Name "len" p2) [e] [] pos) env = (do let f ← eval (.Name "len" p2) env; callWith pos f [] (backTo pos (starEach [e] env)) (backToKw pos (keywordEach [] env))) := by intro _; rfl) :
    EV c i k m cs (.Call (.Name "len" p2) [e] [] pos) Q := by
  refine EV_callB (f := "len") (PE_bi (v := .builtin "len") hg hx hn (by boot_fast) (by decide)) (EVs_cons (he.mono fun v cs1 h => ?_) hs) hc hs
  obtain ⟨d, ws, rfl, h1, h2, h3⟩ := h
  exact EVs_nil ((K_len_list h1 h2).is h3)
end
/-- the numbers of the script that count -/
def nums3 (ns : List Int) : List Int := (if ns = [] then [5, 48, 27] else ns).take 16
theorem nums3_len (ns : List Int) : (nums3 ns).length ≤ 16 := by unfold nums3; rw [List.length_take]; omega
theorem nums3_pos (ns : List Int) : 0 < (nums3 ns).length := by
  unfold nums3; rw [List.length_take]
  split
  · decide
  · rename_i h
    have := List.length_pos_iff.mpr h
    omega
abbrev intV (n : Int) : Value := .int n 0
theorem ints_nv {its : List Value} {ns : List Int} (h : IntsAre its ns) : its.toArray.toList.map nv = ns.map intV := by
  rw [List.toList_toArray]
  induction h with
  | nil => rfl
  | cons n t _ ih => rw [List.map_cons, List.map_cons, ih]; rfl
/-- the law's locals -/
def lm3 (a : Addr) (nums raw page due turn n blanks head value text tail behind stream row faults : Option Value) : Fields :=
  [("script", some (.ref a)), ("numbers", nums), ("raw", raw), ("page", page), ("due", due), ("turn", turn), ("n", n), ("blanks", blanks), ("head", head), ("value", value), ("text", text), ("tail", tail), ("behind", behind), ("stream", stream), ("row", row), ("faults", faults)]
/-- the writer's loop: what it has made behind j turns -/
structure Wr (len j : Nat) (raw page : List Nat) (recs : List Rec) : Prop where
  w : W3 raw page
  pg : page = page3 recs
  ln : recs.length = j
  beh : ∀ k r, recs[k]? = some r → r.b = bh3 len k r.n
  rl : raw.length ≤ 24 * j
  pl : page.length ≤ 13 * j
theorem Wr.nil (len : Nat) : Wr len 0 [] [] [] := ⟨W3.nil, rfl, rfl, by simp, Nat.le_refl _, Nat.le_refl _⟩
theorem Wr.next {len j : Nat} {raw page : List Nat} {recs : List Rec} (W : Wr len j raw page recs) {n : Int} {t h l : Addr} :
    Wr len (j + 1) (wrt (n.fdiv 12) (wrt (n.fdiv 4) (raw ++ blk3 n) (fd3 n)) (bh3 len j n).toList) (page ++ blk3 n ++ fd3 n ++ (bh3 len j n).toList) (recs ++ [⟨n, bh3 len j n, t, h, l⟩]) := by
  have l1 := blk3_len n
  have l2 := fd3_len n
  have l3 := bh3_len len j n
  have l4 := wrt_len (n.fdiv 4) (raw ++ blk3 n) _ (fd3 n) rfl
  have l5 := wrt_len (n.fdiv 12) (wrt (n.fdiv 4) (raw ++ blk3 n) (fd3 n)) _ (bh3 len j n).toList rfl
  have l6 := W.rl
  have l7 := W.pl
  rw [List.length_append] at l4
  refine ⟨((W.w.blanks n).wrt _ fun x hx => fd3_sign hx).wrt _ fun x hx => (bh3_sgn hx).1, ?_, ?_, ?_, by omega, ?_⟩
  · rw [page3_snoc, ← W.pg]
    show _ = page ++ (blk3 n ++ (fd3 n ++ (bh3 len j n).toList))
    simp only [List.append_assoc]
  · rw [List.length_append, W.ln]; rfl
  · intro k r hk
    by_cases q : k < recs.length
    · rw [List.getElem?_append_left q] at hk
      exact W.beh k r hk
    · rw [List.getElem?_append_right (by omega)] at hk
      have e : k - recs.length = 0 := by
        have := (List.getElem?_eq_some_iff.mp hk).1
        simp at this; omega
      rw [e] at hk
      have hk' : (⟨n, bh3 len j n, t, h, l⟩ : Rec) = r := by simpa using hk
      have : k = j := by have := W.ln; omega
      subst this
      rw [← hk']
  · simp only [List.length_append]; omega
theorem behV {len j : Nat} {n : Int} (h : j + 1 < len) : optV (bh3 len j n) = strV (if decide (n.fmod 5 < 3) = true then [44] else [10]) ∧ (bh3 len j n).toList = (if decide (n.fmod 5 < 3) = true then [44] else [10]) := by
  unfold bh3
  rw [if_pos h]
  by_cases q : n.fmod 5 < 3
  · rw [if_pos q, decide_eq_true q]; exact ⟨rfl, rfl⟩
  · rw [if_neg q, decide_eq_false q]; exact ⟨rfl, rfl⟩
/-- the list of the fields due -/
def dueL (recs : List Rec) : AO := .list (recs.map fun r => .ref r.t)
def lawSt (j : Nat) : Stmt := (fdBody (stAt 16)).getD j (.Pass ⟨0, 0, 0, 0⟩)
def gl3 : List Str := ["enumerate", "_law_spot", "_law_value", "_law_field", "_law_written", "len", "HTMLUnicodeInputStream", "_law_filled", "_law_read"]
/-- what the writer's loop leaves -/
structure WO (len : Nat) where
  raw : List Nat
  page : List Nat
  recs : List Rec
  w : Wr len len raw page recs
  o1 : Option Value
  o2 : Option Value
  o3 : Option Value
  o4 : Option Value
  o5 : Option Value
  o6 : Option Value
  o7 : Option Value
  o8 : Option Value
def lmW (a nb du : Addr) (raw page : List Nat) (o1 o2 o3 o4 o5 o6 o7 o8 : Option Value) : Fields := lm3 a (some (.ref nb)) (some (strV raw)) (some (strV page)) (some (.ref du)) o1 o2 o3 o4 o5 o6 o7 o8 none none none
theorem law_write {c : Cx} (hK : c.K = heapW c.w.params) [pf : PF c] [pl : PL3 c] {i : Fi} {a nb du : Addr} {nums : List Int} (hg : GOk i gl3) (hn : nums.length ≤ 16) :
    EX c i 8 (lmW a nb du [] [] none none none none none none none none) [(nb, .list (nums.map intV)), (du, .list [])] (lawSt 3)
      (fun f m' cs' => f = .next ∧ ∃ o : WO nums.length, m' = lmW a nb du o.raw o.page o.o1 o.o2 o.o3 o.o4 o.o5 o.o6 o.o7 o.o8 ∧ cs' = (nb, .list (nums.map intV)) :: (du, dueL o.recs) :: recsC [] o.recs) := by
  conv => arg 6; whnf
  unfold gl3 at hg
  refine' EX_for_enumL (a := nb) (vs := nums.map intV) (fun j m1 cs1 => ∃ (raw page : List Nat) (recs : List Rec) (o1 o2 o3 o4 o5 o6 o7 o8 : Option Value), Wr nums.length j raw page recs ∧
      m1 = lmW a nb du raw page o1 o2 o3 o4 o5 o6 o7 o8 ∧ cs1 = (nb, .list (nums.map intV)) :: (du, dueL recs) :: recsC [] recs) hg (by kba_ints) PL3.enumerate ?x1 ⟨[], [], [], none, none, none, none, none, none, none, none, .nil _, rfl, rfl⟩ ?x2 ?x3 ?x4
  case x1 => dsimp only [lmW, lm3]; kcf_all
  case x2 =>
    rintro j m1 cs1 ⟨raw, page, recs, o1, o2, o3, o4, o5, o6, o7, o8, W, rfl, rfl⟩
    exact mem_hd
  case x4 =>
    rintro m1 cs1 z ⟨raw, page, recs, o1, o2, o3, o4, o5, o6, o7, o8, W, rfl, rfl⟩
    rw [List.length_map] at W
    exact ⟨rfl, ⟨raw, page, recs, W, o1, o2, o3, o4, o5, o6, o7, o8⟩, rfl, rfl⟩
  case x3 =>
  rintro j x m1 cs1 hx z ⟨raw, page, recs, o1, o2, o3, o4, o5, o6, o7, o8, W, rfl, rfl⟩
  obtain ⟨n, hn2, rfl⟩ : ∃ n, nums[j]? = some n ∧ intV n = x := by
    rw [List.getElem?_map] at hx
    cases q : nums[j]? with
    | none => rw [q] at hx; cases hx
    | some v => rw [q] at hx; exact ⟨v, rfl, by simpa using hx⟩
  have hjl : j < nums.length := (List.getElem?_eq_some_iff.mp hn2).1
  have W2 := fun t h l => W.next (n := n) (t := t) (h := h) (l := l)
  have hrl := W.rl
  have hpl := W.pl
  have hrc := W.ln
  have hpg := W.pg
  have b1 := blk3_len n
  have b2 := fd3_len n
  have b3 := vl3_len n
  have b4 := bh3_len nums.length j n
  have w1 := wrt_len (n.fdiv 4) (raw ++ blk3 n) _ (fd3 n) rfl
  rw [List.length_append] at w1
  clear z hx hn2 W
  dsimp only [lmW, lm3]
  keq_rows
  rw [show sl [32, 9] none (some (n.fmod 3)) = blk3 n from rfl]
  refine EX_assign2 ?y1 (by kba_ints) (by kba_ints)
  case y1 =>
  keq_rows
  refine' ⟨?ma1, ?mb1, ?u1, ?u2, ?y2⟩
  case u1 => kbo_bools
  case u2 => kbo_bools
  case y2 =>
  keq_rows
  refine' EV_callK' ?p1 PL3.kspot ?p2 (((spot_spec hK (A := i.A) (page := page ++ blk3 n) ?p3 (by simp)).mono ?p4).level (by decide))
  case p1 => kcf_all
  case p2 => kst_facts
  case p3 => rw [List.length_append]; omega
  case p4 =>
  rintro v cs' ⟨h, rfl, rfl⟩
  keq_rows
  refine PE.ev (v := strV (vl3 n)) (PE_callK (vs := [intV n]) ?p5 PL3.kvalue ?p6 ((value_spec hK (by simp)).level (by decide))) ?p7
  case p5 => kcf_all
  case p6 => kst_facts
  case p7 =>
  keq_rows
  refine PE.ev (v := strV (fd3 n)) (PE_callK (vs := [intV n, strV (vl3 n)]) ?p8 PL3.kfield ?p9 ((field_spec hK (v := vl3 n) (by omega) (by simp)).level (by decide))) ?p10
  case p8 => kcf_all
  case p9 => kst_facts
  case p10 =>
  keq_rows
  refine EX_assign2 (PE.ev (v := strV (wrt (n.fdiv 4) (raw ++ blk3 n) (fd3 n))) (PE_callK (vs := [strV (raw ++ blk3 n), strV (fd3 n), intV (n.fdiv 4)]) ?q1 PL3.kwritten ?q2 ((written_spec hK ?q3 (by simp)).level (by decide))) ?q4) (by kba_ints) (by kba_ints)
  case q1 => kcf_all
  case q2 => kst_facts
  case q3 => rw [List.length_append]; omega
  case q4 =>
  keq_rows
  refine' ⟨?ma2, ?mb2, ?u3, ?u4, ?q5⟩
  case u3 => kbo_bools
  case u4 => kbo_bools
  case q5 =>
  keq_rows
  refine' EV_callK' ?r1 PL3.kspot ?r2 (((spot_spec hK (A := i.A) (page := page ++ blk3 n ++ fd3 n) ?r3 (by simp)).mono ?r4).level (by decide))
  case r1 => kcf_all
  case r2 => kst_facts
  case r3 => rw [List.length_append, List.length_append]; omega
  case r4 =>
  rintro v cs' ⟨l, rfl, rfl⟩
  keq_rows
  refine EX_thenR (m₁ := lm3 a (some (.ref nb)) (some (strV (wrt (n.fdiv 12) (wrt (n.fdiv 4) (raw ++ blk3 n) (fd3 n)) (bh3 nums.length j n).toList))) (some (strV (page ++ blk3 n ++ fd3 n ++ (bh3 nums.length j n).toList))) (some (.ref du)) (some (.int j 0)) (some (intV n)) (some (strV (blk3 n))) (some (.ref h)) (some (strV (vl3 n))) (some (strV (fd3 n))) (some (.ref l)) (some (optV (bh3 nums.length j n))) none none none)
    (cs₁ := (l, tupS (page ++ blk3 n ++ fd3 n)) :: (h, tupS (page ++ blk3 n)) :: (nb, .list (nums.map intV)) :: (du, dueL recs) :: recsC [] recs) ?s1 ?s2
  case s1 =>
    kpf_c
    refine ⟨fun e => ?_, fun e => ?_⟩
    · have e1 : j + 1 < nums.length := by have := of_decide_eq_true e; rw [List.length_map] at this; omega
      obtain ⟨e2, e3⟩ := behV (n := n) e1
      rw [e2, e3]
      keq_rows
      have hI : (if decide (n.fmod 5 < 3) = true then ([44] : List Nat) else [10]).length ≤ 1 := by split <;> simp
      generalize (if decide (n.fmod 5 < 3) = true then ([44] : List Nat) else [10]) = E at hI ⊢
      refine EX_assign2 (PE.ev (v := strV (wrt (n.fdiv 12) (wrt (n.fdiv 4) (raw ++ blk3 n) (fd3 n)) E)) (PE_callK (vs := [strV (wrt (n.fdiv 4) (raw ++ blk3 n) (fd3 n)), strV E, intV (n.fdiv 12)]) ?t1 PL3.kwritten ?t2 ((written_spec hK ?t3 (by simp)).level (by decide))) ?t4) (by kba_ints) (by kba_ints)
      case t1 => kcf_all
      case t2 => kst_facts
      case t3 => omega
      case t4 =>
      keq_rows
      refine' ⟨?ma3, ?mb3, ?u5, ?u6, ?t5⟩
      case u5 => kbo_bools
      case u6 => kbo_bools
      case t5 =>
      keq_rows
      exact ⟨rfl, rfl, rfl⟩
    · have e1 : ¬ j + 1 < nums.length := by have := of_decide_eq_false e; rw [List.length_map] at this; omega
      have e2 : bh3 nums.length j n = none := by unfold bh3; rw [if_neg e1]
      rw [e2]
      keq_rows
      refine ⟨rfl, ?_, rfl⟩
      rw [Option.toList_none, List.append_nil]; rfl
  case s2 =>
  dsimp only [lm3, dueL]
  refine EXS.less ?_
  keq_rows
  refine EV_appendE (d := du) (ws := recs.map fun r => .ref r.t) ?v1 (by kba_ints) (by rw [List.length_map]; omega) ?v2
  case v1 => kcf_all
  case v2 =>
  keq_rows
  refine ⟨by simp, fun t => ?_⟩
  refine' ⟨?cx, ?v3, ?v4, ?v5⟩
  case v3 => kba_ints
  case v4 => kbo_bools
  case v5 =>
  keq_rows
  refine ⟨(nb, .list (nums.map intV)) :: (du, dueL (recs ++ [⟨n, bh3 nums.length j n, t, h, l⟩])) :: recsC [] (recs ++ [⟨n, bh3 nums.length j n, t, h, l⟩]), [], ?_, ?_⟩
  · rw [recsC_snoc, ← hpg]
    show List.Perm _ _
    rw [List.append_nil]
    have e : dueL (recs ++ [(⟨n, bh3 nums.length j n, t, h, l⟩ : Rec)]) = .list ((recs.map fun r => .ref r.t) ++ [.ref t]) := by unfold dueL; rw [List.map_append]; rfl
    rw [e]
    exact List.perm_append_comm (l₁ := recC page ⟨n, bh3 nums.length j n, t, h, l⟩) (l₂ := (nb, AO.list (nums.map intV)) :: (du, AO.list ((recs.map fun r => .ref r.t) ++ [.ref t])) :: recsC [] recs)
  · exact ⟨_, _, _, _, _, _, _, _, _, _, _, W2 t h l, rfl, rfl⟩
/-- what the reader's loop leaves -/
structure CO (raw page : List Nat) where
  z : SS
  s1 : Nat
  R : R3 raw s1 z page []
  dcs : z.dcs ≤ 900
  ws : List Value
  o2 : Option Value
  o3 : Option Value
  o4 : Option Value
  o5 : Option Value
  o7 : Option Value
  o8 : Option Value
theorem law_check {c : Cx} (hK : c.K = heapW c.w.params) [pf : PF c] [pl : PL3 c] {i : Fi} {a nb du r : Addr} {sa : SA} {nl : Addr} {raw page : List Nat} {recs : List Rec} {len : Nat} {o1 o2 o3 o4 o5 o6 o7 o8 : Option Value} (hg : GOk i gl3) (W : Wr len len raw page recs) (hl : len ≤ 16) (h0 : 0 < len) :
    EX c i 8 (lm3 a (some (.ref nb)) (some (strV raw)) (some (strV page)) (some (.ref du)) o1 o2 o3 o4 o5 o6 o7 o8 (some (.ref sa.st)) (some (.ref r)) none) (stmD sa ⟨raw, 0, [], 0, 0, 0, 0, [], 2⟩ nl none ++ (r, .list []) :: (du, dueL recs) :: recsC [] recs) (lawSt 6)
      (fun f m' cs' => f = .next ∧ ∃ o : CO raw page, m' = lm3 a (some (.ref nb)) (some (strV raw)) (some (strV page)) (some (.ref du)) o1 o.o2 o.o3 o.o4 o.o5 o6 o.o7 o.o8 (some (.ref sa.st)) (some (.ref r)) none ∧ cs' = stm sa o.z nl ++ (r, .list o.ws) :: (du, dueL recs) :: recsC [] recs) := by
  have ns := W.w.ns
  have hrl := W.rl
  have ht : raw.length ≤ 900 := by omega
  have hlen := W.ln
  conv => arg 6; whnf
  unfold gl3 at hg
  refine' EX_for_list (a := du) (vs := recs.map fun r => .ref r.t) (cs1 := stmD sa ⟨raw, 0, [], 0, 0, 0, 0, [], 2⟩ nl none ++ (r, .list []) :: (du, dueL recs) :: recsC [] recs)
    (fun j m1 cs1 => ∃ (s1 : Nat) (z : SS) (dc : Option Value) (ws : List Value) (o2 o3 o4 o5 o7 o8 : Option Value), R3 raw s1 z (page3 (recs.take j)) (page3 (recs.drop j)) ∧ ws.length ≤ 1000 ∧ z.dcs ≤ 900 ∧ (0 < j → dc = some (.int z.dcs 0)) ∧
      m1 = lm3 a (some (.ref nb)) (some (strV raw)) (some (strV page)) (some (.ref du)) o1 o2 o3 o4 o5 o6 o7 o8 (some (.ref sa.st)) (some (.ref r)) none ∧ cs1 = stmD sa z nl dc ++ (r, .list ws) :: (du, dueL recs) :: recsC [] recs) ?x1 ⟨0, _, none, [], o2, o3, o4, o5, o7, o8, ?x5, by simp, by show 2 ≤ 900; decide, fun q => absurd q (by decide), rfl, rfl⟩ ?x2 ?x3 ?x4
  case x5 =>
    refine ⟨rfl, Nat.zero_le _, Nat.le_refl _, Nat.zero_le _, by simp, Nat.zero_le _, Nat.zero_le _, ?_, ⟨[], rfl, rfl, rfl⟩, by simp, Nat.le_refl _⟩
    show page3 recs = [] ++ norm raw
    rw [← W.pg, W.w.nrm]; rfl
  case x1 =>
    refine PE.ev (v := .ref du) ?x6 ⟨rfl, rfl⟩
    case x6 => dsimp only [lm3]; kcf_all
  case x2 =>
    rintro j m1 cs1 ⟨s1, z, dc, ws, o2, o3, o4, o5, o7, o8, R, hw, hd, hdc, rfl, rfl⟩
    exact List.mem_append_right _ (mem_tl mem_hd)
  case x4 =>
    rintro m1 cs1 zk ⟨s1, z, dc, ws, o2, o3, o4, o5, o7, o8, R, hw, hd, hdc, rfl, rfl⟩
    rw [List.length_map] at R hdc
    rw [List.take_length, List.drop_length, ← W.pg] at R
    refine ⟨rfl, ⟨z, s1, R, hd, ws, o2, o3, o4, o5, o7, o8⟩, rfl, ?_⟩
    rw [hdc (by omega)]; rfl
  case x3 =>
  rintro j x m1 cs1 hx zk ⟨s1, z, dc, ws, o2, o3, o4, o5, o7, o8, R, hw, hd, -, rfl, rfl⟩
  obtain ⟨rr, hrr, rfl⟩ : ∃ rr, recs[j]? = some rr ∧ Value.ref rr.t = x := by
    rw [List.getElem?_map] at hx
    cases q : recs[j]? with
    | none => rw [q] at hx; cases hx
    | some v => rw [q] at hx; exact ⟨v, rfl, by simpa using hx⟩
  have hjl : j < recs.length := (List.getElem?_eq_some_iff.mp hrr).1
  have hb := W.beh j rr hrr
  have hdrop : recs.drop j = rr :: recs.drop (j + 1) := by
    rw [List.drop_eq_getElem_cons hjl]
    rw [List.getElem?_eq_getElem hjl] at hrr
    rw [Option.some.inj hrr]
  have htake : recs.take (j + 1) = recs.take j ++ [rr] := by rw [List.take_succ, hrr]; rfl
  have hsplit : recs = recs.take j ++ rr :: recs.drop (j + 1) := by rw [← hdrop, List.take_append_drop]
  have hpost : j + 1 = len → page3 (recs.drop (j + 1)) = [] := fun q => by rw [List.drop_eq_nil_of_le (by omega)]; rfl
  have hbeh := beh_rec (len := len) (j := j) (n := rr.n) hpost (by omega)
  rw [← hb] at hbeh
  have hrest : (rr.b = none ∧ page3 (recs.drop (j + 1)) = []) ∨ ∃ y, rr.b = some y := by
    cases q : rr.b with
    | some y => exact .inr ⟨y, rfl⟩
    | none =>
      refine .inl ⟨rfl, hpost ?_⟩
      rw [hb] at q
      unfold bh3 at q
      split at q
      · split at q <;> cases q
      · omega
  have hmem : ∀ y ∈ recC (page3 (recs.take j)) rr, y ∈ recsC [] recs := fun y hy => recsC_at hsplit hy
  rw [hdrop, page3_cons] at R
  have hitem : item3 rr ++ page3 (recs.drop (j + 1)) = blk3 rr.n ++ (fd3 rr.n ++ (rr.b.toList ++ page3 (recs.drop (j + 1)))) := by unfold item3; simp only [List.append_assoc]
  rw [hitem] at R
  rw [htake, page3_snoc]
  have hfin : page3 (recs.take j) ++ item3 rr = page3 (recs.take j) ++ blk3 rr.n ++ fd3 rr.n ++ rr.b.toList := by unfold item3; simp only [List.append_assoc]
  rw [hfin]
  generalize page3 (recs.drop (j + 1)) = post at R hbeh hrest
  generalize page3 (recs.take j) = pre at R hmem
  clear hitem hfin hpost hsplit htake hdrop hb hrr hx zk
  have hm1 : (rr.t, AO.tup [.int rr.n 0, strV (blk3 rr.n), .ref rr.h, strV (vl3 rr.n), .ref rr.l, optV rr.b]) ∈ recsC [] recs := hmem _ (by simp [recC])
  have hm2 : (rr.h, tupS (pre ++ blk3 rr.n)) ∈ recsC [] recs := hmem _ (by simp [recC])
  have hm3 : (rr.l, tupS (pre ++ blk3 rr.n ++ fd3 rr.n)) ∈ recsC [] recs := hmem _ (by simp [recC])
  obtain ⟨n, b, tt, h, l⟩ := rr
  simp only at R hbeh hrest hm1 hm2 hm3 ⊢
  clear hmem
  dsimp only [lm3]
  refine AS_tuple (vs := [.int n 0, strV (blk3 n), .ref h, strV (vl3 n), .ref l, optV b]) (List.mem_append_right _ (mem_tl (mem_tl hm1))) ?_
  obtain ⟨sz, hs1, hs2, hs3⟩ : ∃ k : Nat, (2 : Int) + n.fmod 7 = k ∧ 2 ≤ k ∧ k ≤ 900 := by
    have b0 : 0 ≤ n.fmod 7 := Int.fmod_nonneg_of_pos _ (by decide)
    have b1 : n.fmod 7 < 7 := Int.fmod_lt_of_pos _ (by decide)
    exact ⟨(2 + n.fmod 7).toNat, by omega, by omega, by omega⟩
  have Rz := r3_dcs R hs2
  have ez : stmD sa z nl dc = stmD sa { z with dcs := sz } nl dc := rfl
  have ed : ({ z with dcs := sz } : SS).dcs = sz := rfl
  rw [ez]
  generalize ({ z with dcs := sz } : SS) = z0 at Rz ed ⊢
  subst ed
  clear ez R hd
  generalize hX : (r, AO.list ws) :: (du, dueL recs) :: recsC [] recs = X
  dsimp only [stmD, fldG, fldT, List.cons_append, List.nil_append]
  keq_rows
  rw [hs1]
  change EX c i 8 _ (stm sa z0 nl ++ X) _ _
  subst hX
  -- the blanks
  refine EX_if (TV_or (TV_cmp (EV_untilFT (signs := [32, 9]) hK ns ht hs3 Rz (by decide) hg (by kba_ints) ?a1 ?a2 ?a3 hw (by simp) ?a4)))
  case a1 => kcf_all
  case a2 => kcf_all
  case a3 => kcf_all
  case a4 =>
  intro s2 z2 R2 d2
  obtain ⟨w1, w2⟩ := blk_run (n := n) hbeh
  rw [w1, w2] at R2
  rw [w1]
  have hd2 : z2.dcs ≤ 900 := by rw [d2]; exact hs3
  keq_rows
  refine ⟨fun e => absurd e (by simp), fun _ => TV_or (PT.tv (v := false) ?b1 ⟨fun e => (nomatch e), fun _ => TV_or_nil ⟨fun e => (nomatch e), fun _ => ?b2⟩⟩)⟩
  case b1 =>
    refine PT.suf (TV_cmp (PE.ev (v := .ref r) ?b3 (EV_list (PEs.evs (vs := [strV [32], strV [9]]) ?b4 ⟨by simp, fun t => ?b5⟩))))
    case b3 => kcf_all
    case b4 => kst_facts
    case b5 =>
      refine Op2.is (C_neL (ls := [[32], [9]]) (ms := [[32], [9]]) (mem_tl (List.mem_append_right _ mem_hd)) mem_hd (by decide) (by decide)) (Op1.is T_bool ⟨by simp, [_], rfl⟩)
  case b2 =>
  keq_rows
  -- the head, the value
  refine EX_if (TV_or (PT.tv (PT_posS (h := h) hK (by decide) ?c1 ?c2 ht R2 ?c3) ⟨fun e => (nomatch e), fun _ => TV_or (TV_cmp (EV_readS hK hg (by kba_ints) (by decide) ?c4 ?c5 ns ht hd2 R2 (by simp) hbeh ?c6))⟩))
  case c1 => kcf_all
  case c2 => intro t; kcf_all
  case c3 => exact mem_tl (mem_tl hm2)
  case c4 => kcf_all
  case c5 => kcf_all
  case c6 =>
  intro s3 z3 ws3 R3' d3 hw3
  have hd3 : z3.dcs ≤ 900 := by rw [d3]; exact hd2
  keq_rows
  refine ⟨fun e => absurd e (by simp), fun _ => TV_or_nil ⟨fun e => (nomatch e), fun _ => ?d1⟩⟩
  case d1 =>
  keq_rows
  -- the tail, the sign behind
  have G3 := r3_good R3' ht hd3
  obtain ⟨c1, c2, c3, c4⟩ := r3_char ns R3'
  have hhd : (b.toList ++ post).head? = b := by
    rcases hrest with ⟨rfl, rfl⟩ | ⟨y, rfl⟩ <;> rfl
  refine EX_if (TV_or (PT.tv (PT_posS (h := l) hK (by decide) ?e1 ?e2 ht R3' ?e3) ⟨fun e => (nomatch e), fun _ => TV_or (TV_cmp (EV_charS hK (by decide) ?e4 G3 ?e5))⟩))
  case e1 => kcf_all
  case e2 => intro t; kcf_all
  case e3 => exact mem_tl (mem_tl hm3)
  case e4 => kcf_all
  case e5 =>
  rw [c1, hhd]
  refine PE.ev (v := optV b) ?f1 (Op2.is (C_neO b) (Op1.is T_bool ⟨fun e => (nomatch e), fun _ => TV_or_nil ⟨fun e => (nomatch e), fun _ => ?f2⟩⟩))
  case f1 => kcf_all
  case f2 =>
  keq_rows
  have hd4 : (chr1 z3).2.dcs ≤ 900 := by rw [c2]; exact hd3
  have R4 : ∃ s4, R3 raw s4 (chr1 z3).2 (pre ++ blk3 n ++ fd3 n ++ b.toList) post := by
    rcases hrest with ⟨rfl, rfl⟩ | ⟨y, rfl⟩
    · exact ⟨_, by have := c3 rfl; simpa using this⟩
    · obtain ⟨s4, -, R4, -, -, -⟩ := c4 y post rfl
      exact ⟨s4, R4⟩
  obtain ⟨s4, R4⟩ := R4
  exact ⟨s4, _, some (.int (chr1 z3).2.dcs 0), ws3, _, _, _, _, _, _, R4, hw3, hd4, fun _ => rfl, rfl, rfl⟩
theorem EX.less' {c : Cx} {i : Fi} {k : Nat} {m : Fields} {cs F R₀ : List Chunk} {st : Stmt} {Q : Flow → Fields → List Chunk → Prop} (t : Take cs F R₀) (h : EX c i k m F st Q) : EX c i k m cs st Q :=
  fun hF R s hs => h hF R s (hs.less t)
theorem replicate_flat {α : Type} (n : Nat) (x : α) : (List.replicate n [x]).flatten = List.replicate n x := by
  induction n with
  | zero => rfl
  | succ q ih => rw [List.replicate_succ, List.replicate_succ, List.flatten_cons, ih]; rfl
theorem filter_count (p : Nat → Bool) : ∀ l : List Nat, ((List.range l.length).filter fun j => p (l.getD j 0)).length = l.countP p := by
  intro l
  rw [← List.countP_eq_length_filter]
  have : (List.range l.length).countP (fun j => p (l.getD j 0)) = ((List.range l.length).map fun j => l.getD j 0).countP p := by rw [List.countP_map]; rfl
  rw [this]
  congr 1
  apply List.ext_getElem?
  intro j
  rw [List.getElem?_map]
  by_cases h : j < l.length
  · rw [List.getElem?_range h, Option.map_some, List.getD_eq_getElem?_getD, List.getElem?_eq_getElem h]; rfl
  · rw [List.getElem?_eq_none (by simpa using h), List.getElem?_eq_none (by simpa using h)]; rfl
theorem law_ok : LawOk := by
  intro c hK a vs ns hL hI hlen s hg hos hh
  haveI pf : PF c := pf_of hK
  haveI pl : PL3 c := pl3_of hK
  have hseen : ∀ cs, Seen c cs a (ns.map intV) := fun cs => .inr ⟨_, hL, ints_nv hI⟩
  refine codeAny_mono (K_fn0 (k := 8) (args := [.ref a]) (Q := fun v _ => v = .bool true) (by rw [hK]; k_is) (by rw [hK]; k_is) ["script"] ["numbers", "raw", "page", "due", "turn", "n", "blanks", "head", "value", "text", "tail", "behind", "stream", "row", "faults"]
    gl3 [] (fun s vs _ h => by refine bnd1 h fun a => ?_; exact .of_eq rfl) rfl (by decide) (by decide) (by decide) (by decide) rfl rfl rfl (by simp) ?_ ?_ (vs := [.ref a]) rfl hg hos hh) ?_
  case refine_3 => exact fun r s' h => h
  case refine_2 => exact ⟨rfl, by decide, by decide⟩
  clear hL hI hg hos hh
  intro i hg
  conv => arg 6; whnf
  simp only [locals0, List.zip_cons_cons, List.zip_nil_right, List.map_cons, List.map_nil, List.append_nil, List.cons_append, List.nil_append]
  unfold gl3 at hg
  keq_hits
  refine EX_thenE (ι := Addr) (fun b => lm3 a (some (.ref b)) none none none none none none none none none none none none none none) (fun b => [(b, .list ((nums3 ns).map intV))]) ?N ?R1
  case N =>
    refine EX.less ?_
    keq_hits
    refine EV_sliceS (lo := none) (hi := some 16) (EV_or (PE.ev ?aa ((T_listS (hseen _) (by rw [List.length_map]; omega)).is ⟨fun e => ?_, fun e => EV_boolop_one ?_⟩)))
    case aa => kcf_all
    · refine ⟨a, _, rfl, hseen _, by rw [List.length_map]; omega, PO.no, ?zz1, fun b => ?_⟩
      case zz1 => kcj_m
      keq_rows
      have hne : ¬ ns = [] := fun q => by rw [q] at e; simp at e
      have e2 : sl (ns.map intV) none (some 16) = (nums3 ns).map intV := by
        unfold nums3
        rw [if_neg hne, List.map_take]
        exact sl__n _ 16
      rw [e2]
      exact ⟨_, _, Take.all, rfl, b, rfl, rfl⟩
    · keq_rows
      refine ⟨by simp, fun t => ⟨t, _, rfl, .inl mem_hd, by simp, PO.no, ?zz2, fun b => ?_⟩⟩
      case zz2 => kcj_m
      keq_rows
      have hne : ns = [] := Classical.byContradiction fun q => by
        cases ns with
        | nil => exact q rfl
        | cons x r => simp at e
      have e2 : sl [intV 5, intV 48, intV 27] none (some 16) = (nums3 ns).map intV := by
        subst hne
        exact sl__n _ 16
      rw [e2]
      exact ⟨_, _, Take.cons .head Take.nil, rfl, b, rfl, rfl⟩
  case R1 =>
  intro nb
  have hnums := nums3_len ns
  have hnpos := nums3_pos ns
  generalize nums3 ns = nums at hnums hnpos
  clear hseen hlen
  dsimp only [lm3]
  keq_hits
  refine' EX_assignC (v1 := strV []) (v2 := strV []) ?a1 ?a2 ?a3 ?a4 ?a5
  case a1 => kcf_all
  case a2 => kcf_all
  case a3 => kbo_bools
  case a4 => kbo_bools
  case a5 =>
  keq_rows
  refine ⟨by simp, fun du => ?_⟩
  keq_rows
  refine EX_thenE (ι := WO nums.length) (fun o => lmW a nb du o.raw o.page o.o1 o.o2 o.o3 o.o4 o.o5 o.o6 o.o7 o.o8) (fun o => (nb, .list (nums.map intV)) :: (du, dueL o.recs) :: recsC [] o.recs) ?W1 ?W2
  case W1 =>
    have h := law_write hK (i := i) (a := a) (nb := nb) (du := du) (nums := nums) (show GOk i gl3 from hg) hnums
    refine EX.less' (R₀ := []) (F := [(nb, .list (nums.map intV)), (du, .list [])]) ?w1 h
    case w1 => exact List.Perm.swap _ _ _
  case W2 =>
  rintro ⟨raw, page, recs, W, o1, o2, o3, o4, o5, o6, o7, o8⟩
  dsimp only [lmW, lm3]
  have hrl := W.rl
  have hpl := W.pl
  keq_rows
  refine' EV_callK' ?b1 PF.kc_S ?b2 ((stream_new hK (A := i.A) (src := raw) (by simp)).mono ?b3 |>.level (by decide))
  kqd_all
  rintro v cs' ⟨sa, nl, rfl, rfl⟩
  keq_rows
  refine ⟨by simp, fun r => ?_⟩
  keq_rows
  refine EX_thenE (ι := CO raw page) (fun o => lm3 a (some (.ref nb)) (some (strV raw)) (some (strV page)) (some (.ref du)) o1 o.o2 o.o3 o.o4 o.o5 o6 o.o7 o.o8 (some (.ref sa.st)) (some (.ref r)) none) (fun o => stm sa o.z nl ++ (r, .list o.ws) :: (du, dueL recs) :: recsC [] recs) ?C1 ?C2
  case C1 =>
    have h := law_check hK (i := i) (a := a) (nb := nb) (du := du) (r := r) (sa := sa) (nl := nl) (o1 := o1) (o2 := o2) (o3 := o3) (o4 := o4) (o5 := o5) (o6 := o6) (o7 := o7) (o8 := o8) (show GOk i gl3 from hg) W hnums hnpos
    refine EX.less' (R₀ := [(nl, .list [.int 0 0]), (nb, .list (nums.map intV))]) (F := stmD sa ⟨raw, 0, [], 0, 0, 0, 0, [], 2⟩ nl none ++ (r, .list []) :: (du, dueL recs) :: recsC [] recs) ?c1 h
    case c1 =>
      show List.Perm ((r, AO.list []) :: (stmD sa ⟨raw, 0, [], 0, 0, 0, 0, [], 2⟩ nl none ++ (nl, .list [.int 0 0]) :: (nb, .list (nums.map intV)) :: (du, dueL recs) :: recsC [] recs)) _
      rw [List.append_assoc]
      exact List.perm_middle.symm.trans (List.Perm.append_left _ (List.Perm.cons _ (List.perm_append_comm (l₁ := [(nl, AO.list [.int 0 0]), (nb, AO.list (nums.map intV))]) (l₂ := (du, dueL recs) :: recsC [] recs))))
  case C2 =>
  rintro ⟨z, s1, R, hd, ws, o2, o3, o4, o5, o7, o8⟩
  dsimp only [lm3]
  keq_rows
  have ns' := W.w.ns
  have ht : raw.length ≤ 900 := by omega
  have G := r3_good R ht hd
  refine EV.less (EV_lenE hg (by kba_ints) PF.g_len (EV_comp (gl := ["_law_faulty", "ord"]) (cs1 := stm sa z nl ++ (r, .list ws) :: (du, dueL recs) :: recsC [] recs) (strIt page) page.length (fun j => strV [page.getD j 0]) (fun j => faulty (page.getD j 0)) (fun j => strV [page.getD j 0]) (fun _ => 0) ?it ?self ?nxt ?z (by decide) rfl (by decide) rfl (by decide) ?fr ?te ?el ?q))
  case it =>
    refine PE.ev (v := strV page) ?e1 (I_str (by simp [stm]) fun it => ⟨it, rfl, rfl⟩)
    case e1 => kcf_all
  case self => exact fun ia cs2 => I_self_str ia cs2
  case nxt =>
    intro ia j hj hA R s it' hit hs
    refine noE (N_str (l := page) (j := j) hA R s it' hit hs) ?_
    rintro r s2 ⟨cs2, h2, q2⟩
    refine ⟨cs2, h2, ?_⟩
    cases hr : r.map nv with
    | none => rw [hr] at q2; exact ⟨Nat.le_antisymm hj q2.1, q2.2⟩
    | some v => rw [hr] at q2; exact q2
  case z => omega
  case fr =>
    intro y hy hf
    simp only [List.mem_cons, List.not_mem_nil, or_false] at hy
    rcases hy with rfl | rfl | rfl | rfl <;> cases hf
  case te =>
    refine .inr ⟨_, rfl, fun i2 ia D E1 j hj hg2 _ => ?_⟩
    have hx := W.w.sg (page.getD j 0) (by rw [List.getD_eq_getElem?_getD, List.getElem?_eq_getElem hj]; exact List.getElem_mem hj)
    generalize page.getD j 0 = x at hx ⊢
    clear hg
    refine PT_plain (PE_callK (vs := [intV x]) ?te1 PL3.kfaulty ?te2 ((faulty_spec hK hx.2.1 hx.2.2 (by simp)).level (by decide))) T_bool
    case te1 => kcf_all
    case te2 => kst_facts
  case el =>
    intro i2 ia D E1 j hj _ hg2 hf2
    kcf_all
  case q =>
  intro rr
  have hcnt := filter_count faulty page
  refine ⟨rr, _, rfl, mem_hd, ?_, stm sa z nl ++ (r, .list ws) :: (du, dueL recs) :: recsC [] recs, [_], List.perm_append_comm (l₁ := [_]), ?_⟩
  · rw [List.length_map, hcnt]
    have : page.countP faulty ≤ page.length := List.countP_le_length
    omega
  rw [List.length_map, hcnt]
  keq_rows
  obtain ⟨c1, c2, c3, -⟩ := r3_char ns' R
  have R' := c3 rfl
  have herr := R'.errs
  rw [List.take_length, W.w.cnt] at herr
  refine EV_and (EV_cmp (EV_charS hK (by decide) ?f1 G ?f2))
  case f1 => kcf_all
  case f2 =>
  rw [c1]
  refine PE.ev PE_none (Op2.is C_is (Op1.is T_bool ⟨fun _ => EV_boolop_one ?f3, fun e => absurd e (by decide)⟩))
  case f3 =>
  generalize (chr1 z).2 = z2 at herr ⊢
  generalize hX : (r, AO.list ws) :: (du, dueL recs) :: recsC [] recs = X
  dsimp only [stm, fldS, fldG, fldT, List.cons_append, List.nil_append]
  rw [herr]
  have hq : page.countP faulty ≤ page.length := List.countP_le_length
  generalize page.countP faulty = q at hcnt hq ⊢
  refine EV_cmp (PE.ev (v := .ref sa.er) ?g1 (EV_bin (EV_list (PEs.evs (vs := [strV errT]) ?g2 ⟨by simp, fun er1 => ?_⟩))))
  case g1 => kcf_all
  case g2 => kst_facts
  refine PE.ev (v := .int (q : Nat) 0) ?g3 ?_
  case g3 => kcf_all
  refine B_mulL mem_hd (by simp; omega) (by omega) fun er2 => ?_
  have g10 : (List.replicate q [strV errT]).flatten = (List.replicate q errT).map strV := by
    rw [List.map_replicate, replicate_flat]
  rw [g10]
  refine Op2.is (C_eqL (ls := List.replicate q errT) (ms := List.replicate q errT) ?g4 mem_hd ?g5 ?g5) ?_
  case g4 =>
    rw [List.map_replicate]
    kba_ints
  case g5 =>
    intro l hl
    rw [List.eq_of_mem_replicate hl]
    decide
  rw [decide_eq_true rfl]
  exact rfl
end Mine
theorem PySem.Challenge.cw_im0056_03_holds : PySem.Challenge.rw_im0056_03.Holds := by
  exact Mine.claim_of Mine.law_ok
