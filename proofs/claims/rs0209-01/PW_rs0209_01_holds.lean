import PyProof.Rows.All
import Wide.All
import OpenK.AllK
import OpenK.XSeg
import Wide.FinOn
import PySem.Challenge.RW_rs0209_01
open PySem PySem.W PyProof.Rows
open PySem.W.X (SegX)
set_option Elab.async false
set_option maxRecDepth 100000
set_option maxHeartbeats 0
set_option linter.all false
set_option compiler.extract_closed false
namespace Mine
open_top hd for PySem.Challenge.rw_rs0209_01
-- M0
/- The state: a base heap that stands, a list of owned objects, the generators' states, the os. -/
abbrev Res := Addr × (Obj → Prop)
/-- what stands for good: an address, its object -/
abbrev Fix := Addr → Option Obj
noncomputable def Fix.le (B B' : Fix) : Prop := ∀ b o, B b = some o → B' b = some o
theorem Fix.le.rfl {B : Fix} : Fix.le B B := fun _ _ e => e
theorem Fix.le.trans {B B' B'' : Fix} (x : Fix.le B B') (y : Fix.le B' B'') : Fix.le B B'' := fun b o e => y b o (x b o e)
noncomputable def Fix.put (B : Fix) (a : Addr) (o : Obj) : Fix := fun b => if b = a then some o else B b
structure Own (B : Fix) (rs : List Res) (h : Heap) : Prop where
  base : ∀ b o, B b = some o → h.get? b = some o
  res : ∀ r ∈ rs, ∃ o, h.get? r.1 = some o ∧ r.2 o
  nodup : (rs.map (·.1)).Nodup
  fresh : ∀ r ∈ rs, B r.1 = none

inductive Upd1 (a : Addr) (P P' : Obj → Prop) : List Res → List Res → Prop
  | head {r} : Upd1 a P P' ((a, P) :: r) ((a, P') :: r)
  | tail {p r r'} : Upd1 a P P' r r' → Upd1 a P P' (p :: r) (p :: r')
theorem Upd1.split {a P P'} : ∀ {l l' : List Res}, Upd1 a P P' l l' → ∃ xs ys, l = xs ++ (a, P) :: ys ∧ l' = xs ++ (a, P') :: ys
  | _, _, .head => ⟨[], _, rfl, rfl⟩
  | _, _, .tail (p := p) h => let ⟨xs, ys, e1, e2⟩ := h.split; ⟨p :: xs, ys, by rw [e1]; rfl, by rw [e2]; rfl⟩
theorem Upd1.mem {a P P'} {l l' : List Res} (u : Upd1 a P P' l l') : (a, P) ∈ l := by
  obtain ⟨xs, ys, rfl, _⟩ := u.split; simp
theorem Upd1.keys {a P P'} {l l' : List Res} (u : Upd1 a P P' l l') : l'.map (·.1) = l.map (·.1) := by
  obtain ⟨xs, ys, rfl, rfl⟩ := u.split; simp

theorem key_unique' : ∀ {l : List Res}, (l.map (·.1)).Nodup → ∀ {p q : Res}, p ∈ l → q ∈ l → p.1 = q.1 → p = q
  | [], _, _, _, hp, _, _ => nomatch hp
  | x :: l, hn, p, q, hp, hq, e => by
    rw [List.map_cons, List.nodup_cons] at hn
    cases List.mem_cons.mp hp with
    | inl h1 =>
      cases List.mem_cons.mp hq with
      | inl h2 => rw [h1, h2]
      | inr h2 => exact absurd (by rw [← h1, e]; exact List.mem_map_of_mem h2) hn.1
    | inr h1 =>
      cases List.mem_cons.mp hq with
      | inl h2 => exact absurd (by rw [← h2, ← e]; exact List.mem_map_of_mem h1) hn.1
      | inr h2 => exact key_unique' hn.2 h1 h2 e

section
variable {B B' : Fix} {h : Heap} {rs : List Res}
theorem Own.get (O : Own B rs h) {a P} (hm : (a, P) ∈ rs) : ∃ o, h.get? a = some o ∧ P o := O.res _ hm
theorem Own.skip (O : Own B rs h) (o : Obj) : Own B rs (h.push o) :=
  ⟨fun b o' e => Heap.get?_push_of_some _ (O.base b o' e), fun r hr => let ⟨o', e, p⟩ := O.res r hr; ⟨o', Heap.get?_push_of_some _ e, p⟩, O.nodup, O.fresh⟩
theorem Own.push (O : Own B rs h) {o : Obj} {P : Obj → Prop} (hp : P o) (hf : o.isFreed = false) : Own B ((h.objs.size, P) :: rs) (h.push o) := by
  refine ⟨(O.skip o).base, fun r hr => ?_, ?_, fun r hr => ?_⟩
  · rcases List.mem_cons.mp hr with rfl | hr
    · exact ⟨o, Heap.get?_push_size _ hf, hp⟩
    · exact (O.skip o).res r hr
  · rw [List.map_cons, List.nodup_cons]
    refine ⟨fun hm => ?_, O.nodup⟩
    obtain ⟨r, hr, e⟩ := List.mem_map.mp hm
    obtain ⟨o', e', _⟩ := O.res r hr
    have q : r.1 < h.objs.size := Heap.lt_size e'
    have e : r.1 = h.objs.size := e
    exact absurd (e ▸ q) (Nat.lt_irrefl _)
  · rcases List.mem_cons.mp hr with rfl | hr
    · cases q : B h.objs.size with
      | none => rfl
      | some o' => exact absurd (Heap.lt_size (O.base _ _ q)) (Nat.lt_irrefl _)
    · exact O.fresh r hr
theorem Own.upd (O : Own B rs h) {rs' : List Res} {a P P'} (u : Upd1 a P P' rs rs') {h' : Heap} (hs : Heap.SameBut a h h') (hp : ∃ o, h'.get? a = some o ∧ P' o) : Own B rs' h' := by
  have nd' : (rs'.map (·.1)).Nodup := by rw [u.keys]; exact O.nodup
  have hB : B a = none := O.fresh _ u.mem
  refine ⟨fun b o e => (hs.2 b (fun z => by subst z; rw [hB] at e; cases e)).trans (O.base b o e), fun r hr => ?_, nd', fun r hr => ?_⟩
  · obtain ⟨xs, ys, rfl, rfl⟩ := u.split
    have hx : ((a, P') : Res) ∈ xs ++ (a, P') :: ys := by simp
    by_cases e : r.1 = a
    · have := key_unique' nd' hr hx e
      subst this; exact hp
    · have hr' : r ∈ xs ++ (a, P) :: ys := by
        rcases List.mem_append.mp hr with q | q
        · exact List.mem_append.mpr (.inl q)
        · rcases List.mem_cons.mp q with rfl | q
          · exact absurd rfl e
          · exact List.mem_append.mpr (.inr (.tail _ q))
      obtain ⟨o, e1, p⟩ := O.res r hr'
      exact ⟨o, (hs.2 _ e).trans e1, p⟩
  · obtain ⟨xs, ys, rfl, rfl⟩ := u.split
    rcases List.mem_append.mp hr with q | q
    · exact O.fresh r (List.mem_append.mpr (.inl q))
    · rcases List.mem_cons.mp q with rfl | q
      · exact hB
      · exact O.fresh r (List.mem_append.mpr (.inr (.tail _ q)))
theorem Own.sub (O : Own B rs h) {rs' : List Res} (hs : rs'.Sublist rs) : Own B rs' h :=
  ⟨O.base, fun r hr => O.res r (hs.subset hr), (hs.map _).nodup O.nodup, fun r hr => O.fresh r (hs.subset hr)⟩
theorem Own.perm (O : Own B rs h) {rs' : List Res} (hs : rs.Perm rs') : Own B rs' h :=
  ⟨O.base, fun r hr => O.res r (hs.mem_iff.mpr hr), (hs.map _).nodup_iff.mp O.nodup, fun r hr => O.fresh r (hs.mem_iff.mpr hr)⟩
theorem Own.drop (O : Own B rs h) {r : Res} {rs'} (e : rs = r :: rs') : Own B rs' h := O.sub (e ▸ List.sublist_cons_self _ _)
theorem Own.weaken (O : Own B rs h) {a P P'} {rs' : List Res} (u : Upd1 a P P' rs rs') (hw : ∀ o, P o → P' o) : Own B rs' h := by
  obtain ⟨o, e, p⟩ := O.get u.mem
  exact O.upd u (Heap.SameBut.refl _ _) ⟨o, e, hw o p⟩
theorem Own.ne (O : Own B rs h) {b : Addr} {o : Obj} (e : B b = some o) {a P} (hm : (a, P) ∈ rs) : b ≠ a := fun z => by
  subst z; have := O.fresh _ hm; rw [e] at this; cases this
end

theorem Own.shrink (O : Own B' rs h) (l : Fix.le B B') : Own B rs h :=
  ⟨fun b o e => O.base b o (l b o e), O.res, O.nodup, fun r hr => by
    cases q : B r.1 with
    | none => rfl
    | some o => have := O.fresh r hr; rw [l _ _ q] at this; cases this⟩
theorem Own.freeze {a P} (O : Own B ((a, P) :: rs) h) : ∃ o, P o ∧ Fix.le B (B.put a o) ∧ (B.put a o) a = some o ∧ Own (B.put a o) rs h := by
  obtain ⟨o, e, p⟩ := O.res _ List.mem_cons_self
  have hB : B a = none := O.fresh _ List.mem_cons_self
  have nd := O.nodup
  rw [List.map_cons, List.nodup_cons] at nd
  refine ⟨o, p, fun b o' q => ?_, if_pos rfl, fun b o' q => ?_, fun r hr => O.res r (List.mem_cons_of_mem _ hr), nd.2, fun r hr => ?_⟩
  · have : b ≠ a := fun z => by subst z; rw [hB] at q; cases q
    unfold Fix.put; rw [if_neg this]; exact q
  · unfold Fix.put at q
    by_cases z : b = a
    · subst z; rw [if_pos rfl] at q; cases q; exact e
    · rw [if_neg z] at q; exact O.base b o' q
  · have : r.1 ≠ a := fun z => nd.1 (by have q := List.mem_map_of_mem (f := (·.1)) hr; rw [z] at q; exact q)
    unfold Fix.put; rw [if_neg this]; exact O.fresh r (List.mem_cons_of_mem _ hr)

structure St (B : Fix) (O : OsState) (rs : List Res) (G : Array GenState) (s : Shared) : Prop where
  own : Own B rs s.heap
  gens : s.gens = G
  os : s.os = O
section
variable {B B' : Fix} {O : OsState} {rs rs' : List Res} {G : Array GenState} {s : Shared}
theorem St.tok (S : St B O rs G s) (t : Nat) : St B O rs G { s with toks := t } := ⟨S.own, S.gens, S.os⟩
theorem St.heap (S : St B O rs G s) {h' : Heap} (o : Own B rs' h') : St B O rs' G { s with heap := h' } := ⟨o, S.gens, S.os⟩
theorem St.heapTok (S : St B O rs G s) {h' : Heap} {t : Nat} (o : Own B rs' h') : St B O rs' G { s with heap := h', toks := t } := ⟨o, S.gens, S.os⟩
theorem St.sub (S : St B O rs G s) (hs : rs'.Sublist rs) : St B O rs' G s := ⟨S.own.sub hs, S.gens, S.os⟩
theorem St.perm (S : St B O rs G s) (hs : rs.Perm rs') : St B O rs' G s := ⟨S.own.perm hs, S.gens, S.os⟩
theorem St.drop {r : Res} (S : St B O (r :: rs) G s) : St B O rs G s := S.sub (List.sublist_cons_self _ _)
theorem St.base (S : St B O rs G s) {b : Addr} {o : Obj} (e : B b = some o) : s.heap.get? b = some o := S.own.base b o e
theorem St.get (S : St B O rs G s) {a P} (hm : (a, P) ∈ rs) : ∃ o, s.heap.get? a = some o ∧ P o := S.own.get hm
theorem St.weaken (S : St B O rs G s) {a P P'} (u : Upd1 a P P' rs rs') (hw : ∀ o, P o → P' o) : St B O rs' G s := ⟨S.own.weaken u hw, S.gens, S.os⟩
end

/-- a frame's names: every local of the def, bound or not -/
noncomputable def FrO (l : List (Str × Option Value)) : Obj → Prop := fun o => ∃ es ep, o.data = .dict es ep ∧ StrKeys es ∧ (l.map (·.1)).Nodup ∧ ∀ p ∈ l, nsFind es p.1 = p.2
noncomputable def ListO (items : List Value) : Obj → Prop := fun o => ∃ n, o = { cls := .type "list", dict := none, data := .seq items.toArray n, slots := #[] }

inductive Put (x : Str) (v : Option Value) : List (Str × Option Value) → List (Str × Option Value) → Prop
  | head {w r} : Put x v ((x, w) :: r) ((x, v) :: r)
  | tail {p r r'} : Put x v r r' → Put x v (p :: r) (p :: r')
theorem Put.split {x : Str} {v} : ∀ {l l' : List (Str × Option Value)}, Put x v l l' → ∃ xs w ys, l = xs ++ (x, w) :: ys ∧ l' = xs ++ (x, v) :: ys
  | _, _, .head => ⟨[], _, _, rfl, rfl⟩
  | _, _, .tail (p := p) h => let ⟨xs, w, ys, e1, e2⟩ := h.split; ⟨p :: xs, w, ys, by rw [e1]; rfl, by rw [e2]; rfl⟩
theorem FrO.ns {l} {h : Heap} {a : Addr} {o : Obj} (ho : h.get? a = some o) (hf : FrO l o) : ∃ m, h.Ns a m ∧ (l.map (·.1)).Nodup ∧ ∀ p ∈ l, m p.1 = p.2 := by
  obtain ⟨es, ep, hd, hk, hn, hm⟩ := hf
  exact ⟨nsFind es, ⟨o, es, ep, ho, hd, hk, fun _ => rfl⟩, hn, hm⟩
theorem FrO.of_ns {l : List (Str × Option Value)} {h : Heap} {a : Addr} {m : Str → Option Value} (n : h.Ns a m) (hn : (l.map (·.1)).Nodup) (hm : ∀ p ∈ l, m p.1 = p.2) : ∃ o, h.get? a = some o ∧ FrO l o := by
  obtain ⟨o, es, ep, ho, hd, hk, he⟩ := n
  exact ⟨o, ho, es, ep, hd, hk, hn, fun p hp => (he _).trans (hm p hp)⟩
theorem Put.keys {x : Str} {v} {l l' : List (Str × Option Value)} (u : Put x v l l') : l'.map (·.1) = l.map (·.1) := by
  obtain ⟨xs, w, ys, rfl, rfl⟩ := u.split; simp
theorem Put.look {x : Str} {v : Value} {l l' : List (Str × Option Value)} (u : Put x (some v) l l') (hn : (l.map (·.1)).Nodup) {m : Str → Option Value} (hm : ∀ p ∈ l, m p.1 = p.2) :
    ∀ p ∈ l', (if p.1 = x then some v else m p.1) = p.2 := by
  obtain ⟨xs, w, ys, rfl, rfl⟩ := u.split
  rw [List.map_append, List.map_cons, List.nodup_append] at hn
  obtain ⟨n1, n2, n3⟩ := hn
  rw [List.nodup_cons] at n2
  intro p hp
  rcases List.mem_append.mp hp with q | q
  · have : p.1 ≠ x := fun e => n3 p.1 (List.mem_map_of_mem q) x (.head _) e
    rw [if_neg this]; exact hm p (List.mem_append.mpr (.inl q))
  · rcases List.mem_cons.mp q with rfl | q
    · rw [if_pos rfl]
    · have : p.1 ≠ x := fun e => n2.1 (by have z := List.mem_map_of_mem (f := (·.1)) q; rw [e] at z; exact z)
      rw [if_neg this]; exact hm p (List.mem_append.mpr (.inr (.tail _ q)))

/-- what a call hands back -/
noncomputable def Back (P : Value → Shared → Prop) (f : Flow) (s : Shared) : Prop := P (match f with | .ret v => v | _ => .none) s
abbrev NoE : Value → Shared → Prop := fun _ _ => False
section
variable {α : Type} {prog : Program} {w : World} {A : Around} {E : Value → Shared → Prop} {B : Fix} {O : OsState} {rs rs' : List Res} {G : Array GenState} {s : Shared}
theorem anyE {t : Sem α} {Q : α → Shared → Prop} (h : wpAny (model prog w) A t Q NoE s) : wpAny (model prog w) A t Q E s := wpAny_mono h (fun _ _ x => x) (fun _ _ x => x.elim)

theorem r_name {env : Env} {x : Str} {pos : Pos} {v : Value} {l} {Q : Value → Shared → Prop} (S : St B O rs G s) (hm : (env.locals, FrO l) ∈ rs) (hv : (x, some v) ∈ l) (h : Q v s)
    (hk : env.scope.kind = .function) (hl : env.kindOf x = some .local) (hd : (x == ("__debug__" : Str)) = false) : wpAny (model prog w) A (eval (.Name x pos) env) Q E s := by
  obtain ⟨o, ho, hf⟩ := S.get hm
  obtain ⟨m, n, _, hm'⟩ := FrO.ns ho hf
  exact wpAny_Name (wpAny_loadName_local hk hl n (hm' _ hv) h) hd
theorem r_loadName {env : Env} {x : Str} {v : Value} {l} {Q : Value → Shared → Prop} (S : St B O rs G s) (hm : (env.locals, FrO l) ∈ rs) (hv : (x, some v) ∈ l) (h : Q v s)
    (hk : env.scope.kind = .function) (hl : env.kindOf x = some .local) : wpAny (model prog w) A (loadName env x) Q E s := by
  obtain ⟨o, ho, hf⟩ := S.get hm
  obtain ⟨m, n, _, hm'⟩ := FrO.ns ho hf
  exact wpAny_loadName_local hk hl n (hm' _ hv) h
theorem r_store {env : Env} {x : Str} {v : Value} {l l'} {Q : Unit → Shared → Prop} (S : St B O rs G s) (hp : Put x (some v) l l') (u : Upd1 env.locals (FrO l) (FrO l') rs rs')
    (h : ∀ s', St B O rs' G s' → Q () s') (hk : env.scope.kind = .function) (hl : env.kindOf x = some .local) : wpAny (model prog w) A (storeName env x v) Q E s := by
  obtain ⟨o, ho, hf⟩ := S.get u.mem
  obtain ⟨m, n, hn, hm⟩ := FrO.ns ho hf
  refine wpAny_storeName_local hl n (fun h' hn' hs => h _ (S.heapTok (S.own.upd u hs (FrO.of_ns hn' (by rw [hp.keys]; exact hn) (hp.look hn hm))))) ?_
  rw [hk]; rfl
end
-- M1
noncomputable abbrev KF : Params → Frag := hd.heap_39
structure BaseH (w : World) (B : Heap) : Prop where
  k : (KF w.params).In B
  g : ∃ mg, B.Ns mainGlobals mg
  b : ∃ mb, B.Ns builtinsNs mb ∧ ∀ x : Str, x ≠ "__name__" → mb x = bootBuiltins x
  lim : B.NoLimit
noncomputable def Base (w : World) (B : Fix) : Prop := ∃ B0 : Heap, BaseH w B0 ∧ ∀ b o, B0.get? b = some o → B b = some o
theorem Base.mono {w : World} {B B' : Fix} (X : Base w B) (l : Fix.le B B') : Base w B' := let ⟨B0, H, k⟩ := X; ⟨B0, H, fun b o e => l b o (k b o e)⟩
theorem Base.k {w : World} {B : Fix} (X : Base w B) (a : Addr) (o : Obj) (e : (KF w.params).lookup a = some o) : B a = some o := let ⟨_, H, k⟩ := X; k _ _ (H.k a o e)
theorem Base.at {w : World} {B : Fix} (X : Base w B) {h : Heap} (b : ∀ b o, B b = some o → h.get? b = some o) : BaseH w h := by
  obtain ⟨B0, H, k⟩ := X
  have q : ∀ c o, B0.get? c = some o → h.get? c = some o := fun c o e => b c o (k c o e)
  exact ⟨H.k.keeps q, let ⟨mg, g⟩ := H.g; ⟨mg, g.keeps q⟩, let ⟨mb, g, e⟩ := H.b; ⟨mb, g.keeps q, e⟩, H.lim.keeps q⟩
/-- the def at an address of the written part -/
noncomputable def fdOf (P : Params) (a : Addr) : FuncData := match (KF P).lookup a with
  | some ⟨_, _, .func fd, _⟩ => fd
  | _ => default
noncomputable def isFd (P : Params) (a : Addr) : Bool := match (KF P).lookup a with
  | some ⟨_, _, .func _, _⟩ => true
  | _ => false
theorem fdOf_at {w : World} {B : Fix} {a : Addr} (X : Base w B) (h : isFd w.params a = true) : ∃ o, B a = some o ∧ o.data = .func (fdOf w.params a) := by
  unfold isFd at h
  split at h
  · rename_i c d fd sl e
    exact ⟨_, X.k a _ e, by unfold fdOf; rw [e]⟩
  · cases h
noncomputable abbrev envA (w : World) (a L : Addr) : Env :=
  { scope := (fdOf w.params a).scope, locals := L, globals := (fdOf w.params a).globals, cells := (fdOf w.params a).closure, qual := (fdOf w.params a).qualname ++ ".<locals>.", func := some a, code := (fdOf w.params a).code, frame := some L, builtins := (fdOf w.params a).builtins }
noncomputable def bodyOf (b : FuncBody) : List Stmt := match b with
  | .stmts l => l
  | .expr _ => []
noncomputable def plainFd (P : Params) (a : Addr) (ps : List Str) : Bool :=
  isFd P a && (match (fdOf P a).body with | .stmts _ => true | _ => false) && codeIn (KF P) (fdOf P a).code (fdOf P a).qualname && (fdOf P a).scope.names.all (fun x => x.2 != .cell)
    && !(fdOf P a).scope.isCoroutine && !(fdOf P a).scope.isGenerator && (fdOf P a).scope.kind == .function && ps.all (fun x => (fdOf P a).scope.names.lookup x == some .local)

theorem lookup_of_mem : ∀ {b : List (Str × Value)} {p : Str × Value}, (b.map (·.1)).Nodup → p ∈ b → b.lookup p.1 = some p.2
  | q :: b, p, hn, hp => by
    rw [List.map_cons, List.nodup_cons] at hn
    rw [List.lookup_cons]
    rcases List.mem_cons.mp hp with rfl | hp
    · simp
    · have : (p.1 == q.1) = false := by
        rw [beq_eq_false_iff_ne]; intro e; exact hn.1 (e ▸ List.mem_map_of_mem hp)
      rw [this]; exact lookup_of_mem hn.2 hp
theorem lookup_none : ∀ {b : List (Str × Value)} {x : Str}, x ∉ b.map (·.1) → b.lookup x = none
  | [], _, _ => rfl
  | q :: b, x, h => by
    rw [List.map_cons, List.mem_cons] at h
    rw [List.lookup_cons]
    have : (x == q.1) = false := by rw [beq_eq_false_iff_ne]; exact fun e => h (.inl e)
    rw [this]; exact lookup_none fun z => h (.inr z)
theorem frame_look {b : List (Str × Value)} {rest : List Str} (hn : (b.map (·.1) ++ rest).Nodup) :
    (((b.map fun p => (p.1, some p.2)) ++ rest.map fun x => (x, (none : Option Value))).map (·.1)).Nodup ∧ ∀ p ∈ (b.map fun p => (p.1, some p.2)) ++ rest.map fun x => (x, (none : Option Value)), b.reverse.lookup p.1 = p.2 := by
  constructor
  · have : (((b.map fun p => (p.1, some p.2)) ++ rest.map fun x => (x, (none : Option Value))).map (·.1)) = b.map (·.1) ++ rest := by simp [Function.comp_def]
    rw [this]; exact hn
  · obtain ⟨n1, n2, n3⟩ := List.nodup_append.mp hn
    have nr : (b.reverse.map (·.1)).Nodup := by rw [List.map_reverse]; exact (List.reverse_perm _).nodup_iff.mpr n1
    intro p hp
    rcases List.mem_append.mp hp with q | q
    · obtain ⟨y, hy, rfl⟩ := List.mem_map.mp q
      exact lookup_of_mem nr (List.mem_reverse.mpr hy)
    · obtain ⟨y, hy, rfl⟩ := List.mem_map.mp q
      refine lookup_none fun z => ?_
      rw [List.map_reverse, List.mem_reverse] at z
      exact n3 _ z _ hy rfl

section
variable {prog : Program} {w : World} {A : Around} {E : Value → Shared → Prop} {B : Fix} {O : OsState} {rs rs' : List Res} {G : Array GenState} {s : Shared}
theorem r_global {env : Env} {x : Str} {pos : Pos} {v : Value} {Q : Value → Shared → Prop} (X : Base w B) (S : St B O rs G s) (e : nsIn (KF w.params) mainGlobals x = some (some v)) (h : Q v s)
    (hg : env.globals = mainGlobals) (hk : env.scope.kind = .function) (hl : env.kindOf x = some .globalImplicit) (hd : (x == ("__debug__" : Str)) = false) : wpAny (model prog w) A (eval (.Name x pos) env) Q E s := by
  have H := X.at S.own.base
  obtain ⟨mg, g⟩ := H.g
  exact Calls.Name_function_global hk hl (Calls.loadGlobal_global (by rw [hg]; exact g) (mg_of H.k g e) h) hd
theorem r_builtin {env : Env} {x : Str} {pos : Pos} {v : Value} {Q : Value → Shared → Prop} (X : Base w B) (S : St B O rs G s) (e : nsIn (KF w.params) mainGlobals x = some none) (hv : bootBuiltins x = some v) (h : Q v s)
    (hg : env.globals = mainGlobals) (hb : env.builtins = builtinsNs) (hk : env.scope.kind = .function) (hl : env.kindOf x = some .globalImplicit) (hn : (x == ("__name__" : Str)) = false) (hd : (x == ("__debug__" : Str)) = false) : wpAny (model prog w) A (eval (.Name x pos) env) Q E s := by
  have H := X.at S.own.base
  obtain ⟨mg, g⟩ := H.g
  obtain ⟨mb, b, hmb⟩ := H.b
  exact Calls.Name_function_global hk hl (Calls.loadGlobal_builtin (by rw [hg]; exact g) (mg_none_of H.k g e) (by rw [hb]; exact b) ((hmb x (beq_eq_false_iff_ne.mp hn)).trans hv) h) hd
/-- how the arguments bind: at once, or by the defaults' tuple -/
inductive BindsAs (w : World) (a : Addr) (vs : List Value) (kw : List (Str × Value)) (binds : List (Str × Value)) : Prop
  | eq (e : bindArgs (fdOf w.params a) ⟨vs, kw⟩ = pure binds)
  | dflt (T : Addr) (c : Value) (d : Option Addr) (items : Array Value) (n : Nat) (sl : Array (Option Value)) (k : Option (Array Value) → Sem (List (Str × Value))) (hl : (KF w.params).lookup T = some ⟨c, d, .seq items n, sl⟩) (hd : (fdOf w.params a).defaults = .ref T)
    (h₁ : bindArgs (fdOf w.params a) ⟨vs, kw⟩ = seqItems? (fdOf w.params a).defaults >>= k) (h₂ : k (some items) = pure binds)
theorem BindsAs.to {a : Addr} {vs : List Value} {kw binds : List (Str × Value)} (h : BindsAs w a vs kw binds) (X : Base w B) (S : St B O rs G s) : BindsTo s (fdOf w.params a) ⟨vs, kw⟩ binds := by
  cases h with
  | eq e => exact BindsTo.of_eq e
  | dflt T c d items n sl k hl hd h₁ h₂ => exact BindsTo.of_defaults hd (S.base (X.k _ _ hl)) rfl h₁ h₂
/-- a call of a plain def of the text -/
theorem r_call {a : Addr} {vs : List Value} {kw : List (Str × Value)} {body : List Stmt} {oc : Value} {od : Option Addr} {fd : FuncData} {osl : Array (Option Value)} {P : Value → Shared → Prop} (binds : List (Str × Value)) (ps rest : List Str) (l : List (Str × Option Value)) (X : Base w B) (S : St B O rs G s) (hA : A.depth < recursionLimit)
    (hps : binds.map (·.1) = ps) (hp : plainFd w.params a ps = true) (hlook : (KF w.params).lookup a = some ⟨oc, od, .func fd, osl⟩) (hbody : fd.body = .stmts body) (hbind : BindsAs w a vs kw binds) (hnd : (ps ++ rest).Nodup)
    (hl : (binds.map fun p => (p.1, some p.2)) ++ rest.map (fun x => (x, (none : Option Value))) = l)
    (h : ∀ s' L, St B O ((L, FrO l) :: rs) G s' → wpAny (model prog w) (A.deeper (envA w a L)) (execs body (envA w a L)) (Back P) NoE s') :
    wpAny (model prog w) A (call (.ref a) vs kw) P NoE s := by
  subst hps
  have hb : (fdOf w.params a).body = .stmts body := by unfold fdOf; rw [hlook]; exact hbody
  unfold plainFd at hp
  simp only [Bool.and_eq_true, Bool.not_eq_true', beq_iff_eq, List.all_eq_true, bne_iff_ne, ne_eq, List.mem_map, forall_exists_index, and_imp, forall_apply_eq_imp_iff₂] at hp
  obtain ⟨⟨⟨⟨⟨⟨⟨h1, h2⟩, h3⟩, h4⟩, h5⟩, h6⟩, h7⟩, h8⟩ := hp
  obtain ⟨o, ho, hd⟩ := fdOf_at X h1
  refine wpAny_call (codeAny_call_def hA (S.base ho) hd (X.at S.own.base).lim (codeRec_of (X.at S.own.base).k h3) hb (hbind.to X S) h4 h8 (fun h₀ hns hk => ?_) h5 h6 h7)
  subst hl
  have fl := frame_look hnd
  have L : s.heap.objs.size = s.heap.objs.size := rfl
  refine anyE (wpAny_mono (h { s with heap := h₀, toks := s.toks + binds.length } s.heap.objs.size (S.heapTok ?_)) (fun f s'' q => q) fun _ _ q => q)
  refine ⟨fun b o e => hk _ _ (S.own.base b o e), fun r hr => ?_, ?_, fun r hr => ?_⟩
  · rcases List.mem_cons.mp hr with rfl | hr
    · exact FrO.of_ns hns fl.1 fl.2
    · obtain ⟨o, e, p⟩ := S.own.res r hr; exact ⟨o, hk _ _ e, p⟩
  · rw [List.map_cons, List.nodup_cons]
    refine ⟨fun hm => ?_, S.own.nodup⟩
    obtain ⟨r, hr, e⟩ := List.mem_map.mp hm
    obtain ⟨o', e', _⟩ := S.own.res r hr
    have q : r.1 < s.heap.objs.size := Heap.lt_size e'
    have e : r.1 = s.heap.objs.size := e
    exact absurd (e ▸ q) (Nat.lt_irrefl _)
  · rcases List.mem_cons.mp hr with rfl | hr
    · cases q : B s.heap.objs.size with
      | none => rfl
      | some o' => exact absurd (Heap.lt_size (S.own.base _ _ q)) (Nat.lt_irrefl _)
    · exact S.own.fresh r hr
end
-- M2
/-- what follows a statement -/
noncomputable def Then (M : Model) (A : Around) (rest : List Stmt) (env : Env) (Q : Flow → Shared → Prop) (E : Value → Shared → Prop) (f : Flow) (s : Shared) : Prop := match f with
  | .next => wpAny M A (execs rest env) Q E s
  | f => Q f s
noncomputable def Br (b : Bool) (p q : Prop) : Prop := (b = true → p) ∧ (b = false → q)
theorem Br.both {b : Bool} {p q : Prop} (h1 : b = true → p) (h2 : b = false → q) : Br b p q := ⟨h1, h2⟩
theorem Br.yes {p q : Prop} (h : p) : Br true p q := ⟨fun _ => h, fun e => nomatch e⟩
theorem Br.no {p q : Prop} (h : q) : Br false p q := ⟨(fun e => nomatch e), fun _ => h⟩
theorem Br.ofTrue {b : Bool} {p q : Prop} (e : b = true) (h : p) : Br b p q := e ▸ Br.yes h
theorem Br.ofFalse {b : Bool} {p q : Prop} (e : b = false) (h : q) : Br b p q := e ▸ Br.no h
theorem Br.ite {b : Bool} {p q : Prop} (h : Br b p q) : if b = true then p else q := by
  cases b
  · exact h.2 rfl
  · exact h.1 rfl
section
variable {α : Type} {M : Model} {prog : Program} {w : World} {A : Around} {E : Value → Shared → Prop} {B : Fix} {O : OsState} {rs rs' : List Res} {G : Array GenState} {s : Shared} {env : Env}

theorem n_store {x : Str} {v : Value} {l l'} {Q : Unit → Shared → Prop} (S : St B O rs G s) (u : Upd1 env.locals (FrO l) (FrO l') rs rs') (hp : Put x (some v) l l')
    (h : ∀ s', St B O rs' G s' → Q () s') (hk : env.scope.kind = .function) (hl : env.kindOf x = some .local) : wpAny (model prog w) A (storeName env x v) Q E s := r_store S hp u h hk hl
theorem n_execs {st : Stmt} {rest : List Stmt} {Q : Flow → Shared → Prop} (h : wpAny M A (exec st env) (Then M A rest env Q E) E s) : wpAny M A (execs (st :: rest) env) Q E s :=
  wpAny_execs_cons (wpAny_mono h (fun f s' q => by cases f <;> exact q) fun _ _ x => x)
theorem n_then {rest : List Stmt} {Q : Flow → Shared → Prop} (h : wpAny M A (execs rest env) Q E s) : Then M A rest env Q E .next s := h
theorem n_thenRet {rest : List Stmt} {Q : Flow → Shared → Prop} {v : Value} (h : Q (.ret v) s) : Then M A rest env Q E (.ret v) s := h
theorem n_thenBrk {rest : List Stmt} {Q : Flow → Shared → Prop} (h : Q .brk s) : Then M A rest env Q E .brk s := h
theorem n_thenCont {rest : List Stmt} {Q : Flow → Shared → Prop} (h : Q .cont s) : Then M A rest env Q E .cont s := h
theorem n_backRet {P : Value → Shared → Prop} {v : Value} (h : P v s) : Back P (.ret v) s := h
theorem n_backNext {P : Value → Shared → Prop} (h : P .none s) : Back P .next s := h
theorem n_if {test : Expr} {body orelse : List Stmt} {pos : Pos} {Q : Flow → Shared → Prop}
    (h : wpAny M A (isTrue test env (eval test env)) (fun b s₂ => Br b (wpAny M A (execs body env) Q E s₂) (wpAny M A (execs orelse env) Q E s₂)) E s) : wpAny M A (exec (.If test body orelse pos) env) Q E s :=
  wpAny_If (wpAny_mono h (fun _ _ q => q.ite) fun _ _ x => x)
theorem n_ifexp {test body orelse : Expr} {pos : Pos} {Q : Value → Shared → Prop}
    (h : wpAny M A (isTrue test env (eval test env)) (fun b s₂ => Br b (wpAny M A (eval body env) Q E s₂) (wpAny M A (eval orelse env) Q E s₂)) E s) : wpAny M A (eval (.IfExp test body orelse pos) env) Q E s :=
  IfExp_ (wpAny_mono h (fun _ _ q => q.ite) fun _ _ x => x)
theorem n_assign {x : Str} {p pos : Pos} {value : Expr} {Q : Flow → Shared → Prop} (h : wpAny M A (eval value env) (fun v s₁ => wpAny M A (storeName env x v) (fun _ => Q .next) E s₁) E s)
    (hs : swapsWith value (some (.Name x p)) pos.line env = pure false) : wpAny M A (exec (.Assign [.Name x p] value pos) env) Q E s := wpAny_Assign_Name h hs
theorem n_isCmp {l r : Expr} {op : CmpOp} {pos : Pos} {whole : Sem Value} {Q : Bool → Shared → Prop}
    (h : wpAny M A (eval l env) (fun a s₁ => wpAny M A (eval r env) (fun b s₂ => wpAny M A (compareOp op a b) (fun c s₃ => wpAny M A (truthy c) Q E s₃) E s₂) E s₁) E s)
    (hm : behindInMarks op r = false) : wpAny M A (isTrue (.Compare l [op] [r] pos) env whole) Q E s := wpAny_isTrue_Compare1 h hm
theorem n_cmp {l r : Expr} {op : CmpOp} {pos : Pos} {Q : Value → Shared → Prop} (h : wpAny M A (eval l env) (fun a s₁ => wpAny M A (eval r env) (fun b s₂ => wpAny M A (compareOp op a b) Q E s₂) E s₁) E s)
    (hm : behindInMarks op r = false) : wpAny M A (eval (.Compare l [op] [r] pos) env) Q E s := wpAny_Compare1 h hm
theorem n_isPlain {e : Expr} {whole : Sem Value} {Q : Bool → Shared → Prop} (h : wpAny M A whole (fun v s₁ => wpAny M A (truthy v) Q E s₁) E s)
    (he : isTrue e env whole = (do let v ← whole; standAt e.pos; holding [v] (truthy v))) : wpAny M A (isTrue e env whole) Q E s := isTrue_plain h he
theorem n_isAnd {x : Expr} {rest : List Expr} {pos : Pos} {whole : Sem Value} {Q : Bool → Shared → Prop}
    (h : wpAny M A (isTrue x env (eval x env)) (fun c s' => Br c (wpAny M A (isTrue (.BoolOp .And rest pos) env whole) Q E s') (Q false s')) E s) :
    wpAny M A (isTrue (.BoolOp .And (x :: rest) pos) env whole) Q E s := isTrue_and (wpAny_mono h (fun _ _ q => q.ite) fun _ _ x => x)
theorem n_isOr {x : Expr} {rest : List Expr} {pos : Pos} {whole : Sem Value} {Q : Bool → Shared → Prop}
    (h : wpAny M A (isTrue x env (eval x env)) (fun c s' => Br c (Q true s') (wpAny M A (isTrue (.BoolOp .Or rest pos) env whole) Q E s')) E s) :
    wpAny M A (isTrue (.BoolOp .Or (x :: rest) pos) env whole) Q E s := isTrue_or (wpAny_mono h (fun _ _ q => q.ite) fun _ _ x => x)
theorem n_or {e₁ e₂ : Expr} {pos : Pos} {Q : Value → Shared → Prop}
    (h : wpAny M A (eval e₁ env) (fun v s₁ => wpAny M A (truthy v) (fun c s₂ => Br c (Q v s₂) (wpAny M A (eval e₂ env) Q E s₂)) E s₁) E s) : wpAny M A (eval (.BoolOp .Or [e₁, e₂] pos) env) Q E s := by
  refine wpAny_Or2 (wpAny_mono h (fun v s₁ q => wpAny_mono q (fun c s₂ q => ?_) fun _ _ x => x) fun _ _ x => x)
  cases c
  · exact q.2 rfl
  · exact q.1 rfl
theorem n_call {func : Expr} {args : List Expr} {pos : Pos} {Q : Value → Shared → Prop} (h : wpAny M A (eval func env) (fun f s₁ => wpAny M A (callWith pos f [] (backTo pos (starEach args env)) []) Q E s₁) E s)
    (he : eval (.Call func args [] pos) env = (do callWith pos (← eval func env) [] (backTo pos (starEach args env)) (backToKw pos (keywordEach [] env)))) : wpAny M A (eval (.Call func args [] pos) env) Q E s := Call_ h he
theorem n_meth {o : Expr} {name : Str} {apos pos : Pos} {args : List Expr} {Q : Value → Shared → Prop}
    (h : wpAny M A (eval o env) (fun ov s₁ => wpAny M A (getMethod ov name (do return (← importBound o env).getD true)) (fun fx s₂ => wpAny M A (callWith pos fx.1 fx.2 (backTo pos (starEach args env)) []) Q E s₂) E s₁) E s)
    (he : eval (.Call (.Attribute o name apos) args [] pos) env = (do
      let ov ← eval o env
      standAt apos.atName
      let (f, first) ← holding [ov] (getMethod ov name (do return (← importBound o env).getD true))
      callWith pos f first (backTo pos (starEach args env)) [])) : wpAny M A (eval (.Call (.Attribute o name apos) args [] pos) env) Q E s := MethodCall_ h he
theorem n_args {e : Expr} {rest : List Expr} {pos : Pos} {Q : List Value → Shared → Prop}
    (h : wpAny M A (eval e env) (fun v s₁ => wpAny M A (spliced (backTo pos (starEach rest env))) (fun vs s₂ => Q (v :: vs) s₂) E s₁) E s)
    (he : starEach (e :: rest) env = (false, eval e env) :: starEach rest env) : wpAny M A (spliced (backTo pos (starEach (e :: rest) env))) Q E s := args_cons h he
theorem n_withB1 {pos : Pos} {id : String} {e : Expr} {rest : List Expr} {Q : Value → Shared → Prop}
    (h : wpAny M A (spliced (backTo pos (starEach (e :: rest) env))) (fun vs s₁ => wpAny M A (call (.builtin id) vs) Q E s₁) E s)
    (he : starEach (e :: rest) env = (false, eval e env) :: starEach rest env) (hp : (backTo pos (starEach rest env)).any (·.1) = false) :
    wpAny M A (callWith pos (.builtin id) [] (backTo pos (starEach (e :: rest) env)) []) Q E s := callWith_method1 h he hp
theorem n_withM1 {pos : Pos} {id : String} {e : Expr} {rest : List Expr} {Q : Value → Shared → Prop} {self : Value}
    (h : wpAny M A (spliced (backTo pos (starEach (e :: rest) env))) (fun vs s₁ => wpAny M A (call (.builtin id) (self :: vs)) Q E s₁) E s)
    (he : starEach (e :: rest) env = (false, eval e env) :: starEach rest env) (hp : (backTo pos (starEach rest env)).any (·.1) = false) :
    wpAny M A (callWith pos (.builtin id) [self] (backTo pos (starEach (e :: rest) env)) []) Q E s := callWith_method1 h he hp
theorem n_withB0 {pos : Pos} {id : String} {first : List Value} {Q : Value → Shared → Prop} (h : wpAny M A (call (.builtin id) first) Q E s) :
    wpAny M A (callWith pos (.builtin id) first (backTo pos (starEach [] env)) []) Q E s := callWith_method0 h
theorem n_withT1 {pos : Pos} {T : String} {e : Expr} {rest : List Expr} {Q : Value → Shared → Prop}
    (h : wpAny M A (spliced (backTo pos (starEach (e :: rest) env))) (fun vs s₁ => wpAny M A (call (.type T) vs) Q E s₁) E s)
    (he : starEach (e :: rest) env = (false, eval e env) :: starEach rest env) (hp : (backTo pos (starEach rest env)).any (·.1) = false) :
    wpAny M A (callWith pos (.type T) [] (backTo pos (starEach (e :: rest) env)) []) Q E s := callWith_type1 h he hp
theorem n_withFm1 {pos : Pos} {f : Addr} {self : Value} {e : Expr} {rest : List Expr} {Q : Value → Shared → Prop} (X : Base w B) (hk : keepIn (KF w.params) (.ref f) = true)
    (h : wpAny (model prog w) A (spliced (backTo pos (starEach (e :: rest) env))) (fun vs s₁ => (∃ O rs G, St B O rs G s₁) ∧ wpAny (model prog w) A (call (.ref f) (self :: vs)) Q E s₁) E s)
    (he : starEach (e :: rest) env = (false, eval e env) :: starEach rest env) (hp : (backTo pos (starEach rest env)).any (·.1) = false) :
    wpAny (model prog w) A (callWith pos (.ref f) [self] (backTo pos (starEach (e :: rest) env)) []) Q E s :=
  callWith_K (h₀ := (Classical.choose X)) (Classical.choose_spec X).1.k hk (wpAny_mono h (fun _ _ q => ⟨let ⟨⟨_, _, _, S⟩, _⟩ := q; (X.at S.own.base).k, q.2⟩) fun _ _ x => x) he hp
theorem n_withFm0 {pos : Pos} {f : Addr} {self : Value} {Q : Value → Shared → Prop} (X : Base w B) (S : St B O rs G s) (hk : keepIn (KF w.params) (.ref f) = true)
    (h : wpAny (model prog w) A (call (.ref f) [self]) Q E s) : wpAny (model prog w) A (callWith pos (.ref f) [self] (backTo pos (starEach [] env)) []) Q E s :=
  callWith_K0 ((X.at S.own.base).k) hk h
theorem n_withF1 {pos : Pos} {f : Addr} {e : Expr} {rest : List Expr} {Q : Value → Shared → Prop} (X : Base w B) (hk : keepIn (KF w.params) (.ref f) = true)
    (h : wpAny (model prog w) A (spliced (backTo pos (starEach (e :: rest) env))) (fun vs s₁ => (∃ O rs G, St B O rs G s₁) ∧ wpAny (model prog w) A (call (.ref f) vs) Q E s₁) E s)
    (he : starEach (e :: rest) env = (false, eval e env) :: starEach rest env) (hp : (backTo pos (starEach rest env)).any (·.1) = false) :
    wpAny (model prog w) A (callWith pos (.ref f) [] (backTo pos (starEach (e :: rest) env)) []) Q E s :=
  callWith_K (h₀ := (Classical.choose X)) (Classical.choose_spec X).1.k hk (wpAny_mono h (fun _ _ q => ⟨let ⟨⟨_, _, _, S⟩, _⟩ := q; (X.at S.own.base).k, q.2⟩) fun _ _ x => x) he hp
theorem n_withF0 {pos : Pos} {f : Addr} {Q : Value → Shared → Prop} (X : Base w B) (S : St B O rs G s) (hk : keepIn (KF w.params) (.ref f) = true)
    (h : wpAny (model prog w) A (call (.ref f) []) Q E s) : wpAny (model prog w) A (callWith pos (.ref f) [] (backTo pos (starEach [] env)) []) Q E s :=
  callWith_K0 ((X.at S.own.base).k) hk h
theorem n_st {p : Prop} (S : St B O rs G s) (h : p) : (∃ O rs G, St B O rs G s) ∧ p := ⟨⟨_, _, _, S⟩, h⟩
theorem n_int {i : Int} {k : Nat} {pos : Pos} {Q : Value → Shared → Prop} (S : St B O rs G s) (h : ∀ s' t, St B O rs G s' → Q (.int i t) s') : wpAny M A (eval (.Constant (.int i) k pos) env) Q E s :=
  wpAny_Constant_int (h _ _ (S.tok _))
theorem n_str {x : Str} {k : Nat} {pos : Pos} {Q : Value → Shared → Prop} (S : St B O rs G s) (h : ∀ s' t, St B O rs G s' → Q (.str x t) s') : wpAny M A (eval (.Constant (.str x) k pos) env) Q E s :=
  wpAny_Constant_str (h _ _ (S.tok _))
theorem n_sub {value slice : Expr} {pos : Pos} {Q : Value → Shared → Prop} (h : wpAny M A (eval value env) (fun o s₁ => wpAny M A (eval slice env) (fun i s₂ => wpAny M A (subscriptTail value slice o i) Q E s₂) E s₁) E s) :
    wpAny M A (eval (.Subscript value slice pos) env) Q E s := Subscript_ h
theorem n_attr {value : Expr} {attr : Str} {pos : Pos} {Q : Value → Shared → Prop} (h : wpAny (model prog w) A (eval value env) (fun o s₁ => wpAny (model prog w) A (getAttr o attr true) Q E s₁) E s)
    (he : eval (.Attribute value attr pos) env = (do
      let o ← eval value env
      standAt pos.atName
      let r ← holding [o] (getAttr o attr true)
      letTemporaryGo value o r
      pure r)) : wpAny (model prog w) A (eval (.Attribute value attr pos) env) Q E s := Attribute_any_ h he

-- ints
theorem n_add {a b : Int} {t u : Tok} {Q : Value → Shared → Prop} (S : St B O rs G s) (h : ∀ s' k, St B O rs G s' → Q (.int (a + b) k) s') : wpAny (model prog w) A (binaryOp .Add (.int a t) (.int b u)) Q E s := add_int (h _ _ (S.tok _))
theorem n_sub_int {a b : Int} {t u : Tok} {Q : Value → Shared → Prop} (S : St B O rs G s) (h : ∀ s' k, St B O rs G s' → Q (.int (a - b) k) s') : wpAny (model prog w) A (binaryOp .Sub (.int a t) (.int b u)) Q E s := sub_int (h _ _ (S.tok _))
theorem n_iadd {a b : Int} {t u : Tok} {Q : Value → Shared → Prop} (S : St B O rs G s) (h : ∀ s' k, St B O rs G s' → Q (.int (a + b) k) s') : wpAny (model prog w) A (inplaceOp .Add (.int a t) (.int b u)) Q E s := P.iadd_int (h _ _ (S.tok _))
theorem n_isub {a b : Int} {t u : Tok} {Q : Value → Shared → Prop} (S : St B O rs G s) (h : ∀ s' k, St B O rs G s' → Q (.int (a - b) k) s') : wpAny (model prog w) A (inplaceOp .Sub (.int a t) (.int b u)) Q E s := P.isub_int (h _ _ (S.tok _))
theorem n_mul {a b : Int} {t u : Tok} {Q : Value → Shared → Prop} (hm : IntMulOk a b) (S : St B O rs G s) (h : ∀ s' k, St B O rs G s' → Q (.int (a * b) k) s') : wpAny (model prog w) A (binaryOp .Mult (.int a t) (.int b u)) Q E s := P.mul_int (h _ _ (S.tok _)) hm
theorem n_mod {a b : Int} {t u : Tok} {Q : Value → Shared → Prop} (S : St B O rs G s) (hb : b ≠ 0) (h : ∀ s' k, St B O rs G s' → Q (.int (a.fmod b) k) s') : wpAny (model prog w) A (binaryOp .Mod (.int a t) (.int b u)) Q E s := mod_int hb (h _ _ (S.tok _))
theorem n_neg {a : Int} {t : Tok} {Q : Value → Shared → Prop} (S : St B O rs G s) (h : ∀ s' k, St B O rs G s' → Q (.int (-a) k) s') : wpAny (model prog w) A (unaryOp .USub (.int a t)) Q E s := P.neg_int (h _ _ (S.tok _))
theorem n_not {v : Value} {Q : Value → Shared → Prop} (h : wpAny M A (truthy v) (fun c s' => Q (.bool (!c)) s') E s) : wpAny M A (unaryOp .Not v) Q E s := not_of h
theorem n_isName {x : Str} {pos : Pos} {Q : Value → Shared → Prop} (h : wpAny M A (eval (.Name x pos) env) Q E s) : wpAny M A (eval (.Name x pos) env) Q E s := h
noncomputable def GFact (w : World) (x : Str) (v : Value) : Prop := (nsIn (KF w.params) mainGlobals x = some (some v) ∨ (nsIn (KF w.params) mainGlobals x = some none ∧ bootBuiltins x = some v ∧ (x == ("__name__" : Str)) = false)) ∧ (x == ("__debug__" : Str)) = false
theorem gtab (w : World) : ∀ p ∈ ([("_name_disallowed_re", .ref 48), ("_value_disallowed_re", .ref 53), ("Headers", .ref 184), ("_iter_escaped_chars", .ref 195), ("_strip_quoted_realnames", .ref 202), ("_MAX_STRING_SIZE", .int 40 581), ("_MOVE_COST", .int 2 583), ("_CASE_COST", .int 1 585), ("_substitution_cost", .ref 209), ("_levenshtein_distance", .ref 216), ("_law_letters", .ref 221), ("_law_taken_apart", .ref 226), ("_law_orders", .ref 231), ("_law_lies_in", .ref 238), ("len", .builtin "len"), ("sum", .builtin "sum"), ("min", .builtin "min"), ("enumerate", .type "enumerate"), ("range", .type "range"), ("list", .type "list"), ("int", .type "int"), ("str", .type "str"), ("type", .type "type")] : List (Str × Value)), GFact w p.1 p.2 := by
  repeat (refine List.forall_mem_cons.mpr ⟨(by first | exact ⟨.inl (by kernel_rfl!), by kernel_rfl!⟩ | exact ⟨.inr ⟨by kernel_rfl!, by kernel_rfl!, by kernel_rfl!⟩, by kernel_rfl!⟩), ?_⟩)
  exact fun _ h => nomatch h
theorem gn {env : Env} {x : Str} {v : Value} {pos : Pos} {Q : Value → Shared → Prop} (X : Base w B) (S : St B O rs G s) (hm : (x, v) ∈ ([("_name_disallowed_re", .ref 48), ("_value_disallowed_re", .ref 53), ("Headers", .ref 184), ("_iter_escaped_chars", .ref 195), ("_strip_quoted_realnames", .ref 202), ("_MAX_STRING_SIZE", .int 40 581), ("_MOVE_COST", .int 2 583), ("_CASE_COST", .int 1 585), ("_substitution_cost", .ref 209), ("_levenshtein_distance", .ref 216), ("_law_letters", .ref 221), ("_law_taken_apart", .ref 226), ("_law_orders", .ref 231), ("_law_lies_in", .ref 238), ("len", .builtin "len"), ("sum", .builtin "sum"), ("min", .builtin "min"), ("enumerate", .type "enumerate"), ("range", .type "range"), ("list", .type "list"), ("int", .type "int"), ("str", .type "str"), ("type", .type "type")] : List (Str × Value))) (h : Q v s)
    (he : (env.globals, env.builtins, env.scope.kind, env.kindOf x) = (mainGlobals, builtinsNs, .function, some .globalImplicit)) : wpAny (model prog w) A (eval (.Name x pos) env) Q E s :=
  match gtab w _ hm with
  | ⟨.inl a, d⟩ => r_global X S a h (congrArg (·.1) he) (congrArg (·.2.2.1) he) (congrArg (·.2.2.2) he) d
  | ⟨.inr ⟨a, b, c⟩, d⟩ => r_builtin X S a b h (congrArg (·.1) he) (congrArg (·.2.1) he) (congrArg (·.2.2.1) he) (congrArg (·.2.2.2) he) c d
theorem n_name {env : Env} {x : Str} {pos : Pos} {v : Value} {l} {Q : Value → Shared → Prop} (S : St B O rs G s) (hm : (env.locals, FrO l) ∈ rs) (hv : (x, some v) ∈ l) (h : Q v s)
    (he : (env.scope.kind, env.kindOf x, x == ("__debug__" : Str)) = (.function, some .local, false)) : wpAny (model prog w) A (eval (.Name x pos) env) Q E s :=
  r_name S hm hv h (congrArg (·.1) he) (congrArg (·.2.1) he) (congrArg (·.2.2) he)
theorem n_isEval {e : Expr} {Q : Value → Shared → Prop} (h : wpAny M A (eval e env) Q E s) : wpAny M A (eval e env) Q E s := h
theorem n_isExec {e : Stmt} {Q : Flow → Shared → Prop} (h : wpAny M A (exec e env) Q E s) : wpAny M A (exec e env) Q E s := h
theorem n_isTrue {e : Expr} {t : Sem Value} {Q : Bool → Shared → Prop} (h : wpAny M A (isTrue e env t) Q E s) : wpAny M A (isTrue e env t) Q E s := h
theorem n_isWith {pos : Pos} {f : Value} {l : List Value} {a : List (Bool × Sem Value)} {k : List (Option Str × Sem Value)} {Q : Value → Shared → Prop} (h : wpAny M A (callWith pos f l a k) Q E s) : wpAny M A (callWith pos f l a k) Q E s := h
theorem n_isCall {f : Value} {l : List Value} {k : List (Str × Value)} {Q : Value → Shared → Prop} (h : wpAny M A (call f l k) Q E s) : wpAny M A (call f l k) Q E s := h
theorem n_isSpl {l : List (Bool × Sem Value)} {Q : List Value → Shared → Prop} (h : wpAny M A (spliced l) Q E s) : wpAny M A (spliced l) Q E s := h
theorem n_isOp {op : Operator} {a b : Value} {Q : Value → Shared → Prop} (h : wpAny M A (binaryOp op a b) Q E s) : wpAny M A (binaryOp op a b) Q E s := h
theorem n_isComp {op : CmpOp} {a b : Value} {Q : Value → Shared → Prop} (h : wpAny M A (compareOp op a b) Q E s) : wpAny M A (compareOp op a b) Q E s := h
theorem n_isMeth {a : Value} {x : Str} {p : Sem Bool} {Q : Value × List Value → Shared → Prop} (h : wpAny M A (getMethod a x p) Q E s) : wpAny M A (getMethod a x p) Q E s := h
theorem n_isTru {a : Value} {Q : Bool → Shared → Prop} (h : wpAny M A (truthy a) Q E s) : wpAny M A (truthy a) Q E s := h
-- gates: they fail at once where the goal is of another shape
theorem g_aug {t v : Expr} {op : Operator} {pos : Pos} {Q : Flow → Shared → Prop} (h : wpAny M A (exec (.AugAssign t op v pos) env) Q E s) : wpAny M A (exec (.AugAssign t op v pos) env) Q E s := h
theorem g_store {x : Str} {v : Value} {Q : Unit → Shared → Prop} (h : wpAny M A (storeName env x v) Q E s) : wpAny M A (storeName env x v) Q E s := h
theorem g_call1r {f : Value} {a : Addr} {k : List (Str × Value)} {Q : Value → Shared → Prop} (h : wpAny M A (call f [.ref a] k) Q E s) : wpAny M A (call f [.ref a] k) Q E s := h
theorem g_call1s {f : Value} {x : Str} {t : Tok} {k : List (Str × Value)} {Q : Value → Shared → Prop} (h : wpAny M A (call f [.str x t] k) Q E s) : wpAny M A (call f [.str x t] k) Q E s := h
theorem g_app {a x : Value} {k : List (Str × Value)} {Q : Value → Shared → Prop} (h : wpAny M A (call (.builtin "list.append") [a, x] k) Q E s) : wpAny M A (call (.builtin "list.append") [a, x] k) Q E s := h
theorem g_lenc {l : List Value} {k : List (Str × Value)} {Q : Value → Shared → Prop} (h : wpAny M A (call (.builtin "len") l k) Q E s) : wpAny M A (call (.builtin "len") l k) Q E s := h
theorem g_type {l : List Value} {k : List (Str × Value)} {Q : Value → Shared → Prop} (h : wpAny M A (call (.type "type") l k) Q E s) : wpAny M A (call (.type "type") l k) Q E s := h
theorem g_lower {l : List Value} {k : List (Str × Value)} {Q : Value → Shared → Prop} (h : wpAny M A (call (.builtin "str.lower") l k) Q E s) : wpAny M A (call (.builtin "str.lower") l k) Q E s := h
theorem g_upper {l : List Value} {k : List (Str × Value)} {Q : Value → Shared → Prop} (h : wpAny M A (call (.builtin "str.upper") l k) Q E s) : wpAny M A (call (.builtin "str.upper") l k) Q E s := h
theorem g_search {l : List Value} {k : List (Str × Value)} {Q : Value → Shared → Prop} (h : wpAny M A (call (.builtin "re.Pattern.search") l k) Q E s) : wpAny M A (call (.builtin "re.Pattern.search") l k) Q E s := h
theorem g_strs {o : Operator} {x y : Str} {t u : Tok} {Q : Value → Shared → Prop} (h : wpAny M A (binaryOp o (.str x t) (.str y u)) Q E s) : wpAny M A (binaryOp o (.str x t) (.str y u)) Q E s := h
theorem g_ints {o : Operator} {x y : Int} {t u : Tok} {Q : Value → Shared → Prop} (h : wpAny M A (binaryOp o (.int x t) (.int y u)) Q E s) : wpAny M A (binaryOp o (.int x t) (.int y u)) Q E s := h
theorem g_tstr {x : Str} {t : Tok} {Q : Bool → Shared → Prop} (h : wpAny M A (truthy (.str x t)) Q E s) : wpAny M A (truthy (.str x t)) Q E s := h
theorem g_append {v : Value} {p : Sem Bool} {Q : Value × List Value → Shared → Prop} (h : wpAny M A (getMethod v (Str.ofString "append") p) Q E s) : wpAny M A (getMethod v (Str.ofString "append") p) Q E s := h
theorem g_newList {vs : List Value} {Q : Value → Shared → Prop} (h : wpAny M A (newList vs) Q E s) : wpAny M A (newList vs) Q E s := h
theorem g_newTuple {vs : List Value} {Q : Value → Shared → Prop} (h : wpAny M A (newTuple vs) Q E s) : wpAny M A (newTuple vs) Q E s := h
-- texts
theorem n_lower {x : Str} {t : Tok} {Q : Value → Shared → Prop} (hfit : x.length ≤ 5592405) (S : St B O rs G s) (h : ∀ s' k, St B O rs G s' → Q (.str (Txt.lower x) k) s') : wpAny (model prog w) A (call (.builtin "str.lower") [.str x t]) Q E s :=
  SCL.lower hfit fun _ => h _ _ (S.tok _)
theorem n_upper {x : Str} {t : Tok} {Q : Value → Shared → Prop} (hfit : x.length ≤ 5592405) (S : St B O rs G s) (h : ∀ s' k, St B O rs G s' → Q (.str (Txt.upper x) k) s') : wpAny (model prog w) A (call (.builtin "str.upper") [.str x t]) Q E s :=
  SCL.upper hfit fun _ => h _ _ (S.tok _)
theorem n_cat {x y : Str} {t u : Tok} {Q : Value → Shared → Prop} (hsz : x.length + y.length ≤ sizeLine) (S : St B O rs G s) (h : ∀ s' k, St B O rs G s' → Q (.str (x ++ y) k) s') : wpAny (model prog w) A (binaryOp .Add (.str x t) (.str y u)) Q E s :=
  add_str (fun _ _ => h _ _ (S.tok _)) hsz
theorem n_lenStr {x : Str} {t : Tok} {Q : Value → Shared → Prop} (hfit : ¬ (x.length : Int) ≥ 2 ^ 63) (S : St B O rs G s) (h : ∀ s' k, St B O rs G s' → Q (.int x.length k) s') : wpAny (model prog w) A (call (.builtin "len") [.str x t]) Q E s :=
  PyProof.Rows.len_str hfit (h _ _ (S.tok _))
theorem n_truthyStr {x : Str} {t : Tok} {Q : Bool → Shared → Prop} (hfit : (x.length : Int) < 9223372036854775808) (S : St B O rs G s) (h : ∀ s', St B O rs G s' → Q ((x.length : Int) != 0) s') : wpAny (model prog w) A (truthy (.str x t)) Q E s :=
  SBL.truthy hfit (h _ (S.tok _))
end
-- M3
inductive Rem1 (a : Addr) (P : Obj → Prop) : List Res → List Res → Prop
  | head {r} : Rem1 a P ((a, P) :: r) r
  | tail {p r r'} : Rem1 a P r r' → Rem1 a P (p :: r) (p :: r')
theorem Rem1.split {a P} : ∀ {l l' : List Res}, Rem1 a P l l' → ∃ xs ys, l = xs ++ (a, P) :: ys ∧ l' = xs ++ ys
  | _, _, .head => ⟨[], _, rfl, rfl⟩
  | _, _, .tail (p := p) h => let ⟨xs, ys, e1, e2⟩ := h.split; ⟨p :: xs, ys, by rw [e1]; rfl, by rw [e2]; rfl⟩
theorem Rem1.mem {a P} {l l' : List Res} (u : Rem1 a P l l') : (a, P) ∈ l := by obtain ⟨xs, ys, rfl, _⟩ := u.split; simp
theorem Own.ext {B : Fix} {rs rs' : List Res} {h h' : Heap} {a P} (O : Own B rs h) (u : Rem1 a P rs rs') (hs : Heap.ExtBut a h h') : Own B rs' h' := by
  have hB : B a = none := O.fresh _ u.mem
  obtain ⟨xs, ys, rfl, rfl⟩ := u.split
  have nd := O.nodup
  have sub : List.Sublist (xs ++ ys) (xs ++ (a, P) :: ys) := List.Sublist.append_left (List.sublist_cons_self _ _) _
  refine ⟨fun b o e => hs b o (fun z => by subst z; rw [hB] at e; cases e) (O.base b o e), fun r hr => ?_, (sub.map _).nodup nd, fun r hr => O.fresh r (sub.subset hr)⟩
  obtain ⟨o, e, p⟩ := O.res r (sub.subset hr)
  refine ⟨o, hs _ _ (fun z => ?_) e, p⟩
  rw [List.map_append, List.map_cons, List.nodup_append] at nd
  obtain ⟨n1, n2, n3⟩ := nd
  rw [List.nodup_cons] at n2
  rcases List.mem_append.mp hr with q | q
  · exact n3 r.1 (List.mem_map_of_mem q) a (.head _) z
  · exact n2.1 (by have := List.mem_map_of_mem (f := (·.1)) q; rw [z] at this; exact this)

noncomputable def ListItO (l : Addr) (i : Nat) : Obj → Prop := fun o => o.cls = .type "list_iterator" ∧ o.data = .fields #[.ref l, .int i 0]
noncomputable def StrItO (x : Str) (t : Tok) (i : Nat) : Obj → Prop := fun o => o.cls = .type "str_ascii_iterator" ∧ o.data = .fields #[.str x t, .int i 0]
noncomputable def TupO (vs : List Value) : Obj → Prop := fun o => o.cls = .type "tuple" ∧ ∃ n, o.data = .seq vs.toArray n
/-- a list, owned or standing -/
noncomputable def Lst (B : Fix) (rs : List Res) (a : Addr) (items : List Value) : Prop := (a, ListO items) ∈ rs ∨ ∃ o, B a = some o ∧ ListO items o
noncomputable def Tup (B : Fix) (a : Addr) (vs : List Value) : Prop := ∃ o, B a = some o ∧ TupO vs o
section
variable {B B' : Fix} {O : OsState} {rs rs' : List Res} {G : Array GenState} {s : Shared}
theorem Tup.mono {a vs} (h : Tup B a vs) (l : Fix.le B B') : Tup B' a vs := let ⟨o, e, p⟩ := h; ⟨o, l _ _ e, p⟩
theorem St.lst {a items} (S : St B O rs G s) (h : Lst B rs a items) : s.heap.IsList a items.toArray := by
  rcases h with h | ⟨o, e, p⟩
  · obtain ⟨o, e, n, rfl⟩ := S.get h; exact ⟨_, e, rfl, n, rfl⟩
  · obtain ⟨n, rfl⟩ := p; exact ⟨_, S.base e, rfl, n, rfl⟩
theorem St.isL {a items} (S : St B O rs G s) (h : Lst B rs a items) : ∃ n, IsL s.heap a items.toArray n := by
  rcases h with h | ⟨o, e, p⟩
  · obtain ⟨o, e, n, rfl⟩ := S.get h; exact ⟨n, e⟩
  · obtain ⟨n, rfl⟩ := p; exact ⟨n, S.base e⟩
theorem St.listIt {a l i} (S : St B O rs G s) (h : (a, ListItO l i) ∈ rs) : s.heap.IsListIter a l i := let ⟨o, e, p⟩ := S.get h; ⟨o, e, p⟩
theorem St.strIt {a x t i} (S : St B O rs G s) (h : (a, StrItO x t i) ∈ rs) : s.heap.IsStrIter a "str_ascii_iterator" x t i := let ⟨o, e, p⟩ := S.get h; ⟨o, e, p⟩
theorem St.newObj {o : Obj} {P : Obj → Prop} (S : St B O rs G s) (p : P o) (hf : o.isFreed = false) : St B O ((s.heap.objs.size, P) :: rs) G { s with heap := s.heap.push o } := S.heap (S.own.push p hf)
theorem St.upd {a P P' h'} (S : St B O rs G s) (u : Upd1 a P P' rs rs') (hs : Heap.SameBut a s.heap h') (hp : ∃ o, h'.get? a = some o ∧ P' o) : St B O rs' G { s with heap := h' } := S.heap (S.own.upd u hs hp)
theorem St.ext {a P h'} (S : St B O rs G s) (u : Rem1 a P rs rs') (hs : Heap.ExtBut a s.heap h') : St B O rs' G { s with heap := h' } := S.heap (S.own.ext u hs)
theorem n_append {prog : Program} {w : World} {A : Around} {E : Value → Shared → Prop} {l : Addr} {items : List Value} {x : Value} {Q : Value → Shared → Prop} (hsz : items.length ≤ sizeLine) (S : St B O rs G s) (u : Upd1 l (ListO items) (ListO (items ++ [x])) rs rs') (h : ∀ s', St B O rs' G s' → Q .none s') :
    wpAny (model prog w) A (call (.builtin "list.append") [.ref l, x]) Q E s := by
  obtain ⟨_, ho, n, rfl⟩ := S.get u.mem
  refine wpAny_call_entry slot_list_append ⟨_, ho, rfl⟩ entry_list_append ?_ (args_list_append _ _)
  show wpAny _ _ (updateSeq l (·.push x) >>= fun _ => ret .none) _ _ s
  have hx : items.toArray.push x = (items ++ [x]).toArray := by simp
  refine wpAny_bind (wpAny_updateSeq ho rfl (wpAny_pure ⟨.none, rfl, h _ (S.upd u (Heap.SameBut.update ..) ⟨_, IsL.update ho _, ?_⟩)⟩) (by simpa using hsz))
  exact ⟨_, by rw [hx]⟩
end
theorem Upd1.lst {B : Fix} {a P P'} {rs rs' : List Res} {l items} (u : Upd1 a P P' rs rs') (h : Lst B rs l items) (hne : ∀ P'', (l, P'') ∈ rs → l ≠ a) : Lst B rs' l items := by
  rcases h with h | h
  · left
    have := hne _ h
    obtain ⟨xs, ys, rfl, rfl⟩ := u.split
    rcases List.mem_append.mp h with q | q
    · exact List.mem_append.mpr (.inl q)
    · rcases List.mem_cons.mp q with q | q
      · exact absurd (congrArg Prod.fst q) this
      · exact List.mem_append.mpr (.inr (.tail _ q))
  · exact .inr h

/-- an iterator: n values, the k-th as V says; its own object is P k at place k -/
structure Iter (prog : Program) (w : World) (A : Around) (it : Addr) (n : Nat) (P : Nat → Obj → Prop) (V : Nat → Value → Prop) (need : Fix → List Res → Prop) : Prop where
  next : ∀ {B O rs rs' G s k Q E}, St B O rs G s → need B rs → Upd1 it (P k) (P (k + 1)) rs rs' → k < n → (∀ v s', V k v → St B O rs' G s' → Q (some v) s') → wpAny (model prog w) A (pyNext (.ref it)) Q E s
  stop : ∀ {B O rs rs' G s Q E}, St B O rs G s → need B rs → Rem1 it (P n) rs rs' → (∀ s', St B O rs' G s' → Q none s') → wpAny (model prog w) A (pyNext (.ref it)) Q E s
  self : ∀ {B O rs G s k Q E}, St B O rs G s → (it, P k) ∈ rs → Q (.ref it) s → wpAny (model prog w) A (pyIter (.ref it)) Q E s
section
variable {prog : Program} {w : World} {A : Around} {E : Value → Shared → Prop} {B : Fix} {O : OsState} {rs rs' : List Res} {G : Array GenState} {s : Shared}
theorem Iter.list (hh : A.handled = none) (it l : Addr) (items : List Value) : Iter prog w A it items.length (ListItO l) (fun k v => items[k]? = some v) (fun B rs => Lst B rs l items) where
  next := fun {B O rs rs' G s k Q E} S hn u hk h => by
    have hx : items.toArray[k]? = some items[k] := by simp [hk]
    refine wpAny_pyNext_list_item (S.listIt u.mem) (S.lst hn) hx fun h' hi hs => ?_
    obtain ⟨o, e, p⟩ := hi
    exact h _ _ (List.getElem?_eq_getElem hk) (S.upd u hs ⟨o, e, p⟩)
  stop := fun {B O rs rs' G s Q E} S hn u h => by
    refine wpAny_pyNext_list_end hh (S.listIt u.mem) (S.lst hn) (by simp) fun h' hs => h _ (S.ext u hs)
  self := fun {B O rs G s k Q E} S hm h => wpAny_pyIter_listiter (S.listIt hm) h
theorem Iter.str (hh : A.handled = none) (it : Addr) (x : Str) (t : Tok) : Iter prog w A it x.cps.size (StrItO x t) (fun k v => ∃ c tk, x.cps[k]? = some c ∧ v = .str ⟨#[c]⟩ tk) (fun _ _ => True) where
  next := fun {B O rs rs' G s k Q E} S hn u hk h => by
    have hx : x.cps[k]? = some x.cps[k] := Array.getElem?_eq_getElem hk
    refine wpAny_pyNext_ascii_item (S.strIt u.mem) hx fun h' hi hs => ?_
    obtain ⟨o, e, p⟩ := hi
    exact h _ _ ⟨_, _, hx, rfl⟩ ((S.upd u hs ⟨o, e, p⟩).tok _)
  stop := fun {B O rs rs' G s Q E} S hn u h => by
    refine wpAny_pyNext_ascii_end hh (S.strIt u.mem) (by simp) fun h' hs => h _ (S.ext u hs)
  self := fun {B O rs G s k Q E} S hm h => wpAny_pyIter_striter_ascii (S.strIt hm) h
theorem n_iterList {l : Addr} {items : List Value} {Q : Value → Shared → Prop} (S : St B O rs G s) (hl : Lst B rs l items) (h : ∀ it s', St B O ((it, ListItO l 0) :: rs) G s' → Q (.ref it) s') : wpAny (model prog w) A (pyIter (.ref l)) Q E s :=
  wpAny_pyIter_list (S.lst hl) (h _ _ (S.newObj ⟨rfl, rfl⟩ rfl))
theorem n_iterStr {x : Str} {t : Tok} {Q : Value → Shared → Prop} (S : St B O rs G s) (ha : x.cps.all (· < 128) = true) (h : ∀ it s', St B O ((it, StrItO x t 0) :: rs) G s' → Q (.ref it) s') : wpAny (model prog w) A (pyIter (.str x t)) Q E s :=
  wpAny_pyIter_ascii ha (h _ _ (S.newObj ⟨rfl, rfl⟩ rfl))

/-- a for over an iterator, its target a name -/
theorem n_forLoop {x : Str} {px : Pos} {body : List Stmt} {env : Env} {it : Addr} {n : Nat} {P : Nat → Obj → Prop} {V : Nat → Value → Prop} {need : Fix → List Res → Prop} {Q : Flow → Shared → Prop}
    (I : Iter prog w A it n P V need) (J : Nat → List (Str × Option Value) → Fix → List Res → Array GenState → Prop)
    (hk : env.scope.kind = .function) (hl : env.kindOf x = some .local)
    (hneed : ∀ k l B rs G, J k l B rs G → need B ((it, P k) :: (env.locals, FrO l) :: rs))
    (turn : ∀ k l B rs G v (K : Flow → Shared → Prop), (∀ f s', (match f with
        | .next | .cont => ∃ l'' B' rs' G', St B' O ((it, P (k + 1)) :: (env.locals, FrO l'') :: rs') G' s' ∧ J (k + 1) l'' B' rs' G'
        | .brk => Q .next s'
        | .ret v => Q (.ret v) s') → K f s') → k < n → V k v → J k l B rs G → ∃ l', Put x (some v) l l' ∧ ∀ s, St B O ((it, P (k + 1)) :: (env.locals, FrO l') :: rs) G s →
      wpAny (model prog w) A (execs body env) K NoE s)
    (fin : ∀ l B rs G s, J n l B rs G → St B O ((env.locals, FrO l) :: rs) G s → Q .next s)
    {l : List (Str × Option Value)} (S : St B O ((it, P 0) :: (env.locals, FrO l) :: rs) G s) (h0 : J 0 l B rs G) :
    codeAny (model prog w) A (.forLoop (.Name x px) (.ref it) body [] env) (fun r s' => match r with | .ok f => Q f s' | .error e => cameBackBy (model prog w) A env NoE e s') s := by
  refine codeAny_forLoop (fun m s' => ∃ k l B rs G, m = n - k ∧ k ≤ n ∧ St B O ((it, P k) :: (env.locals, FrO l) :: rs) G s' ∧ J k l B rs G) ?_ (n - 0) ⟨0, l, B, rs, G, rfl, Nat.zero_le _, S, h0⟩
  rintro m s₁ ⟨k, l, B, rs, G, rfl, hkn, S₁, hJ⟩
  by_cases hlt : k < n
  · refine I.next S₁ (hneed k l B rs G hJ) .head hlt fun v s₂ hv S₂ => ?_
    refine wpAny_assign_Name ?_
    obtain ⟨l', hp, trn⟩ := turn k l B rs G v _ (fun _ _ x => x) hlt hv hJ
    refine r_store S₂ hp (.tail .head) (fun s₃ S₃ => ?_) hk hl
    refine anyE (wpAny_mono (trn s₃ S₃) (fun f s₄ h => ?_) fun _ _ z => z)
    cases f with
    | next => obtain ⟨l'', B', rs', G', S', J'⟩ := h; exact ⟨n - (k + 1), Nat.sub_lt_sub_left hlt (Nat.lt_succ_self k), k + 1, l'', B', rs', G', rfl, hlt, S', J'⟩
    | cont => obtain ⟨l'', B', rs', G', S', J'⟩ := h; exact ⟨n - (k + 1), Nat.sub_lt_sub_left hlt (Nat.lt_succ_self k), k + 1, l'', B', rs', G', rfl, hlt, S', J'⟩
    | brk => exact h
    | ret v => exact h
  · have : n = k := Nat.le_antisymm (Nat.le_of_not_lt hlt) ‹_›
    subst this
    refine I.stop S₁ (hneed n l B rs G hJ) .head fun s₂ S₂ => ?_
    exact wpAny_execs_nil (fin l B rs G s₂ hJ S₂)
end
-- M4
noncomputable def CellO (v : Option Value) : Obj → Prop := fun o => o.data = .cell v
section
variable {prog : Program} {w : World} {A : Around} {E : Value → Shared → Prop} {B : Fix} {O : OsState} {rs rs' : List Res} {G : Array GenState} {s : Shared} {env : Env}
theorem r_cell {x : Str} {pos : Pos} {c : Addr} {v : Value} {Q : Value → Shared → Prop} (S : St B O rs G s) (hc : env.cells.lookup x = some c) (hm : (c, CellO (some v)) ∈ rs) (h : Q v s)
    (hk : env.scope.kind = .function) (hl : env.kindOf x = some .cell) (hd : (x == ("__debug__" : Str)) = false) : wpAny (model prog w) A (eval (.Name x pos) env) Q E s := by
  obtain ⟨o, ho, hf⟩ := S.get hm
  exact wpAny_Name (wpAny_loadName_cell hk hl hc ⟨o, ho, hf⟩ h) hd
theorem r_storeCell {x : Str} {c : Addr} {v : Value} {v₀} {Q : Unit → Shared → Prop} (S : St B O rs G s) (hc : env.cells.lookup x = some c) (u : Upd1 c (CellO v₀) (CellO (some v)) rs rs')
    (h : ∀ s', St B O rs' G s' → Q () s') (hk : env.scope.kind = .function) (hl : env.kindOf x = some .cell) : wpAny (model prog w) A (storeName env x v) Q E s := by
  obtain ⟨o, ho, hf⟩ := S.get u.mem
  exact wpAny_storeName_cell hk hl hc ⟨o, ho, hf⟩ fun h' hi hs => h _ (S.upd u hs hi)

/-- a comprehension's own names -/
abbrev compE (scope : Scope) (cl : List (Str × Addr)) (C : Addr) (env : Env) : Env :=
  { scope := relabel scope env, locals := C, globals := env.globals, cells := cl, qual := env.qual, func := none, code := env.code, frame := env.frame, builtins := env.builtins }
/-- what a comprehension does behind its iterator -/
noncomputable def CompAt (prog : Program) (w : World) (A : Around) (env : Env) (e : Expr) (scope : Scope) (cl : List (Str × Addr)) (use : Option (Value → Sem Unit)) (Q : Value → Shared → Prop) (E : Value → Shared → Prop) (it : Value) (s : Shared) : Prop :=
  wpAny (model prog w) A (newList []) (fun acc s₃ => wpAny (model prog w) A (newFunctionEnv scope env.globals cl [] env.qual none .none (some env)) (fun cenv s₄ =>
    codeAny (model prog w) A (.compStart e 0 it acc { cenv with scope := relabel scope env }) (compPost (model prog w) A E use Q acc cenv.locals) s₄) E s₃) E s
noncomputable def namesOk (scope : Scope) : Bool := scope.kind == .function && scope.names.all (fun x => x.2 != .local || scope.names.lookup x.1 == some .local)
theorem namesOk_of {scope : Scope} (h : namesOk scope = true) : scope.kind = .function ∧ ∀ x ∈ scope.names, x.2 = .local → scope.names.lookup x.1 = some .local := by
  unfold namesOk at h
  simp only [Bool.and_eq_true, beq_iff_eq, List.all_eq_true, Bool.or_eq_true, bne_iff_ne] at h
  exact ⟨h.1, fun x hx hl => (h.2 x hx).resolve_left fun q => q hl⟩
theorem n_listcomp {elt target iter : Expr} {ifs : List Expr} {rest : List Comprehension} {scope : Scope} {pos : Pos} {Q : Value → Shared → Prop} (cl : List (Str × Addr))
    (hclos : closureFor scope env = pure cl) (hn : namesOk scope = true) (hs : ∀ x, foldedSetIterable iter env x = pure x)
    (h : wpAny (model prog w) A (eval iter env) (fun x s₁ => wpAny (model prog w) A (pyIter x) (CompAt prog w A env (.ListComp elt (⟨target, iter, ifs, 0⟩ :: rest) scope pos) scope cl none Q E) E s₁) E s) :
    wpAny (model prog w) A (eval (.ListComp elt (⟨target, iter, ifs, 0⟩ :: rest) scope pos) env) Q E s := by
  obtain ⟨h1, h2⟩ := namesOk_of hn
  rw [eval_ListComp]
  exact wpAny_comprehension_free rfl hs hclos h1 h2 h
theorem n_assignComp {elt target iter : Expr} {ifs : List Expr} {rest : List Comprehension} {scope : Scope} {x : Str} {px pos cpos : Pos} {Q : Flow → Shared → Prop} (cl : List (Str × Addr))
    (hsw : swapsWith (.ListComp elt (⟨target, iter, ifs, 0⟩ :: rest) scope cpos) (some (.Name x px)) pos.line env = pure true) (hclos : closureFor scope env = pure cl) (hn : namesOk scope = true) (hs : ∀ x, foldedSetIterable iter env x = pure x)
    (h : wpAny (model prog w) A (eval iter env) (fun y s₁ => wpAny (model prog w) A (pyIter y) (CompAt prog w A env (.ListComp elt (⟨target, iter, ifs, 0⟩ :: rest) scope cpos) scope cl (some (assign (.Name x px) env)) (fun _ => Q .next) E) E s₁) E s) :
    wpAny (model prog w) A (exec (.Assign [.Name x px] (.ListComp elt (⟨target, iter, ifs, 0⟩ :: rest) scope cpos) pos) env) Q E s := by
  obtain ⟨h1, h2⟩ := namesOk_of hn
  rw [exec_Assign_Name_used _ _ _ _ hsw]
  refine wpAny_bind (wpAny_standAt (wpAny_bind ?_))
  show wpAny _ _ (comprehension _ scope env _ (newList []) false _ (some (assign (.Name x px) env)) >>= fun _ => pure ()) _ _ s
  exact wpAny_bind (wpAny_mono (wpAny_comprehension_free rfl hs hclos h1 h2 h) (fun _ _ q => wpAny_pure (wpAny_pure q)) fun _ _ z => z)

/-- the end of a comprehension: the frame goes, the list stays -/
noncomputable def CompEnd (prog : Program) (w : World) (A : Around) (O : OsState) (use : Option (Value → Sem Unit)) (Q : Value → Shared → Prop) (D : Addr) (ys : List Value) (B : Fix) (rs : List Res) (G : Array GenState) : Prop := match use with
  | none => ∀ s, St B O ((D, ListO ys) :: rs) G s → Q (.ref D) s
  | some u => ∀ s C P, St B O ((C, P) :: (D, ListO ys) :: rs) G s → wpAny (model prog w) A (u (.ref D)) (fun _ s' => ∃ rs' G', St B O ((C, P) :: (D, ListO ys) :: rs') G' s' ∧ ∀ s'', St B O ((D, ListO ys) :: rs') G' s'' → Q .none s'') NoE s
theorem compPost_of {use : Option (Value → Sem Unit)} {Q : Value → Shared → Prop} {C D : Addr} {l : List (Str × Option Value)} {ys : List Value} (S : St B O ((C, FrO l) :: (D, ListO ys) :: rs) G s) (h : CompEnd prog w A O use Q D ys B rs G) :
    compPost (model prog w) A NoE use Q (.ref D) C (.ok .next) s := by
  have gone : ∀ {rs G s}, St B O ((C, FrO l) :: (D, ListO ys) :: rs) G s → ∃ m, s.heap.Ns C m ∧ ∀ h', Heap.SameBut C s.heap h' → St B O ((D, ListO ys) :: rs) G { s with heap := h' } := fun S => by
    obtain ⟨o, ho, hf⟩ := S.get List.mem_cons_self
    obtain ⟨m, n, _⟩ := FrO.ns ho hf
    exact ⟨m, n, fun h' hs => S.ext .head hs.extBut⟩
  cases use with
  | none =>
    obtain ⟨m, n, k⟩ := gone S
    exact ⟨m, n, fun h' hs => h _ (k h' hs)⟩
  | some u =>
    refine wpAny_mono (h s C _ S) (fun _ s' q => ?_) fun _ _ z => z
    obtain ⟨rs', G', S', q⟩ := q
    obtain ⟨m, n, k⟩ := gone S'
    exact ⟨m, n, fun h' hs => q _ (k h' hs)⟩

/-- one clause, its target a name, over an iterator -/
theorem n_compAt {elt iter : Expr} {ifs : List Expr} {scope : Scope} {pos : Pos} {cl : List (Str × Addr)} {x : Str} {px : Pos} {it : Addr} {n : Nat} {P : Nat → Obj → Prop} {V : Nat → Value → Prop} {need : Fix → List Res → Prop}
    {use : Option (Value → Sem Unit)} {Q : Value → Shared → Prop} (I : Iter prog w A it n P V need) (J : Nat → List Value → Fix → List Res → Array GenState → Prop)
    (hcell : scope.names.all (fun y => y.2 != .cell) = true) (hk : scope.kind = .function) (hl : scope.names.lookup x = some .local)
    (hneed : ∀ k ys B rs G C D ov, J k ys B rs G → need B ((it, P k) :: (C, FrO [(x, ov)]) :: (D, ListO ys) :: rs))
    (turn : ∀ k ys B rs G C D v (K : Value → Shared → Prop) (K0 : Shared → Prop), (∀ y s', (∃ B' rs' G', St B' O ((it, P (k + 1)) :: (C, FrO [(x, some v)]) :: (D, ListO ys) :: rs') G' s' ∧ J (k + 1) (ys ++ [y]) B' rs' G') → K y s') →
      (∀ s', (∃ B' rs' G', St B' O ((it, P (k + 1)) :: (C, FrO [(x, some v)]) :: (D, ListO ys) :: rs') G' s' ∧ J (k + 1) ys B' rs' G') → K0 s') → ∀ s, k < n → V k v → J k ys B rs G → St B O ((it, P (k + 1)) :: (C, FrO [(x, some v)]) :: (D, ListO ys) :: rs) G s →
      wpAny (model prog w) A (forIn ifs true fun c r => if r = true then do let ok ← isTrue c (compE scope cl C env) (eval c (compE scope cl C env)); pure (ForInStep.yield ok) else pure (ForInStep.yield r)) (fun ok s₃ =>
        Br ok (wpAny (model prog w) A (eval elt (compE scope cl C env)) K NoE s₃) (K0 s₃)) NoE s)
    (hsz : ∀ k ys B rs G, J k ys B rs G → ys.length ≤ sizeLine)
    (fin : ∀ ys B rs G D, J n ys B rs G → CompEnd prog w A O use Q D ys B rs G)
    (S : St B O ((it, P 0) :: rs) G s) (h0 : J 0 [] B rs G) :
    CompAt prog w A env (.ListComp elt [⟨.Name x px, iter, ifs, 0⟩] scope pos) scope cl use Q NoE (.ref it) s := by
  unfold CompAt
  refine wpAny_newObj_type ?_ (by size_fits)
  have S1 := S.newObj (o := { cls := .type "list", data := .seq ([] : List Value).toArray }) (P := ListO []) ⟨_, rfl⟩ rfl
  have hcell' : ∀ y ∈ scope.names, y.2 ≠ .cell := fun y hy => by simpa using List.all_eq_true.mp hcell y hy
  generalize s.heap.objs.size = D at S1 ⊢
  generalize hs1 : ({ s with heap := _ } : Shared) = s1 at S1 ⊢
  refine wpAny_newFunctionEnv hcell' (fun _ hm => nomatch hm) (fun h' hn hsb => ?_) hk
  have S2 : St B O ((s1.heap.objs.size, FrO [(x, none)]) :: (D, ListO []) :: (it, P 0) :: rs) G { s1 with heap := h', toks := s1.toks + ([] : List (Str × Value)).length } := by
    have q := S1.newObj (o := { cls := .type "dict", data := .dict #[] }) (P := FrO [(x, none)]) ⟨#[], 0, rfl, fun _ hm => by simp at hm, by simp, fun p hp => by simp at hp; subst hp; rfl⟩ rfl
    exact (q.upd (h' := h') .head hsb (FrO.of_ns hn (by simp) (fun p hp => by simp at hp; subst hp; rfl))).tok _
  generalize s1.heap.objs.size = C at S2 ⊢
  generalize ({ s1 with heap := _, toks := _ } : Shared) = s2 at S2 ⊢
  have S3 : St B O ((it, P 0) :: (C, FrO [(x, none)]) :: (D, ListO []) :: rs) G s2 := S2.perm (by
    refine List.Perm.trans (l₂ := (C, FrO [(x, none)]) :: (it, P 0) :: (D, ListO []) :: rs) (.cons _ (.swap ..)) (.swap ..))
  have loop : ∀ s3, St B O ((it, P 0) :: (C, FrO [(x, none)]) :: (D, ListO []) :: rs) G s3 → codeAny (model prog w) A (.compLoop (.ListComp elt [⟨.Name x px, iter, ifs, 0⟩] scope pos) 0 (.ref it) (.ref D) (compE scope cl C env))
      (compPost (model prog w) A NoE use Q (.ref D) C) s3 := fun s3 S3 => by
    refine codeAny_compLoop_tests (fun m s' => ∃ k ys B rs G ov, m = n - k ∧ k ≤ n ∧ St B O ((it, P k) :: (C, FrO [(x, ov)]) :: (D, ListO ys) :: rs) G s' ∧ J k ys B rs G) ?_ (n - 0) ⟨0, [], B, rs, G, _, rfl, Nat.zero_le _, S3, h0⟩
    rintro m s₁ ⟨k, ys, B, rs, G, ov, rfl, hkn, S₁, hJ⟩
    by_cases hlt : k < n
    · refine I.next S₁ (hneed k ys B rs G C D ov hJ) .head hlt fun v s₂ hv S₂ => ?_
      refine wpAny_assign_Name (r_store S₂ .head (.tail .head) (fun s₃ S₃ => ?_) hk (lookup_relabel_local hl))
      refine anyE (wpAny_mono (turn k ys B rs G C D v _ _ (fun _ _ x => x) (fun _ x => x) s₃ hlt hv hJ S₃) (fun ok s₄ h => ?_) fun _ _ z => z)
      cases ok with
      | false =>
        obtain ⟨B', rs', G', S', J'⟩ := h.2 rfl
        exact ⟨n - (k + 1), Nat.sub_lt_sub_left hlt (Nat.lt_succ_self k), k + 1, ys, B', rs', G', _, rfl, hlt, S', J'⟩
      | true =>
        refine anyE (wpAny_mono (h.1 rfl) (fun y s₅ h => ?_) fun _ _ z => z)
        obtain ⟨B', rs', G', S', J'⟩ := h
        refine anyE (n_append (hsz _ _ _ _ _ hJ) S' (.tail (.tail .head)) fun s₆ S₆ => ?_)
        exact ⟨n - (k + 1), Nat.sub_lt_sub_left hlt (Nat.lt_succ_self k), k + 1, ys ++ [y], B', rs', G', some v, rfl, hlt, S₆, J'⟩
    · have : n = k := Nat.le_antisymm (Nat.le_of_not_lt hlt) ‹_›
      subst this
      refine I.stop S₁ (hneed n ys B rs G C D ov hJ) .head fun s₂ S₂ => compPost_of S₂ (fin ys B rs G D hJ)
  refine codeAny_compStart_list (loop _ S3) (I.self S3 List.mem_cons_self (loop _ S3))
end
-- M5
/-- a text by its codes -/
noncomputable def T (l : List Nat) : Str := ⟨l.toArray⟩
theorem T_cps (x : Str) : T x.cps.toList = x := by cases x; rfl
theorem T_inj {a b : List Nat} (h : T a = T b) : a = b := by
  have := congrArg (fun s => s.cps.toList) h
  simpa [T] using this
theorem T_len (l : List Nat) : (T l).length = l.length := by simp [T, Str.length]
theorem T_append (a b : List Nat) : T a ++ T b = T (a ++ b) := by
  show Str.append (T a) (T b) = _
  simp [T, Str.append]
theorem T_beq (a b : List Nat) : (T a == T b) = (a == b) := by
  rw [Bool.eq_iff_iff, beq_iff_eq, beq_iff_eq]
  exact ⟨T_inj, fun h => h ▸ rfl⟩
theorem T_ascii {l : List Nat} (h : l.all (· < 128) = true) : (T l).cps.all (· < 128) = true := by simpa [T] using h
noncomputable def isLet (c : Nat) : Bool := c == 97 || c == 65 || c == 98 || c == 66
noncomputable def letF (l : List Nat) : List Nat := l.filter isLet
/-- values that are these texts -/
noncomputable def StrV (v : Value) (x : Str) : Prop := ∃ t, v = .str x t
noncomputable def StrVs : List Value → List Str → Prop
  | [], [] => True
  | v :: vs, x :: xs => StrV v x ∧ StrVs vs xs
  | _, _ => False
theorem StrVs.snoc : ∀ {vs : List Value} {xs : List Str} {v x}, StrVs vs xs → StrV v x → StrVs (vs ++ [v]) (xs ++ [x])
  | [], [], _, _, _, h => ⟨h, trivial⟩
  | _ :: _, _ :: _, _, _, h, h' => ⟨h.1, h.2.snoc h'⟩
theorem StrVs.length : ∀ {vs : List Value} {xs : List Str}, StrVs vs xs → vs.length = xs.length
  | [], [], _ => rfl
  | _ :: _, _ :: _, h => congrArg (· + 1) h.2.length
theorem StrVs.pairs : ∀ {vs : List Value} {xs : List Str}, StrVs vs xs → ∃ l : List (Str × Tok), strValues l = vs ∧ l.map (·.1) = xs
  | [], [], _ => ⟨[], rfl, rfl⟩
  | v :: _, x :: _, h => by
    obtain ⟨t, rfl⟩ := h.1
    obtain ⟨l, e1, e2⟩ := h.2.pairs
    exact ⟨(x, t) :: l, by rw [← e1]; rfl, by rw [← e2]; rfl⟩
theorem StrVs.get : ∀ {vs : List Value} {xs : List Str} {k : Nat} {v : Value}, StrVs vs xs → vs[k]? = some v → ∃ x, xs[k]? = some x ∧ StrV v x
  | _ :: _, x :: _, 0, _, h, e => by cases e; exact ⟨x, rfl, h.1⟩
  | _ :: _, _ :: _, k + 1, _, h, e => h.2.get (k := k) (by simpa using e)
  | [], _, _, _, _, e => by simp at e
noncomputable def catT (xs : List Str) : List Nat := xs.flatMap fun x => x.cps.toList
theorem join_empty : ∀ xs : List Str, Str.join (T []) xs = T (catT xs)
  | [] => rfl
  | [x] => by simp [Str.join, catT, T_cps]
  | x :: y :: r => by
    rw [Str.join, join_empty (y :: r)]
    · show x ++ T [] ++ T (catT (y :: r)) = T (catT (x :: y :: r))
      conv => lhs; rw [← T_cps x]
      rw [T_append, T_append]
      simp [catT]
    · intro h; cases h
theorem ofString_nil : Str.ofString "" = T [] := by decide +kernel
section
variable {prog : Program} {w : World} {A : Around} {E : Value → Shared → Prop} {B : Fix} {O : OsState} {rs rs' : List Res} {G : Array GenState} {s : Shared} {env : Env}
theorem n_inLet {c : Nat} {t u : Tok} {Q : Value → Shared → Prop} (h : Q (.bool (isLet c)) s) : wpAny (model prog w) A (compareOp .In (.str ⟨#[c]⟩ u) (.str (Str.ofString "aAbB") t)) Q E s := by
  refine in_str ?_
  rw [StrLaws.found_one]
  have e : (Str.ofString "aAbB").cps.toList = [97, 65, 98, 66] := by decide +kernel
  rw [e]
  have : decide (c ∈ [97, 65, 98, 66]) = isLet c := by
    rw [Bool.eq_iff_iff, decide_eq_true_eq]
    simp [isLet, or_assoc]
  rw [this]; exact h
theorem n_join {D : Addr} {t : Tok} {vs : List Value} {xs : List Str} {Q : Value → Shared → Prop} (S : St B O rs G s) (hl : Lst B rs D vs) (hv : StrVs vs xs) (hsz : (catT xs).length ≤ 100000)
    (h : ∀ s' k, St B O rs G s' → Q (.str (T (catT xs)) k) s') : wpAny (model prog w) A (call (.builtin "str.join") [.str (Str.ofString "") t, .ref D]) Q E s := by
  obtain ⟨l, e1, e2⟩ := hv.pairs
  rw [ofString_nil]
  have e : Txt.join (T []) xs = T (catT xs) := (StrLaws.glued_eq_join _ _).trans (join_empty xs)
  refine SC.join (l := l) (texts := xs) (by rw [e1]; exact S.lst hl) e2 ?_ fun t' k => by rw [e]; exact h _ _ (S.tok _)
  unfold JoinOk
  rw [StrLaws.joinTotal]
  have e3 : (xs.map (·.length)).sum = (catT xs).length := by
    simp only [catT, List.length_flatMap, Array.length_toList]; rfl
  rw [e3]
  have : (T []).length = 0 := rfl
  rw [this]
  unfold Builtin.Str.tooLong
  rw [sizeLine_eq]
  simp; omega
end
-- M6
-- heaps
theorem Own.remake {B : Fix} {rs rs' : List Res} {h h' : Heap} (O : Own B rs h) (hk : ∀ b o, B b = some o → h'.get? b = some o) (res : ∀ r ∈ rs', ∃ o, h'.get? r.1 = some o ∧ r.2 o)
    (nd : (rs'.map (·.1)).Nodup) (fr : ∀ r ∈ rs', r.1 ∈ rs.map (·.1) ∨ h.objs.size ≤ r.1) : Own B rs' h' := by
  refine ⟨hk, res, nd, fun r hr => ?_⟩
  rcases fr r hr with q | q
  · obtain ⟨r', hr', e⟩ := List.mem_map.mp q
    have := O.fresh r' hr'
    rw [e] at this; exact this
  · cases z : B r.1 with
    | none => rfl
    | some o => exact absurd (Heap.lt_size (O.base _ _ z)) (Nat.not_lt_of_le q)
theorem Own.keeps {B : Fix} {rs : List Res} {h h' : Heap} (O : Own B rs h) (hk : ∀ b o, h.get? b = some o → h'.get? b = some o) : Own B rs h' :=
  ⟨fun b o e => hk b o (O.base b o e), fun r hr => let ⟨o, e, p⟩ := O.res r hr; ⟨o, hk _ _ e, p⟩, O.nodup, O.fresh⟩
theorem Own.lt {B : Fix} {rs : List Res} {h : Heap} (O : Own B rs h) {r : Res} (hr : r ∈ rs) : r.1 < h.objs.size := let ⟨_, e, _⟩ := O.res r hr; Heap.lt_size e
/-- all but the new address stays -/
theorem Own.extNew {B : Fix} {rs : List Res} {h h' : Heap} (O : Own B rs h) (hs : Heap.ExtBut h.objs.size h h') : Own B rs h' :=
  ⟨fun b o e => hs b o (Nat.ne_of_lt (Heap.lt_size (O.base b o e))) (O.base b o e), fun r hr => let ⟨o, e, p⟩ := O.res r hr; ⟨o, hs _ _ (Nat.ne_of_lt (Heap.lt_size e)) e, p⟩, O.nodup, O.fresh⟩
/-- the rest stands while a part is at work -/
theorem St.frame {B : Fix} {O : OsState} {ri rs : List Res} {G : Array GenState} {s : Shared} (S : St B O (ri ++ rs) G s) :
    ∃ B', Fix.le B B' ∧ St B' O ri G s ∧ ∀ G' s' ri', St B' O ri' G' s' → St B O (ri' ++ rs) G' s' := by
  classical
  have nd := S.own.nodup
  rw [List.map_append, List.nodup_append] at nd
  obtain ⟨n1, n2, n3⟩ := nd
  let B' : Fix := fun b => if b ∈ rs.map (·.1) then s.heap.get? b else B b
  have hle : Fix.le B B' := fun b o e => by
    show (if b ∈ rs.map (·.1) then s.heap.get? b else B b) = some o
    split
    · exact S.own.base b o e
    · exact e
  refine ⟨B', hle, ⟨⟨fun b o e => ?_, fun r hr => S.own.res r (List.mem_append.mpr (.inl hr)), n1, fun r hr => ?_⟩, S.gens, S.os⟩, fun G' s' ri' S' => ⟨⟨fun b o e => S'.own.base b o (hle b o e), fun r hr => ?_, ?_, fun r hr => ?_⟩, S'.gens, S'.os⟩⟩
  · replace e : (if b ∈ rs.map (·.1) then s.heap.get? b else B b) = some o := e
    split at e
    · exact e
    · exact S.own.base b o e
  · have : r.1 ∉ rs.map (·.1) := fun h => n3 r.1 (List.mem_map_of_mem hr) r.1 h rfl
    show (if r.1 ∈ rs.map (·.1) then s.heap.get? r.1 else B r.1) = none
    rw [if_neg this]
    exact S.own.fresh r (List.mem_append.mpr (.inl hr))
  · rcases List.mem_append.mp hr with q | q
    · exact S'.own.res r q
    · obtain ⟨o, e, p⟩ := S.own.res r (List.mem_append.mpr (.inr q))
      refine ⟨o, S'.own.base _ _ ?_, p⟩
      show (if r.1 ∈ rs.map (·.1) then s.heap.get? r.1 else B r.1) = some o
      rw [if_pos (List.mem_map_of_mem q)]; exact e
  · rw [List.map_append, List.nodup_append]
    refine ⟨S'.own.nodup, n2, fun a ha b hb e => ?_⟩
    subst e
    obtain ⟨r, hr, rfl⟩ := List.mem_map.mp ha
    obtain ⟨r', hr', e⟩ := List.mem_map.mp hb
    obtain ⟨o, e', _⟩ := S.own.res r' (List.mem_append.mpr (.inr hr'))
    have := S'.own.fresh r hr
    replace this : (if r.1 ∈ rs.map (·.1) then s.heap.get? r.1 else B r.1) = none := this
    rw [if_pos hb, ← e, e'] at this; cases this
  · rcases List.mem_append.mp hr with q | q
    · have := S'.own.fresh r q
      cases z : B r.1 with
      | none => rfl
      | some o => rw [hle _ _ z] at this; cases this
    · exact S.own.fresh r (List.mem_append.mpr (.inr q))
theorem FrO.dead {l a} {rs : List Res} (h : (a, FrO l) ∈ rs) : (a, FrO l) ∈ rs := h

-- enumerate over a text
noncomputable def EnumO (it : Addr) (k : Nat) : Obj → Prop := fun o => ∃ old, o = { cls := .type "enumerate", dict := none, data := .fields #[.none, .bool false, .ref it, rawInt k, .none, old], slots := #[] }
noncomputable def EnumOutO (it : Addr) (k : Nat) (a : Addr) : Obj → Prop := fun o => ∃ item, o = { cls := .type "enumerate", dict := none, data := .fields #[rawInt a, .bool false, .ref it, rawInt k, .none, item], slots := #[] }
section
variable {prog : Program} {w : World} {A : Around} {E : Value → Shared → Prop} {B : Fix} {O : OsState} {rs rs' : List Res} {G : Array GenState} {s : Shared} {env : Env}
theorem n_enumStr {x : Str} {t : Tok} {Q : Value → Shared → Prop} (ha : x.cps.all (· < 128) = true) (S : St B O rs G s) (h : ∀ e it s', St B O ((e, EnumO it 0) :: (it, StrItO x t 0) :: rs) G s' → Q (.ref e) s') :
    wpAny (model prog w) A (call (.type "enumerate") [.str x t]) Q E s := by
  refine call_enumerate_str fun h' he hi hz hk => h _ s.heap.objs.size _ (S.heap (S.own.remake (fun b o e => hk _ _ (S.own.base b o e)) (fun r hr => ?_) ?_ (fun r hr => ?_)))
  · rcases List.mem_cons.mp hr with rfl | hr
    · exact ⟨_, he, _, rfl⟩
    · rcases List.mem_cons.mp hr with rfl | hr
      · obtain ⟨o, e, p⟩ := hi
        refine ⟨o, e, ?_, p.2⟩
        rw [p.1]; simp [strIterType, ha]
      · obtain ⟨o, e, p⟩ := S.own.res r hr; exact ⟨o, hk _ _ e, p⟩
  · have nin : ∀ a, s.heap.objs.size ≤ a → a ∉ rs.map (·.1) := fun a h m => by
      obtain ⟨r, hr, e⟩ := List.mem_map.mp m
      have := S.own.lt hr; rw [e] at this; exact absurd this (Nat.not_lt_of_le h)
    rw [List.map_cons, List.map_cons, List.nodup_cons, List.nodup_cons]
    refine ⟨fun m => ?_, nin _ (Nat.le_refl _), S.own.nodup⟩
    rcases List.mem_cons.mp m with m | m
    · exact absurd m (Nat.succ_ne_self _)
    · exact nin _ (Nat.le_succ _) m
  · rcases List.mem_cons.mp hr with rfl | hr
    · exact .inr (Nat.le_succ _)
    · rcases List.mem_cons.mp hr with rfl | hr
      · exact .inr (Nat.le_refl _)
      · exact .inl (List.mem_map_of_mem hr)
theorem n_iterEnum {e it : Addr} {k : Nat} {Q : Value → Shared → Prop} (S : St B O rs G s) (hm : (e, EnumO it k) ∈ rs) (h : Q (.ref e) s) : wpAny (model prog w) A (pyIter (.ref e)) Q E s := by
  obtain ⟨o, ho, old, rfl⟩ := S.get hm
  exact wpAny_pyIter_enum ho h
theorem n_nextEnum {x : Str} {t : Tok} {e it : Addr} {k : Nat} {Q : Option Value → Shared → Prop} (hh : A.handled = none) (S : St B O ((e, EnumO it k) :: (it, StrItO x t k) :: rs) G s) (hk : k < x.cps.size)
    (h : ∀ a c t1 t2 s', x.cps[k]? = some c → St B O ((a, TupO [.int k t1, .str ⟨#[c]⟩ t2]) :: (e, EnumOutO it (k + 1) a) :: (it, StrItO x t (k + 1)) :: rs) G s' → Q (some (.ref a)) s') :
    wpAny (model prog w) A (pyNext (.ref e)) Q E s := by
  obtain ⟨o, ho, old, rfl⟩ := S.get (a := e) (P := EnumO it k) (by simp)
  have hi := S.strIt (a := it) (x := x) (t := t) (i := k) (by simp)
  have nd := S.own.nodup
  simp only [List.map_cons, List.nodup_cons, List.mem_cons, not_or] at nd
  obtain ⟨⟨n1, n2⟩, n3, n4⟩ := nd
  refine wpAny_pyNext_enum_itemD (St := fun i h => h.IsStrIter it "str_ascii_iterator" x t i) (Draws.strAscii (A := A.in1) hh it x t) ho hi hk n1 (by simpa using n1) fun v h' tk hP he hi' ht hz hkp => ?_
  obtain ⟨c, u, hc, rfl⟩ := hP
  refine h _ c tk u _ hc ((S.heapTok (S.own.remake (fun b o e => hkp b o ?_ ?_ (S.own.base b o e)) (fun r hr => ?_) ?_ (fun r hr => ?_))))
  · exact S.own.ne e (P := EnumO it k) (by simp)
  · exact S.own.ne e (a := it) (P := StrItO x t k) (by simp)
  · rcases List.mem_cons.mp hr with rfl | hr
    · exact ⟨_, ht, rfl, 0, rfl⟩
    · rcases List.mem_cons.mp hr with rfl | hr
      · exact ⟨_, he, _, rfl⟩
      · rcases List.mem_cons.mp hr with rfl | hr
        · obtain ⟨o, e, p⟩ := hi'; exact ⟨o, e, p⟩
        · obtain ⟨o, e, p⟩ := S.own.res r (by simp [hr])
          exact ⟨o, hkp _ _ (fun z => n2 (z ▸ List.mem_map_of_mem hr)) (fun z => n3 (z ▸ List.mem_map_of_mem hr)) e, p⟩
  · have q := S.own.nodup
    rw [List.map_cons, List.nodup_cons]
    refine ⟨fun m => ?_, by simpa using q⟩
    have m : s.heap.objs.size ∈ ((e, EnumO it k) :: (it, StrItO x t k) :: rs).map (·.1) := by simpa using m
    obtain ⟨r, hr, e⟩ := List.mem_map.mp m
    have := S.own.lt hr; rw [e] at this; exact absurd this (Nat.lt_irrefl _)
  · rcases List.mem_cons.mp hr with rfl | hr
    · exact .inr (Nat.le_refl _)
    · left
      rcases List.mem_cons.mp hr with rfl | hr
      · simp
      · rcases List.mem_cons.mp hr with rfl | hr
        · simp
        · simp only [List.map_cons, List.mem_cons]; exact .inr (.inr (List.mem_map_of_mem hr))
theorem n_stopEnum {x : Str} {t : Tok} {e it : Addr} {Q : Option Value → Shared → Prop} (hh : A.handled = none) (S : St B O ((e, EnumO it x.cps.size) :: (it, StrItO x t x.cps.size) :: rs) G s)
    (h : ∀ s', St B O rs G s' → Q none s') : wpAny (model prog w) A (pyNext (.ref e)) Q E s := by
  obtain ⟨o, ho, old, rfl⟩ := S.get (a := e) (P := EnumO it x.cps.size) (by simp)
  have hi := S.strIt (a := it) (x := x) (t := t) (i := x.cps.size) (by simp)
  exact wpAny_pyNext_enum_endD (St := fun i h => h.IsStrIter it "str_ascii_iterator" x t i) (Draws.strAscii (A := A.in1) hh it x t) ho hi fun h' hs => h _ (S.drop.ext .head hs)
theorem n_goEnum {elts : List Expr} {x1} {pos : Pos} {e it a : Addr} {k : Nat} {Q : Unit → Shared → Prop} (S : St B O rs G s) (u : Upd1 e (EnumOutO it k a) (EnumO it k) rs rs') (h : ∀ s', St B O rs' G s' → Q () s') :
    wpAny (model prog w) A (letOwnedTupleGo (.Tuple elts x1 pos) (.ref e) (.ref a)) Q E s := by
  obtain ⟨o, ho, item, rfl⟩ := S.get u.mem
  exact wpAny_letOwnedTupleGo_enum ho fun h' he hs => h _ (S.upd u hs ⟨_, he, _, rfl⟩)
/-- two names from a pair -/
theorem n_pair {elts : List Expr} {x1} {x y : Str} {px py pos : Pos} {a : Addr} {v1 v2 : Value} {l l1 l2 : List (Str × Option Value)} {Q : Unit → Shared → Prop} (hh : A.handled = none)
    (he : elts = [.Name x px, .Name y py]) (ht : s.heap.IsTuple a #[v1, v2]) (S : St B O rs G s) (p1 : Put x (some v1) l l1) (p2 : Put y (some v2) l1 l2) (u1 : Upd1 env.locals (FrO l) (FrO l2) rs rs')
    (h : ∀ s', St B O rs' G s' → Q () s') (hk : env.scope.kind = .function) (hx : env.kindOf x = some .local) (hy : env.kindOf y = some .local) :
    wpAny (model prog w) A (assign (.Tuple elts x1 pos) env (.ref a)) Q E s := by
  subst he
  refine wpAny_assign_Tuple hh ht rfl rfl fun h₃ hx₃ => ?_
  show wpAny _ A (do holding [v2] (assign (.Name x px) env v1); do holding [] (assign (.Name y py) env v2); pure ()) _ _ _
  have S1 := S.heap (S.own.extNew hx₃)
  obtain ⟨xs, ys, e1, e2⟩ := u1.split
  have ua : Upd1 env.locals (FrO l) (FrO l1) rs (xs ++ (env.locals, FrO l1) :: ys) := by rw [e1]; clear e1 e2 S1 S; induction xs with | nil => exact .head | cons _ _ ih => exact .tail ih
  have ub : Upd1 env.locals (FrO l1) (FrO l2) (xs ++ (env.locals, FrO l1) :: ys) rs' := by rw [e2]; clear ua e1 e2 S1 S; induction xs with | nil => exact .head | cons _ _ ih => exact .tail ih
  refine wpAny_bind (wpAny_holding (wpAny_assign_Name (r_store S1 p1 ua (fun s2 S2 => ?_) hk hx)))
  refine wpAny_bind (wpAny_holding (wpAny_assign_Name (r_store S2 p2 ub (fun s3 S3 => wpAny_pure (h _ S3)) hk hy)))
theorem St.tup {a vs} (S : St B O rs G s) (h : (a, TupO vs) ∈ rs ∨ Tup B a vs) : s.heap.IsTuple a vs.toArray := by
  rcases h with h | ⟨o, e, p⟩
  · obtain ⟨o, e, p⟩ := S.get h; exact ⟨o, e, p⟩
  · exact ⟨o, S.base e, p⟩
theorem n_tuple {vs : List Value} {Q : Value → Shared → Prop} (hsz : vs.length ≤ 100000) (S : St B O rs G s) (h : ∀ a s', St B O ((a, TupO vs) :: rs) G s' → Q (.ref a) s') : wpAny (model prog w) A (newTuple vs) Q E s :=
  wpAny_newTuple (h _ _ (S.newObj ⟨rfl, 0, rfl⟩ rfl)) (by rw [sizeLine_eq]; omega)
theorem n_catT {x y : Str} {a b : List Nat} {t u : Tok} {Q : Value → Shared → Prop} (hx : x = T a) (hy : y = T b) (hsz : a.length + b.length ≤ 100000) (S : St B O rs G s) (h : ∀ s' k, St B O rs G s' → Q (.str (T (a ++ b)) k) s') :
    wpAny (model prog w) A (binaryOp .Add (.str x t) (.str y u)) Q E s := by
  subst hx hy
  exact n_cat (by rw [T_len, T_len, sizeLine_eq]; omega) S fun s' k S' => by rw [T_append]; exact h s' k S'
end
theorem sBack : Str.ofString "\\" = T [92] := by decide +kernel
theorem sQuote : Str.ofString "\"" = T [34] := by decide +kernel
-- M7
-- one stretch of a generator
section
variable {prog : Program} {w : World} {A : Around} {B : Fix} {O : OsState} {rs rs' : List Res} {G : Array GenState} {s : Shared} {env : Env} {c : Code} {fs : List Frame} {P : End → Shared → Prop}
  {K : Flow → Sem Fin} {H : Value → Sem Fin} {gd : Bool → Bool} {lv : List Value → List Value}
theorem gx_wrap {α : Type} {m : Sem α} {K : α → Sem Fin} (h : wpAny (model prog w) (A.over c fs) m (fun a s' => SegX (model prog w) A c (K a) fs s' P) NoE s) : SegX (model prog w) A c (m.wrap K H gd lv) fs s P := by
  rintro Γ p rfl hΓ
  obtain ⟨e, s', hr, hq⟩ := runs_wrap_of_wp (Φ := fun e s' => e.quiet = true ∧ P e s') K H gd lv m (h (Γ.over fs) p (hΓ.over fs)) (fun a p' s' h' => h' Γ p' rfl hΓ) (fun x p' s' h' => h'.elim)
  exact ⟨e, s', hr, hq⟩
theorem gx_bind {α β : Type} {m : Sem α} {K : α → Sem β} {K' : β → Sem Fin} (h : wpAny (model prog w) (A.over c fs) m (fun a s' => SegX (model prog w) A c ((K a).wrap K' H gd lv) fs s' P) NoE s) :
    SegX (model prog w) A c ((m >>= K).wrap K' H gd lv) fs s P := by
  rw [Sem.bind_eq_wrap', Sem.wrap_wrap]
  exact gx_wrap h
theorem gx_nil (h : SegX (model prog w) A c (K .next) fs s P) : SegX (model prog w) A c ((execs [] env).wrap K H gd lv) fs s P := h
theorem gx_cons {st : Stmt} {rest : List Stmt} (h : SegX (model prog w) A c ((exec st env).wrap (fun f => match f with | .next => (execs rest env).wrap K H gd lv | f => K f) H gd lv) fs s P) :
    SegX (model prog w) A c ((execs (st :: rest) env).wrap K H gd lv) fs s P := by rw [execs_cons_wrap]; exact h
theorem gx_leaf {k hd g l c₁ p₁ kp} (r : Result) (x : SegX (model prog w) A c₁ (k r) fs s P) : SegX (model prog w) A c (leafOf r) (.ret k hd g l c₁ p₁ kp :: fs) s P := by
  rintro Γ p rfl hΓ
  obtain ⟨e, s', hr, hq⟩ := x (Γ.goto c₁) p₁ rfl (hΓ.goto c₁)
  exact ⟨e, s', Runs.pop r hr, hq⟩
theorem gx_again {c' : Code} (hq : c'.quiet = true) (x : SegX (model prog w) A c' ((model prog w).den c') fs s P) : SegX (model prog w) A c (.pure (.again c')) fs s P := by
  rintro Γ p rfl hΓ
  obtain ⟨e, s', hr, hq'⟩ := x (Γ.goto c') p rfl (hΓ.goto c')
  exact ⟨e, s', Runs.head (c₁ := c') (fun _ _ y => .again hq y) hr, hq'⟩
theorem gx_call {c' : Code} {hd g l} {k : Result → Sem Fin} (x : ∀ p, SegX (model prog w) A c' ((model prog w).den c') (.ret k hd g l c p [] :: fs) s P) : SegX (model prog w) A c (.call c' hd g l k) fs s P := by
  rintro Γ p rfl hΓ
  obtain ⟨e, s', hr, hq⟩ := x p (Γ.goto c') p rfl (hΓ.goto c')
  exact ⟨e, s', runs_call_seg hr, hq⟩
theorem gx_end (r : Result) (x : P (.ret r) s) : SegX (model prog w) A c (leafOf r) [] s P := by
  rintro Γ p rfl _
  exact ⟨.ret r, s, Runs.leaf r, rfl, x⟩
theorem gx_yield {v : Value} {g : Bool} {l : List Value} {k : Resume → Sem Fin} (hfs : splitAtGen fs = none) (hg : g = false) (hfg : fs.any Frame.guarded = false) (x : ∀ p, P (.susp v g l k c p fs) s) : SegX (model prog w) A c (.yield v g l k) fs s P := by
  rintro Γ p rfl _
  exact ⟨_, s, Runs.yield' fs hfs, by simp [End.quiet, hg, hfg], x p⟩
/-- resumed, it goes on here -/
noncomputable def Goes (prog : Program) (w : World) (c : Code) (fs : List Frame) (k : Resume → Sem Fin) (t : Sem Fin) : Prop := ∀ A s P, SegX (model prog w) A c t fs s P → SegX (model prog w) A c (k (.send .none)) fs s P
theorem gx_Yield {e : Expr} {ypos pos : Pos} (h : wpAny (model prog w) (A.over c fs) (eval e env) (fun v s' => ∀ k l p g, Goes prog w c fs k (K .next) → g = false → P (.susp v g l k c p fs) s') NoE s)
    (hfs : splitAtGen fs = none) (hgd : gd false = false) (hfg : fs.any Frame.guarded = false) (hco : env.scope.isCoroutine = false) (hi : interactive env = false) :
    SegX (model prog w) A c ((exec (.Expr (.Yield (some e) ypos) pos) env).wrap K H gd lv) fs s P := by
  rw [exec_Expr env _ pos hi rfl]
  have hy : ∀ v, yieldOut env v = yieldValue v := fun v => by simp only [yieldOut, hco, Bool.false_eq_true, if_false]
  show SegX _ A c ((standAt pos >>= fun _ => ((eval e env >>= fun v => (standAt ypos >>= fun _ => yieldOut env v)) >>= fun x => dropValue (.Yield (some e) ypos) pos x)).wrap K H gd lv) fs s P
  simp only [hy]
  refine gx_bind (wpAny_standAt ?_)
  rw [Sem.bind_eq_wrap', Sem.bind_eq_wrap', Sem.wrap_wrap, Sem.wrap_wrap]
  refine gx_wrap (wpAny_mono h (fun v s' h' => ?_) fun _ _ x => x)
  show SegX _ A c ((standAt ypos >>= fun _ => yieldValue v).wrap _ _ _ _) fs s' P
  refine gx_bind (wpAny_standAt ?_)
  refine gx_yield hfs hgd hfg fun p => h' _ _ _ _ ?_ hgd
  intro A s P x
  exact x
theorem gx_If {test : Expr} {body orelse : List Stmt} {pos : Pos} (h : wpAny (model prog w) (A.over c fs) (isTrue test env (eval test env)) (fun b s' => Br b (SegX (model prog w) A c ((execs body env).wrap K H gd lv) fs s' P) (SegX (model prog w) A c ((execs orelse env).wrap K H gd lv) fs s' P)) NoE s) :
    SegX (model prog w) A c ((exec (.If test body orelse pos) env).wrap K H gd lv) fs s P := by
  rw [exec_If]
  refine gx_bind (wpAny_standAt (gx_bind (wpAny_mono h (fun b s' q => ?_) fun _ _ x => x)))
  cases b
  · exact q.2 rfl
  · exact q.1 rfl
/-- a plain statement -/
theorem gx_plain {st : Stmt} (h : wpAny (model prog w) (A.over c fs) (exec st env) (fun f s' => f = .next ∧ SegX (model prog w) A c (K .next) fs s' P) NoE s) : SegX (model prog w) A c ((exec st env).wrap K H gd lv) fs s P :=
  gx_wrap (wpAny_mono h (fun f s' q => by rw [q.1]; exact q.2) fun _ _ x => x)
/-- behind a for -/
noncomputable def afterFor (env : Env) (K : Flow → Sem Fin) (H : Value → Sem Fin) (gd : Bool → Bool) (lv : List Value → List Value) : Result → Sem Fin := fun r => ((match r with | .ok f => (.pure f : Sem Flow) | .error e => .raise e).onRaise fun (x : Value) => do
        if (← field x 1) == Value.none then unsupported "frame.own-activation:exception-without-traceback"
        setFlight x env.frame).wrap K H gd lv
theorem gx_For {target iter : Expr} {body orelse : List Stmt} {pos : Pos}
    (h : wpAny (model prog w) (A.over c fs) (eval iter env) (fun x s₁ => wpAny (model prog w) (A.over c fs) (pyIter x) (fun it s₂ => ∀ p, SegX (model prog w) A (.forLoop target it body orelse env) ((model prog w).den (.forLoop target it body orelse env)) (.ret (afterFor env K H gd lv) none (gd false) (lv []) c p [] :: fs) s₂ P) NoE s₁) NoE s)
    (hs : ∀ x, foldedSetIterable iter env x = pure x) :
    SegX (model prog w) A c ((exec (.For target iter body orelse pos) env).wrap K H gd lv) fs s P := by
  rw [exec_For]
  refine gx_bind (wpAny_standAt ?_)
  simp only [hs]
  refine gx_bind (wpAny_mono h (fun x s₁ h₁ => ?_) fun _ _ x => x)
  refine gx_bind (wpAny_pure ?_)
  refine gx_bind (wpAny_standAt ?_)
  refine gx_bind (wpAny_holding (wpAny_mono h₁ (fun it s₂ h₂ => ?_) fun _ _ x => x))
  exact gx_call h₂
noncomputable def loopK (target : Expr) (it : Value) (body : List Stmt) (env : Env) : Flow → Sem Fin
  | .next | .cont => .pure (.again (.forLoop target it body [] env))
  | .brk => .pure (.done .next)
  | .ret v => .pure (.done (.ret v))
theorem gx_forLoop {target : Expr} {it : Value} {body : List Stmt} {k hd g l c₁ p₁ kp} (I : Nat → Around → Shared → (End → Shared → Prop) → Prop)
    (turn : ∀ m A s P, (∀ m' A' s' P', m' < m → I m' A' s' P' → SegX (model prog w) A' (.forLoop target it body [] env) ((model prog w).den (.forLoop target it body [] env)) (.ret k hd g l c₁ p₁ kp :: fs) s' P') → I m A s P →
      wpAny (model prog w) (A.over (.forLoop target it body [] env) (.ret k hd g l c₁ p₁ kp :: fs)) (pyNext it) (fun r s₁ => match r with
        | none => SegX (model prog w) A c₁ (k (.ok .next)) fs s₁ P
        | some v => wpAny (model prog w) (A.over (.forLoop target it body [] env) (.ret k hd g l c₁ p₁ kp :: fs)) (letOwnedTupleGo target it v) (fun _ s₂ => wpAny (model prog w) (A.over (.forLoop target it body [] env) (.ret k hd g l c₁ p₁ kp :: fs)) (assign target env v) (fun _ s₃ =>
            ∀ H, SegX (model prog w) A (.forLoop target it body [] env) ((execs body env).wrap (loopK target it body env) H id id) (.ret k hd g l c₁ p₁ kp :: fs) s₃ P) NoE s₂) NoE s₁) NoE s) :
    ∀ m A s P, I m A s P → SegX (model prog w) A (.forLoop target it body [] env) ((model prog w).den (.forLoop target it body [] env)) (.ret k hd g l c₁ p₁ kp :: fs) s P := by
  intro m
  induction m using Nat.strongRecOn with
  | _ m ih =>
    intro A s P hI
    have t := turn m A s P (fun m' A' s' P' h h' => ih m' h A' s' P' h') hI
    show SegX _ A _ ((forTurn target it body [] env).onRaise (fun x => do noteFrame x env; theTreesLotGoes x)) _ s P
    unfold forTurn
    rw [Sem.onRaise_eq_wrap]
    refine gx_bind (wpAny_standAt (gx_bind (wpAny_onRaise (wpAny_mono t (fun r s₁ h₁ => ?_) fun _ _ x => x.elim))))
    cases r with
    | none =>
      refine gx_again rfl ?_
      show SegX _ A _ (leafOf (.ok .next)) _ s₁ P
      exact gx_leaf _ h₁
    | some v =>
      refine gx_bind (wpAny_mono h₁ (fun _ s₂ h₂ => gx_bind (wpAny_mono h₂ (fun _ s₃ h₃ => ?_) fun _ _ x => x)) fun _ _ x => x)
      rw [Sem.bind_eq_wrap', Sem.wrap_wrap]
      have e := Sem.wrap_congr (execs body env) (K := fun f => Sem.wrap Sem.pure (fun e => ((fun x => do noteFrame x env; theTreesLotGoes x) e).bind fun _ => Sem.raise e) id id (match f with
            | .next | .cont => again (.forLoop target it body [] env)
            | .brk => pure (.done .next)
            | .ret v => pure (.done (.ret v)))) (K' := loopK target it body env) (H := fun e => Sem.wrap Sem.pure (fun e => ((fun x => do noteFrame x env; theTreesLotGoes x) e).bind fun _ => Sem.raise e) id id (.raise e))
          (H' := fun e => Sem.wrap Sem.pure (fun e => ((fun x => do noteFrame x env; theTreesLotGoes x) e).bind fun _ => Sem.raise e) id id (.raise e)) id id (fun f => by cases f <;> rfl) (fun _ => rfl)
      refine PySem.W.X.s_eq prog w A _ _ P _ _ _ e ?_
      exact h₃ _
theorem gx_func {body : List Stmt} (h : ∀ H, SegX (model prog w) A (.func body env) ((execs body env).wrap (fun f => .pure (.done (.ret (match f with | .ret v => v | _ => .none)))) H id id) fs s P) :
    SegX (model prog w) A (.func body env) ((model prog w).den (.func body env)) fs s P := by
  show SegX _ A _ (.point [] fun _ => ((execs body env).onRaise (leaving env)) >>= _) fs s P
  refine gx_wrap (m := point) (K := fun _ => ((execs body env).onRaise (leaving env)) >>= _) (H := .raise) (gd := id) (lv := fun _ => []) (wpAny_point ?_)
  rw [Sem.onRaise_eq_wrap, Sem.bind_eq_wrap', Sem.wrap_wrap]
  rw [Sem.wrap_congr (execs body env) _ _ (K' := fun f => .pure (.done (.ret (match f with | .ret v => v | _ => .none))))
    (H' := fun e => (leaving env e).wrap (fun _ => .raise e) .raise id id) (fun f => by cases f <;> rfl)
    (fun e => by rw [Sem.bind_eq_wrap, Sem.wrap_wrap]; rfl)]
  exact h _
end

-- what the generator still tells
noncomputable def GoX (prog : Program) (w : World) (A : Around) (gs : GenState) (s : Shared) (P : End → Shared → Prop) : Prop := match gs with
  | .fresh c => SegX (model prog w) A c ((model prog w).den c) [] s P
  | .suspended k _ c _ fs _ => SegX (model prog w) A c (k (.send .none)) fs s P
  | _ => False
noncomputable def GenOk (prog : Program) (w : World) : List (Nat × List Nat) → List Res → GenState → Prop
  | [], ri, gs => ∀ A B O G s, A.handled = none → Base w B → St B O ri G s → GoX prog w A gs s fun e s' => e = .ret (.ok (.ret .none)) ∧ St B O [] G s'
  | (p, u) :: ps, ri, gs => ∀ A B O G s, A.handled = none → Base w B → St B O ri G s → GoX prog w A gs s fun e s' =>
      ∃ a t1 t2 ri', e.result = .yielded (.ref a) ∧ GenOk prog w ps ri' e.genState ∧ St B O ((a, TupO [.int p t1, .str (T u) t2]) :: ri') G s'
noncomputable def PostG (prog : Program) (w : World) (B : Fix) (O : OsState) (G : Array GenState) (ps : List (Nat × List Nat)) (e : End) (s' : Shared) : Prop := match ps with
  | [] => e = .ret (.ok (.ret .none)) ∧ St B O [] G s'
  | (p, u) :: ps => ∃ a t1 t2 ri', e.result = .yielded (.ref a) ∧ GenOk prog w ps ri' e.genState ∧ St B O ((a, TupO [.int p t1, .str (T u) t2]) :: ri') G s'
theorem GenOk_iff {prog : Program} {w : World} {ps : List (Nat × List Nat)} {ri : List Res} {gs : GenState} :
    GenOk prog w ps ri gs ↔ ∀ A B O G s, A.handled = none → Base w B → St B O ri G s → GoX prog w A gs s (PostG prog w B O G ps) := by
  cases ps with
  | nil => exact Iff.rfl
  | cons x ps => obtain ⟨p, u⟩ := x; exact Iff.rfl
-- M8
noncomputable def GenO (g : Nat) : Obj → Prop := fun o => o.cls = .type "generator" ∧ ∃ nm qn, o.data = .fields #[.int g 0, nm, qn] ∧ o.slots = #[]
noncomputable def genFd (P : Params) (a : Addr) (ps : List Str) : Bool :=
  isFd P a && (match (fdOf P a).body with | .stmts _ => true | _ => false) && codeIn (KF P) (fdOf P a).code (fdOf P a).qualname && (fdOf P a).scope.names.all (fun x => x.2 != .cell)
    && !(fdOf P a).scope.isCoroutine && (fdOf P a).scope.isGenerator && (fdOf P a).scope.kind == .function && ps.all (fun x => (fdOf P a).scope.names.lookup x == some .local)
noncomputable abbrev envG (w : World) (a L : Addr) : Env :=
  { scope := (fdOf w.params a).scope, locals := L, globals := (fdOf w.params a).globals, cells := (fdOf w.params a).closure, qual := (fdOf w.params a).qualname ++ ".<locals>.", func := some a, code := (fdOf w.params a).code, frame := some L, builtins := (fdOf w.params a).builtins }
theorem Own.pushFrame {B : Fix} {rs : List Res} {h h₀ : Heap} {l : List (Str × Option Value)} {m : Str → Option Value} (O : Own B rs h) (hns : h₀.Ns h.objs.size m) (hk : ∀ b o, h.get? b = some o → h₀.get? b = some o) (n : (l.map (·.1)).Nodup) (hm : ∀ p ∈ l, m p.1 = p.2) :
    Own B ((h.objs.size, FrO l) :: rs) h₀ := by
  refine O.remake (fun b o e => hk _ _ (O.base b o e)) (fun r hr => ?_) ?_ (fun r hr => ?_)
  · rcases List.mem_cons.mp hr with rfl | hr
    · exact FrO.of_ns hns n hm
    · obtain ⟨o, e, p⟩ := O.res r hr; exact ⟨o, hk _ _ e, p⟩
  · rw [List.map_cons, List.nodup_cons]
    refine ⟨fun hm => ?_, O.nodup⟩
    obtain ⟨r, hr, e⟩ := List.mem_map.mp hm
    have q := O.lt hr
    rw [e] at q
    exact absurd q (Nat.lt_irrefl _)
  · rcases List.mem_cons.mp hr with rfl | hr
    · exact .inr (Nat.le_refl _)
    · exact .inl (List.mem_map_of_mem hr)
section
variable {prog : Program} {w : World} {A : Around} {E : Value → Shared → Prop} {B : Fix} {O : OsState} {rs rs' : List Res} {G : Array GenState} {s : Shared}
/-- a call of a generator's def -/
theorem r_callGen {a : Addr} {vs : List Value} {kw : List (Str × Value)} {body : List Stmt} {oc : Value} {od : Option Addr} {fd : FuncData} {osl : Array (Option Value)} {P : Value → Shared → Prop} (binds : List (Str × Value)) (ps rest : List Str) (l : List (Str × Option Value)) (ps' : List (Nat × List Nat)) (X : Base w B) (S : St B O rs G s) (hA : A.depth < recursionLimit)
    (hps : binds.map (·.1) = ps) (hp : genFd w.params a ps = true) (hlook : (KF w.params).lookup a = some ⟨oc, od, .func fd, osl⟩) (hbody : fd.body = .stmts body) (hbind : BindsAs w a vs kw binds) (hnd : (ps ++ rest).Nodup)
    (hl : (binds.map fun p => (p.1, some p.2)) ++ rest.map (fun x => (x, (none : Option Value))) = l)
    (hgen : ∀ L, GenOk prog w ps' [(L, FrO l)] (.fresh (.func body (envG w a L))))
    (h : ∀ s' g r L, St B O ((g, GenO G.size) :: (L, FrO l) :: rs) (G.push r) s' → GenOk prog w ps' [(L, FrO l)] r → r.bare = true → P (.ref g) s') :
    wpAny (model prog w) A (call (.ref a) vs kw) P NoE s := by
  subst hps
  have hb : (fdOf w.params a).body = .stmts body := by unfold fdOf; rw [hlook]; exact hbody
  unfold genFd at hp
  simp only [Bool.and_eq_true, Bool.not_eq_true', beq_iff_eq, List.all_eq_true, bne_iff_ne, ne_eq, List.mem_map, forall_exists_index, and_imp, forall_apply_eq_imp_iff₂] at hp
  obtain ⟨⟨⟨⟨⟨⟨⟨h1, h2⟩, h3⟩, h4⟩, h5⟩, h6⟩, h7⟩, h8⟩ := hp
  obtain ⟨o, ho, hd⟩ := fdOf_at X h1
  refine wpAny_call (codeAny_call_generator hA (S.base ho) hd h5 h6 hb (codeRec_of (X.at S.own.base).k h3) (hbind.to X S _ _ _ _ ?_))
  refine wpAny_newFunctionEnv h4 h8 (fun h₀ hns hsb => ?_) h7
  have hk : ∀ b o, s.heap.get? b = some o → h₀.get? b = some o := fun b o e => hsb.extBut b o (Nat.ne_of_lt (Heap.lt_size e)) (Heap.get?_push_of_some _ e)
  subst hl
  have fl := frame_look hnd
  refine ⟨(X.at S.own.base).lim.fresh _ hsb, ?_⟩
  have S1 := S.heapTok (t := s.toks + binds.length) (S.own.pushFrame hns hk fl.1 fl.2)
  have S2 := S1.newObj (o := { cls := .type "generator", data := .fields #[.int G.size 0, .str (fdOf w.params a).name (s.toks + binds.length), .str (fdOf w.params a).qualname (s.toks + binds.length + 1)] }) (P := GenO G.size) ⟨rfl, _, _, rfl, rfl⟩ rfl
  have e := S.gens
  subst e
  exact h _ h₀.objs.size _ s.heap.objs.size ⟨S2.own, rfl, S2.os⟩ (hgen _) rfl
theorem St.isGen {a g} (S : St B O rs G s) (h : (a, GenO g) ∈ rs) : s.heap.IsGen a g := by
  obtain ⟨o, e, hc, nm, qn, hd, hs⟩ := S.get h
  exact ⟨o, nm, qn, e, hc, hd, hs⟩
theorem St.setGen (S : St B O rs G s) (g : Nat) (x : GenState) : St B O rs (G.setIfInBounds g x) (s.setGen g x) := ⟨S.own, by
  show s.gens.setIfInBounds g x = _
  rw [S.gens], S.os⟩
/-- the next of a generator -/
theorem n_nextGen {ps : List (Nat × List Nat)} {a : Addr} {g : Nat} {gs : GenState} {ri : List Res} {Q : Option Value → Shared → Prop} (hh : A.handled = none) (hA : A.depth < recursionLimit) (X : Base w B)
    (S : St B O (ri ++ rs) G s) (hm : (a, GenO g) ∈ rs) (hg : G[g]? = some gs) (ok : GenOk prog w ps ri gs)
    (h : ∀ s', match ps with
      | [] => St B O rs (G.setIfInBounds g .finished) s' → Q none s'
      | (p, u) :: ps' => ∀ b t1 t2 ri' gs', St B O ((b, TupO [.int p t1, .str (T u) t2]) :: ri' ++ rs) (G.setIfInBounds g gs') s' → GenOk prog w ps' ri' gs' → gs'.bare = true → Q (some (.ref b)) s') :
    wpAny (model prog w) A (pyNext (.ref a)) Q E s := by
  have hig := S.isGen (List.mem_append.mpr (.inr hm))
  have hlim := (X.at S.own.base).lim
  have hgs : s.gens[g]? = some gs := by rw [S.gens]; exact hg
  have hlt : g < G.size := (Array.getElem?_eq_some_iff.mp hg).1
  obtain ⟨B', hle, Si, back⟩ := S.frame
  have go := GenOk_iff.mp ok A.in1 B' O (G.setIfInBounds g .running) (s.setGen g .running) hh (X.mono hle) (Si.setGen g .running)
  unfold pyNext
  refine wpAny_bind (wpAny_attempt (wpAny_callSpecial?_slot (name := Str.ofString "__next__") hig.typeIs slot_gen_next
    (wpAny_call_entry slot_gen_next hig.typeIs entry_gen_next ?_ (args_gen_next _))))
  show wpAny _ A.in1 (Builtin.Generator.genWake (.ref a) (.send .none)) _ _ s
  unfold Builtin.Generator.genWake
  refine wpAny_bind (wpAny_holding (wpAny_genNumber hig (wpAny_bind (wpAny_genState hgs ?_))))
  have main : ∀ (c₀ : Code) (t₀ : Sem Fin) (fs₀ : List Frame), ((gs = .fresh c₀ ∧ Resume.send .none = .send .none ∧ t₀ = denote table c₀ ∧ fs₀ = []) ∨ (∃ k₀ l₀ p₀ cl, gs = .suspended k₀ l₀ c₀ p₀ fs₀ cl ∧ t₀ = k₀ (.send .none))) →
      SegX (model prog w) A.in1 c₀ t₀ fs₀ (s.setGen g .running) (PostG prog w B' O (G.setIfInBounds g .running) ps) → ∀ (k : GenResult → Sem Fin) (Q' : Fin → Shared → Prop) (E' : Value → Shared → Prop) (l : List Value),
      (∀ e s₁, e.quiet = true → PostG prog w B' O (G.setIfInBounds g .running) ps e s₁ → wpAny (model prog w) A.in1 (k e.result) Q' E' (s₁.setGen g e.genState)) → wpAny (model prog w) A.in1 (.resume g (.send .none) l k) Q' E' s := by
    intro c₀ t₀ fs₀ hcs hseg k Q' E' l hk Γ p hΓ
    refine PySem.W.X.wake_any _ prog w hgs hcs (fun Γ => Γ.In A.in1) (fun _ h => h) ?_ Γ p hΓ
    intro Γ₁ p₁ hc hw
    obtain ⟨e, s', hr, hq, hp⟩ := hseg Γ₁ p₁ hc hw
    exact ⟨e, s', hr, hq, fun Γ p hC => hk e s' hq hp Γ p hC⟩
  have fin : ∀ e s₁, e.quiet = true → PostG prog w B' O (G.setIfInBounds g .running) ps e s₁ →
      (∃ v, e.result = .yielded v ∧ Q (some v) (s₁.setGen g e.genState)) ∨ (e.result = .returned .none ∧ ∀ h', (∀ b o, s₁.heap.get? b = some o → h'.get? b = some o) → Q none { s₁.setGen g e.genState with heap := h' }) := by
    intro e s₁ hq hp
    cases ps with
    | nil =>
      obtain ⟨rfl, S'⟩ := hp
      refine .inr ⟨rfl, fun h' hk => h _ ?_⟩
      have S1 := back _ _ _ S'
      have S2 := S1.setGen g .finished
      rw [Array.setIfInBounds_setIfInBounds] at S2
      exact S2.heap (S2.own.keeps hk)
    | cons x ps' =>
      obtain ⟨p, u⟩ := x
      obtain ⟨b, t1, t2, ri', er, ok', S'⟩ := hp
      refine .inl ⟨_, er, ?_⟩
      have S1 := back _ _ _ S'
      have S2 := S1.setGen g e.genState
      rw [Array.setIfInBounds_setIfInBounds] at S2
      exact h _ b t1 t2 ri' _ S2 ok' (End.bare_of_quiet hq)
  cases gs with
  | running => exact go.elim
  | finished => exact go.elim
  | fresh c =>
    refine wpAny_bind (wpAny_roomToWake hlim hA ?_)
    show wpAny _ A.in1 (.resume g (.send .none) [] _) _ _ s
    refine main c _ [] (.inl ⟨rfl, rfl, rfl, rfl⟩) go _ _ _ _ ?_
    intro e s₁ hq hp
    rcases fin e s₁ hq hp with ⟨v, er, q⟩ | ⟨er, q⟩
    · rw [er]; exact wpAny_pure ⟨v, rfl, wpAny_pure q⟩
    rw [er]
    show wpAny _ A.in1 (newExc (.type "StopIteration") [] >>= _) _ _ _
    refine wpAny_bind ?_
    simp only [newExc, newTuple]
    refine wpAny_bind (wpAny_newObj_type ?_ (by size_fits))
    refine wpAny_bind (m := firstArgMember _ _) (wpAny_of_eq (a := Value.none) (by first | rfl | (simp only [firstArgMember]; rfl)) ?_)
    refine wpAny_newObj_type ?_ (by size_fits)
    simp only [raiseNew]
    refine wpAny_bind (wpAny_bind (wpAny_handled ?_))
    first | rw [show A.in1.handled = none from hh] | rw [hh]
    refine wpAny_throw ?_
    refine wpAny_bind (wpAny_isInstance (T := "StopIteration") (b := true) ⟨_, Heap.get?_push_size _ rfl, rfl⟩ isSubtype_stop ?_)
    exact wpAny_pure (q _ fun b o hb => Heap.get?_push_of_some _ (Heap.get?_push_of_some _ hb))
  | suspended k₀ l₀ c₀ p₀ fs₀ cl =>
    refine wpAny_bind (wpAny_roomToWake hlim hA ?_)
    show wpAny _ A.in1 (.resume g (.send .none) [] _) _ _ s
    refine main c₀ _ fs₀ (.inr ⟨k₀, l₀, p₀, cl, rfl, rfl⟩) go _ _ _ _ ?_
    intro e s₁ hq hp
    rcases fin e s₁ hq hp with ⟨v, er, q⟩ | ⟨er, q⟩
    · rw [er]; exact wpAny_pure ⟨v, rfl, wpAny_pure q⟩
    rw [er]
    show wpAny _ A.in1 (newExc (.type "StopIteration") [] >>= _) _ _ _
    refine wpAny_bind ?_
    simp only [newExc, newTuple]
    refine wpAny_bind (wpAny_newObj_type ?_ (by size_fits))
    refine wpAny_bind (m := firstArgMember _ _) (wpAny_of_eq (a := Value.none) (by first | rfl | (simp only [firstArgMember]; rfl)) ?_)
    refine wpAny_newObj_type ?_ (by size_fits)
    simp only [raiseNew]
    refine wpAny_bind (wpAny_bind (wpAny_handled ?_))
    first | rw [show A.in1.handled = none from hh] | rw [hh]
    refine wpAny_throw ?_
    refine wpAny_bind (wpAny_isInstance (T := "StopIteration") (b := true) ⟨_, Heap.get?_push_size _ rfl, rfl⟩ isSubtype_stop ?_)
    exact wpAny_pure (q _ fun b o hb => Heap.get?_push_of_some _ (Heap.get?_push_of_some _ hb))
theorem n_iterGen {a : Addr} {g : Nat} {Q : Value → Shared → Prop} (S : St B O rs G s) (hm : (a, GenO g) ∈ rs) (h : Q (.ref a) s) : wpAny (model prog w) A (pyIter (.ref a)) Q E s := wpAny_pyIter_gen (S.isGen hm) h
end
-- M9
abbrev BareG (G : Array GenState) : Prop := ∀ x ∈ G, x.bare = true
theorem BareG.set {G : Array GenState} {g : Nat} {x : GenState} (h : BareG G) (hx : x.bare = true) : BareG (G.setIfInBounds g x) := fun y hy => by
  rcases Array.mem_or_eq_of_mem_setIfInBounds hy with h' | h'
  · exact h y h'
  · rw [h']; exact hx
theorem BareG.push {G : Array GenState} {x : GenState} (h : BareG G) (hx : x.bare = true) : BareG (G.push x) := fun y hy => by
  rcases Array.mem_push.mp hy with h' | h'
  · exact h y h'
  · rw [h']; exact hx
/-- an iterator over pairs -/
structure PSrc (prog : Program) (w : World) (A : Around) (it : Addr) (n : Nat) (Hold : Nat → List Res → Array GenState → Prop) (V : Nat → Value → Value → Prop) (need : Fix → List Res → Prop) (Fin : Array GenState → Prop) : Prop where
  next : ∀ {B O rs G s k ri} {Q : Addr → Shared → Prop} {E}, Base w B → Hold k ri G → need B rs → St B O (ri ++ rs) G s → k < n →
    (∀ a v1 v2 ri' G' s', V k v1 v2 → Hold (k + 1) ri' G' → s'.heap.IsTuple a #[v1, v2] → St B O (ri' ++ rs) G' s' → Q a s') →
    wpAny (model prog w) A (pyNext (.ref it)) (fun r s₁ => ∃ a, r = some (.ref a) ∧ ∀ elts x1 pos E', wpAny (model prog w) A (letOwnedTupleGo (.Tuple elts x1 pos) (.ref it) (.ref a)) (fun _ s₂ => Q a s₂) E' s₁) E s
  stop : ∀ {B O rs G s ri} {Q : Option Value → Shared → Prop} {E}, Base w B → Hold n ri G → need B rs → St B O (ri ++ rs) G s → (∀ G' s', Fin G' → St B O rs G' s' → Q none s') → wpAny (model prog w) A (pyNext (.ref it)) Q E s
  self : ∀ {B O rs G s k ri} {Q : Value → Shared → Prop} {E}, Hold k ri G → need B rs → St B O (ri ++ rs) G s → Q (.ref it) s → wpAny (model prog w) A (pyIter (.ref it)) Q E s
/-- values that are pairs that stand -/
noncomputable def PairAt (B : Fix) (v v1 v2 : Value) : Prop := ∃ a, v = .ref a ∧ Tup B a [v1, v2]
theorem PairAt.mono {B B' : Fix} {v v1 v2} (h : PairAt B v v1 v2) (l : Fix.le B B') : PairAt B' v v1 v2 := let ⟨a, e, t⟩ := h; ⟨a, e, t.mono l⟩
theorem PSrc.list {prog : Program} {w : World} {A : Around} {B₀ : Fix} {items : List Value} {P : Nat → Value → Value → Prop} (G₀ : Array GenState) (hh : A.handled = none) (it l : Addr) (hp : ∀ k v, items[k]? = some v → ∃ v1 v2, PairAt B₀ v v1 v2 ∧ P k v1 v2) :
    PSrc prog w A it items.length (fun k ri G => ri = [(it, ListItO l k)] ∧ G₀ = G) P (fun B rs => Lst B rs l items ∧ Fix.le B₀ B) (fun G => G₀ = G) where
  next := fun {B O rs G s k ri Q E} X hH hn S hk h => by
    obtain ⟨rfl, rfl⟩ := hH
    obtain ⟨v1, v2, ⟨a, e, t⟩, hP⟩ := hp k _ (List.getElem?_eq_getElem hk)
    have I := Iter.list (prog := prog) (w := w) (A := A) hh it l items
    refine I.next S (hn.1.elim (fun q => .inl (List.mem_cons_of_mem _ q)) .inr) .head hk fun v s' hv S' => ?_
    rw [List.getElem?_eq_getElem hk] at hv
    cases hv
    rw [e]
    refine ⟨a, rfl, fun elts x1 pos E' => ?_⟩
    refine wpAny_letOwnedTupleGo_listiter (S'.listIt (.head _)) (h a v1 v2 [(it, ListItO l (k + 1))] _ _ hP ⟨rfl, rfl⟩ (S'.tup (.inr (t.mono hn.2))) S')
  stop := fun {B O rs G s ri Q E} X hH hn S h => by
    obtain ⟨rfl, rfl⟩ := hH
    have I := Iter.list (prog := prog) (w := w) (A := A) hh it l items
    exact I.stop S (hn.1.elim (fun q => .inl (List.mem_cons_of_mem _ q)) .inr) .head fun s' S' => h _ _ rfl S'
  self := fun {B O rs G s k ri Q E} hH hn S h => by
    obtain ⟨rfl, rfl⟩ := hH
    exact wpAny_pyIter_listiter (S.listIt (.head _)) h
noncomputable def GenHold (prog : Program) (w : World) (a : Addr) (g : Nat) (ps : List (Nat × List Nat)) (k : Nat) (ri : List Res) (G : Array GenState) : Prop :=
  ∃ gs rg, G[g]? = some gs ∧ ri = (a, GenO g) :: rg ∧ BareG G ∧ k ≤ ps.length ∧ (GenOk prog w (ps.drop k) rg gs)
theorem letGo_gen {prog : Program} {w : World} {A : Around} {E : Value → Shared → Prop} {s : Shared} {elts : List Expr} {x1} {pos : Pos} {I T : Addr} {g : Nat} {Q : Unit → Shared → Prop} (hit : s.heap.IsGen I g) (hQ : Q () s) :
    wpAny (model prog w) A (letOwnedTupleGo (.Tuple elts x1 pos) (.ref I) (.ref T)) Q E s := by
  obtain ⟨o, nm, qn, ho, hc, hd, _⟩ := hit
  unfold letOwnedTupleGo
  refine wpAny_bind (wpAny_load ho ?_)
  rw [hc, hd]
  show wpAny _ A (if (["enumerate", "zip", "dict_itemiterator", "dict_reverseitemiterator", "odict_iterator", "itertools.zip_longest", "itertools.pairwise"].contains "generator" &&
      (#[.int g 0, nm, qn] : Array Value)[0]? == some (rawInt T)) = true then _ else _) Q E s
  rw [if_neg (by
    intro h
    rw [show (["enumerate", "zip", "dict_itemiterator", "dict_reverseitemiterator", "odict_iterator", "itertools.zip_longest", "itertools.pairwise"].contains "generator") = false from by decide, Bool.false_and] at h
    cases h)]
  exact wpAny_pure hQ
theorem PSrc.gen {prog : Program} {w : World} {A : Around} (hh : A.handled = none) (hA : A.depth < recursionLimit) (a : Addr) (g : Nat) (ps : List (Nat × List Nat)) :
    PSrc prog w A a ps.length (GenHold prog w a g ps) (fun k v1 v2 => ∃ p u t1 t2, ps[k]? = some (p, u) ∧ v1 = .int (p : Nat) t1 ∧ v2 = .str (T u) t2) (fun _ _ => True) BareG where
  next := fun {B O rs G s k ri Q E} X hH hn S hk h => by
    obtain ⟨gs, rg, hg, rfl, hb, _, ok⟩ := hH
    have S1 : St B O (rg ++ (a, GenO g) :: rs) G s := S.perm ((List.perm_middle (l₁ := rg) (a := ((a, GenO g) : Res)) (l₂ := rs)).symm)
    have hd : ps.drop k = ps[k] :: ps.drop (k + 1) := List.drop_eq_getElem_cons hk
    have hlt : g < G.size := (Array.getElem?_eq_some_iff.mp hg).1
    rw [hd] at ok
    refine n_nextGen hh hA X S1 (.head _) hg ok fun s' => ?_
    generalize hx : ps[k] = pu at ok
    obtain ⟨p, u⟩ := pu
    intro b t1 t2 ri' gs' S2 ok' hb'
    refine ⟨b, rfl, fun elts x1 pos E' => ?_⟩
    have S3 : St B O (((a, GenO g) :: ri') ++ rs) _ s' := (S2.drop : St B O (ri' ++ (a, GenO g) :: rs) _ s').perm (List.perm_middle (l₁ := ri') (a := ((a, GenO g) : Res)) (l₂ := rs))
    refine letGo_gen (S3.isGen (.head _)) (h b (.int (p : Nat) t1) (.str (T u) t2) ((a, GenO g) :: ri') _ _ ⟨p, u, t1, t2, by rw [List.getElem?_eq_getElem hk, hx], rfl, rfl⟩ ⟨gs', ri', ?_, rfl, hb.set hb', hk, ok'⟩ (S2.tup (.inl (.head _))) S3)
    simp [hlt]
  stop := fun {B O rs G s ri Q E} X hH hn S h => by
    obtain ⟨gs, rg, hg, rfl, hb, _, ok⟩ := hH
    have S1 : St B O (rg ++ (a, GenO g) :: rs) G s := S.perm ((List.perm_middle (l₁ := rg) (a := ((a, GenO g) : Res)) (l₂ := rs)).symm)
    rw [List.drop_length] at ok
    exact n_nextGen hh hA X S1 (.head _) hg ok fun s' S' => h _ _ (hb.set rfl) S'.drop
  self := fun {B O rs G s k ri Q E} hH hn S h => by
    obtain ⟨gs, rg, hg, rfl, _⟩ := hH
    exact n_iterGen S (List.mem_append.mpr (.inl (.head _))) h

section
variable {prog : Program} {w : World} {A : Around} {E : Value → Shared → Prop} {B : Fix} {O : OsState} {rs rs' : List Res} {G : Array GenState} {s : Shared} {env : Env}
/-- a for over pairs -/
theorem n_forLoop2 {x y : Str} {px py tp : Pos} {x1} {body : List Stmt} {it : Addr} {n : Nat} {Hold : Nat → List Res → Array GenState → Prop} {V : Nat → Value → Value → Prop} {need : Fix → List Res → Prop} {Fin : Array GenState → Prop} {Q : Flow → Shared → Prop}
    (I : PSrc prog w A it n Hold V need Fin) (J : Nat → List (Str × Option Value) → Fix → List Res → Prop) (hh : A.handled = none)
    (hk : env.scope.kind = .function) (hx : env.kindOf x = some .local) (hy : env.kindOf y = some .local)
    (hbase : ∀ k l B rs, J k l B rs → Base w B)
    (hneed : ∀ k l B rs, J k l B rs → need B ((env.locals, FrO l) :: rs))
    (turn : ∀ k l B rs ri G v1 v2 (K : Flow → Shared → Prop), (∀ f s', (match f with
        | .next | .cont => ∃ l'' B' rs', St B' O ((env.locals, FrO l'') :: (rs' ++ ri)) G s' ∧ J (k + 1) l'' B' rs'
        | .brk => Q .next s'
        | .ret v => Q (.ret v) s') → K f s') → k < n → V k v1 v2 → J k l B rs → Hold (k + 1) ri G → ∃ l1 l2, Put x (some v1) l l1 ∧ Put y (some v2) l1 l2 ∧ ∀ s, St B O ((env.locals, FrO l2) :: (rs ++ ri)) G s →
      wpAny (model prog w) A (execs body env) K NoE s)
    (fin : ∀ l B rs G s, J n l B rs → Fin G → St B O ((env.locals, FrO l) :: rs) G s → Q .next s)
    {l : List (Str × Option Value)} {ri : List Res} (hH : Hold 0 ri G) (S : St B O (ri ++ (env.locals, FrO l) :: rs) G s) (h0 : J 0 l B rs) :
    codeAny (model prog w) A (.forLoop (.Tuple [.Name x px, .Name y py] x1 tp) (.ref it) body [] env) (fun r s' => match r with | .ok f => Q f s' | .error e => cameBackBy (model prog w) A env NoE e s') s := by
  refine codeAny_forLoop_any (fun m s' => ∃ k l B rs ri G, m = n - k ∧ k ≤ n ∧ Hold k ri G ∧ St B O (ri ++ (env.locals, FrO l) :: rs) G s' ∧ J k l B rs) ?_ (n - 0) ⟨0, l, B, rs, ri, G, rfl, Nat.zero_le _, hH, S, h0⟩
  rintro m s₁ ⟨k, l, B, rs, ri, G, rfl, hkn, hH, S₁, hJ⟩
  by_cases hlt : k < n
  · refine wpAny_mono (I.next (Q := fun a s₂ => ∀ E', wpAny (model prog w) A (assign (.Tuple [.Name x px, .Name y py] x1 tp) env (.ref a)) (fun _ s₂ => wpAny (model prog w) A (execs body env) (fun f s₃ => match f with
            | .next | .cont => ∃ m', m' < n - k ∧ ∃ k l B rs ri G, m' = n - k ∧ k ≤ n ∧ Hold k ri G ∧ St B O (ri ++ (env.locals, FrO l) :: rs) G s₃ ∧ J k l B rs
            | .brk => Q .next s₃
            | .ret v => Q (.ret v) s₃) E' s₂) E' s₂) (hbase _ _ _ _ hJ) hH (hneed k l B rs hJ) S₁ hlt fun a v1 v2 ri' G' s₂ hv hH' ht S₂ => ?_) (fun r s₂ q => ?_) fun _ _ z => z
    · intro E'
      obtain ⟨l1, l2, p1, p2, trn⟩ := turn k l B rs ri' G' v1 v2 _ (fun _ _ x => x) hlt hv hJ hH'
      have S₃ : St B O ((env.locals, FrO l) :: (rs ++ ri')) G' s₂ := S₂.perm (by simpa using (List.perm_append_comm (l₁ := ri') (l₂ := (env.locals, FrO l) :: rs)))
      refine n_pair hh rfl ht S₃ p1 p2 .head (fun s₃ S₃ => ?_) hk hx hy
      refine anyE (wpAny_mono (trn s₃ S₃) (fun f s₄ h => ?_) fun _ _ z => z)
      cases f with
      | next =>
        obtain ⟨l'', B', rs', S', J'⟩ := h
        exact ⟨n - (k + 1), Nat.sub_lt_sub_left hlt (Nat.lt_succ_self k), k + 1, l'', B', rs', ri', G', rfl, hlt, hH', S'.perm (by simpa using (List.perm_append_comm (l₂ := ri') (l₁ := (env.locals, FrO l'') :: rs'))), J'⟩
      | cont =>
        obtain ⟨l'', B', rs', S', J'⟩ := h
        exact ⟨n - (k + 1), Nat.sub_lt_sub_left hlt (Nat.lt_succ_self k), k + 1, l'', B', rs', ri', G', rfl, hlt, hH', S'.perm (by simpa using (List.perm_append_comm (l₂ := ri') (l₁ := (env.locals, FrO l'') :: rs'))), J'⟩
      | brk => exact h
      | ret v => exact h
    · obtain ⟨a, rfl, q⟩ := q
      exact wpAny_mono (q _ _ _ _) (fun _ s₃ q => q _) fun _ _ z => z
  · have : n = k := Nat.le_antisymm (Nat.le_of_not_lt hlt) ‹_›
    subst this
    refine I.stop (hbase _ _ _ _ hJ) hH (hneed n l B rs hJ) S₁ fun G' s₂ hf S₂ => ?_
    exact wpAny_execs_nil (fin l B rs G' s₂ hJ hf S₂)

theorem codeAny_compLoop_pair {R : Result → Shared → Prop} {elt target iter : Expr} {ifs : List Expr} {scope : Scope} {pos : Pos} {it acc : Value} (I : Nat → Shared → Prop)
    (turn : ∀ n s, I n s → wpAny (model prog w) A (pyNext it) (fun r s₁ => match r with
      | none => R (.ok .next) s₁
      | some v => wpAny (model prog w) A (letOwnedTupleGo target it v) (fun _ s₀ => wpAny (model prog w) A (assign target env v) (fun _ s₂ =>
          wpAny (model prog w) A (forIn ifs true fun c r => if r = true then do let ok ← isTrue c env (eval c env); pure (ForInStep.yield ok) else pure (ForInStep.yield r)) (fun ok s₃ =>
            if ok = true then wpAny (model prog w) A (eval elt env) (fun x s₄ =>
              wpAny (model prog w) A (call (.builtin "list.append") [acc, x]) (fun _ s₅ => ∃ m, m < n ∧ I m s₅) NoE s₄) NoE s₃
            else ∃ m, m < n ∧ I m s₃) NoE s₂) NoE s₀) NoE s₁) NoE s)
    (n : Nat) (h : I n s) : codeAny (model prog w) A (.compLoop (.ListComp elt [⟨target, iter, ifs, 0⟩] scope pos) 0 it acc env) R s := by
  refine codeAny_loop rfl I (fun n s hI => ?_) n h
  show wpAny _ A ((compTurn (.ListComp elt [⟨target, iter, ifs, 0⟩] scope pos) 0 it acc env).onRaise (fun x => do noteFrame x env; theTreesLotGoes x)) _ _ s
  refine wpAny_noted ?_
  rw [compTurn_list]
  refine wpAny_bind (wpAny_standAt (wpAny_bind (wpAny_mono (turn n s hI) (fun r s₁ h₁ => ?_) fun _ _ h' => h'.elim)))
  cases r with
  | none => exact wpAny_pure h₁
  | some v =>
    refine wpAny_bind (wpAny_mono h₁ (fun _ s₀ h₀ => ?_) fun _ _ h' => h'.elim)
    refine wpAny_bind (wpAny_mono h₀ (fun _ s₂ h₂ => wpAny_bind (wpAny_mono h₂ (fun ok s₃ h₃ => ?_) fun _ _ h' => h'.elim)) fun _ _ h' => h'.elim)
    cases ok with
    | false => exact wpAny_pure ⟨rfl, h₃⟩
    | true =>
      exact wpAny_bind (wpAny_bind (wpAny_mono h₃ (fun x s₄ h₄ => wpAny_bind (wpAny_mono h₄ (fun _ s₅ h₅ => wpAny_pure (wpAny_pure ⟨rfl, h₅⟩)) fun _ _ h' => h'.elim)) fun _ _ h' => h'.elim))
/-- one clause over pairs -/
theorem n_compAt2 {elt iter : Expr} {ifs : List Expr} {scope : Scope} {pos : Pos} {cl : List (Str × Addr)} {x y : Str} {px py tp : Pos} {x1} {it : Addr} {n : Nat} {Hold : Nat → List Res → Array GenState → Prop} {V : Nat → Value → Value → Prop} {need : Fix → List Res → Prop} {Fin : Array GenState → Prop}
    {use : Option (Value → Sem Unit)} {Q : Value → Shared → Prop} (I : PSrc prog w A it n Hold V need Fin) (J : Nat → List Value → Fix → List Res → Prop) (hh : A.handled = none)
    (hcell : scope.names.all (fun y => y.2 != .cell) = true) (hk : scope.kind = .function) (hx : scope.names.lookup x = some .local) (hy : scope.names.lookup y = some .local) (hxy : x ≠ y)
    (hbase : ∀ k ys B rs, J k ys B rs → Base w B)
    (hneed : ∀ k ys B rs C D l, J k ys B rs → need B ((C, FrO l) :: (D, ListO ys) :: rs))
    (turn : ∀ k ys B rs ri G C D v1 v2 (K : Value → Shared → Prop) (K0 : Shared → Prop), (∀ z s', (∃ B' rs', St B' O ((C, FrO [(x, some v1), (y, some v2)]) :: (D, ListO ys) :: (rs' ++ ri)) G s' ∧ J (k + 1) (ys ++ [z]) B' rs') → K z s') →
      (∀ s', (∃ B' rs', St B' O ((C, FrO [(x, some v1), (y, some v2)]) :: (D, ListO ys) :: (rs' ++ ri)) G s' ∧ J (k + 1) ys B' rs') → K0 s') → ∀ s, k < n → V k v1 v2 → J k ys B rs → St B O ((C, FrO [(x, some v1), (y, some v2)]) :: (D, ListO ys) :: (rs ++ ri)) G s →
      wpAny (model prog w) A (forIn ifs true fun c r => if r = true then do let ok ← isTrue c (compE scope cl C env) (eval c (compE scope cl C env)); pure (ForInStep.yield ok) else pure (ForInStep.yield r)) (fun ok s₃ =>
        Br ok (wpAny (model prog w) A (eval elt (compE scope cl C env)) K NoE s₃) (K0 s₃)) NoE s)
    (hsz : ∀ k ys B rs, J k ys B rs → ys.length ≤ sizeLine)
    (fin : ∀ ys B rs G D, J n ys B rs → Fin G → CompEnd prog w A O use Q D ys B rs G)
    {ri : List Res} (hH : Hold 0 ri G) (S : St B O (ri ++ rs) G s) (h0 : J 0 [] B rs) :
    CompAt prog w A env (.ListComp elt [⟨.Tuple [.Name x px, .Name y py] x1 tp, iter, ifs, 0⟩] scope pos) scope cl use Q NoE (.ref it) s := by
  unfold CompAt
  refine wpAny_newObj_type ?_ (by size_fits)
  have S1 := S.newObj (o := { cls := .type "list", data := .seq ([] : List Value).toArray }) (P := ListO []) ⟨_, rfl⟩ rfl
  have hcell' : ∀ y ∈ scope.names, y.2 ≠ .cell := fun y hy => by simpa using List.all_eq_true.mp hcell y hy
  generalize s.heap.objs.size = D at S1 ⊢
  generalize hs1 : ({ s with heap := _ } : Shared) = s1 at S1 ⊢
  refine wpAny_newFunctionEnv hcell' (fun _ hm => nomatch hm) (fun h' hn hsb => ?_) hk
  have nd : ([(x, (none : Option Value)), (y, none)].map (·.1)).Nodup := by simp [hxy]
  have S2 : St B O ((s1.heap.objs.size, FrO [(x, none), (y, none)]) :: (D, ListO []) :: (ri ++ rs)) G { s1 with heap := h', toks := s1.toks + ([] : List (Str × Value)).length } :=
    S1.heapTok (S1.own.pushFrame hn (fun b o e => hsb.extBut b o (Nat.ne_of_lt (Heap.lt_size e)) (Heap.get?_push_of_some _ e)) nd (fun p hp => by simp at hp; rcases hp with rfl | rfl <;> rfl))
  generalize s1.heap.objs.size = C at S2 ⊢
  generalize ({ s1 with heap := _, toks := _ } : Shared) = s2 at S2 ⊢
  have S3 : St B O (ri ++ (C, FrO [(x, none), (y, none)]) :: (D, ListO []) :: rs) G s2 := S2.perm (by
    have e : (C, FrO [(x, none), (y, none)]) :: (D, ListO []) :: (ri ++ rs) = ([(C, FrO [(x, none), (y, none)]), (D, ListO [])] ++ ri) ++ rs := by simp
    have e2 : ri ++ (C, FrO [(x, none), (y, none)]) :: (D, ListO []) :: rs = (ri ++ [(C, FrO [(x, none), (y, none)]), (D, ListO [])]) ++ rs := by simp
    rw [e, e2]
    exact List.Perm.append_right _ List.perm_append_comm)
  have loop : ∀ s3, St B O (ri ++ (C, FrO [(x, none), (y, none)]) :: (D, ListO []) :: rs) G s3 → codeAny (model prog w) A (.compLoop (.ListComp elt [⟨.Tuple [.Name x px, .Name y py] x1 tp, iter, ifs, 0⟩] scope pos) 0 (.ref it) (.ref D) (compE scope cl C env))
      (compPost (model prog w) A NoE use Q (.ref D) C) s3 := fun s3 S3 => by
    refine codeAny_compLoop_pair (fun m s' => ∃ k ys B rs G ov1 ov2 ri, m = n - k ∧ k ≤ n ∧ Hold k ri G ∧ St B O (ri ++ (C, FrO [(x, ov1), (y, ov2)]) :: (D, ListO ys) :: rs) G s' ∧ J k ys B rs) ?_ (n - 0) ⟨0, [], B, rs, G, _, _, ri, rfl, Nat.zero_le _, hH, S3, h0⟩
    rintro m s₁ ⟨k, ys, B, rs, G, ov1, ov2, ri, rfl, hkn, hH, S₁, hJ⟩
    by_cases hlt : k < n
    · refine wpAny_mono (I.next (E := NoE) (Q := fun a s₂ => wpAny (model prog w) A (assign (.Tuple [.Name x px, .Name y py] x1 tp) (compE scope cl C env) (.ref a)) (fun _ s₂ => wpAny (model prog w) A (forIn ifs true fun c r => if r = true then do let ok ← isTrue c (compE scope cl C env) (eval c (compE scope cl C env)); pure (ForInStep.yield ok) else pure (ForInStep.yield r)) (fun ok s₃ =>
            if ok = true then wpAny (model prog w) A (eval elt (compE scope cl C env)) (fun z s₄ =>
              wpAny (model prog w) A (call (.builtin "list.append") [.ref D, z]) (fun _ s₅ => ∃ m, m < n - k ∧ ∃ k ys B rs G ov1 ov2 ri, m = n - k ∧ k ≤ n ∧ Hold k ri G ∧ St B O (ri ++ (C, FrO [(x, ov1), (y, ov2)]) :: (D, ListO ys) :: rs) G s₅ ∧ J k ys B rs) NoE s₄) NoE s₃
            else ∃ m, m < n - k ∧ ∃ k ys B rs G ov1 ov2 ri, m = n - k ∧ k ≤ n ∧ Hold k ri G ∧ St B O (ri ++ (C, FrO [(x, ov1), (y, ov2)]) :: (D, ListO ys) :: rs) G s₃ ∧ J k ys B rs) NoE s₂) NoE s₂) (hbase _ _ _ _ hJ) hH (hneed k ys B rs C D _ hJ) S₁ hlt fun a v1 v2 ri' G' s₂ hv hH' ht S₂ => ?_) (fun r s₂ q => ?_) fun _ _ z => z
      · have S₃ : St B O ((C, FrO [(x, ov1), (y, ov2)]) :: (D, ListO ys) :: (rs ++ ri')) G' s₂ := S₂.perm (by simpa using (List.perm_append_comm (l₁ := ri') (l₂ := (C, FrO [(x, ov1), (y, ov2)]) :: (D, ListO ys) :: rs)))
        refine n_pair hh rfl ht S₃ .head (.tail .head) .head (fun s₃ S₃ => ?_) hk (lookup_relabel_local hx) (lookup_relabel_local hy)
        refine wpAny_mono (turn k ys B rs ri' G' C D v1 v2 _ _ (fun _ _ x => x) (fun _ x => x) s₃ hlt hv hJ S₃) (fun ok s₄ h => ?_) fun _ _ z => z
        cases ok with
        | false =>
          obtain ⟨B', rs', S', J'⟩ := h.2 rfl
          exact ⟨n - (k + 1), Nat.sub_lt_sub_left hlt (Nat.lt_succ_self k), k + 1, ys, B', rs', G', _, _, ri', rfl, hlt, hH', S'.perm (by simpa using (List.perm_append_comm (l₂ := ri') (l₁ := (C, FrO [(x, some v1), (y, some v2)]) :: (D, ListO ys) :: rs'))), J'⟩
        | true =>
          refine wpAny_mono (h.1 rfl) (fun z s₅ h => ?_) fun _ _ z => z
          obtain ⟨B', rs', S', J'⟩ := h
          refine n_append (hsz _ _ _ _ hJ) S' (.tail .head) fun s₆ S4 => ?_
          exact ⟨n - (k + 1), Nat.sub_lt_sub_left hlt (Nat.lt_succ_self k), k + 1, ys ++ [z], B', rs', G', some v1, some v2, ri', rfl, hlt, hH', S4.perm (by simpa using (List.perm_append_comm (l₂ := ri') (l₁ := (C, FrO [(x, some v1), (y, some v2)]) :: (D, ListO (ys ++ [z])) :: rs'))), J'⟩
      · obtain ⟨a, rfl, q⟩ := q
        exact q _ _ _ _
    · have : n = k := Nat.le_antisymm (Nat.le_of_not_lt hlt) ‹_›
      subst this
      refine I.stop (hbase _ _ _ _ hJ) hH (hneed n ys B rs C D _ hJ) S₁ fun G' s₂ hf S₂ => compPost_of S₂ (fin ys B rs G' D hJ hf)
  refine codeAny_compStart_list (loop _ S3) ?_
  exact I.self hH (hneed 0 [] B rs C D _ h0) S3 (loop _ S3)
end
-- M10
theorem Lst.own {B : Fix} {rs : List Res} {a : Addr} {items : List Value} (h : (a, ListO items) ∈ rs) : Lst B rs a items := .inl h
theorem Lst.std {B : Fix} {rs : List Res} {a : Addr} {items : List Value} {o : Obj} (e : B a = some o) (h : ListO items o) : Lst B rs a items := .inr ⟨o, e, h⟩
noncomputable def cut {α : Type} (x : List α) (lo hi : Option Int) : List α := (x.drop (lo.elim 0 (clipAt x.length))).take (hi.elim x.length (clipAt x.length) - lo.elim 0 (clipAt x.length))
theorem cut_from {α : Type} (x : List α) (a : Nat) : cut x (some (a : Int)) none = x.drop a := by
  unfold cut
  simp only [Option.elim, clipAt_nat]
  rcases Nat.le_total a x.length with h | h
  · rw [Nat.min_eq_left h]; exact List.take_of_length_le (by simp)
  · rw [Nat.min_eq_right h, List.drop_of_length_le h]; simp
theorem cut_to {α : Type} (x : List α) (b : Nat) : cut x none (some (b : Int)) = x.take b := by
  unfold cut
  simp only [Option.elim, clipAt_nat, List.drop_zero, Nat.sub_zero]
  rcases Nat.le_total b x.length with h | h
  · rw [Nat.min_eq_left h]
  · rw [Nat.min_eq_right h, List.take_of_length_le h, List.take_of_length_le (Nat.le_refl _)]
theorem cut_both {α : Type} (x : List α) (a b : Nat) (hb : b ≤ x.length) (hab : a ≤ b) : cut x (some (a : Int)) (some (b : Int)) = (x.drop a).take (b - a) := by
  unfold cut
  simp only [Option.elim, clipAt_nat]
  rw [Nat.min_eq_left hb, Nat.min_eq_left (Nat.le_trans hab hb)]
theorem cut_all {α : Type} (x : List α) : cut x none none = x := by simp [cut]
theorem cut_neg {α : Type} (x : List α) (k : Nat) (hk : 1 ≤ k) : cut x none (some (-(k : Int))) = x.take (x.length - k) := by
  unfold cut
  simp only [Option.elim, clipAt_neg _ _ hk, List.drop_zero, Nat.sub_zero]
theorem cut_length {α : Type} (x : List α) (lo hi : Option Int) : (cut x lo hi).length ≤ x.length := by
  unfold cut
  exact Nat.le_trans (List.length_take_le' ..) (by simp)
theorem sliceIdx_cut (x : List Nat) (lo hi : Option Int) : (Builtin.Str.strSliceIndices lo hi 1 x.length).filterMap (x.toArray[·]?) = cut x lo hi := by
  have e : Builtin.Str.strSliceIndices lo hi 1 x.length = (List.range (hi.elim x.length (clipAt x.length) - lo.elim 0 (clipAt x.length))).map (lo.elim 0 (clipAt x.length) + ·) := by
    rw [← sliceRange_one]
    unfold Builtin.Str.strSliceIndices
    cases lo <;> cases hi <;> simp [clipAt_cast]
  rw [e, pick_run]
  rfl
noncomputable def SliceO (vl vu vs : Value) : Obj → Prop := fun o => o = { cls := .type "slice", data := .fields #[vl, vu, vs] }
section
variable {prog : Program} {w : World} {A : Around} {E : Value → Shared → Prop} {B : Fix} {O : OsState} {rs rs' : List Res} {G : Array GenState} {s : Shared} {env : Env}
/-- a slice is made -/
noncomputable def Sliced (_M : Model) (vl vu vs : Value) (Q : Value → Shared → Prop) (s : Shared) : Prop := ∃ B O rs G, St B O rs G s ∧ ∀ a s', St B O ((a, SliceO vl vu vs) :: rs) G s' → Q (.ref a) s'
theorem n_sliced {M : Model} {vl vu vs : Value} {Q : Value → Shared → Prop} (S : St B O rs G s) (h : ∀ a s', St B O ((a, SliceO vl vu vs) :: rs) G s' → Q (.ref a) s') : Sliced M vl vu vs Q s := ⟨_, _, _, _, S, h⟩
theorem n_slice {lower upper step : Option Expr} {p : Pos} {Q : Value → Shared → Prop}
    (h : wpAny (model prog w) A (evalPart lower env) (fun l s₁ => wpAny (model prog w) A (evalPart upper env) (fun u s₂ => wpAny (model prog w) A (evalPart step env) (fun st s₃ => Sliced (model prog w) l u st Q s₃) E s₂) E s₁) E s) :
    wpAny (model prog w) A (eval (.Slice lower upper step p) env) Q E s := by
  refine wpAny_Slice (wpAny_mono h (fun l s₁ h => wpAny_mono h (fun u s₂ h => wpAny_mono h (fun st s₃ h => ?_) fun _ _ z => z) fun _ _ z => z) fun _ _ z => z)
  obtain ⟨B, O, rs, G, S, h⟩ := h
  exact h _ _ (S.newObj rfl rfl)
theorem n_partNone {Q : Value → Shared → Prop} (h : Q .none s) : wpAny (model prog w) A (evalPart none env) Q E s := wpAny_pure h
theorem n_partSome {e : Expr} {Q : Value → Shared → Prop} (h : wpAny (model prog w) A (eval e env) Q E s) : wpAny (model prog w) A (evalPart (some e) env) Q E s := h
theorem n_cutStr {value slice : Expr} {x : List Nat} {t : Tok} {a : Addr} {l u : Option (Int × Tok)} {Q : Value → Shared → Prop} (hsz : x.length ≤ 100000) (S : St B O ((a, SliceO (partValue l) (partValue u) .none) :: rs) G s)
    (h : ∀ s' k, St B O rs G s' → Q (.str (T (cut x (l.map (·.1)) (u.map (·.1)))) k) s')
    (hs : ∀ o i, subscripted slice false o i = operate [i, o] (getItem o i)) (ht : ∀ o r, letTemporaryGo value (.str o t) r = pure ()) :
    wpAny (model prog w) A (subscriptTail value slice (.str (T x) t) (.ref a)) Q E s := by
  obtain ⟨o, ho, rfl⟩ := S.get (a := a) (P := SliceO (partValue l) (partValue u) .none) (by simp)
  refine subscriptTail_ops (typeIs_str _ _ _) F.slot_str_getitem.lookup (wpAny_getItem_str_slice (l := l) (u := u) (st := none) ⟨_, ho, rfl, rfl⟩ rfl ?_) (hs _ _) (fun r => ht _ r)
  unfold sliceMade
  have e := sliceIdx_cut x (l.map (·.1)) (u.map (·.1))
  have e2 : slicePicked (T x) l u none = Builtin.Str.strSliceIndices (l.map (·.1)) (u.map (·.1)) 1 x.length := by unfold slicePicked; rw [T_len]; rfl
  rw [e2]
  have e3 : ((Builtin.Str.strSliceIndices (l.map (·.1)) (u.map (·.1)) 1 x.length).filterMap ((T x).cps[·]?)) = cut x (l.map (·.1)) (u.map (·.1)) := e
  split
  · rename_i hc
    rw [T_len] at hc
    have hl : (cut x (l.map (·.1)) (u.map (·.1))) = x := by
      have hc2 : (Builtin.Str.strSliceIndices (l.map (·.1)) (u.map (·.1)) 1 x.length).length = x.length := by simpa using hc
      have e : Builtin.Str.strSliceIndices (l.map (·.1)) (u.map (·.1)) 1 x.length = (List.range ((u.map (·.1)).elim x.length (clipAt x.length) - (l.map (·.1)).elim 0 (clipAt x.length))).map ((l.map (·.1)).elim 0 (clipAt x.length) + ·) := by
        rw [← sliceRange_one]
        unfold Builtin.Str.strSliceIndices
        cases l <;> cases u <;> simp [clipAt_cast]
      rw [e] at hc2
      simp only [List.length_map, List.length_range] at hc2
      unfold cut
      have hle : (u.map (·.1)).elim x.length (clipAt x.length) ≤ x.length := by
        cases u with
        | none => exact Nat.le_refl _
        | some q =>
          have := clipAt_cast x.length q.1
          show clipAt x.length q.1 ≤ x.length
          omega
      have h0 : (l.map (·.1)).elim 0 (clipAt x.length) = 0 ∨ x.length = 0 := by omega
      rcases h0 with h0 | h0
      · rw [hc2, h0, List.drop_zero, List.take_of_length_le (Nat.le_refl _)]
      · have : x = [] := List.eq_nil_of_length_eq_zero h0
        rw [this]; simp
    have := h s t S.drop
    rw [hl] at this
    exact this
  · rw [e3]
    exact ⟨by
      show ((cut x (l.map (·.1)) (u.map (·.1))).toArray).size ≤ sizeLine
      have := cut_length x (l.map (·.1)) (u.map (·.1))
      rw [sizeLine_eq]; simp; omega, h _ _ (S.drop.tok _)⟩
theorem n_cutList {value slice : Expr} {d : Addr} {items : List Value} {a : Addr} {vl vu : Value} {lo hi : Option Int} {Q : Value → Shared → Prop} (S : St B O ((a, SliceO vl vu .none) :: rs) G s) (hd : Lst B rs d items) (pl : IsPart vl lo) (pu : IsPart vu hi) (hsz : items.length ≤ 100000)
    (h : ∀ D s', St B O ((D, ListO (cut items lo hi)) :: rs) G s' → Q (.ref D) s')
    (hs : ∀ o i, subscripted slice false o i = operate [i, o] (getItem o i)) (ht : ∀ o r, letTemporaryGo value (.ref o) r = pure ()) :
    wpAny (model prog w) A (subscriptTail value slice (.ref d) (.ref a)) Q E s := by
  obtain ⟨o, ho, rfl⟩ := S.get (a := a) (P := SliceO vl vu .none) (by simp)
  have hl := S.lst (hd.elim (fun q => .inl (List.mem_cons_of_mem _ q)) .inr)
  refine subscriptTail_ops hl.typeIs list_getitem_lookup (wpAny_getItem_list_slice hl ⟨_, ho, rfl, rfl⟩ pl pu .none (by simp) ?_ (by rw [sizeLine_eq]; simp; omega)) (hs _ _) (fun r => ht _ r)
  rw [slicePick_plain]
  have e : (items.toArray.toList.drop (lo.elim 0 (clipAt items.toArray.size))).take (hi.elim items.toArray.size (clipAt items.toArray.size) - lo.elim 0 (clipAt items.toArray.size)) = cut items lo hi := by simp [cut]
  rw [e]
  exact h _ _ (S.drop.newObj ⟨0, rfl⟩ rfl)
theorem n_cutListStep {value slice : Expr} {d : Addr} {items : List Value} {a : Addr} {vl vu vs : Value} {lo hi st : Option Int} {Q : Value → Shared → Prop} (S : St B O ((a, SliceO vl vu vs) :: rs) G s) (hd : Lst B rs d items) (pl : IsPart vl lo) (pu : IsPart vu hi) (ps : IsPart vs st) (h0 : st ≠ some 0) (hsz : items.length ≤ 100000)
    (h : ∀ D s', St B O ((D, ListO (slicePick items.toArray lo hi st).toList) :: rs) G s' → Q (.ref D) s')
    (hs : ∀ o i, subscripted slice false o i = operate [o, i] (getItem o i)) (ht : ∀ o r, letTemporaryGo value (.ref o) r = pure ()) :
    wpAny (model prog w) A (subscriptTail value slice (.ref d) (.ref a)) Q E s := by
  obtain ⟨o, ho, rfl⟩ := S.get (a := a) (P := SliceO vl vu vs) (by simp)
  have hl := S.lst (hd.elim (fun q => .inl (List.mem_cons_of_mem _ q)) .inr)
  refine subscriptTail_ops hl.typeIs list_getitem_lookup (wpAny_getItem_list_slice hl ⟨_, ho, rfl, rfl⟩ pl pu ps h0 ?_ (by rw [sizeLine_eq]; simp; omega)) (hs _ _) (fun r => ht _ r)
  exact h _ _ (S.drop.newObj ⟨0, rfl⟩ rfl)
theorem n_itemList {value slice : Expr} {d : Addr} {items : List Value} {k : Nat} {t : Tok} {v : Value} {Q : Value → Shared → Prop} (S : St B O rs G s) (hd : Lst B rs d items) (hk : k < 100000) (hv : items[k]? = some v) (h : Q v s)
    (hs : ∀ o i, subscripted slice false o i = operate [o, i] (getItem o i)) (ht : ∀ o r, letTemporaryGo value (.ref o) r = pure ()) :
    wpAny (model prog w) A (subscriptTail value slice (.ref d) (.int (k : Nat) t)) Q E s :=
  subscriptTail_ops (S.lst hd).typeIs list_getitem_lookup (wpAny_getItem_list (S.lst hd) (by omega) (by omega) (by simpa using hv) h) (hs _ _) (fun r => ht _ r)
theorem n_itemLast {value slice : Expr} {d : Addr} {items : List Value} {t : Tok} {v : Value} {Q : Value → Shared → Prop} (S : St B O rs G s) (hd : Lst B rs d (items ++ [v])) (h : Q v s)
    (hs : ∀ o i, subscripted slice false o i = operate [o, i] (getItem o i)) (ht : ∀ o r, letTemporaryGo value (.ref o) r = pure ()) :
    wpAny (model prog w) A (subscriptTail value slice (.ref d) (.int (-1) t)) Q E s :=
  subscriptTail_ops (S.lst hd).typeIs list_getitem_lookup (wpAny_getItem_list_neg (x := v) (S.lst hd) (by omega) (by simp; omega) (by omega) (by
    have e : (-1 + ((items ++ [v]).toArray.size : Int)).toNat = items.length := by simp; omega
    rw [e]; simp) h) (hs _ _) (fun r => ht _ r)
theorem n_charAt {value slice : Expr} {x : List Nat} {t u : Tok} {k : Nat} {c : Nat} {Q : Value → Shared → Prop} (S : St B O rs G s) (hk : x[k]? = some c) (hx : x.length ≤ 100000) (h : ∀ s' t', St B O rs G s' → Q (.str (T [c]) t') s')
    (hs : ∀ o i, subscripted slice false o i = operate [o, i] (getItem o i)) (ht : ∀ o r, letTemporaryGo value (.str o t) r = pure ()) :
    wpAny (model prog w) A (subscriptTail value slice (.str (T x) t) (.int (k : Nat) u)) Q E s := by
  have hlt : k < x.length := (List.getElem?_eq_some_iff.mp hk).1
  refine subscriptTail_ops (typeIs_str _ _ _) F.slot_str_getitem.lookup (P.getItem_str (c := c) ?_ ?_ (h _ _ (S.tok _))) (hs _ _) (fun r => ht _ r)
  · simp; omega
  · rw [T_len, seqIndex_of (by omega) (by omega)]
    simpa [T] using hk
theorem n_charLast {value slice : Expr} {x : List Nat} {t u : Tok} {k : Nat} {c : Nat} {Q : Value → Shared → Prop} (S : St B O rs G s) (hk1 : 1 ≤ k) (hkx : k ≤ x.length) (hk : x[x.length - k]? = some c) (hx : x.length ≤ 100000) (h : ∀ s' t', St B O rs G s' → Q (.str (T [c]) t') s')
    (hs : ∀ o i, subscripted slice false o i = operate [o, i] (getItem o i)) (ht : ∀ o r, letTemporaryGo value (.str o t) r = pure ()) :
    wpAny (model prog w) A (subscriptTail value slice (.str (T x) t) (.int (-(k : Int)) u)) Q E s := by
  refine subscriptTail_ops (typeIs_str _ _ _) F.slot_str_getitem.lookup (P.getItem_str (c := c) ?_ ?_ (h _ _ (S.tok _))) (hs _ _) (fun r => ht _ r)
  · simp; omega
  · rw [T_len, seqIndex_neg (by omega) (by omega)]
    have e : (-(k : Int) + (x.length : Int)).toNat = x.length - k := by omega
    rw [e]
    simpa [T] using hk
theorem n_notIn1 {c : Nat} {x : List Nat} {y : Str} {t u : Tok} {Q : Value → Shared → Prop} (hy : y = T [c]) (h : Q (.bool (!decide (c ∈ x))) s) : wpAny (model prog w) A (compareOp .NotIn (.str y u) (.str (T x) t)) Q E s := by
  subst hy
  refine notIn_str ?_
  have e := StrLaws.found_one (T x) c
  have e2 : (T x).cps.toList = x := by simp [T]
  rw [e2] at e
  have e3 : (!(Builtin.Str.occurrences (T x) (T [c]) 0 (T x).length 1).isEmpty) = decide (c ∈ x) := e
  rw [e3]; exact h
theorem n_lenList {l : Addr} {items : List Value} {Q : Value → Shared → Prop} (hsz : items.length ≤ 100000) (S : St B O rs G s) (hl : Lst B rs l items) (h : ∀ s' k, St B O rs G s' → Q (.int items.length k) s') : wpAny (model prog w) A (call (.builtin "len") [.ref l]) Q E s :=
  Calls.call_len_list (S.lst hl) (by simp; omega) (by simpa using h _ _ (S.tok _))
theorem n_lenT {x : List Nat} {t : Tok} {Q : Value → Shared → Prop} (hsz : x.length ≤ 100000) (S : St B O rs G s) (h : ∀ s' k, St B O rs G s' → Q (.int x.length k) s') : wpAny (model prog w) A (call (.builtin "len") [.str (T x) t]) Q E s :=
  n_lenStr (by rw [T_len]; omega) S (by rw [T_len]; exact h)
theorem n_isRef {a : Addr} {Q : Value → Shared → Prop} (h : Q (.bool false) s) : wpAny (model prog w) A (compareOp .Is (.ref a) .none) Q E s := is_none_ne (by intro x; cases x) h
theorem n_isNotRef {a : Addr} {Q : Value → Shared → Prop} (h : Q (.bool true) s) : wpAny (model prog w) A (compareOp .IsNot (.ref a) .none) Q E s := isnot_none_ne (by intro x; cases x) h
theorem n_app {l : Addr} {items : List Value} {x : Value} {Q : Value → Shared → Prop} (S : St B O rs G s) (u : Upd1 l (ListO items) (ListO (items ++ [x])) rs rs') (hsz : items.length ≤ 100000) (h : ∀ s', St B O rs' G s' → Q .none s') :
    wpAny (model prog w) A (call (.builtin "list.append") [.ref l, x]) Q E s := n_append (by rw [sizeLine_eq]; omega) S u h
theorem n_lenL {l : Addr} {items : List Value} {Q : Value → Shared → Prop} (S : St B O rs G s) (hl : Lst B rs l items) (hsz : items.length ≤ 100000) (h : ∀ s' k, St B O rs G s' → Q (.int items.length k) s') : wpAny (model prog w) A (call (.builtin "len") [.ref l]) Q E s := n_lenList hsz S hl h
theorem n_methAppend {l : Addr} {pl : Sem Bool} {items : List Value} {Q : Value × List Value → Shared → Prop} (S : St B O rs G s) (hl : Lst B rs l items) (h : Q (.builtin "list.append", [.ref l]) s) : wpAny (model prog w) A (getMethod (.ref l) (Str.ofString "append") pl) Q E s := by
  obtain ⟨n, ho⟩ := S.isL hl
  exact Calls.getMethod_list_append ho rfl rfl h
theorem n_newList {vs : List Value} {Q : Value → Shared → Prop} (hsz : vs.length ≤ 100000) (S : St B O rs G s) (h : ∀ a s', St B O ((a, ListO vs) :: rs) G s' → Q (.ref a) s') : wpAny (model prog w) A (newList vs) Q E s :=
  wpAny_newObj_type (h _ _ (S.newObj ⟨0, rfl⟩ rfl)) (by show vs.toArray.size ≤ sizeLine; rw [sizeLine_eq]; simp; omega)
end
-- M11
/-- room for k calls more -/
noncomputable def Ok (A : Around) (k : Nat) : Prop := A.handled = none ∧ A.depth + k < recursionLimit ∧ A.units + 3 * k < cLine
theorem Ok.down {A : Around} {k : Nat} {env : Env} (h : Ok A (k + 1)) : Ok (A.deeper env) k := ⟨h.1, by have := h.2.1; show A.depth + 1 + k < _; omega, by have := h.2.2; show A.units + 3 + 3 * k < _; omega⟩
theorem Ok.le {A : Around} {k j : Nat} (h : Ok A k) (hj : j ≤ k) : Ok A j := ⟨h.1, by have := h.2.1; omega, by have := h.2.2; omega⟩
theorem Ok.d {A : Around} {k j : Nat} (h : Ok A k) (hj : j ≤ k) : A.depth + j < recursionLimit := (h.le hj).2.1
theorem Ok.u {A : Around} {k : Nat} (h : Ok A k) : A.units < cLine := by have := h.2.2; omega
noncomputable def cellFd (P : Params) (a : Addr) (ls cs : List Str) : Bool :=
  isFd P a && (match (fdOf P a).body with | .stmts _ => true | _ => false) && codeIn (KF P) (fdOf P a).code (fdOf P a).qualname
    && !(fdOf P a).scope.isCoroutine && !(fdOf P a).scope.isGenerator && (fdOf P a).scope.kind == .function && (fdOf P a).closure.isEmpty && ls.all (fun x => (fdOf P a).scope.names.lookup x == some .local) && cs.all (fun x => (fdOf P a).scope.names.lookup x == some .cell)
noncomputable abbrev envC (w : World) (a L : Addr) (cl : List (Str × Addr)) : Env :=
  { scope := (fdOf w.params a).scope, locals := L, globals := (fdOf w.params a).globals, cells := cl, qual := (fdOf w.params a).qualname ++ ".<locals>.", func := some a, code := (fdOf w.params a).code, frame := some L, builtins := (fdOf w.params a).builtins }
section
variable {prog : Program} {w : World} {A : Around} {E : Value → Shared → Prop} {B : Fix} {O : OsState} {rs rs' : List Res} {G : Array GenState} {s : Shared}
/-- a call of a def that keeps cells -/
theorem r_callC {a : Addr} {vs : List Value} {body : List Stmt} {oc : Value} {od : Option Addr} {fd : FuncData} {osl : Array (Option Value)} {P : Value → Shared → Prop} (binds : List (Str × Value)) (l : List (Str × Option Value)) (cl : Addr → List (Str × Addr)) (cv : List (Str × Option Value)) (res : Addr → List Res) (X : Base w B) (S : St B O rs G s) (hA : A.depth < recursionLimit)
    (hp : cellFd w.params a [] [] = true) (hlook : (KF w.params).lookup a = some ⟨oc, od, .func fd, osl⟩) (hbody : fd.body = .stmts body) (hbind : bindArgs (fdOf w.params a) ⟨vs, []⟩ = pure binds)
    (hkind : binds.all (fun x => (fdOf w.params a).scope.names.lookup x.1 == some .local || ((fdOf w.params a).scope.names.lookup x.1 == some .cell && ((cl 0).lookup x.1).isSome)) = true)
    (hcl : ∀ L, cellsFrom (L + 1) (fdOf w.params a).scope.names [] = cl L) (hcl0 : ∀ L x, ((cl L).lookup x).isSome = ((cl 0).lookup x).isSome)
    (ns : List Str) (hns : l.map (·.1) = ns) (hnd : ns.Nodup) (hl : (l.map fun p => (p.1, bindL (fun x => (fdOf w.params a).scope.names.lookup x) binds (fun _ => none) p.1)) = l)
    (hcv : (cv.map fun p => (p.1, bindC (fun x => (fdOf w.params a).scope.names.lookup x) binds (fun _ => none) p.1)) = cv)
    (hres : ∀ L, res L = ((cl L).zip cv).map fun q => (q.1.2, CellO q.2.2)) (hcn : ∀ L, ((cl L).map (·.1)) = cv.map (·.1)) (hcnd : (cv.map (·.1)).Nodup)
    (h : ∀ s' L, St B O ((L, FrO l) :: (res L ++ rs)) G s' → wpAny (model prog w) (A.deeper (envC w a L (cl L))) (execs body (envC w a L (cl L))) (Back P) NoE s') :
    wpAny (model prog w) A (call (.ref a) vs []) P NoE s := by
  replace hnd : (l.map (·.1)).Nodup := hns ▸ hnd
  have hb : (fdOf w.params a).body = .stmts body := by unfold fdOf; rw [hlook]; exact hbody
  unfold cellFd at hp
  simp only [Bool.and_eq_true, Bool.not_eq_true', beq_iff_eq, List.isEmpty_iff] at hp
  obtain ⟨⟨⟨⟨⟨⟨⟨⟨h1, h2⟩, h3⟩, h5⟩, h6⟩, h7⟩, h8⟩, _⟩, _⟩ := hp
  obtain ⟨o, ho, hd⟩ := fdOf_at X h1
  have hkind' : ∀ x ∈ binds, (fdOf w.params a).scope.names.lookup x.1 = some .local ∨ ((fdOf w.params a).scope.names.lookup x.1 = some .cell ∧ ((cellsFrom (s.heap.objs.size + 1) (fdOf w.params a).scope.names []).lookup x.1).isSome = true) := fun x hx => by
    have := List.all_eq_true.mp hkind x hx
    rw [Bool.or_eq_true, Bool.and_eq_true, beq_iff_eq, beq_iff_eq] at this
    rw [hcl, hcl0]; exact this
  refine wpAny_call (codeAny_call_cells hA (S.base ho) hd (X.at S.own.base).lim (codeRec_of (X.at S.own.base).k h3) hb hbind h8 hkind' (fun s₁ I => ?_) h5 h6 h7)
  have ee : callEnvC (fdOf w.params a) s.heap.objs.size a = envC w a s.heap.objs.size (cl s.heap.objs.size) := by
    unfold callEnvC newEnv; rw [hcl]
  have hkk : ∀ x, (callEnvC (fdOf w.params a) s.heap.objs.size a).kindOf x = (fdOf w.params a).scope.names.lookup x := fun x => rfl
  rw [ee] at I ⊢
  have I1 := I.toInCall
  obtain ⟨h₁, tk, e1⟩ := I1.same
  refine anyE (wpAny_mono (h s₁ s.heap.objs.size ?_) (fun f s'' q => q) fun _ _ q => q)
  have lk : ∀ n c, (n, c) ∈ cl s.heap.objs.size → (cl s.heap.objs.size).lookup n = some c := fun n c hm => by
    have nd : ((cl s.heap.objs.size).map (·.1)).Nodup := by rw [hcn]; exact hcnd
    clear I I1 ee hres hcn hkind hkind' hcl hcl0 h
    generalize cl s.heap.objs.size = ll at hm nd
    induction ll with
    | nil => cases hm
    | cons q r ih =>
      obtain ⟨n', c'⟩ := q
      rw [List.map_cons, List.nodup_cons] at nd
      rcases List.mem_cons.mp hm with e | hm2
      · cases e; simp
      · have : (n == n') = false := by
          rw [beq_eq_false_iff_ne]; intro e; subst e; exact nd.1 (List.mem_map_of_mem (f := (·.1)) hm2)
        rw [List.lookup_cons, this]; exact ih hm2 nd.2
  have hcell : ∀ r ∈ res s.heap.objs.size, (∃ o, s₁.heap.get? r.1 = some o ∧ r.2 o) ∧ s.heap.objs.size < r.1 ∧ r.1 ∈ (cl s.heap.objs.size).map (·.2) := fun r hr => by
    rw [hres] at hr
    obtain ⟨⟨⟨n, c⟩, ⟨n', v⟩⟩, hq, rfl⟩ := List.mem_map.mp hr
    have m1 : (n, c) ∈ cl s.heap.objs.size := (List.of_mem_zip hq).1
    have m2 : (n', v) ∈ cv := (List.of_mem_zip hq).2
    have hnn : n = n' := by
      obtain ⟨i, hi, e⟩ := List.mem_iff_getElem.mp hq
      have e3 : ((cl s.heap.objs.size).map (·.1))[i]? = (cv.map (·.1))[i]? := by rw [hcn]
      have hi' := hi
      rw [List.length_zip] at hi'
      rw [List.getElem_zip] at e
      have q1 : (cl s.heap.objs.size)[i] = (n, c) := congrArg Prod.fst e
      have q2 : cv[i] = (n', v) := congrArg Prod.snd e
      rw [List.getElem?_map, List.getElem?_map, List.getElem?_eq_getElem (by omega), List.getElem?_eq_getElem (by omega), q1, q2] at e3
      simpa using e3
    subst hnn
    have hv : bindC (fun x => (fdOf w.params a).scope.names.lookup x) binds (fun _ => none) n = v := by
      have : (n, v) ∈ cv.map fun p => (p.1, bindC (fun x => (fdOf w.params a).scope.names.lookup x) binds (fun _ => none) p.1) := by rw [hcv]; exact m2
      obtain ⟨⟨n2, v2⟩, hm2, e⟩ := List.mem_map.mp this
      cases e; rfl
    refine ⟨?_, I.above n c m1, List.mem_map_of_mem (f := (·.2)) m1⟩
    obtain ⟨o, e, p⟩ := I.cell n c (lk n c m1)
    exact ⟨o, e, hv ▸ p⟩
  have hfr : ∃ o, s₁.heap.get? s.heap.objs.size = some o ∧ FrO l o := FrO.of_ns I1.ns hnd fun p hp => by
    have : p ∈ l.map fun p => (p.1, bindL (fun x => (fdOf w.params a).scope.names.lookup x) binds (fun _ => none) p.1) := by rw [hl]; exact hp
    obtain ⟨q, hq, e⟩ := List.mem_map.mp this
    rw [← e]; rfl
  have own : Own B ((s.heap.objs.size, FrO l) :: (res s.heap.objs.size ++ rs)) s₁.heap := by
    refine S.own.remake (fun b o e => I1.keep _ _ (S.own.base b o e)) (fun r hr => ?_) ?_ (fun r hr => ?_)
    · rcases List.mem_cons.mp hr with rfl | hr
      · exact hfr
      · rcases List.mem_append.mp hr with hr | hr
        · exact (hcell r hr).1
        · obtain ⟨o, e, p⟩ := S.own.res r hr; exact ⟨o, I1.keep _ _ e, p⟩
    · rw [List.map_cons, List.nodup_cons, List.map_append, List.nodup_append]
      refine ⟨fun hm => ?_, ?_, S.own.nodup, fun x hx y hy e => ?_⟩
      · rcases List.mem_append.mp hm with hm | hm
        · obtain ⟨r, hr, e⟩ := List.mem_map.mp hm
          have := (hcell r hr).2.1
          rw [e] at this; exact absurd this (Nat.lt_irrefl _)
        · obtain ⟨r, hr, e⟩ := List.mem_map.mp hm
          have := S.own.lt hr
          rw [e] at this; exact absurd this (Nat.lt_irrefl _)
      · rw [hres, List.map_map]
        have ap := I.apart
        have e : ((cl s.heap.objs.size).zip cv).map ((fun x : Res => x.1) ∘ fun q => (q.1.2, CellO q.2.2)) = ((cl s.heap.objs.size).map (·.2)).take ((cl s.heap.objs.size).zip cv).length := by
          have e2 : (cl s.heap.objs.size).length = cv.length := by have := congrArg List.length (hcn s.heap.objs.size); simpa using this
          have e3 : ((cl s.heap.objs.size).zip cv).length = ((cl s.heap.objs.size).map (·.2)).length := by simp [e2]
          rw [e3, List.take_length]
          have : ((cl s.heap.objs.size).zip cv).map ((fun x : Res => x.1) ∘ fun q => (q.1.2, CellO q.2.2)) = (((cl s.heap.objs.size).zip cv).map Prod.fst).map (·.2) := by rw [List.map_map]; rfl
          rw [this, List.map_fst_zip (by omega)]
        rw [e]
        refine (List.take_sublist _ _).nodup ?_
        rw [List.Nodup, List.pairwise_map]
        exact ap
      · subst e
        obtain ⟨r, hr, e⟩ := List.mem_map.mp hx
        obtain ⟨r', hr', e'⟩ := List.mem_map.mp hy
        have h1 := (hcell r hr).2.1
        have h2 := S.own.lt hr'
        rw [e] at h1; rw [e'] at h2
        exact absurd (Nat.lt_trans h1 h2) (Nat.lt_irrefl _)
    · rcases List.mem_cons.mp hr with rfl | hr
      · exact .inr (Nat.le_refl _)
      · rcases List.mem_append.mp hr with hr | hr
        · exact .inr (Nat.le_of_lt (hcell r hr).2.1)
        · exact .inl (List.mem_map_of_mem hr)
  exact ⟨own, by rw [e1]; exact S.gens, by rw [e1]; exact S.os⟩
end
-- ranges
noncomputable def RangeO (a b c : Int) : Obj → Prop := fun o => ∃ t u v, o = { cls := .type "range", dict := none, data := .fields #[.int a t, .int b u, .int c v], slots := #[] }
noncomputable def RangeItO (x left step : Int) : Obj → Prop := fun o => o = { cls := .type "range_iterator", dict := none, data := .fields #[rawInt x, rawInt left, rawInt step], slots := #[] }
section
variable {prog : Program} {w : World} {A : Around} {E : Value → Shared → Prop} {B : Fix} {O : OsState} {rs rs' : List Res} {G : Array GenState} {s : Shared} {env : Env}
theorem n_range1 {n : Int} {t : Tok} {Q : Value → Shared → Prop} (S : St B O rs G s) (h : ∀ r s', St B O ((r, RangeO 0 n 1) :: rs) G s' → Q (.ref r) s') : wpAny (model prog w) A (call (.type "range") [.int n t]) Q E s :=
  call_range_1 (h _ _ ((S.newObj ⟨_, _, _, rfl⟩ rfl).tok _))
theorem n_range2 {a b : Int} {t u : Tok} {Q : Value → Shared → Prop} (S : St B O rs G s) (h : ∀ r s', St B O ((r, RangeO a b 1) :: rs) G s' → Q (.ref r) s') : wpAny (model prog w) A (call (.type "range") [.int a t, .int b u]) Q E s :=
  call_range_2 (h _ _ ((S.newObj ⟨_, _, _, rfl⟩ rfl).tok _))
theorem n_iterRange {r : Addr} {a b : Nat} {Q : Value → Shared → Prop} (ha : a ≤ 100000) (hb : b ≤ 100000) (S : St B O rs G s) (hm : (r, RangeO a b 1) ∈ rs) (h : ∀ it s', St B O ((it, RangeItO a ((b - a : Nat) : Int) 1) :: rs) G s' → Q (.ref it) s') : wpAny (model prog w) A (pyIter (.ref r)) Q E s := by
  obtain ⟨o, ho, t, u, v, rfl⟩ := S.get hm
  refine wpAny_pyIter_range ho (small_one (by omega) (by omega) (by omega) (by omega)) (h _ _ (S.newObj ?_ rfl))
  have e : Builtin.Range.rangeSize (a : Int) (b : Int) 1 = ((b - a : Nat) : Int) := by rw [rangeSize_one]; split <;> omega
  rw [e]; rfl
theorem Iter.range (hh : A.handled = none) (it : Addr) (a n : Nat) : Iter prog w A it n (fun k => RangeItO ((a + k : Nat) : Int) ((n - k : Nat) : Int) 1) (fun k v => ∃ t, v = .int ((a + k : Nat) : Int) t) (fun _ _ => True) where
  next := fun {B O rs rs' G s k Q E} S hn u hk h => by
    obtain ⟨o, ho, rfl⟩ := S.get u.mem
    refine wpAny_pyNext_range_item ho (by omega) fun h' hi hs => h _ _ ⟨_, rfl⟩ ((S.upd u hs ⟨_, hi, ?_⟩).tok _)
    have e1 : ((a + k : Nat) : Int) + 1 = ((a + (k + 1) : Nat) : Int) := by omega
    have e2 : ((n - k : Nat) : Int) - 1 = ((n - (k + 1) : Nat) : Int) := by omega
    rw [e1, e2]; rfl
  stop := fun {B O rs rs' G s Q E} S hn u h => by
    obtain ⟨o, ho, rfl⟩ := S.get u.mem
    exact wpAny_pyNext_range_end hh ho (by omega) fun h' hs => h _ (S.ext u hs)
  self := fun {B O rs G s k Q E} S hm h => by
    obtain ⟨o, ho, rfl⟩ := S.get hm
    exact wpAny_pyIter_slot (s := s) ⟨_, ho, rfl⟩ F.slot_range_iterator_iter (wpAny_call_entry F.slot_range_iterator_iter ⟨_, ho, rfl⟩ F.entry_range_iterator_iter (by
      show wpAny _ _ (ret (.ref it)) _ _ s
      exact wpAny_pure ⟨_, rfl, "range_iterator", _, ⟨_, ho, rfl⟩, F.slot_range_iterator_next.lookup, h⟩) (F.args_range_iterator_iter_1 _))
-- lists of ints
theorem n_neInts {l b : Addr} {vs ws : List Value} {xs ys : List Int} {Q : Value → Shared → Prop} (hu : A.units < cLine) (S : St B O rs G s) (hl : Lst B rs l vs) (hb : Lst B rs b ws) (hx : IntsAre vs xs) (hy : IntsAre ws ys) (h : Q (.bool (xs != ys)) s) :
    wpAny (model prog w) A (compareOp .NotEq (.ref l) (.ref b)) Q E s := by
  have gi : ∀ {vs : List Value} {xs : List Int}, IntsAre vs xs → vs.length = xs.length ∧ ∀ j (h1 : j < vs.length) (h2 : j < xs.length), ∃ t, vs[j] = .int xs[j] t := by
    intro vs xs h
    induction h with
    | nil => exact ⟨rfl, fun j h1 => absurd h1 (Nat.not_lt_zero _)⟩
    | cons n t _ ih =>
      refine ⟨by simp [ih.1], fun j h1 h2 => ?_⟩
      cases j with
      | zero => exact ⟨t, rfl⟩
      | succ j => exact ih.2 j (by simpa using h1) (by simpa using h2)
  obtain ⟨e1, g1⟩ := gi hx
  obtain ⟨e2, g2⟩ := gi hy
  show wpAny _ _ (richCompare .NotEq (.ref l) (.ref b)) Q E s
  by_cases hsz : vs.length = ws.length
  · refine PySem.SeqAt.RcNeAt.lists (e := fun j => xs[j]? == ys[j]?) (S.lst hl) (S.lst hb) (by simpa using hsz) hu (fun j h1 h2 => ?_) prog w E Q ?_
    · have h1 : j < vs.length := by simpa using h1
      have h2 : j < ws.length := by simpa using h2
      obtain ⟨t, q1⟩ := g1 j h1 (e1 ▸ h1)
      obtain ⟨u, q2⟩ := g2 j h2 (e2 ▸ h2)
      have r1 : vs.toArray[j] = .int xs[j] t := by simpa using q1
      have r2 : ws.toArray[j] = .int ys[j] u := by simpa using q2
      rw [r1, r2]
      have := PySem.SeqAt.EqAt.int_int (A := A.in1) (s := s) xs[j] t ys[j] u
      rw [List.getElem?_eq_getElem (e1 ▸ h1), List.getElem?_eq_getElem (e2 ▸ h2)]
      have e3 : (some xs[j] == some ys[j]) = (xs[j] == ys[j]) := rfl
      rw [e3]; exact this
    · have e4 : (!(List.range vs.toArray.size).all fun j => xs[j]? == ys[j]?) = (xs != ys) := by
        rw [bne]
        congr 1
        rw [Bool.eq_iff_iff, List.all_eq_true, beq_iff_eq]
        constructor
        · intro hall
          refine List.ext_getElem? fun j => ?_
          by_cases hj : j < vs.length
          · have := hall j (by simpa using hj)
            simpa using this
          · rw [List.getElem?_eq_none (by omega), List.getElem?_eq_none (by omega)]
        · rintro rfl j _; simp
      rw [e4]; exact h
  · refine PySem.SeqAt.RcNeAt.lists_lengths (S.lst hl) (S.lst hb) (by simpa using hsz) hu prog w E Q ?_
    have : (xs != ys) = true := by
      rw [bne_iff_ne]; intro e; subst e; exact hsz (e1.trans e2.symm)
    rw [this] at h; exact h
theorem IntsAre.snoc' {vs : List Value} {ns : List Int} {n : Int} {t : Tok} (h : IntsAre vs ns) : IntsAre (vs ++ [.int n t]) (ns ++ [n]) := h.append (.cons n t .nil)
end
-- M12
theorem StrVs.take : ∀ {vs : List Value} {xs : List Str} (k : Nat), StrVs vs xs → StrVs (vs.take k) (xs.take k)
  | _, _, 0, _ => trivial
  | [], [], _ + 1, _ => trivial
  | _ :: _, _ :: _, k + 1, h => ⟨h.1, h.2.take k⟩
theorem StrVs.drop : ∀ {vs : List Value} {xs : List Str} (k : Nat), StrVs vs xs → StrVs (vs.drop k) (xs.drop k)
  | _, _, 0, h => h
  | [], [], _ + 1, _ => trivial
  | _ :: _, _ :: _, k + 1, h => h.2.drop k
theorem StrVs.append : ∀ {vs ws : List Value} {xs ys : List Str}, StrVs vs xs → StrVs ws ys → StrVs (vs ++ ws) (xs ++ ys)
  | [], _, [], _, _, h => h
  | _ :: _, _, _ :: _, _, h, h' => ⟨h.1, h.2.append h'⟩
theorem StrVs.at : ∀ {vs : List Value} {xs : List Str} {k : Nat} {x : Str}, StrVs vs xs → xs[k]? = some x → ∃ t, vs[k]? = some (.str x t)
  | v :: _, y :: _, 0, _, h, e => by
    simp at e; subst e
    obtain ⟨t, rfl⟩ := h.1
    exact ⟨t, rfl⟩
  | _ :: _, _ :: _, k + 1, _, h, e => h.2.at (k := k) (by simpa using e)
  | [], [], _, _, _, e => by simp at e
theorem catT_T : ∀ l : List (List Nat), catT (l.map T) = l.flatten
  | [] => rfl
  | a :: r => by
    have := catT_T r
    simp only [List.map_cons, catT, List.flatMap_cons, List.flatten_cons] at this ⊢
    rw [this]; simp [T]
theorem flatten_take_le (l : List (List Nat)) (k : Nat) : (l.take k).flatten.length ≤ l.flatten.length := by
  conv => rhs; rw [← List.take_append_drop k l]
  rw [List.flatten_append, List.length_append]; omega
theorem flatten_drop_le (l : List (List Nat)) (k : Nat) : (l.drop k).flatten.length ≤ l.flatten.length := by
  conv => rhs; rw [← List.take_append_drop k l]
  rw [List.flatten_append, List.length_append]; omega
inductive Lk (x : Str) (c : Addr) : List (Str × Addr) → Prop
  | head {r} : Lk x c ((x, c) :: r)
  | tail {y d r} : (x == y) = false → Lk x c r → Lk x c ((y, d) :: r)
theorem Lk.to {x : Str} {c : Addr} : ∀ {l : List (Str × Addr)}, Lk x c l → l.lookup x = some c
  | _, .head => by simp
  | _, .tail h k => by rw [List.lookup_cons, h]; exact k.to
section
variable {prog : Program} {w : World} {A : Around} {E : Value → Shared → Prop} {B B' : Fix} {O : OsState} {rs rs' : List Res} {G : Array GenState} {s : Shared} {env : Env}
theorem n_cellName {x : Str} {pos : Pos} {c : Addr} {v : Value} {Q : Value → Shared → Prop} (S : St B O rs G s) (hc : Lk x c env.cells) (hm : (c, CellO (some v)) ∈ rs) (h : Q v s)
    (hk : env.scope.kind = .function) (hl : env.kindOf x = some .cell) (hd : (x == ("__debug__" : Str)) = false) : wpAny (model prog w) A (eval (.Name x pos) env) Q E s := r_cell S hc.to hm h hk hl hd
theorem n_freeName {x : Str} {pos : Pos} {c : Addr} {v : Value} {Q : Value → Shared → Prop} (S : St B O rs G s) (hc : Lk x c env.cells) (hm : (c, CellO (some v)) ∈ rs) (h : Q v s)
    (hk : env.scope.kind = .function) (hl : env.kindOf x = some .free) (hd : (x == ("__debug__" : Str)) = false) (hd2 : (x == ("__classdict__" : Str)) = false) : wpAny (model prog w) A (eval (.Name x pos) env) Q E s := by
  obtain ⟨o, ho, hf⟩ := S.get hm
  exact wpAny_Name (wpAny_loadName_free hk hl hc.to ⟨o, ho, hf⟩ h hd2) hd
theorem n_storeCell {x : Str} {c : Addr} {v : Value} {v₀} {Q : Unit → Shared → Prop} (S : St B O rs G s) (hc : Lk x c env.cells) (u : Upd1 c (CellO v₀) (CellO (some v)) rs rs')
    (h : ∀ s', St B O rs' G s' → Q () s') (hk : env.scope.kind = .function) (hl : env.kindOf x = some .cell) : wpAny (model prog w) A (storeName env x v) Q E s := r_storeCell S hc.to u h hk hl
theorem St.freeze {a P} (S : St B O ((a, P) :: rs) G s) : ∃ o, P o ∧ Fix.le B (B.put a o) ∧ (B.put a o) a = some o ∧ St (B.put a o) O rs G s := by
  obtain ⟨o, p, l, e, q⟩ := S.own.freeze
  exact ⟨o, p, l, e, ⟨q, S.gens, S.os⟩⟩
theorem St.shrink (S : St B' O rs G s) (l : Fix.le B B') : St B O rs G s := ⟨S.own.shrink l, S.gens, S.os⟩
theorem St.front {a P} (S : St B O rs G s) (u : Rem1 a P rs rs') : St B O ((a, P) :: rs') G s := S.perm (by
  obtain ⟨xs, ys, rfl, rfl⟩ := u.split
  exact List.perm_middle)
theorem n_assignName {x : Str} {px : Pos} {v : Value} {Q : Unit → Shared → Prop} (h : wpAny (model prog w) A (storeName env x v) Q E s) : wpAny (model prog w) A (assign (.Name x px) env v) Q E s := wpAny_assign_Name h
end
-- R1
noncomputable def fstOf (r : Except String (Bool × Sre.Seen)) : Option Bool := match r with | .ok (b, _) => some b | .error _ => none
theorem inSet_seen (code : Array Nat) (c : Nat) : ∀ (n i : Nat) (y : Bool) (s s' : Sre.Seen), fstOf (Sre.inSet code c n i y s) = fstOf (Sre.inSet code c n i y s')
  | 0, _, _, _, _ => rfl
  | n + 1, i, y, s, s' => by
    have ih := inSet_seen code c n
    unfold Sre.inSet
    dsimp only
    cases h : Sre.ops[code.getD (i + 0) 0]? with
    | none => rfl
    | some op =>
      cases op <;> dsimp only <;> first | rfl | (exact ih _ _ _ _) | (split <;> first | rfl | exact ih _ _ _ _) | skip
      cases Sre.category (code.getD (i + 1) 0) c with
      | error e => rfl
      | ok b =>
        cases b
        · exact ih _ _ _ _
        · rfl
/-- no sign of the text is one of the set -/
theorem admitted_none (m : Sre.M) (hc : ∀ c ∈ m.text.toList, ∀ s, fstOf (Sre.inSet m.code c m.code.size 5 true s) = some false) (hlim : m.lim ≤ m.text.size) :
    ∀ (n k : Nat) (s : Sre.Seen), ∃ s', Sre.M.admitted m n k s = .ok (none, s')
  | 0, _, s => ⟨s, rfl⟩
  | n + 1, k, s => by
    unfold Sre.M.admitted
    split
    · exact ⟨s, rfl⟩
    · rename_i hk
      have hk : k < m.text.size := by omega
      have h := hc (m.text.getD k 0) (by
        have : m.text.getD k 0 = m.text[k] := by simp [Array.getD, hk]
        rw [this]; exact Array.mem_toList_iff.mpr (Array.getElem_mem hk)) s
      cases e : Sre.inSet m.code (m.text.getD k 0) m.code.size 5 true s with
      | error w => rw [e] at h; cases h
      | ok r =>
        obtain ⟨b, s'⟩ := r
        rw [e] at h
        have : b = false := by simpa [fstOf] using h
        subst this
        exact admitted_none m hc hlim n (k + 1) s'
noncomputable def codeAt (P : Params) (a : Addr) : Array Nat := match (KF P).lookup a with
  | some ⟨_, _, .seq items _, _⟩ => (items.map Builtin.Re.reRawOf).map (·.toNat)
  | _ => #[]
noncomputable def plainCh (c : Nat) : Bool := 32 ≤ c && c < 127
theorem set47 (P : Params) : ∀ c, plainCh c = true → ∀ s, fstOf (Sre.inSet (codeAt P 47) c (codeAt P 47).size 5 true s) = some false := by
  have h : ∀ c, c < 127 → plainCh c = true → fstOf (Sre.inSet (codeAt P 47) c (codeAt P 47).size 5 true {}) = some false := by
    have : codeAt P 47 = #[14, 10, 4, 1, 1, 22, 0, 31, 16, 127, 0, 13, 7, 22, 0, 31, 16, 127, 0, 1] := by kernel_rfl!
    rw [this]; decide +kernel
  intro c hc s
  rw [inSet_seen _ _ _ _ _ s {}]
  exact h c (by simp [plainCh] at hc; omega) hc
theorem set52 (P : Params) : ∀ c, plainCh c = true → ∀ s, fstOf (Sre.inSet (codeAt P 52) c (codeAt P 52).size 5 true s) = some false := by
  have h : ∀ c, c < 127 → plainCh c = true → fstOf (Sre.inSet (codeAt P 52) c (codeAt P 52).size 5 true {}) = some false := by
    have : codeAt P 52 = #[14, 14, 4, 1, 1, 9, 4294966783, 0, 0, 2147483648, 0, 0, 0, 0, 0, 13, 11, 9, 4294966783, 0, 0, 2147483648, 0, 0, 0, 0, 0, 1] := by kernel_rfl!
    rw [this]; decide +kernel
  intro c hc s
  rw [inSet_seen _ _ _ _ _ s {}]
  exact h c (by simp [plainCh] at hc; omega) hc
-- R2
theorem plainAttrs_re : PlainAttrs "re.Pattern" :=
  ⟨⟨"object.__getattribute__", by rw [typeLookup_type, builtinLookup_eq_fast]; kernel_rfl, by decide +kernel⟩, by rw [typeLookup_type, builtinLookup_eq_fast]; kernel_rfl⟩
theorem owner_re : Manifest.owners.lookup "re.Pattern" = some Manifest.sig_re_Pattern := by kernel_rfl
theorem slot_re_search : Slot "re.Pattern" "search" "re.Pattern.search" :=
  .of (owner := "re.Pattern") (n := "search") (by rw [typeLookup_type, builtinLookup_eq_fast]; kernel_rfl) (by decide +kernel) (by decide +kernel) (by decide +kernel)
    (by first | exact .inl (by decide +kernel) | exact .inr (by decide +kernel)) (by rw [isSubtype_type]; kernel_rfl)
theorem type_re_search : typeOf (.builtin "re.Pattern.search") = pure (.type "method_descriptor") := by show builtinType _ = _; rw [builtinType_eq_fast]; kernel_rfl
theorem entry_re_search : entryFor table "re.Pattern.search" = some Builtin.«re.Pattern.search» := entryFor_of_tree (by kernel_rfl)
theorem args_re_search (a b : Value) : argsOk "re.Pattern.search" ⟨[a, b], []⟩ := by
  unfold argsOk; rw [signature?_of (id := "re.Pattern.search") (n := ['h', 'c', 'r', 'a', 'e', 's']) (o := ['n', 'r', 'e', 't', 't', 'a', 'P', '.', 'e', 'r']) (by kernel_rfl) owner_re]; kernel_rfl
-- R3
open PySem.Builtin PySem.Builtin.Re
section
variable {prog : Program} {w : World} {A : Around} {E : Value → Shared → Prop} {B : Fix} {O : OsState} {rs rs' : List Res} {G : Array GenState} {s : Shared}
theorem named_eq (v : Value) : reNamed "re.Pattern.search" "search" ["string", "pos", "endpos"] 1 [v] [] = pure [some v, none, none] := by rfl
theorem wpAny_drive {M : Model} {Q : Sre.M → Shared → Prop} {m m' : Sre.M} (e : m.runFor reTurnSteps = m') (ho : m'.outcome.isSome = true) (h : Q m' s) : wpAny M A (reDrive (2 ^ 64) m) Q E s := by
  have h2 : (2 ^ 64 : Nat) = (2 ^ 64 - 1) + 1 := by decide
  rw [h2]
  generalize 2 ^ 64 - 1 = k
  unfold reDrive
  dsimp only
  rw [e, if_pos ho]
  exact wpAny_pure h
theorem wpAny_marks {M : Model} {m : Sre.M} {Q : PUnit → Shared → Prop} (h : Q ⟨⟩ s) : wpAny M A (forIn (List.range Sre.names.size) PUnit.unit fun i (_ : PUnit) => do
    if m.seen.has i = true then rule (Sre.names.getD i "")
    pure (ForInStep.yield PUnit.unit)) Q E s := by
  refine wpAny_forIn_list _ (fun _ _ s' => s' = s) _ (fun x rest b s' hs => ?_) (fun b s' hs => by subst hs; exact h) _ _ rfl
  subst hs
  split
  · exact wpAny_bind (wpAny_rule (wpAny_pure rfl))
  · exact wpAny_pure rfl
theorem reRun_none {M : Model} {m : Sre.M} {Q : Option Sre.M → Shared → Prop} (h1 : m.answer = some false) (h2 : m.frames = []) (h3 : m.outcome = none) (h : Q none s) : wpAny M A (reRunToEnd m) Q E s := by
  unfold reRunToEnd
  have e1 : m.step = { m with outcome := some .failed } := by
    unfold Sre.M.step
    rw [h3, h1, h2]; rfl
  have e2 : m.runFor reTurnSteps = { m with outcome := some .failed } := by
    show m.runFor 4 = _
    unfold Sre.M.runFor
    rw [h3]
    rw [if_neg (by simp), e1]
    unfold Sre.M.runFor
    rfl
  refine wpAny_bind (wpAny_drive e2 rfl ?_)
  refine wpAny_bind (wpAny_marks ?_)
  exact wpAny_pure h
theorem attemptFrom_none (m : Sre.M) (hh : m.code.getD 2 0 = 4 ∧ m.code.getD 0 0 = 14) (hset : ∀ c' ∈ m.text.toList, ∀ s, fstOf (Sre.inSet m.code c' m.code.size 5 true s) = some false) (hlim : m.lim ≤ m.text.size)
    (h4 : m.frames = []) (h5 : m.outcome = none) : (m.attemptFrom 0 true).answer = some false ∧ (m.attemptFrom 0 true).frames = [] ∧ (m.attemptFrom 0 true).outcome = none := by
  unfold Sre.M.attemptFrom
  have hf : m.hasFirstSet = true := by
    unfold Sre.M.hasFirstSet
    rw [hh.1, hh.2]; rfl
  rw [hf]
  obtain ⟨s', e⟩ := admitted_none m hset hlim (m.lim + 1 - 0) 0 m.seen
  rw [if_neg (by simp), e]
  exact ⟨rfl, h4, h5⟩
theorem forSearch_none (code text : Array Nat) (groups lim : Nat) (hhead : code.getD 2 0 = 4 ∧ code.getD 0 0 = 14)
    (hset : ∀ c' ∈ text.toList, ∀ s, fstOf (Sre.inSet code c' code.size 5 true s) = some false) (hlim : lim ≤ text.size) :
    (Sre.forSearch code text groups 0 lim false).answer = some false ∧ (Sre.forSearch code text groups 0 lim false).frames = [] ∧ (Sre.forSearch code text groups 0 lim false).outcome = none := by
  unfold Sre.forSearch
  dsimp only
  split
  · exact ⟨rfl, rfl, rfl⟩
  · exact attemptFrom_none _ hhead hset hlim rfl rfl
theorem n_search {a c : Addr} {x : List Nat} {t : Tok} {p fl : Value} {items : Array Value} {n : Nat} {Q : Value → Shared → Prop} (X : Base w B) (S : St B O rs G s)
    (hobj : (KF w.params).lookup a = some { cls := .type "re.Pattern", data := .fields #[p, fl, .int 0 0, .none, .none, .ref c, .int 0 0] })
    (hcode : (KF w.params).lookup c = some { cls := .type "tuple", data := .seq items n })
    (hhead : (Sre.header (codeAt w.params c)).1 = 1 ∧ (codeAt w.params c).getD 2 0 = 4 ∧ (codeAt w.params c).getD 0 0 = 14)
    (hset : ∀ c', plainCh c' = true → ∀ s, fstOf (Sre.inSet (codeAt w.params c) c' (codeAt w.params c).size 5 true s) = some false) (hx : x.all plainCh = true) (h : Q .none s) :
    wpAny (model prog w) A (call (.builtin "re.Pattern.search") [.ref a, .str (T x) t]) Q E s := by
  have ho := S.base (X.k _ _ hobj)
  have hc := S.base (X.k _ _ hcode)
  have hcd : (items.map reRawOf).map (·.toNat) = codeAt w.params c := by unfold codeAt; rw [hcode]
  refine wpAny_call_entry slot_re_search ⟨_, ho, rfl⟩ entry_re_search ?_ (args_re_search _ _)
  show wpAny _ _ (reTarget "re.Pattern.search" "search" ⟨[.ref a, .str (T x) t], []⟩ >>= fun t => reAnswer t (Sre.forSearch t.code t.text t.groups t.pos t.lim false)) _ _ s
  unfold reTarget
  refine wpAny_bind ?_
  show wpAny _ _ (reNamed "re.Pattern.search" "search" ["string", "pos", "endpos"] 1 [.str (T x) t] [] >>= _) _ _ s
  rw [named_eq]
  refine wpAny_bind (wpAny_pure ?_)
  refine wpAny_bind (wpAny_pure ?_)
  refine wpAny_bind (wpAny_pure ?_)
  refine wpAny_bind (wpAny_fieldsOf ho rfl ?_)
  refine wpAny_bind (m := reTextOf (.str (T x) t)) ?_
  refine wpAny_of_eq (a := ((T x).cps, 0)) rfl ?_
  show wpAny _ _ (reRawItems (.ref c) >>= _) _ _ s
  unfold reRawItems
  refine wpAny_bind (wpAny_bind (wpAny_seqItems hc rfl (wpAny_pure ?_)))
  refine wpAny_pure ?_
  unfold reAnswer
  have hlim : min ((2 ^ 63 - 1 : Int)).toNat (T x).cps.size ≤ (T x).cps.size := Nat.min_le_right ..
  have hxs : ∀ c' ∈ (T x).cps.toList, ∀ s, fstOf (Sre.inSet (codeAt w.params c) c' (codeAt w.params c).size 5 true s) = some false := fun c' hc' => hset c' (List.all_eq_true.mp hx c' (by simpa [T] using hc'))
  have k := forSearch_none (codeAt w.params c) (T x).cps 0 _ hhead.2 hxs hlim
  dsimp only
  refine wpAny_bind (wpAny_mono (Q := fun r s' => r = none ∧ s' = s) (E := fun _ _ => False) ?_ (fun r s' q => ?_) fun _ _ z => z.elim)
  · have e : (items.map reRawOf).map (fun x => x.toNat) = codeAt w.params c := hcd
    show wpAny _ _ (reRunToEnd (Sre.forSearch ((items.map reRawOf).map (fun x => x.toNat)) (T x).cps 0 (min (0 : Int).toNat (T x).cps.size) (min ((2 ^ 63 - 1 : Int)).toNat (T x).cps.size) false)) _ _ s
    rw [e]
    have e0 : min ((0 : Int)).toNat (T x).cps.size = 0 := by simp
    rw [e0]
    exact reRun_none k.1 k.2.1 k.2.2 ⟨rfl, rfl⟩
  · obtain ⟨rfl, rfl⟩ := q
    exact wpAny_pure ⟨_, rfl, h⟩
end
-- M13
section
variable {prog : Program} {w : World} {A : Around} {E : Value → Shared → Prop} {B : Fix} {O : OsState} {rs rs' : List Res} {G : Array GenState} {s : Shared} {env : Env}
theorem n_typeStr {x : Str} {t : Tok} {Q : Value → Shared → Prop} (h : Q (.type "str") s) : wpAny (model prog w) A (call (.type "type") [.str x t]) Q E s := call_type_of (typeIs_str s x t) (by decide) h
theorem n_typeInt {x : Int} {t : Tok} {Q : Value → Shared → Prop} (h : Q (.type "int") s) : wpAny (model prog w) A (call (.type "type") [.int x t]) Q E s := call_type_of (typeIs_int s x t) (by decide) h
theorem n_typeList {l : Addr} {items : List Value} {Q : Value → Shared → Prop} (S : St B O rs G s) (hl : Lst B rs l items) (h : Q (.type "list") s) : wpAny (model prog w) A (call (.type "type") [.ref l]) Q E s := call_type_of (S.lst hl).typeIs (by decide) h
theorem n_isType {X : String} {Q : Value → Shared → Prop} (h : Q (.bool true) s) : wpAny (model prog w) A (compareOp .Is (.type X) (.type X)) Q E s := wpAny_is_self rfl h
theorem n_isNotType {X : String} {Q : Value → Shared → Prop} (h : Q (.bool false) s) : wpAny (model prog w) A (compareOp .IsNot (.type X) (.type X)) Q E s := wpAny_isNot_self rfl h
theorem n_methSearch48 {pl : Sem Bool} {Q : Value × List Value → Shared → Prop} (X : Base w B) (S : St B O rs G s) (h : Q (.builtin "re.Pattern.search", [.ref 48]) s) : wpAny (model prog w) A (getMethod (.ref 48) (Str.ofString "search") pl) Q E s := by
  have ho : (KF w.params).lookup 48 = some _ := rfl
  exact getMethod_builtin ⟨_, S.base (X.k _ _ ho), rfl⟩ plainAttrs_re slot_re_search type_re_search (fun a e => by cases e; exact ⟨_, S.base (X.k _ _ ho), rfl⟩) h
theorem n_methSearch53 {pl : Sem Bool} {Q : Value × List Value → Shared → Prop} (X : Base w B) (S : St B O rs G s) (h : Q (.builtin "re.Pattern.search", [.ref 53]) s) : wpAny (model prog w) A (getMethod (.ref 53) (Str.ofString "search") pl) Q E s := by
  have ho : (KF w.params).lookup 53 = some _ := rfl
  exact getMethod_builtin ⟨_, S.base (X.k _ _ ho), rfl⟩ plainAttrs_re slot_re_search type_re_search (fun a e => by cases e; exact ⟨_, S.base (X.k _ _ ho), rfl⟩) h
theorem n_search48 {x : List Nat} {t : Tok} {Q : Value → Shared → Prop} (X : Base w B) (S : St B O rs G s) (hx : x.all plainCh = true) (h : Q .none s) : wpAny (model prog w) A (call (.builtin "re.Pattern.search") [.ref 48, .str (T x) t]) Q E s :=
  n_search X S rfl rfl ⟨by kernel_rfl!, by kernel_rfl!, by kernel_rfl!⟩ (set47 _) hx h
theorem n_search53 {x : List Nat} {t : Tok} {Q : Value → Shared → Prop} (X : Base w B) (S : St B O rs G s) (hx : x.all plainCh = true) (h : Q .none s) : wpAny (model prog w) A (call (.builtin "re.Pattern.search") [.ref 53, .str (T x) t]) Q E s :=
  n_search X S rfl rfl ⟨by kernel_rfl!, by kernel_rfl!, by kernel_rfl!⟩ (set52 _) hx h
theorem n_methKw {o : Expr} {name : Str} {apos pos : Pos} {args : List Expr} {kws : List Keyword} {Q : Value → Shared → Prop}
    (h : wpAny (model prog w) A (eval o env) (fun ov s₁ => wpAny (model prog w) A (getMethod ov name (do return (← importBound o env).getD true)) (fun fx s₂ => wpAny (model prog w) A (callWith pos fx.1 fx.2 (backTo pos (starEach args env)) (backToKw pos (keywordEach kws env))) Q E s₂) E s₁) E s)
    (he : eval (.Call (.Attribute o name apos) args kws pos) env = (do
      let ov ← eval o env
      standAt apos.atName
      let (f, first) ← holding [ov] (getMethod ov name (do return (← importBound o env).getD true))
      callWith pos f first (backTo pos (starEach args env)) (backToKw pos (keywordEach kws env)))) : wpAny (model prog w) A (eval (.Call (.Attribute o name apos) args kws pos) env) Q E s := methodCall_KW h he
/-- a method of the text is called with names -/
theorem n_withKw {pos : Pos} {f : Addr} {first : List Value} {e : Expr} {rest : List Expr} {kws : List Keyword} {ns : List Str} {Q : Value → Shared → Prop} (X : Base w B) (hk : keepIn (KF w.params) (.ref f) = true)
    (hn : (backToKw pos (keywordEach kws env)).filterMap (·.1) = ns)
    (hall : (backToKw pos (keywordEach kws env)).all (·.1.isSome) = true)
    (h : wpAny (model prog w) A (spliced (backTo pos (starEach (e :: rest) env))) (fun vs s₁ => wpAny (model prog w) A (evalAll ((backToKw pos (keywordEach kws env)).map (·.2)))
      (fun ks s₂ => (∃ O rs G, St B O rs G s₂) ∧ wpAny (model prog w) A (call (.ref f) (first ++ vs) (ns.zip ks)) Q E s₂) E s₁) E s)
    (hplain : ((backTo pos (starEach (e :: rest) env)).any (·.1) || (backToKw pos (keywordEach kws env)).any (·.1.isNone)) = false) (he : starEach (e :: rest) env = (false, eval e env) :: starEach rest env) :
    wpAny (model prog w) A (callWith pos (.ref f) first (backTo pos (starEach (e :: rest) env)) (backToKw pos (keywordEach kws env))) Q E s := by
  subst hn
  exact callWith_KW (h₀ := (Classical.choose X)) (Classical.choose_spec X).1.k hk hall (wpAny_mono h (fun vs s₁ h => wpAny_mono h (fun ks s₂ q => ⟨let ⟨⟨_, _, _, S⟩, _⟩ := q; (X.at S.own.base).k, q.2⟩) fun _ _ z => z) fun _ _ z => z) hplain he
end
-- M14
section
variable {prog : Program} {w : World} {A : Around} {E : Value → Shared → Prop} {B : Fix} {O : OsState} {rs rs' : List Res} {G : Array GenState} {s : Shared} {env : Env}
/-- a call of a plain def of the text, as code -/
theorem r_callCode {R : Result → Shared → Prop} {a : Addr} {vs : List Value} {kw : List (Str × Value)} {body : List Stmt} {oc : Value} {od : Option Addr} {fd : FuncData} {osl : Array (Option Value)} (P : Value → Shared → Prop) (binds : List (Str × Value)) (ps rest : List Str) (l : List (Str × Option Value)) (X : Base w B) (S : St B O rs G s) (hA : A.depth < recursionLimit)
    (hps : binds.map (·.1) = ps) (hp : plainFd w.params a ps = true) (hlook : (KF w.params).lookup a = some ⟨oc, od, .func fd, osl⟩) (hbody : fd.body = .stmts body) (hbind : BindsAs w a vs kw binds) (hnd : (ps ++ rest).Nodup)
    (hl : (binds.map fun p => (p.1, some p.2)) ++ rest.map (fun x => (x, (none : Option Value))) = l) (hR : ∀ v s', P v s' → R (.ok (.ret v)) s')
    (h : ∀ s' L, St B O ((L, FrO l) :: rs) G s' → wpAny (model prog w) (A.deeper (envA w a L)) (execs body (envA w a L)) (Back P) NoE s') :
    codeAny (model prog w) A (.call (.ref a) ⟨vs, kw⟩) R s := by
  subst hps
  have hb : (fdOf w.params a).body = .stmts body := by unfold fdOf; rw [hlook]; exact hbody
  unfold plainFd at hp
  simp only [Bool.and_eq_true, Bool.not_eq_true', beq_iff_eq, List.all_eq_true, bne_iff_ne, ne_eq, List.mem_map, forall_exists_index, and_imp, forall_apply_eq_imp_iff₂] at hp
  obtain ⟨⟨⟨⟨⟨⟨⟨h1, h2⟩, h3⟩, h4⟩, h5⟩, h6⟩, h7⟩, h8⟩ := hp
  obtain ⟨o, ho, hd⟩ := fdOf_at X h1
  refine codeAny_call_def hA (S.base ho) hd (X.at S.own.base).lim (codeRec_of (X.at S.own.base).k h3) hb (hbind.to X S) h4 h8 (fun h₀ hns hk => ?_) h5 h6 h7
  subst hl
  have fl := frame_look hnd
  exact wpAny_mono (h { s with heap := h₀, toks := s.toks + binds.length } s.heap.objs.size (S.heapTok (S.own.pushFrame hns hk fl.1 fl.2))) (fun f s'' q => hR _ _ q) fun _ _ q => q.elim
noncomputable def InstO (C dx : Addr) : Obj → Prop := fun o => o = instObj C dx
noncomputable def DictO (es : List DictEntry) (n : Nat) : Obj → Prop := fun o => o = dictOf es n
noncomputable def hdEs (hl : Addr) (hash : Int) (tk : Tok) : List DictEntry := [⟨hash, .str (Str.ofString "_headers") tk, .ref hl⟩]
noncomputable def DHdO (hl : Addr) : Obj → Prop := fun o => ∃ hash tk n, o = dictOf (hdEs hl hash tk) n
/-- a Headers that stands, and its list -/
noncomputable def HdAt (B : Fix) (x hl : Addr) : Prop := ∃ dx hash tk n, B x = some (instObj 184 dx) ∧ B dx = some (dictOf (hdEs hl hash tk) n)
theorem HdAt.mono {B B' : Fix} {x hl : Addr} (h : HdAt B x hl) (l : Fix.le B B') : HdAt B' x hl := let ⟨dx, a, b, c, e1, e2⟩ := h; ⟨dx, a, b, c, l _ _ e1, l _ _ e2⟩
theorem n_methHd {x hl f : Addr} {name : Str} {pl : Sem Bool} {Q : Value × List Value → Shared → Prop} (X : Base w B) (S : St B O rs G s) (H : HdAt B x hl) (hg : plainGet (KF w.params) 184 name = true)
    (hf : findIn (KF w.params) (.ref 184) name = some (some (.ref f))) (ht : isFn (KF w.params) (.ref f) = true) (hn : (Str.ofString "_headers" == name) = false) (h : Q (.ref f, [.ref x]) s) : wpAny (model prog w) A (getMethod (.ref x) name pl) Q E s := by
  obtain ⟨dx, hash, tk, n, e1, e2⟩ := H
  have I : InstAt s.heap x (instObj 184 dx) 184 (some (dictOf (hdEs hl hash tk) n)) := ⟨S.base e1, rfl, rfl, S.base e2⟩
  refine method_fn (X.at S.own.base).k I (plainGet_of hg).1 (plainGet_of hg).2 hf (beq_iff_eq.mp ht) ?_ h
  show (lookIn name (dictOf (hdEs hl hash tk) n)).map _ = _
  rw [lookIn_dict]
  have hk : (Value.str (Str.ofString "_headers") tk).isStr name = false := hn
  simp only [getL, hdEs, List.find?_cons, hk, List.find?_nil]
  rfl
theorem n_getHd {x hl : Addr} {expr : Bool} {Q : Value → Shared → Prop} (X : Base w B) (S : St B O rs G s) (H : HdAt B x hl) (h : ∀ s', St B O rs G s' → Q (.ref hl) s') : wpAny (model prog w) A (getAttr (.ref x) (Str.ofString "_headers") expr) Q E s := by
  obtain ⟨dx, hash, tk, n, e1, e2⟩ := H
  have I : InstAt s.heap x (instObj 184 dx) 184 (some (dictOf (hdEs hl hash tk) n)) := ⟨S.base e1, rfl, rfl, S.base e2⟩
  have hg : plainGet (KF w.params) 184 (Str.ofString "_headers") = true := by kernel_rfl!
  refine get_value (X.at S.own.base).k I (plainGet_of hg).1 (findObj_own (attr := none) (by kernel_rfl!) (by kernel_rfl!) (by kernel_rfl!) (by
    rw [lookIn_dict]
    have hk : (Value.str (Str.ofString "_headers") tk).isStr (Str.ofString "_headers") = true := by show (Str.ofString "_headers" == Str.ofString "_headers") = true; simp
    simp only [getL, hdEs, List.find?_cons, hk])) rfl (h _ (S.tok _))
theorem n_setHd {x hl dx : Addr} {Q : Unit → Shared → Prop} (X : Base w B) (S : St B O rs G s) (hx : (x, InstO 184 dx) ∈ rs) (u : Upd1 dx (DictO [] 0) (DHdO hl) rs rs') (h : ∀ s', St B O rs' G s' → Q () s') :
    wpAny (model prog w) A (setAttr (.ref x) (Str.ofString "_headers") (.ref hl)) Q E s := by
  obtain ⟨hp0, g0, d0, t0, os0⟩ := s
  obtain ⟨_, hox, rfl⟩ := S.get hx
  replace hox : hp0.get? x = some (instObj 184 dx) := hox
  obtain ⟨_, hod, rfl⟩ := S.get u.mem
  replace hod : hp0.get? dx = some (dictOf [] 0) := hod
  have I : InstAt hp0 x (instObj 184 dx) 184 (some (dictOf [] 0)) := ⟨hox, rfl, rfl, hod⟩
  have XK : (KF w.params).In hp0 := (X.at S.own.base).k
  refine set_plain XK I (by kernel_rfl!) ?_
  refine osa_open (s := ⟨hp0, g0, d0, t0 + 1, os0⟩) XK I (by kernel_rfl!) (r := none) (by kernel_rfl!) fun b => ?_
  have hh : (clsIn (KF w.params) 184).any (·.hasDict) = true := by kernel_rfl!
  obtain ⟨cd, hc, hd'⟩ := any_some hh
  refine wpAny_bind (wpAny_pure (wpAny_bind (wpAny_bind (wpAny_loadPart hox (wpAny_bind ((looks_clsIn XK hc).here ?_))))))
  rw [hd']
  refine wpAny_pure (a := some dx) (wpAny_bind (wpAny_pure (wpAny_bind ?_)))
  unfold nsSet
  refine wpAny_bind (wpAny_bind (wpAny_askSetting (wpAny_pure (wpAny_bind (wpAny_mkText (wpAny_bind (wpAny_loadPart hod ?_)))))))
  dsimp only
  refine wpAny_updatePart hod ?_
  have e := putName_dict (Str.ofString "_headers") (PyData.keyHash w.params (Str.ofString "_headers")) (.str (Str.ofString "_headers") (t0 + 1)) (.ref hl) [] 0
  have D' : (hp0.update dx (Obj.putName (Str.ofString "_headers") (PyData.keyHash w.params (Str.ofString "_headers")) (.str (Str.ofString "_headers") (t0 + 1)) (.ref hl))).get? dx = some (dictOf (hdEs hl (PyData.keyHash w.params (Str.ofString "_headers")) (t0 + 1)) 1) := by
    have := Heap.get?_update_self (h := hp0) (Obj.putName (Str.ofString "_headers") (PyData.keyHash w.params (Str.ofString "_headers")) (.str (Str.ofString "_headers") (t0 + 1)) (.ref hl)) hod (by rw [e]; rfl)
    rw [this, e]; rfl
  refine wpAny_bind (wpAny_lookBehind D' (pastItsLine_dict (by show 1 ≤ sizeLine + 1; omega)) ?_)
  refine wpAny_pure (h _ (S.heapTok (t := t0 + 1 + 1) (S.own.upd u (Heap.SameBut.update ..) ⟨_, D', _, _, _, rfl⟩)))
theorem n_debug {pos : Pos} {Q : Value → Shared → Prop} (h : Q (.bool true) s) : wpAny (model prog w) A (eval (.Name (Str.ofString "__debug__") pos) env) Q E s := by
  have e : eval (.Name (Str.ofString "__debug__") pos) env = (do standAt pos; debugConstant) := by
    show (do standAt pos; if (Str.ofString "__debug__" == ("__debug__" : Str)) = true then debugConstant else loadName env (Str.ofString "__debug__")) = _
    rw [if_pos (by kernel_rfl!)]
  rw [e]
  exact wpAny_bind (wpAny_standAt (wpAny_bind (wpAny_rule (wpAny_pure h))))
theorem gm_conv {x hl : Addr} {pl : Sem Bool} {Q : Value × List Value → Shared → Prop} (X : Base w B) (S : St B O rs G s) (H : HdAt B x hl) (h : Q (.ref 83, [.ref x]) s) : wpAny (model prog w) A (getMethod (.ref x) (Str.ofString "_convert_string_type") pl) Q E s :=
  n_methHd X S H (by kernel_rfl!) (by kernel_rfl!) (by kernel_rfl!) (by kernel_rfl!) h
theorem gm_get {x hl : Addr} {pl : Sem Bool} {Q : Value × List Value → Shared → Prop} (X : Base w B) (S : St B O rs G s) (H : HdAt B x hl) (h : Q (.ref 131, [.ref x]) s) : wpAny (model prog w) A (getMethod (.ref x) (Str.ofString "get") pl) Q E s :=
  n_methHd X S H (by kernel_rfl!) (by kernel_rfl!) (by kernel_rfl!) (by kernel_rfl!) h
theorem gm_keys {x hl : Addr} {pl : Sem Bool} {Q : Value × List Value → Shared → Prop} (X : Base w B) (S : St B O rs G s) (H : HdAt B x hl) (h : Q (.ref 136, [.ref x]) s) : wpAny (model prog w) A (getMethod (.ref x) (Str.ofString "keys") pl) Q E s :=
  n_methHd X S H (by kernel_rfl!) (by kernel_rfl!) (by kernel_rfl!) (by kernel_rfl!) h
theorem gm_setdefault {x hl : Addr} {pl : Sem Bool} {Q : Value × List Value → Shared → Prop} (X : Base w B) (S : St B O rs G s) (H : HdAt B x hl) (h : Q (.ref 174, [.ref x]) s) : wpAny (model prog w) A (getMethod (.ref x) (Str.ofString "setdefault") pl) Q E s :=
  n_methHd X S H (by kernel_rfl!) (by kernel_rfl!) (by kernel_rfl!) (by kernel_rfl!) h
theorem gm_addh {x hl : Addr} {pl : Sem Bool} {Q : Value × List Value → Shared → Prop} (X : Base w B) (S : St B O rs G s) (H : HdAt B x hl) (h : Q (.ref 181, [.ref x]) s) : wpAny (model prog w) A (getMethod (.ref x) (Str.ofString "add_header") pl) Q E s :=
  n_methHd X S H (by kernel_rfl!) (by kernel_rfl!) (by kernel_rfl!) (by kernel_rfl!) h
theorem n_isAll {l : List (Sem Value)} {Q : List Value → Shared → Prop} (h : wpAny (model prog w) A (evalAll l) Q E s) : wpAny (model prog w) A (evalAll l) Q E s := h
theorem n_isGetAttr {v : Value} {name : Str} {b : Bool} {Q : Value → Shared → Prop} (h : wpAny (model prog w) A (getAttr v name b) Q E s) : wpAny (model prog w) A (getAttr v name b) Q E s := h
end
-- M15
noncomputable def ViewO (d : Addr) : Obj → Prop := fun o => o = { cls := .type "dict_items", data := .fields #[.ref d] }
noncomputable def ItemItO (d : Addr) : Obj → Prop := fun o => o = { cls := .type "dict_itemiterator", dict := none, data := .fields #[.none, .bool false, .ref d, .int 0 0, .int (0 : Nat) 0, .int (0 : Nat) 0, .none, .none], slots := #[] }
theorem entry_itit : entryFor table "dict_itemiterator.__iter__" = some Builtin.«dict_keyiterator.__iter__» := entryFor_alias (id' := "dict_keyiterator.__iter__") (by kernel_rfl) rfl (by decide +kernel) (by kernel_rfl)
theorem args_itit (a : Value) : argsOk "dict_itemiterator.__iter__" ⟨[a], []⟩ := by
  unfold argsOk; rw [signature?_of (id := "dict_itemiterator.__iter__") (n := ['_', '_', 'r', 'e', 't', 'i', '_', '_']) (o := ['r', 'o', 't', 'a', 'r', 'e', 't', 'i', 'm', 'e', 't', 'i', '_', 't', 'c', 'i', 'd']) (by kernel_rfl) PySem.F.owner_dict_itemiterator]; kernel_rfl
section
variable {prog : Program} {w : World} {A : Around} {E : Value → Shared → Prop} {B : Fix} {O : OsState} {rs rs' : List Res} {G : Array GenState} {s : Shared} {env : Env}
/-- a call of a def with a dict for the names that are left -/
theorem r_callD {a : Addr} {vs : List Value} {kw : List (Str × Value)} {body : List Stmt} {oc : Value} {od : Option Addr} {fd : FuncData} {osl : Array (Option Value)} {P : Value → Shared → Prop} (binds : Addr → List (Str × Value)) (ps rest : List Str) (l : Addr → List (Str × Option Value)) (X : Base w B) (S : St B O rs G s) (hA : A.depth < recursionLimit)
    (hps : ∀ d, (binds d).map (·.1) = ps) (hp : plainFd w.params a ps = true) (hlook : (KF w.params).lookup a = some ⟨oc, od, .func fd, osl⟩) (hbody : fd.body = .stmts body)
    (hbind : bindArgs (fdOf w.params a) ⟨vs, kw⟩ = (alloc { cls := .type "dict", data := .dict #[] } >>= fun d => pure (binds d))) (hnd : (ps ++ rest).Nodup)
    (hl : ∀ d, ((binds d).map fun p => (p.1, some p.2)) ++ rest.map (fun x => (x, (none : Option Value))) = l d)
    (h : ∀ s' L d, (d == sysModules) = false → St B O ((L, FrO (l d)) :: (d, DictO [] 0) :: rs) G s' → wpAny (model prog w) (A.deeper (envA w a L)) (execs body (envA w a L)) (Back P) NoE s') :
    wpAny (model prog w) A (call (.ref a) vs kw) P NoE s := by
  have hb : (fdOf w.params a).body = .stmts body := by unfold fdOf; rw [hlook]; exact hbody
  unfold plainFd at hp
  simp only [Bool.and_eq_true, Bool.not_eq_true', beq_iff_eq, List.all_eq_true, bne_iff_ne, ne_eq] at hp
  obtain ⟨⟨⟨⟨⟨⟨⟨h1, h2⟩, h3⟩, h4⟩, h5⟩, h6⟩, h7⟩, h8⟩ := hp
  obtain ⟨o, ho, hd⟩ := fdOf_at X h1
  refine wpAny_call (codeAny_call_function hA (S.base ho) hd h5 h6 hb (codeRec_of (X.at S.own.base).k h3) ?_)
  rw [hbind]
  refine wpAny_bind (wpAny_alloc (wpAny_pure ?_))
  have hd1 : (s.heap.objs.size == sysModules) = false := by
    have ha : a < s.heap.objs.size := Heap.lt_size (S.base ho)
    have h184 : (184 : Nat) < s.heap.objs.size := Heap.lt_size (S.base (X.k 184 _ rfl))
    rw [beq_eq_false_iff_ne]
    show s.heap.objs.size ≠ 1
    omega
  have S1 : St B O ((s.heap.objs.size, DictO [] 0) :: rs) G { s with heap := s.heap.push { cls := .type "dict", data := .dict #[] } } := S.newObj rfl rfl
  generalize s.heap.objs.size = d at S1 hd1 ⊢
  generalize ({ s with heap := _ } : Shared) = s1 at S1 ⊢
  refine wpAny_newFunctionEnv h4 (fun x hx => h8 x.1 (by rw [← hps d]; exact List.mem_map_of_mem hx)) (fun h₀ hns hsb => ⟨(X.at S1.own.base).lim.fresh _ hsb, codeAny_func ?_⟩) h7
  have hk : ∀ b o, s1.heap.get? b = some o → h₀.get? b = some o := fun b o e => hsb.extBut b o (Nat.ne_of_lt (Heap.lt_size e)) (Heap.get?_push_of_some _ e)
  have fl := frame_look (b := binds d) (rest := rest) (by rw [hps]; exact hnd)
  rw [hl] at fl
  exact anyE (wpAny_mono (h { s1 with heap := h₀, toks := s1.toks + (binds d).length } s1.heap.objs.size d hd1 (S1.heapTok (S1.own.pushFrame hns hk fl.1 fl.2))) (fun f s'' q => q) fun _ _ q => q)
theorem St.emptyAt {d : Addr} (S : St B O rs G s) (h : (d, DictO [] 0) ∈ rs) : s.heap.DictAt (PySem.strKind prog w) d [] 0 := by
  obtain ⟨_, ho, rfl⟩ := S.get h
  exact ⟨_, #[], ho, ⟨rfl, rfl, rfl⟩, rfl, fun e he => by simp at he, by exact .nil, .nil⟩
theorem n_methItems {d : Addr} {pl : Sem Bool} {Q : Value × List Value → Shared → Prop} (S : St B O rs G s) (hm : (d, DictO [] 0) ∈ rs) (h : Q (.builtin "dict.items", [.ref d]) s) : wpAny (model prog w) A (getMethod (.ref d) (Str.ofString "items") pl) Q E s := by
  obtain ⟨_, ho, rfl⟩ := S.get hm
  exact getMethod_builtin ⟨_, ho, rfl⟩ PySem.F.plainAttrs_dict PySem.F.slot_dict_items PySem.F.type_dict_items (fun a e => by cases e; exact ⟨_, ho, rfl⟩) h
theorem n_items {d : Addr} {Q : Value → Shared → Prop} (S : St B O rs G s) (hm : (d, DictO [] 0) ∈ rs) (hd : (d == sysModules) = false) (h : ∀ v s', St B O ((v, ViewO d) :: rs) G s' → Q (.ref v) s') : wpAny (model prog w) A (call (.builtin "dict.items") [.ref d]) Q E s := by
  have hD := S.emptyAt (prog := prog) (w := w) hm
  have hO : s.heap.DictOf (PySem.strKind prog w) d [] := let ⟨o, es, a, b, c, e⟩ := hD; ⟨o, es, 0, a, b, c, e⟩
  exact call_meetsIn PySem.F.slot_dict_items hO.typeIs PySem.F.entry_dict_items (PySem.F.args_dict_items_1 _) (meets_dict_items (PySem.strKind prog w) d hd) ⟨⟨[], hO⟩, h _ _ (S.newObj rfl rfl)⟩
theorem n_iterItems {v d : Addr} {Q : Value → Shared → Prop} (S : St B O rs G s) (hv : (v, ViewO d) ∈ rs) (hm : (d, DictO [] 0) ∈ rs) (h : ∀ it s', St B O ((it, ItemItO d) :: rs) G s' → Q (.ref it) s') : wpAny (model prog w) A (pyIter (.ref v)) Q E s := by
  obtain ⟨_, ho, rfl⟩ := S.get hv
  exact wpAny_pyIter_items ⟨_, ho, rfl, rfl⟩ (S.emptyAt (prog := prog) (w := w) hm) (h _ _ (S.newObj rfl rfl))
theorem PSrc.items (G₀ : Array GenState) (hh : A.handled = none) (it d : Addr) : PSrc prog w A it 0 (fun _ ri G => ri = [(it, ItemItO d)] ∧ G₀ = G) (fun _ _ _ => False) (fun _ rs => (d, DictO [] 0) ∈ rs) (fun G => G₀ = G) where
  next := fun _ _ _ _ hk => absurd hk (Nat.not_lt_zero _)
  stop := fun {B O rs G s ri Q E} X hH hn S h => by
    obtain ⟨rfl, rfl⟩ := hH
    obtain ⟨_, ho, rfl⟩ := S.get (List.mem_cons_self (a := ((it, ItemItO d) : Res)))
    exact wpAny_pyNext_items_end (i := 0) (kvs := []) hh ho (S.emptyAt (prog := prog) (w := w) (List.mem_append.mpr (.inr hn))) rfl fun h' hs => h _ _ rfl (S.ext .head hs)
  self := fun {B O rs G s k ri Q E} hH hn S h => by
    obtain ⟨rfl, rfl⟩ := hH
    obtain ⟨_, ho, rfl⟩ := S.get (List.mem_cons_self (a := ((it, ItemItO d) : Res)))
    exact wpAny_pyIter_slot (s := s) ⟨_, ho, rfl⟩ F.slot_dict_itemiterator_iter (wpAny_call_entry F.slot_dict_itemiterator_iter ⟨_, ho, rfl⟩ entry_itit (by
      show wpAny _ _ (ret (.ref it)) _ _ s
      exact wpAny_pure ⟨_, rfl, "dict_itemiterator", _, ⟨_, ho, rfl⟩, F.slot_dict_itemiterator_next.lookup, h⟩) (args_itit _))
theorem n_join1 {D : Addr} {t : Tok} {v : Value} {x : List Nat} {sep : Str} {Q : Value → Shared → Prop} (S : St B O rs G s) (hl : Lst B rs D [v]) (hv : StrV v (T x)) (hsep : sep.length ≤ 1000) (hsz : x.length ≤ 100000)
    (h : ∀ s' k, St B O rs G s' → Q (.str (T x) k) s') : wpAny (model prog w) A (call (.builtin "str.join") [.str sep t, .ref D]) Q E s := by
  obtain ⟨tv, rfl⟩ := hv
  have e : Txt.join sep [T x] = T x := (StrLaws.glued_eq_join _ _).trans (by simp [Str.join])
  refine SC.join (l := [(T x, tv)]) (texts := [T x]) (S.lst hl) rfl ?_ fun t' k => by rw [e]; exact h _ _ (S.tok _)
  unfold JoinOk
  rw [StrLaws.joinTotal]
  unfold Builtin.Str.tooLong
  rw [sizeLine_eq]
  have : (T x).length = x.length := T_len x
  simp [this]; omega
end
-- M16
section
variable {prog : Program} {w : World} {A : Around} {E : Value → Shared → Prop} {B : Fix} {O : OsState} {rs rs' : List Res} {G : Array GenState} {s : Shared} {env : Env}
theorem IsL.seqs {h : Heap} {l : Addr} {items : Array Value} {n : Nat} (x : IsL h l items n) : h.IsList l items := ⟨_, x, rfl, n, rfl⟩
/-- the whole of a list is put in another's place -/
theorem n_setSliceAll {l v sl : Addr} {xs ys : List Value} {Q : Unit → Shared → Prop} (S : St B O ((sl, SliceO .none .none .none) :: rs) G s) (hv : Lst B rs v ys) (u : Upd1 l (ListO xs) (ListO ys) rs rs') (hne : l ≠ v) (hx : xs.length ≤ 100000) (hy : ys.length ≤ 100000)
    (h : ∀ s', St B O rs' G s' → Q () s') : wpAny (model prog w) A (setItem (.ref l) (.ref sl) (.ref v)) Q E s := by
  obtain ⟨_, hos, rfl⟩ := S.get (List.mem_cons_self (a := ((sl, SliceO .none .none .none) : Res)))
  have S1 := S.drop
  obtain ⟨_, ho, n, rfl⟩ := S1.get u.mem
  obtain ⟨n2, ho2⟩ := S1.isL hv
  have hl : s.heap.IsList l xs.toArray := ⟨_, ho, rfl, n, rfl⟩
  have hl2 : s.heap.IsList v ys.toArray := ⟨_, ho2, rfl, n2, rfl⟩
  have hTs : s.TypeIs (.ref sl) "slice" := ⟨_, hos, rfl⟩
  unfold setItem
  refine wpAny_holding ?_
  refine wpAny_bind (wpAny_sequenceKey hl.typeIs (by decide) ?_)
  refine wpAny_bind (wpAny_callSpecial?_slot (name := Str.ofString "__setitem__") hl.typeIs slot_list_setitem
    (wpAny_call_entry slot_list_setitem hl.typeIs entry_list_setitem ?_ (args_list_setitem _ _ _)))
  show wpAny _ _ (Builtin.List.listSubscript? (.ref sl) >>= _) _ _ s
  refine wpAny_bind ?_
  unfold Builtin.List.listSubscript?
  refine wpAny_bind (wpAny_specialOf hTs slice_no_index ?_)
  simp only [Option.isNone_none, if_true]
  refine wpAny_pure ?_
  show wpAny _ _ (typeOf (.ref sl) >>= _) _ _ s
  refine wpAny_bind (wpAny_typeOf hTs ?_)
  rw [if_neg (by decide)]
  rw [listSliceParts_eq]
  refine wpAny_bind (wpAny_bind (wpAny_field hos rfl (x := .none) rfl (wpAny_bind (wpAny_listPart .none ?_))))
  rw [if_neg (by decide)]
  refine wpAny_bind (wpAny_field hos rfl (x := .none) rfl (wpAny_bind (wpAny_listPart .none ?_)))
  refine wpAny_bind (wpAny_field hos rfl (x := .none) rfl (wpAny_bind (wpAny_listPart .none (wpAny_pure ?_))))
  have hsame : Builtin.List.listSameRef (.ref l) (.ref v) = false := by show (l == v) = false; rw [beq_eq_false_iff_ne]; exact hne
  dsimp only
  rw [hsame]
  show wpAny _ _ (Builtin.List.listAllItems (.ref v) "must assign iterable to extended slice" >>= _) _ _ s
  refine wpAny_bind ?_
  unfold Builtin.List.listAllItems
  refine wpAny_bind (wpAny_typeOf hl2.typeIs ?_)
  rw [if_pos (by decide)]
  have items : ∀ {a : Addr} {it : Array Value} {m : Nat} {A : Around} {Q : Array Value → Shared → Prop} {E : Value → Shared → Prop}, IsL s.heap a it m → Q it s → wpAny (model prog w) A (Builtin.List.listItems (.ref a)) Q E s := fun ha q => by
    unfold Builtin.List.listItems
    exact wpAny_bind (wpAny_seqItems ha rfl (wpAny_pure q))
  refine wpAny_bind (wpAny_seqItems ho2 rfl (wpAny_pure ?_))
  refine wpAny_bind (items ho ?_)
  refine wpAny_bind (wpAny_of_eq (sliceIndices_raw none none none xs.toArray.size (by simp)) ?_)
  have hb : sliceBounds none none none xs.toArray.size = (0, (xs.toArray.size : Int), 1) := by rw [sliceBounds_plain]; rfl
  rw [hb]
  dsimp only
  rw [if_pos (by decide)]
  refine wpAny_bind (wpAny_rule ?_)
  have ht : Builtin.List.listTooLong (xs.toArray.size + ys.toArray.size) = false := by
    unfold Builtin.List.listTooLong; rw [sizeLine_eq]; simp; omega
  rw [ht]
  refine wpAny_bind ?_
  show wpAny _ _ (updateSeq l _) _ _ s
  have he : (xs.toArray.extract 0 (0 : Int).toNat ++ ys.toArray ++ xs.toArray.extract (max (0 : Int) (xs.toArray.size : Int)).toNat xs.toArray.size) = ys.toArray := by
    have : (max (0 : Int) (xs.toArray.size : Int)).toNat = xs.toArray.size := by simp
    rw [this]; simp
  refine wpAny_updateSeq ho rfl ?_ (by rw [sizeLine_eq]; simp; omega) (by rw [he, sizeLine_eq]; simp; omega)
  refine wpAny_bind (wpAny_letGo (wpAny_pure ⟨.none, rfl, wpAny_pure (h _ (S1.upd u (Heap.SameBut.update ..) ⟨_, IsL.update ho _, ?_⟩))⟩))
  exact ⟨_, by rw [he]⟩
theorem n_delItemHd {x hl : Addr} {i : Value} {Q : Unit → Shared → Prop} (X : Base w B) (S : St B O rs G s) (H : HdAt B x hl)
    (h : wpAny (model prog w) A (call (.ref 102) [.ref x, i]) (fun _ s' => Q () s') E s) : wpAny (model prog w) A (delItem (.ref x) i) Q E s := by
  obtain ⟨dx, hash, tk, n, e1, e2⟩ := H
  have I : InstAt s.heap x (instObj 184 dx) 184 (some (dictOf (hdEs hl hash tk) n)) := ⟨S.base e1, rfl, rfl, S.base e2⟩
  have XK := (X.at S.own.base).k
  have hq : noSeq (KF w.params) 184 = true := by kernel_rfl!
  have hs : findIn (KF w.params) (.ref 184) "__delitem__" = some (some (.ref 102)) := by kernel_rfl!
  have hf : isFn (KF w.params) (.ref 102) = true := by kernel_rfl!
  unfold delItem sequenceKey
  refine wpAny_holding (wpAny_bind (wpAny_bind (I.type.here ?_)))
  refine wpAny_bind ((anyM_none XK hq).here ?_)
  rw [if_pos (show (!false) = true from rfl)]
  exact wpAny_pure (wpAny_bind (special_fn XK I hs (beq_iff_eq.mp hf) (wpAny_mono h (fun _ _ z => wpAny_pure z) fun _ _ z => z)))
theorem n_setItemHd {x hl : Addr} {i v : Value} {Q : Unit → Shared → Prop} (X : Base w B) (S : St B O rs G s) (H : HdAt B x hl)
    (h : wpAny (model prog w) A (call (.ref 97) [.ref x, i, v]) (fun _ s' => Q () s') E s) : wpAny (model prog w) A (setItem (.ref x) i v) Q E s := by
  obtain ⟨dx, hash, tk, n, e1, e2⟩ := H
  have I : InstAt s.heap x (instObj 184 dx) 184 (some (dictOf (hdEs hl hash tk) n)) := ⟨S.base e1, rfl, rfl, S.base e2⟩
  have XK := (X.at S.own.base).k
  have hq : noSeq (KF w.params) 184 = true := by kernel_rfl!
  have hs : findIn (KF w.params) (.ref 184) "__setitem__" = some (some (.ref 97)) := by kernel_rfl!
  have hf : isFn (KF w.params) (.ref 97) = true := by kernel_rfl!
  unfold setItem sequenceKey
  refine wpAny_holding (wpAny_bind (wpAny_bind (I.type.here ?_)))
  refine wpAny_bind ((anyM_none XK hq).here ?_)
  rw [if_pos (show (!false) = true from rfl)]
  exact wpAny_pure (wpAny_bind (special_fn XK I hs (beq_iff_eq.mp hf) (wpAny_mono h (fun _ _ z => wpAny_pure z) fun _ _ z => z)))
theorem n_delSub {o i : Expr} {p pos : Pos} {Q : Flow → Shared → Prop} (h : wpAny (model prog w) A (eval o env) (fun ov s₁ => wpAny (model prog w) A (eval i env) (fun iv s₂ => wpAny (model prog w) A (delItem ov iv) (fun _ s₃ => Q .next s₃) E s₂) E s₁) E s) :
    wpAny (model prog w) A (exec (.Delete [.Subscript o i p] pos) env) Q E s := by
  refine wpAny_Delete (wpAny_deleteEach_cons ?_)
  rw [arm_delete_Subscript]
  refine wpAny_bind (wpAny_mono h (fun ov s₁ h₁ => ?_) fun _ _ z => z)
  refine wpAny_bind (wpAny_holding (wpAny_mono h₁ (fun iv s₂ h₂ => ?_) fun _ _ z => z))
  refine wpAny_bind (wpAny_standAt (wpAny_bind (wpAny_holding (wpAny_mono h₂ (fun _ s₃ h₃ => ?_) fun _ _ z => z))))
  exact fun Γ p hΓ => by rw [Sem.wp_release]; exact wpAny_deleteEach_nil (Q := fun _ s => Q .next s) h₃
end
-- M17
section
variable {prog : Program} {w : World} {A : Around} {E : Value → Shared → Prop} {B : Fix} {O : OsState} {rs rs' : List Res} {G : Array GenState} {s : Shared} {env : Env}
theorem n_while {test : Expr} {body : List Stmt} {pos : Pos} {Q : Flow → Shared → Prop} (I : Nat → Shared → Prop)
    (turn : ∀ n s, I n s → wpAny (model prog w) A (isTrue test env (eval test env)) (fun b s₂ => Br b (wpAny (model prog w) A (execs body env) (fun f s₃ => match f with
            | .next | .cont => ∃ m, m < n ∧ I m s₃
            | .brk => Q .next s₃
            | .ret v => Q (.ret v) s₃) NoE s₂) (Q .next s₂)) NoE s) (n : Nat) (h : I n s) : wpAny (model prog w) A (exec (.While test body [] pos) env) Q NoE s := by
  refine wpAny_While (codeAny_whileLoop I (fun n s hI => ?_) n h)
  refine anyE (wpAny_mono (turn n s hI) (fun b s₂ q => ?_) fun _ _ z => z)
  cases b with
  | true =>
    show if true = true then _ else _
    rw [if_pos rfl]
    refine anyE (wpAny_mono (q.1 rfl) (fun f s₃ h => ?_) fun _ _ z => z)
    cases f <;> exact h
  | false => exact wpAny_execs_nil (q.2 rfl)
/-- a while without a break: what it leaves -/
theorem n_whileTo {test : Expr} {body : List Stmt} {pos : Pos} {Q : Flow → Shared → Prop} (I : Nat → Shared → Prop) (R : Shared → Prop)
    (turn : ∀ n (K : Flow → Shared → Prop) (K0 : Shared → Prop), (∀ s₃, (∃ m, m < n ∧ I m s₃) → K .next s₃) → (∀ s₃, R s₃ → K0 s₃) → ∀ s, I n s → wpAny (model prog w) A (isTrue test env (eval test env)) (fun b s₂ => Br b (wpAny (model prog w) A (execs body env) K NoE s₂) (K0 s₂)) NoE s) (n : Nat) (h : I n s) (cont : ∀ s, R s → Q .next s) :
    wpAny (model prog w) A (exec (.While test body [] pos) env) Q NoE s := by
  refine wpAny_mono (n_while (Q := fun f s => f = .next ∧ R s) I (fun n s hI => wpAny_mono (turn n (fun f s₃ => f = .next ∧ ∃ m, m < n ∧ I m s₃) R (fun _ x => ⟨rfl, x⟩) (fun _ x => x) s hI) (fun b s₂ q => ?_) fun _ _ z => z) n h) (fun f s' q => by rw [q.1]; exact cont _ q.2) fun _ _ z => z
  refine ⟨fun e => wpAny_mono (q.1 e) (fun f s₃ q => ?_) fun _ _ z => z, fun e => ⟨rfl, q.2 e⟩⟩
  rw [q.1]; exact q.2
theorem n_augName {x : Str} {p pos : Pos} {op : Operator} {value : Expr} {v : Value} {l : List (Str × Option Value)} {Q : Flow → Shared → Prop} (S : St B O rs G s) (hm : (env.locals, FrO l) ∈ rs) (hv : (x, some v) ∈ l) (hk : env.scope.kind = .function) (hl : env.kindOf x = some .local)
    (h : wpAny (model prog w) A (eval value env) (fun u s₂ => wpAny (model prog w) A (inplaceOp op v u) (fun r s₃ => wpAny (model prog w) A (storeName env x r) (fun _ => Q .next) E s₃) E s₂) E s) :
    wpAny (model prog w) A (exec (.AugAssign (.Name x p) op value pos) env) Q E s := wpAny_AugAssign_Name (r_loadName S hm hv h hk hl)
theorem n_truthyT {x : List Nat} {t : Tok} {Q : Bool → Shared → Prop} (hsz : x.length ≤ 100000) (S : St B O rs G s) (h : ∀ s', St B O rs G s' → Q (!x.isEmpty) s') : wpAny (model prog w) A (truthy (.str (T x) t)) Q E s :=
  n_truthyStr (by rw [T_len]; omega) S fun s' S' => by
    have e : (((T x).length : Int) != 0) = !x.isEmpty := by
      rw [T_len]; cases x with
      | nil => rfl
      | cons a r => simp [bne]; omega
    rw [e]; exact h s' S'
theorem n_orNone {e e2 : Expr} {pos : Pos} {Q : Value → Shared → Prop} (h2 : ∀ (Q : Value → Shared → Prop) s, Q .none s → wpAny (model prog w) A (eval e2 env) Q E s)
    (h : wpAny (model prog w) A (eval e env) (fun v s₁ => ∃ i t B O rs G, v = .int i t ∧ St B O rs G s₁ ∧ ∀ (o : Option (Int × Tok)) s', o.map (·.1) = (if i = 0 then none else some i) → St B O rs G s' → Q (partValue o) s') E s) :
    wpAny (model prog w) A (eval (.BoolOp .Or [e, e2] pos) env) Q E s := by
  refine n_or (wpAny_mono h (fun v s₁ q => ?_) fun _ _ z => z)
  obtain ⟨i, t, B, O, rs, G, rfl, S, k⟩ := q
  refine P.truthy_int ?_
  refine .both (fun hi => ?_) (fun hi => ?_)
  · have hi : i ≠ 0 := by simpa using hi
    exact k (some (i, t)) _ (by rw [if_neg hi]; rfl) S
  · have hi : i = 0 := by simpa using hi
    exact h2 _ _ (k none _ (by rw [if_pos hi]; rfl) S)
theorem cut_negOr {α : Type} (x : List α) (k : Nat) (o : Option Int) (h : o = if (-(k : Int)) = 0 then none else some (-(k : Int))) : cut x none o = x.take (x.length - k) := by
  subst h
  split
  · rename_i e
    have : k = 0 := by omega
    subst this
    rw [cut_all]; simp
  · rename_i e
    exact cut_neg x k (by omega)
/-- two names change places -/
theorem n_swap {ts : List Expr} {x1} {p1 pos : Pos} {value : Expr} {x y : Str} {Q : Flow → Shared → Prop} (hs : swapsWithSole [.Tuple ts x1 p1] value pos.line env = pure false) (hw : swappedStores [.Tuple ts x1 p1] value env = pure (some [x, y]))
    (h : wpAny (model prog w) A (eval value env) (fun v s₁ => ∃ t v1 v2 h', v = .ref t ∧ A.handled = none ∧ s₁.heap.IsTuple t #[v1, v2] ∧ True ∧ h' = s₁.heap ∧
      ∀ h', Heap.ExtBut s₁.heap.objs.size s₁.heap h' → wpAny (model prog w) A (storeName env y v2) (fun _ s₂ => wpAny (model prog w) A (storeName env x v1) (fun _ => Q .next) E s₂) E { s₁ with heap := h' }) E s) :
    wpAny (model prog w) A (exec (.Assign [.Tuple ts x1 p1] value pos) env) Q E s := by
  rw [exec_Assign_arm]
  refine wpAny_bind (wpAny_standAt ?_)
  rw [hs]
  refine wpAny_bind (wpAny_pure ?_)
  rw [if_neg (by decide)]
  refine wpAny_bind (wpAny_mono h (fun v s₁ h₁ => ?_) fun _ _ x => x)
  rw [hw]
  refine wpAny_bind (wpAny_pure ?_)
  obtain ⟨t, v1, v2, _, rfl, hh, ht, _, _, h₂⟩ := h₁
  unfold assignStores
  dsimp only
  refine wpAny_bind (wpAny_rule ?_)
  refine wpAny_bind (m := unpackItems (.ref t) 2 none) ?_
  refine wpAny_unpackItems_tuple (items := #[v1, v2]) hh ht (fun h' hx => ?_)
  refine wpAny_bind ?_
  show wpAny _ A (do holding [v1] (bindName env y v2); do holding [] (bindName env x v1); pure ()) _ _ _
  refine wpAny_bind (wpAny_holding (wpAny_bindName (wpAny_mono (h₂ h' hx) (fun _ s₃ h₃ => ?_) fun _ _ z => z)))
  exact wpAny_bind (wpAny_holding (wpAny_bindName (wpAny_mono h₃ (fun _ s₄ h₄ => wpAny_pure (wpAny_pure h₄)) fun _ _ z => z)))
/-- what a swap needs behind its value -/
theorem n_swapTo {t : Addr} {v1 v2 : Value} {x y : Str} {l l1 l2 : List (Str × Option Value)} {Q : Flow → Shared → Prop} (hh : A.handled = none) (S : St B O ((t, TupO [v1, v2]) :: rs) G s) (u : Upd1 env.locals (FrO l) (FrO l2) rs rs')
    (p1 : Put y (some v2) l l1) (p2 : Put x (some v1) l1 l2) (hk : env.scope.kind = .function) (hx : env.kindOf x = some .local) (hy : env.kindOf y = some .local) (h : ∀ s', St B O rs' G s' → Q .next s') :
    ∃ t' v1 v2 h', Value.ref t = .ref t' ∧ A.handled = none ∧ s.heap.IsTuple t' #[v1, v2] ∧ True ∧ h' = s.heap ∧
      ∀ h', Heap.ExtBut s.heap.objs.size s.heap h' → wpAny (model prog w) A (storeName env y v2) (fun _ s₂ => wpAny (model prog w) A (storeName env x v1) (fun _ => Q .next) E s₂) E { s with heap := h' } := by
  refine ⟨t, v1, v2, _, rfl, hh, S.tup (.inl (.head _)), trivial, rfl, fun h' hx' => ?_⟩
  have S1 := S.drop
  have S2 : St B O rs G { s with heap := h' } := S1.heap (S1.own.extNew hx')
  obtain ⟨xs, ys, e1, e2⟩ := u.split
  have ua : Upd1 env.locals (FrO l) (FrO l1) rs (xs ++ (env.locals, FrO l1) :: ys) := by rw [e1]; clear e1 e2 S S1 S2; induction xs with | nil => exact .head | cons _ _ ih => exact .tail ih
  have ub : Upd1 env.locals (FrO l1) (FrO l2) (xs ++ (env.locals, FrO l1) :: ys) rs' := by rw [e2]; clear ua e1 e2 S S1 S2; induction xs with | nil => exact .head | cons _ _ ih => exact .tail ih
  exact r_store S2 p1 ua (fun s3 S3 => r_store S3 p2 ub (fun s4 S4 => h _ S4) hk hx) hk hy
theorem n_min2 {a b : Int} {t u : Tok} {Q : Value → Shared → Prop} (hh : A.handled = none) (S : St B O rs G s) (h : ∀ s' tk, St B O rs G s' → Q (.int (min a b) tk) s') : wpAny (model prog w) A (call (.builtin "min") [.int a t, .int b u]) Q E s :=
  min_two_ints hh fun h' tk hk => by
    have S' := S.heapTok (t := tk) (S.own.keeps hk)
    by_cases c : b < a
    · have := h _ u S'
      rw [show min a b = b by omega] at this
      simpa only [if_pos c] using this
    · have := h _ t S'
      rw [show min a b = a by omega] at this
      simpa only [if_neg c] using this
theorem n_range3 {a b c : Int} {t u v : Tok} {Q : Value → Shared → Prop} (hc : c ≠ 0) (ha : -1000000 ≤ a ∧ a ≤ 1000000) (hb : -1000000 ≤ b ∧ b ≤ 1000000) (hc2 : -1000000 ≤ c ∧ c ≤ 1000000) (S : St B O rs G s) (h : ∀ r s', St B O ((r, RangeO a b c) :: rs) G s' → Q (.ref r) s') : wpAny (model prog w) A (call (.type "range") [.int a t, .int b u, .int c v]) Q E s :=
  call_range_3 hc (h _ _ ((S.newObj ⟨_, _, _, rfl⟩ rfl).tok _)) (Or.inl (PyProof.noPylong_small (by omega)))
theorem intsAre_of : ∀ {l : List Value} {f : Nat → Int} {m : Nat}, l.length = m → (∀ j v, l[j]? = some v → ∃ t : Tok, v = Value.int (f j) t) → IntsAre l ((List.range m).map f)
  | [], f, _, rfl, _ => .nil
  | v :: l, f, _, rfl, h => by
    obtain ⟨t, rfl⟩ := h 0 v rfl
    rw [List.length_cons, List.range_succ_eq_map, List.map_cons, List.map_map]
    exact .cons _ t (intsAre_of (f := f ∘ Nat.succ) rfl fun j v hj => h (j + 1) v (by simpa using hj))
theorem n_listRange {r : Addr} {m : Nat} {b : Int} {Q : Value → Shared → Prop} (hh : A.handled = none) (hm1 : 1 ≤ m) (hm2 : m ≤ 1000) (hb : b = 2 * ((m : Int) + 1)) (S : St B O rs G s) (hr : (r, RangeO 2 b 2) ∈ rs)
    (h : ∀ D vs s', IntsAre vs ((List.range m).map fun (i : Nat) => 2 + (i : Int) * 2) → St B O ((D, ListO vs) :: rs) G s' → Q (.ref D) s') : wpAny (model prog w) A (call (.type "list") [.ref r]) Q E s := by
  subst hb
  obtain ⟨_, ho, t, u, v, rfl⟩ := S.get hr
  have hsz : Builtin.Range.rangeSize 2 (2 * ((m : Int) + 1)) 2 = m := by
    unfold Builtin.Range.rangeSize
    rw [if_pos (by decide), if_pos (by omega)]; omega
  refine call_list_range (n := m) hh ho ?_ hsz (by omega) fun h' tk acc' c' hk hS hI => ?_
  · unfold Builtin.Range.small
    rw [hsz]
    unfold Builtin.Range.rangeFitsLong
    simp
    omega
  · have hin : IntsAre acc'.toList ((List.range m).map fun (i : Nat) => 2 + (i : Int) * 2) := intsAre_of (by rw [Array.length_toList]; exact hI.1) (fun j v hj => hI.2 j v (by simpa using hj))
    refine h s.heap.objs.size acc'.toList _ hin (S.heapTok (S.own.remake (fun b o e => hk _ _ (S.own.base b o e)) (fun r hr => ?_) ?_ (fun r hr => ?_)))
    · rcases List.mem_cons.mp hr with rfl | hr
      · exact ⟨_, hS, c', rfl⟩
      · obtain ⟨o, e, p⟩ := S.own.res r hr; exact ⟨o, hk _ _ e, p⟩
    · rw [List.map_cons, List.nodup_cons]
      refine ⟨fun hm => ?_, S.own.nodup⟩
      obtain ⟨r, hr, e⟩ := List.mem_map.mp hm
      have q := S.own.lt hr
      rw [e] at q
      exact absurd q (Nat.lt_irrefl _)
    · rcases List.mem_cons.mp hr with rfl | hr
      · exact .inr (Nat.le_refl _)
      · exact .inl (List.mem_map_of_mem hr)
theorem n_setIndexI {l : Addr} {items : List Value} {i : Int} {t : Tok} {v : Value} {Q : Unit → Shared → Prop} (S : St B O rs G s) (u : Upd1 l (ListO items) (ListO (items.set i.toNat v)) rs rs') (h0 : 0 ≤ i) (hk : i < items.length) (hsz : items.length ≤ 100000) (h : ∀ s', St B O rs' G s' → Q () s') :
    wpAny (model prog w) A (setItem (.ref l) (.int i t) v) Q E s := by
  obtain ⟨_, ho, n, rfl⟩ := S.get u.mem
  have hl : s.heap.IsList l items.toArray := ⟨_, ho, rfl, n, rfl⟩
  unfold setItem
  refine wpAny_holding ?_
  refine wpAny_bind (wpAny_sequenceKey hl.typeIs (by decide) ?_)
  refine wpAny_bind (wpAny_callSpecial?_slot (name := Str.ofString "__setitem__") hl.typeIs slot_list_setitem
    (wpAny_call_entry slot_list_setitem hl.typeIs entry_list_setitem ?_ (args_list_setitem _ _ _)))
  show wpAny _ _ (Builtin.List.listSubscript? (.int i t) >>= _) _ _ s
  refine wpAny_bind (wpAny_listSubscript_int (fitsIndex_of h0 (by omega)) ?_)
  obtain ⟨j, rfl⟩ := Int.eq_ofNat_of_zero_le h0
  have hj : j < items.length := by omega
  have hx' : items.toArray[j]? = some items[j] := by simp [hj]
  show wpAny _ _ ((seqItemAt l j >>= fun r => pure (r.map (j, ·))) >>= _) _ _ s
  refine wpAny_bind (wpAny_bind (wpAny_seqItemAt ho rfl (wpAny_pure ?_)))
  rw [hx']
  show wpAny _ _ (setSeqItemAt l j v >>= _) _ _ s
  have e : items.toArray.setIfInBounds j v = (items.set j v).toArray := by simp
  have fin := h _ (S.upd u (Heap.SameBut.update (f := Obj.mapSeq (·.setIfInBounds j v)) ..) ⟨_, IsL.update ho _, ⟨_, by rw [e]; rfl⟩⟩)
  refine wpAny_bind (wpAny_setSeqItemAt ho rfl ?_)
  first
    | exact wpAny_bind (wpAny_pure (wpAny_pure ⟨.none, rfl, wpAny_pure fin⟩))
    | exact wpAny_pure ⟨.none, rfl, wpAny_pure fin⟩
theorem n_setIndex {l : Addr} {items : List Value} {k : Nat} {t : Tok} {v : Value} {Q : Unit → Shared → Prop} (S : St B O rs G s) (u : Upd1 l (ListO items) (ListO (items.set k v)) rs rs') (hk : k < items.length) (hsz : items.length ≤ 100000) (h : ∀ s', St B O rs' G s' → Q () s') :
    wpAny (model prog w) A (setItem (.ref l) (.int (k : Nat) t) v) Q E s := n_setIndexI S (by simpa using u) (by omega) (by omega) hsz h
end
-- M18
section
variable {prog : Program} {w : World} {A : Around} {E : Value → Shared → Prop} {B : Fix} {O : OsState} {rs rs' : List Res} {G : Array GenState} {s : Shared} {env : Env}
/-- a statement that falls through: what it leaves, and the rest once -/
theorem n_execTo {st : Stmt} {rest : List Stmt} {Q : Flow → Shared → Prop} (R : Shared → Prop) (h : ∀ K : Flow → Shared → Prop, (∀ s', R s' → K .next s') → wpAny (model prog w) A (exec st env) K NoE s)
    (cont : ∀ s, R s → wpAny (model prog w) A (execs rest env) Q NoE s) : wpAny (model prog w) A (execs (st :: rest) env) Q NoE s :=
  n_execs (h _ fun s' q => n_then (cont _ q))
theorem St.thin {L : Addr} {l l' : List (Str × Option Value)} (S : St B O ((L, FrO l) :: rs) G s) (h : l'.Sublist l) : St B O ((L, FrO l') :: rs) G s :=
  S.weaken .head fun _ ⟨es, ep, hd, hk, hn, hm⟩ => ⟨es, ep, hd, hk, (h.map _).nodup hn, fun p hp => hm p (h.subset hp)⟩
theorem Br.eq {b b' : Bool} {p q : Prop} (e : b = b') (h : Br b' p q) : Br b p q := e ▸ h
/-- what is owed behind, by a name -/
theorem opq {α : Type} {t : Sem α} {Q : α → Shared → Prop} (h : ∀ K : α → Shared → Prop, (∀ f s, Q f s → K f s) → wpAny (model prog w) A t K NoE s) : wpAny (model prog w) A t Q NoE s := h Q fun _ _ x => x
end
-- M19
section
variable {prog : Program} {w : World} {A : Around} {E : Value → Shared → Prop} {B : Fix} {O : OsState} {rs rs' : List Res} {G : Array GenState} {s : Shared} {env : Env}
/-- a for over an iterator, its target a name kept in a cell -/
theorem n_forLoopC {x : Str} {px : Pos} {body : List Stmt} {it c : Addr} {n : Nat} {P : Nat → Obj → Prop} {V : Nat → Value → Prop} {need : Fix → List Res → Prop} {Q : Flow → Shared → Prop}
    (I : Iter prog w A it n P V need) (J : Nat → List (Str × Option Value) → Fix → List Res → Array GenState → Prop)
    (hk : env.scope.kind = .function) (hl : env.kindOf x = some .cell) (hc : Lk x c env.cells)
    (hneed : ∀ k l B rs G, J k l B rs G → need B ((it, P k) :: (env.locals, FrO l) :: rs))
    (turn : ∀ k l B rs G v (K : Flow → Shared → Prop), (∀ f s', (match f with
        | .next | .cont => ∃ l'' B' rs' G', St B' O ((it, P (k + 1)) :: (env.locals, FrO l'') :: rs') G' s' ∧ J (k + 1) l'' B' rs' G'
        | .brk => Q .next s'
        | .ret v => Q (.ret v) s') → K f s') → k < n → V k v → J k l B rs G → ∃ rs1 v0, Upd1 c (CellO v0) (CellO (some v)) rs rs1 ∧ ∀ s, St B O ((it, P (k + 1)) :: (env.locals, FrO l) :: rs1) G s →
      wpAny (model prog w) A (execs body env) K NoE s)
    (fin : ∀ l B rs G s, J n l B rs G → St B O ((env.locals, FrO l) :: rs) G s → Q .next s)
    {l : List (Str × Option Value)} (S : St B O ((it, P 0) :: (env.locals, FrO l) :: rs) G s) (h0 : J 0 l B rs G) :
    codeAny (model prog w) A (.forLoop (.Name x px) (.ref it) body [] env) (fun r s' => match r with | .ok f => Q f s' | .error e => cameBackBy (model prog w) A env NoE e s') s := by
  refine codeAny_forLoop (fun m s' => ∃ k l B rs G, m = n - k ∧ k ≤ n ∧ St B O ((it, P k) :: (env.locals, FrO l) :: rs) G s' ∧ J k l B rs G) ?_ (n - 0) ⟨0, l, B, rs, G, rfl, Nat.zero_le _, S, h0⟩
  rintro m s₁ ⟨k, l, B, rs, G, rfl, hkn, S₁, hJ⟩
  by_cases hlt : k < n
  · refine I.next S₁ (hneed k l B rs G hJ) .head hlt fun v s₂ hv S₂ => ?_
    refine wpAny_assign_Name ?_
    obtain ⟨rs1, v0, hu, trn⟩ := turn k l B rs G v _ (fun _ _ x => x) hlt hv hJ
    refine n_storeCell S₂ hc (.tail (.tail hu)) (fun s₃ S₃ => ?_) hk hl
    refine anyE (wpAny_mono (trn s₃ S₃) (fun f s₄ h => ?_) fun _ _ z => z)
    cases f with
    | next => obtain ⟨l'', B', rs', G', S', J'⟩ := h; exact ⟨n - (k + 1), Nat.sub_lt_sub_left hlt (Nat.lt_succ_self k), k + 1, l'', B', rs', G', rfl, hlt, S', J'⟩
    | cont => obtain ⟨l'', B', rs', G', S', J'⟩ := h; exact ⟨n - (k + 1), Nat.sub_lt_sub_left hlt (Nat.lt_succ_self k), k + 1, l'', B', rs', G', rfl, hlt, S', J'⟩
    | brk => exact h
    | ret v => exact h
  · have : n = k := Nat.le_antisymm (Nat.le_of_not_lt hlt) ‹_›
    subst this
    refine I.stop S₁ (hneed n l B rs G hJ) .head fun s₂ S₂ => ?_
    exact wpAny_execs_nil (fin l B rs G s₂ hJ S₂)

-- a comprehension's own cell
theorem wpAny_newEnvCell {scope : Scope} {g : Addr} {cl : List (Str × Addr)} {qual : Str} {func : Option Addr} {code : Value} {outer : Env} {bt : Addr} {x : Str} {Q : Env → Shared → Prop}
    (hcf : ∀ n, cellsFrom n scope.names cl = (x, n) :: cl) (hpc : ∀ h, pushCells h scope.names = h.push { cls := .type "cell", data := .cell none })
    (h : Q (newEnv scope s.heap.objs.size g ((x, s.heap.objs.size + 1) :: cl) qual func code (some outer) bt) { s with heap := (s.heap.push { cls := .type "dict", data := .dict #[] }).push { cls := .type "cell", data := .cell none } }) :
    wpAny (model prog w) A (newFunctionEnv scope g cl [] qual func code (some outer) bt) Q E s := by
  simp only [newFunctionEnv, Option.isSome_some, if_true]
  refine wpAny_bind (wpAny_alloc ?_)
  refine wpAny_bind (wpAny_layCells _ (fun name kind cells => by cases hkc : kind == NameKind.cell <;> simp [hkc]) _ _ _ _ ?_)
  rw [hcf, hpc]
  rw [show ({ s with heap := s.heap.push { cls := .type "dict", data := .dict #[] } } : Shared).heap.objs.size = s.heap.objs.size + 1 from Heap.size_push ..]
  refine wpAny_bind ?_
  rw [List.forIn_nil]
  exact wpAny_pure (wpAny_pure h)
/-- one clause, its target a name in a cell of the comprehension's own -/
theorem n_compAtC {elt iter : Expr} {ifs : List Expr} {scope : Scope} {pos : Pos} {cl : List (Str × Addr)} {x : Str} {px : Pos} {it : Addr} {n : Nat} {P : Nat → Obj → Prop} {V : Nat → Value → Prop} {need : Fix → List Res → Prop}
    {use : Option (Value → Sem Unit)} {Q : Value → Shared → Prop} (I : Iter prog w A it n P V need) (J : Nat → List Value → Fix → List Res → Array GenState → Prop)
    (hcf : ∀ n, cellsFrom n scope.names cl = (x, n) :: cl) (hpc : ∀ h, pushCells h scope.names = h.push { cls := .type "cell", data := .cell none })
    (hk : scope.kind = .function) (hl : ∀ cl C, (compE scope cl C env).kindOf x = some .cell)
    (hneed : ∀ k ys B rs G C D c ov, J k ys B rs G → need B ((it, P k) :: (C, FrO []) :: (c, CellO ov) :: (D, ListO ys) :: rs))
    (turn : ∀ k ys B rs G C D c v (K : Value → Shared → Prop) (K0 : Shared → Prop), (∀ y s', (∃ B' rs' G', St B' O ((it, P (k + 1)) :: (C, FrO []) :: (c, CellO (some v)) :: (D, ListO ys) :: rs') G' s' ∧ J (k + 1) (ys ++ [y]) B' rs' G') → K y s') →
      (∀ s', (∃ B' rs' G', St B' O ((it, P (k + 1)) :: (C, FrO []) :: (c, CellO (some v)) :: (D, ListO ys) :: rs') G' s' ∧ J (k + 1) ys B' rs' G') → K0 s') → ∀ s, k < n → V k v → J k ys B rs G → St B O ((it, P (k + 1)) :: (C, FrO []) :: (c, CellO (some v)) :: (D, ListO ys) :: rs) G s →
      wpAny (model prog w) A (forIn ifs true fun cc r => if r = true then do let ok ← isTrue cc (compE scope ((x, c) :: cl) C env) (eval cc (compE scope ((x, c) :: cl) C env)); pure (ForInStep.yield ok) else pure (ForInStep.yield r)) (fun ok s₃ =>
        Br ok (wpAny (model prog w) A (eval elt (compE scope ((x, c) :: cl) C env)) K NoE s₃) (K0 s₃)) NoE s)
    (hsz : ∀ k ys B rs G, J k ys B rs G → ys.length ≤ sizeLine)
    (fin : ∀ ys B rs G D, J n ys B rs G → CompEnd prog w A O use Q D ys B rs G)
    (S : St B O ((it, P 0) :: rs) G s) (h0 : J 0 [] B rs G) :
    CompAt prog w A env (.ListComp elt [⟨.Name x px, iter, ifs, 0⟩] scope pos) scope cl use Q NoE (.ref it) s := by
  unfold CompAt
  refine wpAny_newObj_type ?_ (by size_fits)
  have S1 := S.newObj (o := { cls := .type "list", data := .seq ([] : List Value).toArray }) (P := ListO []) ⟨_, rfl⟩ rfl
  generalize s.heap.objs.size = D at S1 ⊢
  generalize hs1 : ({ s with heap := _ } : Shared) = s1 at S1 ⊢
  refine wpAny_newEnvCell hcf hpc ?_
  have S2 : St B O ((s1.heap.objs.size + 1, CellO none) :: (s1.heap.objs.size, FrO []) :: (D, ListO []) :: (it, P 0) :: rs) G { s1 with heap := (s1.heap.push { cls := .type "dict", data := .dict #[] }).push { cls := .type "cell", data := .cell none } } := by
    have q := S1.newObj (o := { cls := .type "dict", data := .dict #[] }) (P := FrO []) ⟨#[], 0, rfl, fun _ hm => by simp at hm, by simp, fun p hp => by simp at hp⟩ rfl
    have q2 := q.newObj (o := { cls := .type "cell", data := .cell none }) (P := CellO none) rfl rfl
    have e : (s1.heap.push { cls := .type "dict", data := .dict #[] }).objs.size = s1.heap.objs.size + 1 := Heap.size_push ..
    have q2 : St B O (((s1.heap.push { cls := .type "dict", data := .dict #[] }).objs.size, CellO none) :: (s1.heap.objs.size, FrO []) :: (D, ListO []) :: (it, P 0) :: rs) G { s1 with heap := (s1.heap.push { cls := .type "dict", data := .dict #[] }).push { cls := .type "cell", data := .cell none } } := q2
    rw [e] at q2; exact q2
  generalize s1.heap.objs.size + 1 = c at S2 ⊢
  generalize s1.heap.objs.size = C at S2 ⊢
  generalize ({ s1 with heap := _ } : Shared) = s2 at S2 ⊢
  have S3 : St B O ((it, P 0) :: (C, FrO []) :: (c, CellO none) :: (D, ListO []) :: rs) G s2 := ((S2.front (a := C) (.tail .head)).front (a := it) (.tail (.tail (.tail .head))))
  have loop : ∀ s3, St B O ((it, P 0) :: (C, FrO []) :: (c, CellO none) :: (D, ListO []) :: rs) G s3 → codeAny (model prog w) A (.compLoop (.ListComp elt [⟨.Name x px, iter, ifs, 0⟩] scope pos) 0 (.ref it) (.ref D) (compE scope ((x, c) :: cl) C env))
      (compPost (model prog w) A NoE use Q (.ref D) C) s3 := fun s3 S3 => by
    refine codeAny_compLoop_tests (fun m s' => ∃ k ys B rs G ov, m = n - k ∧ k ≤ n ∧ St B O ((it, P k) :: (C, FrO []) :: (c, CellO ov) :: (D, ListO ys) :: rs) G s' ∧ J k ys B rs G) ?_ (n - 0) ⟨0, [], B, rs, G, _, rfl, Nat.zero_le _, S3, h0⟩
    rintro m s₁ ⟨k, ys, B, rs, G, ov, rfl, hkn, S₁, hJ⟩
    by_cases hlt : k < n
    · refine I.next S₁ (hneed k ys B rs G C D c ov hJ) .head hlt fun v s₂ hv S₂ => ?_
      refine wpAny_assign_Name (n_storeCell (env := compE scope ((x, c) :: cl) C env) S₂ .head (.tail (.tail .head)) (fun s₃ S₃ => ?_) hk (hl _ _))
      refine anyE (wpAny_mono (turn k ys B rs G C D c v _ _ (fun _ _ x => x) (fun _ x => x) s₃ hlt hv hJ S₃) (fun ok s₄ h => ?_) fun _ _ z => z)
      cases ok with
      | false =>
        obtain ⟨B', rs', G', S', J'⟩ := h.2 rfl
        exact ⟨n - (k + 1), Nat.sub_lt_sub_left hlt (Nat.lt_succ_self k), k + 1, ys, B', rs', G', _, rfl, hlt, S', J'⟩
      | true =>
        refine anyE (wpAny_mono (h.1 rfl) (fun y s₅ h => ?_) fun _ _ z => z)
        obtain ⟨B', rs', G', S', J'⟩ := h
        refine anyE (n_append (hsz _ _ _ _ _ hJ) S' (.tail (.tail (.tail .head))) fun s₆ S₆ => ?_)
        exact ⟨n - (k + 1), Nat.sub_lt_sub_left hlt (Nat.lt_succ_self k), k + 1, ys ++ [y], B', rs', G', some v, rfl, hlt, S₆, J'⟩
    · have : n = k := Nat.le_antisymm (Nat.le_of_not_lt hlt) ‹_›
      subst this
      refine I.stop S₁ (hneed n ys B rs G C D c ov hJ) .head fun s₂ S₂ => ?_
      have S₄ : St B O ((C, FrO []) :: (D, ListO ys) :: rs) G s₂ := S₂.sub (.cons_cons _ (.cons _ (List.Sublist.refl _)))
      exact compPost_of S₄ (fin ys B rs G D hJ)
  refine codeAny_compStart_list (loop _ S3) (I.self S3 List.mem_cons_self (loop _ S3))

-- two clauses
theorem compTurn_out (elt t1 iter1 t2 iter2 : Expr) (scope : Scope) (pos : Pos) (it acc : Value) (env : Env) :
    compTurn (.ListComp elt [⟨t1, iter1, [], 0⟩, ⟨t2, iter2, [], 0⟩] scope pos) 0 it acc env = (do
      standAt iter1.pos
      match ← pyNext it with
      | none => pure (.done .next)
      | some v =>
        letOwnedTupleGo t1 it v
        assign t1 env v
        let x ← eval iter2 env
        standAt iter2.pos
        let x ← foldedSetIterable iter2 env x
        let _ ← runOwn (.compStart (.ListComp elt [⟨t1, iter1, [], 0⟩, ⟨t2, iter2, [], 0⟩] scope pos) 1 (← holding [x] (pyIter x)) acc env) env
        again (.compLoop (.ListComp elt [⟨t1, iter1, [], 0⟩, ⟨t2, iter2, [], 0⟩] scope pos) 0 it acc env)) := by
  unfold compTurn
  simp only [List.getElem?_cons_zero, List.getElem?_cons_succ, List.forIn_nil, if_true, Bool.false_eq_true, if_false, bne_self_eq_false, pure_bind, bind_assoc]
  rfl
theorem compTurn_in (elt t1 iter1 t2 iter2 : Expr) (scope : Scope) (pos : Pos) (it acc : Value) (env : Env) :
    compTurn (.ListComp elt [⟨t1, iter1, [], 0⟩, ⟨t2, iter2, [], 0⟩] scope pos) 1 it acc env = (standAt iter2.pos >>= fun _ => pyNext it >>= fun r => match r with
      | none => pure (.done .next)
      | some v => letOwnedTupleGo t2 it v >>= fun _ => assign t2 env v >>= fun _ =>
        (eval elt env >>= fun x => call (.builtin "list.append") [acc, x] >>= fun _ => pure ()) >>= fun _ =>
          again (.compLoop (.ListComp elt [⟨t1, iter1, [], 0⟩, ⟨t2, iter2, [], 0⟩] scope pos) 1 it acc env)) := by rfl
end
-- M20
section
variable {prog : Program} {w : World} {A : Around} {E : Value → Shared → Prop} {B : Fix} {O : OsState} {rs rs' : List Res} {G : Array GenState} {s : Shared} {env : Env} {R : Result → Shared → Prop}
abbrev twoE (elt t1 iter1 t2 iter2 : Expr) (scope : Scope) (pos : Pos) : Expr := .ListComp elt [⟨t1, iter1, [], 0⟩, ⟨t2, iter2, [], 0⟩] scope pos
theorem codeAny_compLoop_in {elt t1 iter1 t2 iter2 : Expr} {scope : Scope} {pos : Pos} {it acc : Value} (I : Nat → Shared → Prop)
    (turn : ∀ n s, I n s → wpAny (model prog w) A (pyNext it) (fun r s₁ => match r with
      | none => R (.ok .next) s₁
      | some v => wpAny (model prog w) A (assign t2 env v) (fun _ s₂ => wpAny (model prog w) A (eval elt env) (fun x s₄ =>
              wpAny (model prog w) A (call (.builtin "list.append") [acc, x]) (fun _ s₅ => ∃ m, m < n ∧ I m s₅) NoE s₄) NoE s₂) NoE s₁) NoE s)
    (n : Nat) (h : I n s) (ht : ∀ v, letOwnedTupleGo t2 it v = pure () := by intro _; rfl) :
    codeAny (model prog w) A (.compLoop (twoE elt t1 iter1 t2 iter2 scope pos) 1 it acc env) R s := by
  refine codeAny_loop rfl I (fun n s hI => ?_) n h
  show wpAny _ A ((compTurn (twoE elt t1 iter1 t2 iter2 scope pos) 1 it acc env).onRaise (fun x => do noteFrame x env; theTreesLotGoes x)) _ _ s
  refine wpAny_noted ?_
  rw [compTurn_in]
  refine wpAny_bind (wpAny_standAt (wpAny_bind (anyE (wpAny_mono (turn n s hI) (fun r s₁ h₁ => ?_) fun _ _ z => z))))
  cases r with
  | none => exact wpAny_pure h₁
  | some v =>
    refine wpAny_bind (wpAny_of_eq (ht v) ?_)
    refine wpAny_bind (anyE (wpAny_mono h₁ (fun _ s₂ h₂ => ?_) fun _ _ z => z))
    exact wpAny_bind (wpAny_bind (anyE (wpAny_mono h₂ (fun x s₄ h₄ => wpAny_bind (anyE (wpAny_mono h₄ (fun _ s₅ h₅ => wpAny_pure (wpAny_pure ⟨rfl, h₅⟩)) fun _ _ z => z))) fun _ _ z => z)))
theorem codeAny_compStart_in {elt t1 iter1 t2 iter2 : Expr} {scope : Scope} {pos : Pos} {it acc : Value}
    (h0 : codeAny (model prog w) A (.compLoop (twoE elt t1 iter1 t2 iter2 scope pos) 1 it acc env) R s)
    (h : wpAny (model prog w) A (pyIter it) (fun it' s' => codeAny (model prog w) A (.compLoop (twoE elt t1 iter1 t2 iter2 scope pos) 1 it' acc env) R s') NoE s) :
    codeAny (model prog w) A (.compStart (twoE elt t1 iter1 t2 iter2 scope pos) 1 it acc env) R s := by
  refine codeAny_of_tree ?_
  show wpAny _ _ ((compStart (twoE elt t1 iter1 t2 iter2 scope pos) 1 it acc env).onRaise (fun x => do noteFrame x env; standAt theWindowsPlace)) _ _ s
  refine wpAny_notedAt ?_
  unfold compStart
  show wpAny _ _ (ask >>= _) _ _ s
  refine wpAny_bind (wpAny_askSetting (wpAny_ite ?_))
  split
  · first
      | exact wpAny_bind (wpAny_pure (wpAny_pure (And.intro rfl h0)))
      | exact wpAny_pure (And.intro rfl h0)
  · refine wpAny_bind (wpAny_rule ?_)
    show wpAny _ _ (standAt iter2.pos >>= _) _ _ s
    exact wpAny_bind (wpAny_standAt (wpAny_bind (anyE (wpAny_mono h (fun it' s' h' => wpAny_pure (And.intro rfl h')) fun _ _ z => z))))
theorem codeAny_compLoop_out {elt t1 iter1 t2 iter2 : Expr} {scope : Scope} {pos : Pos} {it acc : Value} (I : Nat → Shared → Prop) (hf : ∀ x, foldedSetIterable iter2 env x = pure x)
    (turn : ∀ n s, I n s → wpAny (model prog w) A (pyNext it) (fun r s₁ => match r with
      | none => R (.ok .next) s₁
      | some v => wpAny (model prog w) A (assign t1 env v) (fun _ s₂ => wpAny (model prog w) A (eval iter2 env) (fun x s₃ => wpAny (model prog w) A (pyIter x) (fun i s₄ =>
              codeAny (model prog w) A (.compStart (twoE elt t1 iter1 t2 iter2 scope pos) 1 i acc env) (fun r s₅ => r = .ok .next ∧ ∃ m, m < n ∧ I m s₅) s₄) NoE s₃) NoE s₂) NoE s₁) NoE s)
    (n : Nat) (h : I n s) (ht : ∀ v, letOwnedTupleGo t1 it v = pure () := by intro _; rfl) :
    codeAny (model prog w) A (.compLoop (twoE elt t1 iter1 t2 iter2 scope pos) 0 it acc env) R s := by
  refine codeAny_loop rfl I (fun n s hI => ?_) n h
  show wpAny _ A ((compTurn (twoE elt t1 iter1 t2 iter2 scope pos) 0 it acc env).onRaise (fun x => do noteFrame x env; theTreesLotGoes x)) _ _ s
  refine wpAny_noted ?_
  rw [compTurn_out]
  refine wpAny_bind (wpAny_standAt (wpAny_bind (anyE (wpAny_mono (turn n s hI) (fun r s₁ h₁ => ?_) fun _ _ z => z))))
  cases r with
  | none => exact wpAny_pure h₁
  | some v =>
    refine wpAny_bind (wpAny_of_eq (ht v) ?_)
    refine wpAny_bind (anyE (wpAny_mono h₁ (fun _ s₂ h₂ => ?_) fun _ _ z => z))
    refine wpAny_bind (anyE (wpAny_mono h₂ (fun x s₃ h₃ => ?_) fun _ _ z => z))
    refine wpAny_bind (wpAny_standAt (wpAny_bind (wpAny_of_eq (hf x) (wpAny_bind (wpAny_holding (anyE (wpAny_mono h₃ (fun i s₄ h₄ => ?_) fun _ _ z => z)))))))
    refine wpAny_bind (wpAny_runOwn (codeAny_mono h₄ fun r s₅ h₅ => ?_))
    obtain ⟨rfl, h₅⟩ := h₅
    exact wpAny_pure ⟨rfl, h₅⟩

/-- what the inner clause of two needs behind its iterator -/
noncomputable def InnerAt (prog : Program) (w : World) (A : Around) (O : OsState) (elt : Expr) (cenv : Env) (y : Str) (mk : Option Value → List (Str × Option Value)) (pre : List Res) (D C : Addr) (Fin : List Value → Fix → List Res → Array GenState → Prop) (i : Value) (s : Shared) : Prop :=
  ∃ (it2 : Addr) (m : Nat) (P2 : Nat → Obj → Prop) (V2 : Nat → Value → Prop) (need2 : Fix → List Res → Prop) (J2 : Nat → List Value → Fix → List Res → Array GenState → Prop) (B : Fix) (rs : List Res) (G : Array GenState) (ys : List Value) (ov : Option Value), i = .ref it2 ∧ Iter prog w A it2 m P2 V2 need2 ∧ St B O ((it2, P2 0) :: (pre ++ (C, FrO (mk ov)) :: (D, ListO ys) :: rs)) G s ∧ J2 0 ys B rs G ∧
    (∀ j ys B rs G ov, J2 j ys B rs G → need2 B ((it2, P2 j) :: (pre ++ (C, FrO (mk ov)) :: (D, ListO ys) :: rs))) ∧
    (∀ j ys B rs G v2 (K : Value → Shared → Prop), (∀ z s₄, (∃ B' rs' G', St B' O ((it2, P2 (j + 1)) :: (pre ++ (C, FrO (mk (some v2))) :: (D, ListO ys) :: rs')) G' s₄ ∧ J2 (j + 1) (ys ++ [z]) B' rs' G') → K z s₄) → ∀ s, j < m → V2 j v2 → J2 j ys B rs G → St B O ((it2, P2 (j + 1)) :: (pre ++ (C, FrO (mk (some v2))) :: (D, ListO ys) :: rs)) G s →
      wpAny (model prog w) A (eval elt cenv) K NoE s) ∧
    (∀ j ys B rs G, J2 j ys B rs G → ys.length ≤ sizeLine) ∧ (∀ ys B rs G, J2 m ys B rs G → Fin ys B rs G)
theorem Upd1.skip {a P P'} : ∀ (pre : List Res) {l l' : List Res}, Upd1 a P P' l l' → Upd1 a P P' (pre ++ l) (pre ++ l')
  | [], _, _, u => u
  | _ :: r, _, _, u => .tail (Upd1.skip r u)
theorem inner_of {elt t1 iter1 iter2 : Expr} {scope : Scope} {pos : Pos} {y : Str} {py : Pos} {pre : List Res} {D C : Addr} {mk : Option Value → List (Str × Option Value)} {Fin : List Value → Fix → List Res → Array GenState → Prop} {i : Value} (hC : env.locals = C)
    (hput : ∀ ov v, Put y (some v) (mk ov) (mk (some v))) (hk : env.scope.kind = .function) (hl : env.kindOf y = some .local)
    (hfin : ∀ ys B rs G ov s, Fin ys B rs G → St B O (pre ++ (C, FrO (mk ov)) :: (D, ListO ys) :: rs) G s → R (.ok .next) s)
    (h : InnerAt prog w A O elt env y mk pre D C Fin i s) : codeAny (model prog w) A (.compStart (twoE elt t1 iter1 (.Name y py) iter2 scope pos) 1 i (.ref D) env) R s := by
  obtain ⟨it2, m, P2, V2, need2, J2, B, rs, G, ys, ov, rfl, I, S, h0, hneed, turn, hsz, fin⟩ := h
  have loop : ∀ s3, St B O ((it2, P2 0) :: (pre ++ (C, FrO (mk ov)) :: (D, ListO ys) :: rs)) G s3 → codeAny (model prog w) A (.compLoop (twoE elt t1 iter1 (.Name y py) iter2 scope pos) 1 (.ref it2) (.ref D) env) R s3 := fun s3 S3 => by
    refine codeAny_compLoop_in (fun q s' => ∃ j ys B rs G ov, q = m - j ∧ j ≤ m ∧ St B O ((it2, P2 j) :: (pre ++ (C, FrO (mk ov)) :: (D, ListO ys) :: rs)) G s' ∧ J2 j ys B rs G) ?_ (m - 0) ⟨0, ys, B, rs, G, ov, rfl, Nat.zero_le _, S3, h0⟩
    rintro q s₁ ⟨j, ys, B, rs, G, ov, rfl, hjm, S₁, hJ⟩
    by_cases hlt : j < m
    · refine I.next S₁ (hneed j ys B rs G ov hJ) .head hlt fun v s₂ hv S₂ => ?_
      refine wpAny_assign_Name (r_store S₂ (hput ov v) (.tail (Upd1.skip pre (by rw [hC]; exact .head))) (fun s₃ S₃ => ?_) hk hl)
      refine wpAny_mono (turn j ys B rs G v _ (fun _ _ x => x) s₃ hlt hv hJ S₃) (fun z s₄ h => ?_) fun _ _ z => z
      obtain ⟨B', rs', G', S', J'⟩ := h
      refine n_append (hsz _ _ _ _ _ hJ) S' (.tail (Upd1.skip pre (.tail .head))) fun s₅ S₅ => ?_
      exact ⟨m - (j + 1), Nat.sub_lt_sub_left hlt (Nat.lt_succ_self j), j + 1, ys ++ [z], B', rs', G', some v, rfl, hlt, S₅, J'⟩
    · have : m = j := Nat.le_antisymm (Nat.le_of_not_lt hlt) ‹_›
      subst this
      exact I.stop S₁ (hneed m ys B rs G ov hJ) .head fun s₂ S₂ => hfin ys B rs G ov s₂ (fin ys B rs G hJ) S₂
  exact codeAny_compStart_in (loop _ S) (I.self S List.mem_cons_self (loop _ S))
/-- two clauses, both targets names -/
theorem n_compAtTwo {elt iter1 iter2 : Expr} {scope : Scope} {pos : Pos} {cl : List (Str × Addr)} {x y : Str} {px py : Pos} {it : Addr} {n : Nat} {P : Nat → Obj → Prop} {V : Nat → Value → Prop} {need : Fix → List Res → Prop}
    {use : Option (Value → Sem Unit)} {Q : Value → Shared → Prop} (I : Iter prog w A it n P V need) (J : Nat → List Value → Fix → List Res → Array GenState → Prop)
    (hcell : scope.names.all (fun y => y.2 != .cell) = true) (hk : scope.kind = .function) (hx : scope.names.lookup x = some .local) (hy : scope.names.lookup y = some .local) (hxy : x ≠ y)
    (hf : ∀ C z, foldedSetIterable iter2 (compE scope cl C env) z = pure z)
    (hneed : ∀ k ys B rs G C D l, J k ys B rs G → need B ((it, P k) :: (C, FrO l) :: (D, ListO ys) :: rs))
    (turn : ∀ k ys B rs G C D v ov (K : Value → Shared → Prop), (∀ z s₃, wpAny (model prog w) A (pyIter z)
        (InnerAt prog w A O elt (compE scope cl C env) y (fun ov => [(x, some v), (y, ov)]) [(it, P (k + 1))] D C (J (k + 1))) NoE s₃ → K z s₃) → ∀ s, k < n → V k v → J k ys B rs G → St B O ((it, P (k + 1)) :: (C, FrO [(x, some v), (y, ov)]) :: (D, ListO ys) :: rs) G s →
      wpAny (model prog w) A (eval iter2 (compE scope cl C env)) K NoE s)
    (fin : ∀ ys B rs G D, J n ys B rs G → CompEnd prog w A O use Q D ys B rs G)
    (S : St B O ((it, P 0) :: rs) G s) (h0 : J 0 [] B rs G) :
    CompAt prog w A env (twoE elt (.Name x px) iter1 (.Name y py) iter2 scope pos) scope cl use Q NoE (.ref it) s := by
  unfold CompAt
  refine wpAny_newObj_type ?_ (by size_fits)
  have S1 := S.newObj (o := { cls := .type "list", data := .seq ([] : List Value).toArray }) (P := ListO []) ⟨_, rfl⟩ rfl
  have hcell' : ∀ y ∈ scope.names, y.2 ≠ .cell := fun y hy => by simpa using List.all_eq_true.mp hcell y hy
  generalize s.heap.objs.size = D at S1 ⊢
  generalize hs1 : ({ s with heap := _ } : Shared) = s1 at S1 ⊢
  refine wpAny_newFunctionEnv hcell' (fun _ hm => nomatch hm) (fun h' hn hsb => ?_) hk
  have nd : ([(x, (none : Option Value)), (y, none)].map (·.1)).Nodup := by simp [hxy]
  have S2 : St B O ((s1.heap.objs.size, FrO [(x, none), (y, none)]) :: (D, ListO []) :: (it, P 0) :: rs) G { s1 with heap := h', toks := s1.toks + ([] : List (Str × Value)).length } := by
    have q := S1.newObj (o := { cls := .type "dict", data := .dict #[] }) (P := FrO [(x, none), (y, none)]) ⟨#[], 0, rfl, fun _ hm => by simp at hm, nd, fun p hp => by simp at hp; rcases hp with rfl | rfl <;> rfl⟩ rfl
    exact (q.upd (h' := h') .head hsb (FrO.of_ns hn nd (fun p hp => by simp at hp; rcases hp with rfl | rfl <;> rfl))).tok _
  generalize s1.heap.objs.size = C at S2 ⊢
  generalize ({ s1 with heap := _, toks := _ } : Shared) = s2 at S2 ⊢
  have S3 : St B O ((it, P 0) :: (C, FrO [(x, none), (y, none)]) :: (D, ListO []) :: rs) G s2 := S2.front (a := it) (.tail (.tail .head))
  have loop : ∀ s3, St B O ((it, P 0) :: (C, FrO [(x, none), (y, none)]) :: (D, ListO []) :: rs) G s3 → codeAny (model prog w) A (.compLoop (twoE elt (.Name x px) iter1 (.Name y py) iter2 scope pos) 0 (.ref it) (.ref D) (compE scope cl C env))
      (compPost (model prog w) A NoE use Q (.ref D) C) s3 := fun s3 S3 => by
    refine codeAny_compLoop_out (fun m s' => ∃ k ys B rs G ov ow, m = n - k ∧ k ≤ n ∧ St B O ((it, P k) :: (C, FrO [(x, ov), (y, ow)]) :: (D, ListO ys) :: rs) G s' ∧ J k ys B rs G) (hf C) ?_ (n - 0) ⟨0, [], B, rs, G, _, _, rfl, Nat.zero_le _, S3, h0⟩
    rintro m s₁ ⟨k, ys, B, rs, G, ov, ow, rfl, hkn, S₁, hJ⟩
    by_cases hlt : k < n
    · refine I.next S₁ (hneed k ys B rs G C D _ hJ) .head hlt fun v s₂ hv S₂ => ?_
      refine wpAny_assign_Name (r_store S₂ .head (.tail .head) (fun s₃ S₃ => ?_) hk (lookup_relabel_local hx))
      refine wpAny_mono (turn k ys B rs G C D v ow _ (fun _ _ x => x) s₃ hlt hv hJ S₃) (fun z s₄ h => wpAny_mono h (fun i s₅ hi => ?_) fun _ _ z => z) fun _ _ z => z
      refine inner_of (env := compE scope cl C env) rfl (fun _ _ => .tail .head) hk (lookup_relabel_local hy) (fun ys B rs G ow' s₆ hJ' S₆ => ?_) hi
      exact ⟨rfl, n - (k + 1), Nat.sub_lt_sub_left hlt (Nat.lt_succ_self k), k + 1, ys, B, rs, G, some v, ow', rfl, hlt, S₆, hJ'⟩
    · have : n = k := Nat.le_antisymm (Nat.le_of_not_lt hlt) ‹_›
      subst this
      exact I.stop S₁ (hneed n ys B rs G C D _ hJ) .head fun s₂ S₂ => compPost_of S₂ (fin ys B rs G D hJ)
  exact codeAny_compStart_list (loop _ S3) (I.self S3 List.mem_cons_self (loop _ S3))

-- lists
theorem n_addL {l b : Addr} {vs ws : List Value} {Q : Value → Shared → Prop} (S : St B O rs G s) (hl : Lst B rs l vs) (hb : Lst B rs b ws) (hsz : vs.length + ws.length ≤ 100000) (h : ∀ D s', St B O ((D, ListO (vs ++ ws)) :: rs) G s' → Q (.ref D) s') :
    wpAny (model prog w) A (binaryOp .Add (.ref l) (.ref b)) Q E s := by
  obtain ⟨n, hl⟩ := S.isL hl
  obtain ⟨n2, hb⟩ := S.isL hb
  refine P.add_list hl hb (h _ _ (S.newObj ⟨0, by simp⟩ rfl)) ?_
  rw [sizeLine_eq]; simp; omega
theorem StrVs.are : ∀ {vs : List Value} {xs : List Str}, StrVs vs xs → StrsAre vs xs
  | [], [], _ => .nil
  | _ :: _, x :: _, h => by
    obtain ⟨t, rfl⟩ := h.1
    exact .cons x t h.2.are
end
-- M21
section
variable {prog : Program} {w : World} {A : Around} {E : Value → Shared → Prop} {B : Fix} {O : OsState} {rs rs' : List Res} {G : Array GenState} {s : Shared} {env : Env}
theorem Lst.neOf {l a : Addr} {items : List Value} {P} (S : St B O ((a, P) :: rs) G s) (h : Lst B rs l items) : l ≠ a := fun e => by
  subst e
  rcases h with h | ⟨o, e, _⟩
  · have nd := S.own.nodup
    rw [List.map_cons, List.nodup_cons] at nd
    exact nd.1 (List.mem_map_of_mem (f := (·.1)) h)
  · have := S.own.fresh _ List.mem_cons_self
    rw [e] at this; cases this
theorem Lst.cons {l : Addr} {items : List Value} {r : Res} (h : Lst B rs l items) : Lst B (r :: rs) l items := h.elim (fun q => .inl (List.mem_cons_of_mem _ q)) .inr
theorem n_enumList {l : Addr} {items : List Value} {Q : Value → Shared → Prop} (S : St B O rs G s) (hl : Lst B rs l items) (h : ∀ e it s', St B O ((e, EnumO it 0) :: (it, ListItO l 0) :: rs) G s' → Q (.ref e) s') :
    wpAny (model prog w) A (call (.type "enumerate") [.ref l]) Q E s := by
  refine call_enumerate_list (S.lst hl) fun h' he hi hz hk => h _ s.heap.objs.size _ (S.heap (S.own.remake (fun b o e => hk _ _ (S.own.base b o e)) (fun r hr => ?_) ?_ (fun r hr => ?_)))
  · rcases List.mem_cons.mp hr with rfl | hr
    · exact ⟨_, he, _, rfl⟩
    · rcases List.mem_cons.mp hr with rfl | hr
      · obtain ⟨o, e, p⟩ := hi
        exact ⟨o, e, p⟩
      · obtain ⟨o, e, p⟩ := S.own.res r hr; exact ⟨o, hk _ _ e, p⟩
  · have nin : ∀ a, s.heap.objs.size ≤ a → a ∉ rs.map (·.1) := fun a h m => by
      obtain ⟨r, hr, e⟩ := List.mem_map.mp m
      have := S.own.lt hr; rw [e] at this; exact absurd this (Nat.not_lt_of_le h)
    rw [List.map_cons, List.map_cons, List.nodup_cons, List.nodup_cons]
    refine ⟨fun m => ?_, nin _ (Nat.le_refl _), S.own.nodup⟩
    rcases List.mem_cons.mp m with m | m
    · exact absurd m (Nat.succ_ne_self _)
    · exact nin _ (Nat.le_succ _) m
  · rcases List.mem_cons.mp hr with rfl | hr
    · exact .inr (Nat.le_succ _)
    · rcases List.mem_cons.mp hr with rfl | hr
      · exact .inr (Nat.le_refl _)
      · exact .inl (List.mem_map_of_mem hr)
theorem n_nextEnumL {l : Addr} {items : List Value} {e it : Addr} {k : Nat} {Q : Option Value → Shared → Prop} (hh : A.handled = none) (S : St B O ((e, EnumO it k) :: (it, ListItO l k) :: rs) G s) (hl : Lst B rs l items) (hk : k < items.length)
    (h : ∀ a v t1 s', items[k]? = some v → St B O ((a, TupO [.int k t1, v]) :: (e, EnumOutO it (k + 1) a) :: (it, ListItO l (k + 1)) :: rs) G s' → Q (some (.ref a)) s') :
    wpAny (model prog w) A (pyNext (.ref e)) Q E s := by
  obtain ⟨o, ho, old, rfl⟩ := S.get (a := e) (P := EnumO it k) (by simp)
  have hi := S.listIt (a := it) (l := l) (i := k) (by simp)
  have hli : l ≠ it := hl.neOf S.drop
  have hle : l ≠ e := (hl.cons).neOf S
  have hL := S.lst (hl.cons.cons)
  have nd := S.own.nodup
  simp only [List.map_cons, List.nodup_cons, List.mem_cons, not_or] at nd
  obtain ⟨⟨n1, n2⟩, n3, n4⟩ := nd
  refine wpAny_pyNext_enum_itemD (St := fun i h => h.IsListIter it l i ∧ h.IsList l items.toArray) (Draws.list (A := A.in1) hh it l hli items.toArray) ho ⟨hi, hL⟩ (by simpa using hk) n1 (by simp; exact ⟨n1, fun z => hle z.symm⟩) fun v h' tk hP he hi' ht hz hkp => ?_
  have hv : items[k]? = some v := by simpa using hP
  refine h _ v tk _ hv ((S.heapTok (S.own.remake (fun b o e => hkp b o ?_ ?_ (S.own.base b o e)) (fun r hr => ?_) ?_ (fun r hr => ?_))))
  · exact S.own.ne e (P := EnumO it k) (by simp)
  · exact S.own.ne e (a := it) (P := ListItO l k) (by simp)
  · rcases List.mem_cons.mp hr with rfl | hr
    · exact ⟨_, ht, rfl, 0, rfl⟩
    · rcases List.mem_cons.mp hr with rfl | hr
      · exact ⟨_, he, _, rfl⟩
      · rcases List.mem_cons.mp hr with rfl | hr
        · obtain ⟨o, e, p⟩ := hi'.1; exact ⟨o, e, p⟩
        · obtain ⟨o, e, p⟩ := S.own.res r (by simp [hr])
          exact ⟨o, hkp _ _ (fun z => n2 (z ▸ List.mem_map_of_mem hr)) (fun z => n3 (z ▸ List.mem_map_of_mem hr)) e, p⟩
  · have q := S.own.nodup
    rw [List.map_cons, List.nodup_cons]
    refine ⟨fun m => ?_, by simpa using q⟩
    have m : s.heap.objs.size ∈ ((e, EnumO it k) :: (it, ListItO l k) :: rs).map (·.1) := by simpa using m
    obtain ⟨r, hr, e⟩ := List.mem_map.mp m
    have := S.own.lt hr; rw [e] at this; exact absurd this (Nat.lt_irrefl _)
  · rcases List.mem_cons.mp hr with rfl | hr
    · exact .inr (Nat.le_refl _)
    · left
      rcases List.mem_cons.mp hr with rfl | hr
      · simp
      · rcases List.mem_cons.mp hr with rfl | hr
        · simp
        · simp only [List.map_cons, List.mem_cons]; exact .inr (.inr (List.mem_map_of_mem hr))
theorem n_stopEnumL {l : Addr} {items : List Value} {e it : Addr} {Q : Option Value → Shared → Prop} (hh : A.handled = none) (S : St B O ((e, EnumO it items.length) :: (it, ListItO l items.length) :: rs) G s) (hl : Lst B rs l items)
    (h : ∀ s', St B O rs G s' → Q none s') : wpAny (model prog w) A (pyNext (.ref e)) Q E s := by
  obtain ⟨o, ho, old, rfl⟩ := S.get (a := e) (P := EnumO it items.length) (by simp)
  have hi := S.listIt (a := it) (l := l) (i := items.length) (by simp)
  have hli : l ≠ it := hl.neOf S.drop
  have hL := S.lst (hl.cons.cons)
  exact wpAny_pyNext_enum_endD (St := fun i h => h.IsListIter it l i ∧ h.IsList l items.toArray) (Draws.list (A := A.in1) hh it l hli items.toArray) ho ⟨by simpa using hi, hL⟩ fun h' hs => h _ (S.drop.ext .head hs)
theorem PSrc.enumL {items : List Value} (G₀ : Array GenState) (hh : A.handled = none) (e it l : Addr) :
    PSrc prog w A e items.length (fun k ri G => ri = [(e, EnumO it k), (it, ListItO l k)] ∧ G₀ = G) (fun k v1 v2 => (∃ t, v1 = .int (k : Nat) t) ∧ items[k]? = some v2) (fun B rs => Lst B rs l items) (fun G => G₀ = G) where
  next := fun {B O rs G s k ri Q E} X hH hn S hk h => by
    obtain ⟨rfl, rfl⟩ := hH
    refine n_nextEnumL hh S hn hk fun a v t1 s' hv S' => ⟨a, rfl, fun elts x1 pos E' => ?_⟩
    refine n_goEnum S' (.tail .head) fun s'' S'' => ?_
    exact h a (.int (k : Nat) t1) v [(e, EnumO it (k + 1)), (it, ListItO l (k + 1))] _ _ ⟨⟨t1, rfl⟩, hv⟩ ⟨rfl, rfl⟩ (S''.tup (.inl (.head _))) S''.drop
  stop := fun {B O rs G s ri Q E} X hH hn S h => by
    obtain ⟨rfl, rfl⟩ := hH
    exact n_stopEnumL hh S hn fun s' S' => h _ _ rfl S'
  self := fun {B O rs G s k ri Q E} hH hn S h => by
    obtain ⟨rfl, rfl⟩ := hH
    exact n_iterEnum S (.head _) h
-- ints
theorem n_fdiv {a b : Int} {t u : Tok} {Q : Value → Shared → Prop} (S : St B O rs G s) (hb : b ≠ 0) (hp : Builtin.divisionGoesByPylong a b = false) (h : ∀ s' k, St B O rs G s' → Q (.int (a.fdiv b) k) s') : wpAny (model prog w) A (binaryOp .FloorDiv (.int a t) (.int b u)) Q E s :=
  floordiv_int hb (h _ _ (S.tok _)) (.inl hp)
theorem n_powk {a n : Int} {t u : Tok} {Q : Value → Shared → Prop} (S : St B O rs G s) (hn : 0 ≤ n) (hn2 : n ≤ 1000) (ha : a.natAbs < 1000) (h : ∀ s' k, St B O rs G s' → Q (.int (a ^ n.toNat) k) s') : wpAny (model prog w) A (binaryOp .Pow (.int a t) (.int n u)) Q E s :=
  pow_int_small hn (by omega) (by omega) (h _ _ (S.tok _))
theorem n_sum {l : Addr} {vs : List Value} {ns : List Int} {Q : Value → Shared → Prop} (hh : A.handled = none) (S : St B O rs G s) (hl : Lst B rs l vs) (hi : IntsAre vs ns) (h : ∀ x s' t, St B O rs G s' → Q (.int x t) s') : wpAny (model prog w) A (call (.builtin "sum") [.ref l]) Q E s := by
  obtain ⟨xs, hx⟩ := hi.allInts.items
  refine sum_intListG (xs := xs) hh (by rw [← hx]; exact S.lst hl) fun h' tk t' hk => h _ _ _ (S.heapTok (S.own.keeps hk))
-- texts in lists
theorem n_notInStrs {l : Addr} {vs : List Value} {xs : List Str} {k : Str} {t : Tok} {Q : Value → Shared → Prop} (S : St B O rs G s) (hl : Lst B rs l vs) (hx : StrVs vs xs) (h : Q (.bool (!(xs.any (· == k)))) s) : wpAny (model prog w) A (compareOp .NotIn (.str k t) (.ref l)) Q E s :=
  notin_list_strs (S.lst hl) hx.are h
theorem n_methCount {l : Addr} {pl : Sem Bool} {items : List Value} {Q : Value × List Value → Shared → Prop} (S : St B O rs G s) (hl : Lst B rs l items) (h : Q (.builtin "list.count", [.ref l]) s) : wpAny (model prog w) A (getMethod (.ref l) (Str.ofString "count") pl) Q E s := by
  obtain ⟨n, ho⟩ := S.isL hl
  exact getMethod_builtin (S.lst hl).typeIs PySem.F.plainAttrs_list PySem.F.slot_list_count PySem.F.type_list_count (fun a e => by cases e; exact ⟨_, ho, rfl⟩) h
theorem countIn_strs (k : Str) : ∀ xs : List Str, Spec.countIn (.str k) (xs.map PyData.str) = ((xs.countP (· == k) : Nat) : Int)
  | [] => rfl
  | x :: r => by
    have ih := countIn_strs k r
    rw [List.map_cons, List.countP_cons]
    show (if Spec.same (.str x) (.str k) then 1 else 0) + Spec.countIn (.str k) (r.map PyData.str) = _
    rw [ih]
    have e : Spec.same (.str x) (.str k) = (x == k) := by rfl
    rw [e]
    cases x == k <;> simp; omega
theorem n_count {l : Addr} {vs : List Value} {xs : List Str} {k : Str} {t : Tok} {Q : Value → Shared → Prop} (S : St B O rs G s) (hl : Lst B rs l vs) (hx : StrVs vs xs) (h : ∀ s' u, St B O rs G s' → Q (.int ((xs.countP (· == k) : Nat) : Int) u) s') : wpAny (model prog w) A (call (.builtin "list.count") [.ref l, .str k t]) Q E s :=
  count_list_strs (S.lst hl) hx.are (by rw [countIn_strs]; exact h _ _ (S.tok _))
theorem n_neStrs {l b : Addr} {vs ws : List Value} {xs ys : List Str} {Q : Value → Shared → Prop} (hu : A.units < cLine) (S : St B O rs G s) (hl : Lst B rs l vs) (hb : Lst B rs b ws) (hx : StrVs vs xs) (hy : StrVs ws ys) (h : Q (.bool (xs != ys)) s) :
    wpAny (model prog w) A (compareOp .NotEq (.ref l) (.ref b)) Q E s := by
  have e1 := hx.length
  have e2 := hy.length
  show wpAny _ _ (richCompare .NotEq (.ref l) (.ref b)) Q E s
  by_cases hsz : vs.length = ws.length
  · refine PySem.SeqAt.RcNeAt.lists (e := fun j => xs[j]? == ys[j]?) (S.lst hl) (S.lst hb) (by simpa using hsz) hu (fun j h1 h2 => ?_) prog w E Q ?_
    · have h1 : j < vs.length := by simpa using h1
      have h2 : j < ws.length := by simpa using h2
      obtain ⟨t, q1⟩ := hx.at (List.getElem?_eq_getElem (e1 ▸ h1))
      obtain ⟨u, q2⟩ := hy.at (List.getElem?_eq_getElem (e2 ▸ h2))
      rw [List.getElem?_eq_getElem h1] at q1
      rw [List.getElem?_eq_getElem h2] at q2
      have r1 : vs.toArray[j] = .str (xs[j]'(e1 ▸ h1)) t := by simpa using q1
      have r2 : ws.toArray[j] = .str (ys[j]'(e2 ▸ h2)) u := by simpa using q2
      rw [r1, r2]
      have := PySem.SeqAt.EqAt.str_str (A := A.in1) (s := s) (xs[j]'(e1 ▸ h1)) t (ys[j]'(e2 ▸ h2)) u
      rw [List.getElem?_eq_getElem (e1 ▸ h1), List.getElem?_eq_getElem (e2 ▸ h2)]
      exact this
    · have e4 : (!(List.range vs.toArray.size).all fun j => xs[j]? == ys[j]?) = (xs != ys) := by
        rw [bne]
        congr 1
        rw [Bool.eq_iff_iff, List.all_eq_true, beq_iff_eq]
        constructor
        · intro hall
          refine List.ext_getElem? fun j => ?_
          by_cases hj : j < vs.length
          · have := hall j (by simpa using hj)
            simpa using this
          · rw [List.getElem?_eq_none (by omega), List.getElem?_eq_none (by omega)]
        · rintro rfl j _; simp
      rw [e4]; exact h
  · refine PySem.SeqAt.RcNeAt.lists_lengths (S.lst hl) (S.lst hb) (by simpa using hsz) hu prog w E Q ?_
    have : (xs != ys) = true := by
      rw [bne_iff_ne]; intro e; subst e; exact hsz (e1.trans e2.symm)
    rw [this] at h; exact h
-- ints and texts
noncomputable def decF (n : Int) : List Nat := (Str.ofString (toString n)).cps.toList
theorem T_decF (n : Int) : T (decF n) = Str.ofString (toString n) := T_cps _
theorem n_strInt {n : Int} {t : Tok} {Q : Value → Shared → Prop} (S : St B O rs G s) (h0 : 0 ≤ n) (h1 : n < 1000000) (h : ∀ s' k, St B O rs G s' → Q (.str (T (decF n)) k) s') : wpAny (model prog w) A (call (.type "str") [.int n t]) Q E s := by
  rw [T_decF] at h
  refine P.str_of_int ?_ (h _ _ (S.tok _))
  by_cases z : n.natAbs = 0
  · rw [z]; decide
  · have : n.natAbs.log2 < 20 := (Nat.log2_lt z).mpr (by omega)
    omega
theorem n_intStr {n : Int} {t : Tok} {Q : Value → Shared → Prop} (S : St B O rs G s) (h0 : 0 ≤ n) (h1 : n < 1000000) (h : ∀ s' k, St B O rs G s' → Q (.int n k) s') : wpAny (model prog w) A (call (.type "int") [.str (T (decF n)) t]) Q E s := by
  rw [T_decF]
  exact KIN.call_num h0 (by omega) (h _ _ (S.tok _))
end
theorem sBQ : Str.ofString "\\\"" = T [92, 34] := by decide +kernel
theorem sBB : Str.ofString "\\\\" = T [92, 92] := by decide +kernel
theorem sBP : Str.ofString "\\(" = T [92, 40] := by decide +kernel
local macro_rules | `(tactic| walk_at "mem") => `(tactic| with_reducible (repeat (first | exact List.mem_cons_self | refine List.mem_cons_of_mem _ ?_ | exact Put.head | apply Put.tail | exact Upd1.head | apply Upd1.tail | exact Rem1.head | apply Rem1.tail | exact Lk.head | apply Lk.tail (by kernel_rfl!) | exact List.Sublist.refl _ | apply List.Sublist.cons_cons | apply List.Sublist.cons)))
local macro_rules | `(tactic| walk_at "sz") => `(tactic| first | decide | assumption | exact Nat.le_trans ‹_› (by decide) | exact Nat.lt_of_le_of_lt ‹_› (by decide) | omega | (simp only [T_len, sizeLine_eq, List.length_append, List.length_cons, List.length_nil]; omega) | (simp; done) | (simp; omega))
local macro_rules | `(tactic| walk_at "lst") => `(tactic| first | assumption | exact Lst.own (by walk_at "mem"))
local macro_rules | `(tactic| walk_at "go") => `(tactic| repeat (with_reducible (first
  | (show wpAny _ _ (eval _ _) _ _ _; (first
  | (show wpAny _ _ (eval (.Name _ _) _) _ _ _; first | (refine n_name ‹_› (by walk_at "mem") (by walk_at "mem") ?_ (by kernel_rfl!)) | (refine n_cellName ‹_› (by walk_at "mem") (by walk_at "mem") ?_ (by kernel_rfl!) (by kernel_rfl!) (by kernel_rfl!)) | (refine gn ‹_› ‹_› (by walk_at "mem") ?_ (by kernel_rfl!)))
  | (refine n_int ‹_› ?_; intro _ _ _)
  | (refine n_str ‹_› ?_; intro _ _ _)
  | refine Constant_none ?_
  | refine Constant_bool ?_
  | refine wpAny_BinOp ?_
  | refine n_cmp ?_ (by kernel_rfl!)
  | refine n_slice ?_
  | refine n_meth ?_ (by kernel_rfl!)
  | refine n_methKw ?_ (by kernel_rfl!)
  | refine n_call ?_ (by kernel_rfl!)
  | refine n_sub ?_
  | refine n_ifexp ?_
  | refine UnaryOp_ ?_
  | refine List_ ?_
  | refine Tuple_ ?_
  | refine n_attr ?_ (by kernel_rfl!)))
  | (show wpAny _ _ (exec _ _) _ _ _; (first
  | refine wpAny_Assign_Subscript ?_ (by kernel_rfl!)
  | refine wpAny_Assign_two ?_ (by kernel_rfl!) (by kernel_rfl!)
  | refine n_delSub ?_
  | (refine g_aug ?_; refine n_augName ‹_› (by walk_at "mem") (by walk_at "mem") (by kernel_rfl!) (by kernel_rfl!) ?_)
  | refine plainObj_wpAny_Assign_Attribute ?_ (by kernel_rfl!)
  | refine wpAny_For ?_ (fun _ => rfl)
  | refine n_assign ?_ (by kernel_rfl!)
  | refine n_if ?_
  | refine wpAny_Return_some ?_
  | refine wpAny_Expr ?_ (by kernel_rfl!) (by kernel_rfl!)))
  | (refine n_isTrue ?_; (first
  | refine n_isCmp ?_ (by kernel_rfl!)
  | refine isTrue_not ?_
  | refine isTrue_and_nil ?_
  | refine isTrue_or_nil ?_
  | refine n_isAnd ?_
  | refine n_isOr ?_
  | refine n_isPlain ?_ (by kernel_rfl!)))
  | (show wpAny _ _ (callWith _ _ _ _ _) _ _ _; (first
  | refine n_withKw (ns := [Str.ofString "name"]) ‹_› (by kernel_rfl!) (by kernel_rfl!) (by kernel_rfl!) ?_ (by kernel_rfl!) (by kernel_rfl!)
  | refine n_withB1 ?_ (by kernel_rfl!) (by kernel_rfl!)
  | refine n_withM1 ?_ (by kernel_rfl!) (by kernel_rfl!)
  | refine n_withB0 ?_
  | refine n_withT1 ?_ (by kernel_rfl!) (by kernel_rfl!)
  | refine n_withF1 ‹_› (by kernel_rfl!) ?_ (by kernel_rfl!) (by kernel_rfl!)
  | refine n_withFm1 ‹_› (by kernel_rfl!) ?_ (by kernel_rfl!) (by kernel_rfl!)
  | refine n_withF0 ‹_› ‹_› (by kernel_rfl!) ?_
  | refine n_withFm0 ‹_› ‹_› (by kernel_rfl!) ?_))
  | (refine n_isCall ?_; (first
  | refine n_typeStr ?_
  | refine n_typeInt ?_
  | (refine g_type ?_; refine g_call1r ?_; refine n_typeList ‹_› (by walk_at "lst") ?_)
  | (refine g_search ?_; first
    | refine n_search48 ‹_› ‹_› ‹_› ?_
    | refine n_search53 ‹_› ‹_› ‹_› ?_)
  | (refine g_app ?_; refine n_app ‹_› (by walk_at "mem") (by walk_at "sz") ?_; intro _ _)
  | (refine g_lenc ?_; first
    | (refine g_call1r ?_; refine n_lenL ‹_› (by walk_at "lst") (by walk_at "sz") ?_; intro _ _ _)
    | (refine g_call1s ?_; first
      | (refine n_lenT (by walk_at "sz") ‹_› ?_; intro _ _ _)
      | (refine n_lenStr (by walk_at "sz") ‹_› ?_; intro _ _ _)))
  | (refine n_min2 ‹_› ‹_› ?_; intro _ _ _)
  | (refine n_range1 ‹_› ?_; intro _ _ _)
  | (refine n_range2 ‹_› ?_; intro _ _ _)
  | (refine g_lower ?_; refine n_lower (by walk_at "sz") ‹_› ?_; intro _ _ _)
  | (refine g_upper ?_; refine n_upper (by walk_at "sz") ‹_› ?_; intro _ _ _)))
  | (show wpAny _ _ (spliced _) _ _ _; (first
  | refine n_args ?_ (by kernel_rfl!)
  | refine args_nil ?_))
  | (refine n_isOp ?_; (first
  | (refine n_add ‹_› ?_; intro _ _ _)
  | (refine g_strs ?_; first
    | (refine n_catT (by (with_reducible (first | exact sQuote | exact sBack | exact sBQ | exact sBB | exact sBP | exact rfl))) (by (with_reducible (first | exact sQuote | exact sBack | exact sBQ | exact sBB | exact sBP | exact rfl))) (by walk_at "sz") ‹_› ?_; intro _ _ _)
    | (refine n_cat (by walk_at "sz") ‹_› ?_; intro _ _ _))
  | (refine n_sub_int ‹_› ?_; intro _ _ _)
  | (refine g_ints ?_; first
    | (refine n_mul (.of_left (by decide +kernel)) ‹_› ?_; intro _ _ _)
    | (refine n_mul (.of_right (by decide +kernel)) ‹_› ?_; intro _ _ _))))
  | (refine n_isComp ?_; (first
  | refine n_inLet ?_
  | refine n_isType ?_
  | refine n_isNotType ?_
  | refine is_none_none ?_
  | refine isnot_none_none ?_
  | refine is_int_none ?_
  | refine isnot_int_none ?_
  | refine is_str_none ?_
  | refine isnot_str_none ?_
  | refine is_bool_none ?_
  | refine n_isRef ?_
  | refine PyProof.Rows.eq_str ?_
  | refine PyProof.Rows.ne_str ?_
  | refine P.eq_int ?_
  | refine P.ne_int ?_
  | refine P.lt_int ?_
  | refine P.gt_int ?_))
  | (refine n_isMeth ?_; (first
  | refine gm_conv ‹_› ‹_› ‹_› ?_
  | refine gm_get ‹_› ‹_› ‹_› ?_
  | refine gm_keys ‹_› ‹_› ‹_› ?_
  | refine gm_setdefault ‹_› ‹_› ‹_› ?_
  | refine gm_addh ‹_› ‹_› ‹_› ?_
  | refine n_methSearch48 ‹_› ‹_› ?_
  | refine n_methSearch53 ‹_› ‹_› ?_
  | (refine g_append ?_; refine n_methAppend ‹_› (by walk_at "lst") ?_)
  | refine GM.lower ?_
  | refine GM.upper ?_
  | refine GM.join ?_))
  | (refine n_isTru ?_; (first
  | refine wpAny_truthy_bool ?_
  | refine P.truthy_int ?_
  | refine truthy_none ?_
  | (refine g_tstr ?_; first
    | (refine n_truthyT (by walk_at "sz") ‹_› ?_; intro _ _)
    | (refine n_truthyStr (by walk_at "sz") ‹_› ?_; intro _ _))))
  | (refine n_isAll ?_; first | refine kws_cons ?_ | refine kws_nil ?_)
  | (refine n_isGetAttr ?_; refine n_getHd ‹_› ‹_› ‹_› ?_; intro _ _)
  | (first
  | (refine g_store ?_; first | ((refine n_store ‹_› (by walk_at "mem") (by walk_at "mem") ?_ (by kernel_rfl!) (by kernel_rfl!); intro _ _)) | ((refine n_storeCell ‹_› (by walk_at "mem") (by walk_at "mem") ?_ (by kernel_rfl!) (by kernel_rfl!); intro _ _)))
  | refine n_assignName ?_
  | refine n_execs ?_
  | refine n_then ?_
  | refine n_thenRet ?_
  | refine n_backRet ?_
  | refine n_st ‹_› ?_
  | refine wpAny_execs_nil ?_
  | (refine n_neg ‹_› ?_; intro _ _ _)
  | (refine n_iadd ‹_› ?_; intro _ _ _)
  | (refine n_isub ‹_› ?_; intro _ _ _)
  | refine n_partNone ?_
  | refine n_partSome ?_
  | (refine n_sliced ‹_› ?_; intro _ _ _)
  | (refine g_newList ?_; refine n_newList (by walk_at "sz") ‹_› ?_; intro _ _ _)
  | (refine g_newTuple ?_; refine n_tuple (by walk_at "sz") ‹_› ?_; intro _ _ _)
  | refine n_backNext ?_))))
-- T1
noncomputable def substF (a b : Str) : Int := if a == b then 0 else if Txt.lower a == Txt.lower b then 1 else 2
section
variable {prog : Program} {w : World} {A : Around} {E : Value → Shared → Prop} {B : Fix} {O : OsState} {rs rs' : List Res} {G : Array GenState} {s : Shared}
set_option pp.deepTerms false
set_option pp.maxSteps 500
theorem c_subst {a b : Str} {t u : Tok} {P : Value → Shared → Prop} (X : Base w B) (S : St B O rs G s) (hA : A.depth + 5 < recursionLimit) (ha : a.length ≤ 1000) (hb : b.length ≤ 1000)
    (h : ∀ s' t', St B O rs G s' → P (.int (substF a b) t') s') : wpAny (model prog w) A (call (.ref 209) [.str a t, .str b u] []) P NoE s := by
  refine r_call [("ch_a", .str a t), ("ch_b", .str b u)] ["ch_a", "ch_b"] [] [("ch_a", some (.str a t)), ("ch_b", some (.str b u))] X S (by walk_at "sz") rfl (by kernel_rfl!) rfl rfl (.eq (by kernel_rfl!)) (by decide +kernel) rfl ?_
  clear S
  intro s L S
  walk_at "go"
  refine .both (fun hab => ?_) (fun hab => ?_)
  · walk_at "go"
    rw [show (0 : Int) = substF a b by rw [substF, if_pos hab]]; exact h _ _ (St.drop (by assumption))
  walk_at "go"
  refine .both (fun hl => ?_) (fun hl => ?_)
  · walk_at "go"
    rw [show (1 : Int) = substF a b by rw [substF, if_neg (by rw [hab]; exact Bool.false_ne_true), if_pos hl]]; exact h _ _ (St.drop (by assumption))
  walk_at "go"
  rw [show (2 : Int) = substF a b by rw [substF, if_neg (by rw [hab]; exact Bool.false_ne_true), if_neg (by rw [hl]; exact Bool.false_ne_true)]]; exact h _ _ (St.drop (by assumption))
end
-- T2
section
variable {prog : Program} {w : World} {A : Around} {E : Value → Shared → Prop} {B : Fix} {O : OsState} {rs rs' : List Res} {G : Array GenState} {s : Shared}
set_option pp.deepTerms false
set_option pp.maxSteps 800
theorem c_letters {x : List Nat} {t : Tok} {P : Value → Shared → Prop} (X : Base w B) (S : St B O rs G s) (hA : A.depth + 5 < recursionLimit) (hh : A.handled = none) (ha : x.all (· < 128) = true) (hb : x.length ≤ 1000)
    (h : ∀ s' t', St B O rs G s' → P (.str (T (letF x)) t') s') : wpAny (model prog w) A (call (.ref 221) [.str (T x) t] []) P NoE s := by
  refine r_call [("text", .str (T x) t)] ["text"] [] [("text", some (.str (T x) t))] X S (by walk_at "sz") rfl (by kernel_rfl!) rfl rfl (.eq (by kernel_rfl!)) (by decide +kernel) rfl ?_
  clear S
  intro s L S
  walk_at "go"
  refine n_listcomp [] (by kernel_rfl!) (by kernel_rfl!) (fun _ => rfl) ?_
  walk_at "go"
  refine n_iterStr (by assumption) (T_ascii ha) fun it s S => ?_
  have I := Iter.str (prog := prog) (w := w) (A := A.deeper (envA w 221 L)) hh it (T x) t
  refine n_compAt I (fun k ys B' rs' G' => B = B' ∧ rs' = (L, FrO [(Str.ofString "text", some (Value.str (T x) t))]) :: rs ∧ G = G' ∧ StrVs ys ((letF (x.take k)).map fun c => T [c]))
    (by kernel_rfl!) (by kernel_rfl!) (by kernel_rfl!) (fun _ _ _ _ _ _ _ _ _ => trivial) ?_ ?_ ?_ S ⟨rfl, rfl, rfl, trivial⟩
  · rintro k ys B' rs' G' C D v K K0 hK hK0 s hk ⟨c, tk, hc, rfl⟩ ⟨rfl, rfl, rfl, hy⟩ S
    refine wpAny_tests_one ?_
    walk_at "go"
    have hkx : k < x.length := by simpa [T] using hk
    have hc' : x[k]? = some c := by simpa [T] using hc
    have e : letF (x.take (k + 1)) = letF (x.take k) ++ (if isLet c then [c] else []) := by
      rw [List.take_add_one, hc']; simp [letF, List.filter_append, List.filter_cons]
    refine .both (fun hl => ?_) (fun hl => ?_)
    · walk_at "go"
      refine hK _ _ ⟨_, _, _, by assumption, rfl, rfl, rfl, ?_⟩
      rw [e, hl, if_pos rfl, List.map_append]
      exact hy.snoc ⟨_, rfl⟩
    · refine hK0 _ ⟨_, _, _, by assumption, rfl, rfl, rfl, ?_⟩
      rw [e, hl]; simpa using hy
  · rintro k ys B' rs' G' ⟨rfl, rfl, rfl, hy⟩
    rw [hy.length, sizeLine_eq, List.length_map]
    have : (letF (x.take k)).length ≤ (x.take k).length := List.length_filter_le ..
    have : (x.take k).length ≤ x.length := List.length_take_le' ..
    omega
  · rintro ys B' rs' G' D ⟨rfl, rfl, rfl, hy⟩
    intro s S
    walk_at "go"
    have ex : x.take (T x).cps.size = x := by simp [T]
    rw [ex] at hy
    have ec : catT ((letF x).map fun c => T [c]) = letF x := by simp [catT, T, List.flatMap_map]
    refine n_join S (.inl (by walk_at "mem")) hy (by rw [ec]; exact Nat.le_trans (List.length_filter_le ..) (by walk_at "sz")) fun s t S => ?_
    rw [ec]
    walk_at "go"
    exact h _ _ S.drop.drop
end
-- T3
/-- the units that are still to be told, and the place of the last sign of each -/
noncomputable def remF : Nat → Bool → List Nat → List (Nat × List Nat)
  | p, true, [] => [(p - 1, [92])]
  | _, false, [] => []
  | p, true, c :: r => (p, [92, c]) :: remF (p + 1) false r
  | p, false, c :: r => if c = 92 then remF (p + 1) true r else (p, [c]) :: remF (p + 1) false r
section
variable {prog : Program} {w : World} {A : Around} {E : Value → Shared → Prop} {B : Fix} {O : OsState} {rs rs' : List Res} {G : Array GenState} {s : Shared}
set_option pp.deepTerms false
set_option pp.maxSteps 800
theorem c_iter {x : List Nat} {t : Tok} {P : Value → Shared → Prop} (X : Base w B) (S : St B O rs G s) (hA : A.depth + 5 < recursionLimit) (ha : x.all (· < 128) = true) (hb : x.length ≤ 1000)
    (h : ∀ s' g r L, St B O ((g, GenO G.size) :: (L, FrO [("addr", some (.str (T x) t)), ("pos", none), ("escape", none), ("ch", none)]) :: rs) (G.push r) s' → GenOk prog w (remF 0 false x) [(L, FrO [("addr", some (.str (T x) t)), ("pos", none), ("escape", none), ("ch", none)])] r → r.bare = true → P (.ref g) s') :
    wpAny (model prog w) A (call (.ref 195) [.str (T x) t] []) P NoE s := by
  refine r_callGen [("addr", .str (T x) t)] ["addr"] ["pos", "escape", "ch"] [("addr", some (.str (T x) t)), ("pos", none), ("escape", none), ("ch", none)] (remF 0 false x) X S (by walk_at "sz") rfl (by kernel_rfl!) rfl rfl (.eq (by kernel_rfl!)) (by decide +kernel) rfl ?_ h
  clear h S X hA
  intro L
  rw [GenOk_iff]
  intro A B O G s hh X S
  refine gx_func fun H => ?_
  refine gx_cons (gx_plain ?_)
  walk_at "go"
  refine ⟨rfl, ?_⟩
  refine gx_cons (gx_plain ?_)
  walk_at "go"
  refine ⟨rfl, ?_⟩
  refine gx_cons (gx_For ?_ (fun _ => rfl))
  walk_at "go"
  refine n_enumStr (T_ascii ha) (by assumption) fun e it s S => ?_
  refine n_iterEnum S (by walk_at "mem") ?_
  intro p
  refine gx_forLoop (fun m A s P => ∃ (k : Nat) (esc : Bool) (B : Fix) (O : OsState) (G : Array GenState) (tp : Tok) (ch : Option Value), A.handled = none ∧ Base w B ∧ m = x.length - k ∧ k ≤ x.length ∧
    St B O [(e, EnumO it k), (it, StrItO (T x) t k), (L, FrO [("addr", some (.str (T x) t)), ("pos", some (.int (k - 1 : Nat) tp)), ("escape", some (.bool esc)), ("ch", ch)])] G s ∧ P = PostG prog w B O G (remF k esc (x.drop k))) ?_ (x.length - 0) A s _
    ⟨0, false, B, O, G, _, _, hh, X, rfl, Nat.zero_le _, S, by simp⟩
  clear S X hh
  rintro m A s P ih ⟨k, esc, B, O, G, tp, ch, hh, X, rfl, hk, S, rfl⟩
  by_cases hlt : k < x.length
  · refine n_nextEnum hh S (by simpa [T] using hlt) fun a c t1 t2 s hc S => ?_
    refine n_goEnum S (.tail .head) fun s S => ?_
    refine n_pair hh rfl (S.tup (.inl (by walk_at "mem"))) S (.tail .head) (.tail (.tail (.tail .head))) (.tail (.tail (.tail .head))) (fun s S => ?_) rfl (by kernel_rfl!) (by kernel_rfl!)
    intro H
    have hc : x[k]? = some c := by simpa [T] using hc
    have hd : x.drop k = c :: x.drop (k + 1) := by rw [List.drop_eq_getElem_cons hlt]; rw [List.getElem?_eq_getElem hlt] at hc; cases hc; rfl
    refine gx_cons (gx_If ?_)
    walk_at "go"
    refine .both (fun he => ?_) (fun he => ?_)
    · subst he
      refine gx_cons (gx_Yield ?_ rfl rfl rfl (by kernel_rfl!) (by kernel_rfl!))
      walk_at "go"
      refine n_catT (b := [c]) sBack rfl (by simp) (by assumption) fun s t3 S => ?_
      walk_at "go"
      rename_i b s S; intro k1 l1 p1 g1 hk1 hg1
      rw [hd, remF]
      refine ⟨b, t1, t3, [(e, EnumO it (k + 1)), (it, StrItO (T x) t (k + 1)), (L, FrO [("addr", some (.str (T x) t)), ("pos", some (.int (k : Nat) t1)), ("escape", some (.bool true)), ("ch", some (.str (T [c]) t2))])], rfl, ?_, S.sub ?_⟩
      · rw [GenOk_iff]
        intro A B O G s hh X S
        show SegX _ _ _ (k1 (.send .none)) _ _ _
        refine hk1 _ _ _ ?_
        show SegX _ _ _ ((execs _ _).wrap _ _ _ _) _ _ _
        refine gx_cons (gx_plain ?_)
        walk_at "go"
        refine ⟨rfl, ?_⟩
        show SegX _ _ _ (.pure (.again _)) _ _ _
        refine gx_again rfl (ih _ _ _ _ ?_ ⟨k + 1, false, B, O, G, _, _, hh, X, rfl, hlt, by assumption, rfl⟩)
        omega
      · exact .cons_cons _ (.cons _ (List.Sublist.refl _))
    · subst he
      refine gx_cons (gx_If ?_)
      walk_at "go"
      have hce : (({ cps := #[c] } : Str) == Str.ofString "\\") = (c == 92) := by rw [sBack]; exact (T_beq [c] [92]).trans (by simp)
      refine .both (fun he => ?_) (fun he => ?_)
      · have he : c = 92 := by rw [hce] at he; simpa using he
        refine gx_cons (gx_plain ?_)
        walk_at "go"
        refine ⟨rfl, ?_⟩
        show SegX _ _ _ (.pure (.again _)) _ _ _
        refine gx_again rfl (ih _ _ _ _ (Nat.sub_lt_sub_left hlt (Nat.lt_succ_self k)) ⟨k + 1, true, B, O, G, _, _, hh, X, rfl, hlt, St.drop (by assumption), ?_⟩)
        rw [hd, remF, if_pos he]
      · have he : ¬ c = 92 := by rw [hce] at he; simpa using he
        refine gx_cons (gx_Yield ?_ rfl rfl rfl (by kernel_rfl!) (by kernel_rfl!))
        walk_at "go"
        rename_i b s S; intro k1 l1 p1 g1 hk1 hg1
        rw [hd, remF, if_neg he]
        refine ⟨b, t1, t2, [(e, EnumO it (k + 1)), (it, StrItO (T x) t (k + 1)), (L, FrO [("addr", some (.str (T x) t)), ("pos", some (.int (k : Nat) t1)), ("escape", some (.bool false)), ("ch", some (.str (T [c]) t2))])], rfl, ?_, S.sub ?_⟩
        · rw [GenOk_iff]
          intro A B O G s hh X S
          show SegX _ _ _ (k1 (.send .none)) _ _ _
          refine hk1 _ _ _ ?_
          show SegX _ _ _ (.pure (.again _)) _ _ _
          exact gx_again rfl (ih _ _ _ _ (Nat.sub_lt_sub_left hlt (Nat.lt_succ_self k)) ⟨k + 1, false, B, O, G, _, _, hh, X, rfl, hlt, by assumption, rfl⟩)
        · exact .cons_cons _ (.cons _ (List.Sublist.refl _))
  · have : k = x.length := by omega
    subst this
    have hz : (T x).cps.size = x.length := by simp [T]
    refine n_stopEnum (x := T x) (t := t) hh (by rw [hz]; exact S) fun s S => ?_
    show SegX _ _ _ ((execs _ _).wrap _ _ _ _) _ _ _
    refine gx_cons (gx_If ?_)
    walk_at "go"
    rw [List.drop_length]
    refine .both (fun he => ?_) (fun he => ?_)
    · subst he
      refine gx_cons (gx_Yield ?_ rfl rfl rfl (by kernel_rfl!) (by kernel_rfl!))
      walk_at "go"
      rename_i b s S; intro k1 l1 p1 g1 hk1 hg1
      rw [remF]
      refine ⟨b, _, _, [(L, FrO [("addr", some (.str (T x) t)), ("pos", some (.int (x.length - 1 : Nat) tp)), ("escape", some (.bool true)), ("ch", ch)])], rfl, ?_, by rw [← sBack]; exact S⟩
      rw [GenOk_iff]
      intro A B O G s hh X S
      show SegX _ _ _ (k1 (.send .none)) _ _ _
      refine hk1 _ _ _ ?_
      show SegX _ _ _ (leafOf (.ok (.ret .none))) _ _ _
      exact gx_end _ ⟨rfl, S.drop⟩
    · subst he
      show SegX _ _ _ (leafOf (.ok (.ret .none))) _ _ _
      exact gx_end _ ⟨rfl, St.drop (by assumption)⟩
end
-- T4
noncomputable def stripStep (x : List Nat) (st : Nat × Option Nat × List (List Nat)) (pu : Nat × List Nat) : Nat × Option Nat × List (List Nat) :=
  if pu.2 = [34] then
    match st.2.1 with
    | none => (st.1, some pu.1, st.2.2)
    | some o => (pu.1 + 1, none, if st.1 = o then st.2.2 else st.2.2 ++ [cut x (some (st.1 : Int)) (some (o : Int))])
  else st
noncomputable def stripSt (x : List Nat) : Nat × Option Nat × List (List Nat) := (remF 0 false x).foldl (stripStep x) (0, none, [])
noncomputable def stripF (x : List Nat) : List Nat := if 34 ∈ x then ((stripSt x).2.2 ++ if (stripSt x).1 < x.length then [x.drop (stripSt x).1] else []).flatten else x
theorem remF_length : ∀ (x : List Nat) (p : Nat) (b : Bool), (remF p b x).length ≤ x.length + 1
  | [], _, true => by simp [remF]
  | [], _, false => by simp [remF]
  | c :: r, p, true => by simp only [remF, List.length_cons]; have := remF_length r (p + 1) false; omega
  | c :: r, p, false => by
    simp only [remF]
    split
    · have := remF_length r (p + 1) true; simp only [List.length_cons]; omega
    · have := remF_length r (p + 1) false; simp only [List.length_cons]; omega
noncomputable def optInt (o : Option Nat) (t : Tok) : Value := match o with
  | none => .none
  | some k => .int (k : Nat) t
section
variable {prog : Program} {w : World} {A : Around} {E : Value → Shared → Prop} {B : Fix} {O : OsState} {rs rs' : List Res} {G : Array GenState} {s : Shared}
set_option pp.deepTerms false
set_option pp.maxSteps 800
noncomputable def stripAt (x : List Nat) (k : Nat) : Nat × Option Nat × List (List Nat) := ((remF 0 false x).take k).foldl (stripStep x) (0, none, [])
theorem stripAt_succ {x : List Nat} {k : Nat} {pu : Nat × List Nat} (h : (remF 0 false x)[k]? = some pu) : stripAt x (k + 1) = stripStep x (stripAt x k) pu := by
  unfold stripAt
  rw [List.take_add_one, h, Option.toList_some, List.foldl_append]
  rfl
theorem stripStep_small {x : List Nat} {st : Nat × Option Nat × List (List Nat)} {pu : Nat × List Nat} {k : Nat} (h : st.2.2.length ≤ k) (h2 : ∀ y ∈ st.2.2, y.length ≤ x.length) : (stripStep x st pu).2.2.length ≤ k + 1 ∧ ∀ y ∈ (stripStep x st pu).2.2, y.length ≤ x.length := by
  unfold stripStep
  split
  · split
    · exact ⟨by show st.2.2.length ≤ k + 1; omega, h2⟩
    · dsimp only
      split
      · exact ⟨by omega, h2⟩
      · refine ⟨by simp; omega, fun y hy => ?_⟩
        rcases List.mem_append.mp hy with q | q
        · exact h2 y q
        · rw [List.mem_singleton.mp q]; exact cut_length _ _ _
  · exact ⟨by omega, h2⟩
theorem c_strip {x : List Nat} {t : Tok} {P : Value → Shared → Prop} (X : Base w B) (S : St B O rs G s) (hG : BareG G) (hA : A.depth + 15 < recursionLimit) (hh : A.handled = none) (ha : x.all (· < 128) = true) (hb : x.length ≤ 200)
    (h : ∀ s' t' G', BareG G' → St B O rs G' s' → P (.str (T (stripF x)) t') s') : wpAny (model prog w) A (call (.ref 202) [.str (T x) t] []) P NoE s := by
  refine r_call [("addr", .str (T x) t)] ["addr"] ["start", "open_pos", "result", "pos", "ch"] [("addr", some (.str (T x) t)), ("start", none), ("open_pos", none), ("result", none), ("pos", none), ("ch", none)] X S (by walk_at "sz") rfl (by kernel_rfl!) rfl rfl (.eq (by kernel_rfl!)) (by decide +kernel) rfl ?_
  clear S
  intro s L S
  walk_at "go"
  refine n_notIn1 sQuote ?_
  walk_at "go"
  refine .both (fun hq => ?_) (fun hq => ?_)
  · walk_at "go"
    have hq : ¬ 34 ∈ x := by simpa using hq
    have e : stripF x = x := by unfold stripF; rw [if_neg hq]
    have := h _ t _ hG (St.drop (by assumption))
    rw [e] at this
    exact this
  have hq34 : 34 ∈ x := by simpa using hq
  walk_at "go"
  refine c_iter X (by assumption) (by show A.depth + 1 + 5 < _; omega) ha (by walk_at "sz") fun s g r L2 S ok hbr => ?_
  refine n_iterGen S (by walk_at "mem") ?_
  rename_i D _ _ _ _
  have I := PSrc.gen (prog := prog) (w := w) (A := A.deeper (envA w 202 L)) hh (by show A.depth + 1 < _; omega) g G.size (remF 0 false x)
  refine n_forLoop2 (G := G.push r) (rs := (D, ListO []) :: rs) (ri := [(g, GenO G.size), (L2, FrO [("addr", some (.str (T x) t)), ("pos", none), ("escape", none), ("ch", none)])]) I (fun k l B' rs' => B = B' ∧ ∃ vs t1 t2 pv cv, StrVs vs ((stripAt x k).2.2.map T) ∧
      l = ([("addr", some (.str (T x) t)), ("start", some (.int ((stripAt x k).1 : Nat) t1)), ("open_pos", some (optInt (stripAt x k).2.1 t2)), ("result", some (.ref D)), ("pos", pv), ("ch", cv)] : List (Str × Option Value)) ∧
      rs' = (D, ListO vs) :: rs ∧ (stripAt x k).2.2.length ≤ k ∧ ∀ y ∈ (stripAt x k).2.2, y.length ≤ x.length) hh rfl (by kernel_rfl!) (by kernel_rfl!) ?_ (fun _ _ _ _ _ => trivial) ?_ ?_ ⟨r, [(L2, FrO [("addr", some (.str (T x) t)), ("pos", none), ("escape", none), ("ch", none)])], by simp, rfl, hG.push hbr, Nat.zero_le _, ok⟩ (S.perm (.cons _ (.cons _ (.swap ..)))) ⟨rfl, [], _, 0, none, none, trivial, rfl, rfl, Nat.le_refl _, by simp [stripAt]⟩
  · rintro k l B' rs' ⟨rfl, _⟩; exact X
  · rintro k l B' rs' ri G' v1 v2 K hK hk ⟨p, u, u1, u2, hp, rfl, rfl⟩ ⟨rfl, vs, t1, t2, pv, cv, hv, rfl, rfl, hn, hsm⟩ hH
    refine ⟨_, _, .tail (.tail (.tail (.tail .head))), .tail (.tail (.tail (.tail (.tail .head)))), fun s S => ?_⟩
    have hs := stripAt_succ hp
    have hsm' := stripStep_small (pu := (p, u)) hn hsm
    rw [← hs] at hsm'
    have S : St _ _ (_ :: _ :: (_ ++ _)) _ _ := S
    have hu : (T u == Str.ofString "\"") = (u == [34]) := by rw [sQuote]; exact T_beq u [34]
    obtain ⟨⟨st, op, res⟩, e⟩ : ∃ q, stripAt x k = q := ⟨_, rfl⟩
    rw [e] at hs hn hsm hv S
    cases op with
    | none =>
      have S : St B O (((envA w 202 L).locals, FrO [("addr", some (.str (T x) t)), ("start", some (.int (st : Nat) t1)), ("open_pos", some .none), ("result", some (.ref D)), ("pos", some (.int (p : Nat) u1)), ("ch", some (.str (T u) u2))]) :: (D, ListO vs) :: (rs ++ ri)) G' s := S
      walk_at "go"
      refine .both (fun hq => ?_) (fun hq => ?_)
      · have hq : u = [34] := by rw [hu] at hq; simpa using hq
        subst hq
        unfold stripStep at hs
        rw [if_pos rfl] at hs
        dsimp only at hs
        walk_at "go"
        refine .yes ?_
        walk_at "go"
        exact hK _ _ ⟨_, _, _, by assumption, rfl, vs, t1, u1, _, _, by rw [hs]; exact hv, by rw [hs]; rfl, rfl, hsm'⟩
      · have hq : ¬ u = [34] := by rw [hu] at hq; simpa using hq
        unfold stripStep at hs
        rw [if_neg hq] at hs
        walk_at "go"
        exact hK _ _ ⟨_, _, _, by assumption, rfl, vs, t1, t2, _, _, by rw [hs]; exact hv, by rw [hs]; rfl, rfl, hsm'⟩
    | some o =>
      have S : St B O (((envA w 202 L).locals, FrO [("addr", some (.str (T x) t)), ("start", some (.int (st : Nat) t1)), ("open_pos", some (.int (o : Nat) t2)), ("result", some (.ref D)), ("pos", some (.int (p : Nat) u1)), ("ch", some (.str (T u) u2))]) :: (D, ListO vs) :: (rs ++ ri)) G' s := S
      walk_at "go"
      refine .both (fun hq => ?_) (fun hq => ?_)
      · have hq : u = [34] := by rw [hu] at hq; simpa using hq
        subst hq
        unfold stripStep at hs
        rw [if_pos rfl] at hs
        dsimp only at hs
        walk_at "go"
        refine .no ?_
        walk_at "go"
        refine .both (fun hne => ?_) (fun hne => ?_)
        · have hne : ¬ st = o := by simpa [Int.ofNat_inj] using hne
          walk_at "go"
          refine n_cutStr (l := some ((st : Int), t1)) (u := some ((o : Int), t2)) (by walk_at "sz") (by assumption) (fun s' k2 S => ?_) (fun _ _ => rfl) (fun _ _ => rfl)
          have hlen := hv.length
          rw [List.length_map] at hlen
          have hrl := remF_length x 0 false
          walk_at "go"
          refine hK _ _ ⟨_, _, _, by assumption, rfl, _, _, t2, _, _, by rw [hs, if_neg hne, List.map_append]; exact hv.snoc ⟨_, rfl⟩, by rw [hs]; rfl, rfl, hsm'⟩
        · have hne : st = o := by simpa [Int.ofNat_inj] using hne
          walk_at "go"
          refine hK _ _ ⟨_, _, _, by assumption, rfl, _, _, t2, _, _, by rw [hs, if_pos hne]; exact hv, by rw [hs]; rfl, rfl, hsm'⟩
      · have hq : ¬ u = [34] := by rw [hu] at hq; simpa using hq
        unfold stripStep at hs
        rw [if_neg hq] at hs
        walk_at "go"
        exact hK _ _ ⟨_, _, _, by assumption, rfl, vs, t1, t2, _, _, by rw [hs]; exact hv, by rw [hs]; rfl, rfl, hsm'⟩
  · rintro l B' rs' G' s ⟨rfl, vs, t1, t2, pv, cv, hv, rfl, rfl, hn, hsm⟩ hf S
    walk_at "go"
    have hst : stripAt x (remF 0 false x).length = stripSt x := by unfold stripAt stripSt; rw [List.take_length]
    rw [hst] at hv hn hsm
    have hlen := hv.length
    rw [List.length_map] at hlen
    have hrl := remF_length x 0 false
    have hflat : ∀ (l : List (List Nat)) (m : Nat), (∀ y ∈ l, y.length ≤ m) → l.flatten.length ≤ l.length * m := fun l m h => by
      induction l with
      | nil => simp
      | cons a r ih =>
        have h1 := h a (by simp)
        have h2 := ih fun y hy => h y (by simp [hy])
        simp only [List.flatten_cons, List.length_append, List.length_cons, Nat.succ_mul]
        omega
    have hcat : ∀ l : List (List Nat), catT (l.map T) = l.flatten := fun l => by
      induction l with
      | nil => rfl
      | cons a r ih => simp only [List.map_cons, catT, List.flatMap_cons, List.flatten_cons] at ih ⊢; rw [ih]; simp [T]
    refine .both (fun hq => ?_) (fun hq => ?_)
    · have hq : (stripSt x).1 < x.length := by rw [hst] at hq; simpa using hq
      walk_at "go"
      have S := (‹St _ _ _ _ _›)
      refine n_cutStr (l := some (((stripSt x).1 : Int), t1)) (u := none) (by walk_at "sz") (by rw [hst] at S; exact S) (fun s' k2 S => ?_) (fun _ _ => rfl) (fun _ _ => rfl)
      walk_at "go"
      have e : catT (((stripSt x).2.2 ++ [x.drop (stripSt x).1]).map T) = stripF x := by rw [hcat]; unfold stripF; rw [if_pos hq34, if_pos hq]
      have hlong : (stripF x).length ≤ 100000 := by
        unfold stripF
        rw [if_pos hq34, if_pos hq]
        have := hflat ((stripSt x).2.2 ++ [x.drop (stripSt x).1]) x.length (fun y hy => by
          rcases List.mem_append.mp hy with q | q
          · exact hsm y q
          · rw [List.mem_singleton.mp q]; simp)
        have h2 : ((stripSt x).2.2 ++ [x.drop (stripSt x).1]).length * x.length ≤ 202 * 200 := Nat.mul_le_mul (by simp; omega) hb
        omega
      refine n_join (by assumption) (.inl (by walk_at "mem")) (xs := ((stripSt x).2.2 ++ [x.drop (stripSt x).1]).map T) (by rw [List.map_append]; exact hv.snoc ⟨_, by rw [← cut_from]; rfl⟩) (by rw [e]; exact hlong) fun s k S => ?_
      rw [e]
      walk_at "go"
      exact h _ _ _ hf S.drop.drop
    · have hq : ¬ (stripSt x).1 < x.length := by rw [hst] at hq; simpa using hq
      walk_at "go"
      have e : catT ((stripSt x).2.2.map T) = stripF x := by rw [hcat]; unfold stripF; rw [if_pos hq34, if_neg hq, List.append_nil]
      have hlong : (stripF x).length ≤ 100000 := by
        unfold stripF
        rw [if_pos hq34, if_neg hq, List.append_nil]
        have := hflat (stripSt x).2.2 x.length hsm
        have h2 : (stripSt x).2.2.length * x.length ≤ 202 * 200 := Nat.mul_le_mul (by walk_at "sz") hb
        omega
      refine n_join (by assumption) (.inl (by walk_at "mem")) hv (by rw [e]; exact hlong) fun s k S => ?_
      rw [e]
      walk_at "go"
      exact h _ _ _ hf S.drop.drop
end
-- T5
theorem remF_flatten : ∀ (x : List Nat) (p : Nat) (b : Bool), ((remF p b x).map (·.2)).flatten = if b then 92 :: x else x
  | [], _, true => rfl
  | [], _, false => rfl
  | c :: r, p, true => by simp [remF, remF_flatten r]
  | c :: r, p, false => by
    simp only [remF]
    split
    · rename_i h; subst h; rw [remF_flatten r]; rfl
    · simp [remF_flatten r]
theorem remF_ne : ∀ (x : List Nat) (p : Nat) (b : Bool), ∀ u ∈ (remF p b x).map (·.2), u ≠ []
  | [], _, true => by simp [remF]
  | [], _, false => by simp [remF]
  | c :: r, p, true => by
    intro u hu
    simp only [remF, List.map_cons, List.mem_cons] at hu
    rcases hu with rfl | hu
    · simp
    · exact remF_ne r _ _ u hu
  | c :: r, p, false => by
    intro u hu
    simp only [remF] at hu
    split at hu
    · exact remF_ne r _ _ u hu
    · simp only [List.map_cons, List.mem_cons] at hu
      rcases hu with rfl | hu
      · simp
      · exact remF_ne r _ _ u hu
noncomputable def unitsF (x : List Nat) : List (List Nat) := (remF 0 false x).map (·.2)
noncomputable def placesOk (x : List Nat) : Bool := ((remF 0 false x).map fun pu => (pu.1 : Int)) == (List.range (unitsF x).length).map fun m => ((((unitsF x).take (m + 1)).flatten.length : Nat) : Int) - 1
noncomputable def aheadF (x : List Nat) (k : Nat) : List Nat := ((unitsF x).take k).flatten
noncomputable def behindF (x : List Nat) (k : Nat) : List Nat := ((unitsF x).drop (k + 1)).flatten
noncomputable def unitAt (x : List Nat) (k : Nat) : List Nat := (unitsF x).getD k []
noncomputable def takeStep (x : List Nat) (acc : List (List Nat)) (k : Nat) : Option (List (List Nat)) :=
  if isLet ((unitAt x k).getLastD 0) then
    let y := stripF (aheadF x k ++ [34] ++ unitAt x k ++ [34] ++ behindF x k)
    if y = aheadF x k ++ behindF x k then some (acc ++ [y]) else none
  else some acc
noncomputable def takenF (x : List Nat) : Option (List (List Nat)) := if placesOk x then (List.range (unitsF x).length).foldlM (takeStep x) [] else none
section
variable {prog : Program} {w : World} {A : Around} {E : Value → Shared → Prop} {B : Fix} {O : OsState} {rs rs' : List Res} {G : Array GenState} {s : Shared}
set_option pp.deepTerms false
set_option pp.maxSteps 800
theorem c_taken {x : List Nat} {t : Tok} {P : Value → Shared → Prop} (X : Base w B) (S : St B O rs G s) (hG : BareG G) (ok : Ok A 30) (ha : x.all (· < 128) = true) (hb : x.length ≤ 100)
    (h : ∀ s' G', BareG G' → match takenF x with
      | none => St B O rs G' s' → P .none s'
      | some ys => ∀ D vs, StrVs vs (ys.map T) → St B O ((D, ListO vs) :: rs) G' s' → P (.ref D) s') : wpAny (model prog w) A (call (.ref 226) [.str (T x) t] []) P NoE s := by
  refine r_callC [("text", .str (T x) t)] [("text", some (.str (T x) t)), ("told", none), ("left", none), ("place", none), ("ahead", none), ("behind", none)] (fun L => [("units", L + 1)]) [("units", none)] (fun L => [(L + 1, CellO none)]) X S (ok.d (j := 0) (by walk_at "sz")) (by kernel_rfl!) rfl rfl (by kernel_rfl!) (by kernel_rfl!) (fun _ => by kernel_rfl!) (fun _ _ => by simp [List.lookup_cons]; split <;> simp_all) ["text", "told", "left", "place", "ahead", "behind"] rfl (by decide +kernel) (by kernel_rfl!) (by kernel_rfl!) (fun _ => by kernel_rfl!) (fun _ => by kernel_rfl!) (by decide +kernel) ?_
  clear S
  intro s L S
  have S : St B O ((L, FrO [("text", some (.str (T x) t)), ("told", none), ("left", none), ("place", none), ("ahead", none), ("behind", none)]) :: (L + 1, CellO none) :: rs) G s := S
  refine n_execs ?_
  have okd := ok.down (env := envC w 226 L [("units", L + 1)])
  generalize hAA : A.deeper (envC w 226 L [("units", L + 1)]) = AA at okd ⊢
  clear hAA ok
  refine n_assignComp [] (by kernel_rfl!) (by kernel_rfl!) (by kernel_rfl!) (fun _ => rfl) ?_
  walk_at "go"
  refine c_iter X (by assumption) (okd.d (by walk_at "sz")) ha (by walk_at "sz") fun s g r L2 S gok hbr => ?_
  refine n_iterGen S (by walk_at "mem") ?_
  have hrl := remF_length x 0 false
  have I := PSrc.gen (prog := prog) (w := w) (A := AA) okd.1 (okd.d (j := 0) (by walk_at "sz")) g G.size (remF 0 false x)
  refine n_compAt2 (G := G.push r) (rs := (L, FrO [("text", some (.str (T x) t)), ("told", none), ("left", none), ("place", none), ("ahead", none), ("behind", none)]) :: (L + 1, CellO none) :: rs) (ri := [(g, GenO G.size), (L2, FrO [("addr", some (.str (T x) t)), ("pos", none), ("escape", none), ("ch", none)])]) I
    (fun k ys B' rs' => Base w B' ∧ Fix.le B B' ∧ rs' = (L, FrO [("text", some (.str (T x) t)), ("told", none), ("left", none), ("place", none), ("ahead", none), ("behind", none)]) :: (L + 1, CellO none) :: rs ∧ ys.length = k ∧ k ≤ (remF 0 false x).length ∧
      ∀ (i : Nat) v, ys[i]? = some v → ∃ p u t1 t2, (remF 0 false x)[i]? = some (p, u) ∧ PairAt B' v (.int (p : Nat) t1) (.str (T u) t2)) okd.1 (by kernel_rfl!) rfl (by kernel_rfl!) (by kernel_rfl!) (by decide +kernel) ?_ (fun _ _ _ _ _ _ _ _ => trivial) ?_ ?_ ?_
    ⟨r, [(L2, FrO [("addr", some (.str (T x) t)), ("pos", none), ("escape", none), ("ch", none)])], by simp, rfl, hG.push hbr, Nat.zero_le _, gok⟩ S ⟨X, .rfl, rfl, rfl, Nat.zero_le _, by simp⟩
  · rintro k ys B' rs' ⟨h1, _⟩; exact h1
  · rintro k ys B' rs' ri G' C D v1 v2 K K0 hK hK0 s hk ⟨p, u, t1, t2, hp, rfl, rfl⟩ ⟨X', le, rfl, hlen, hkl, hys⟩ S
    have S : St _ _ (_ :: _ :: _ :: _ :: (_ ++ _)) _ _ := S
    refine wpAny_tests_nil (.yes ?_)
    walk_at "go"
    have S := ‹St _ _ ((_, TupO _) :: _) _ _›
    obtain ⟨o, hto, le2, hat, S⟩ := S.freeze
    refine hK _ _ ⟨_, _, S, X'.mono le2, le.trans le2, rfl, by simp [hlen], hk, fun i v hv => ?_⟩
    by_cases hi : i < ys.length
    · rw [List.getElem?_append_left hi] at hv
      obtain ⟨p, u, t1, t2, e, q⟩ := hys i v hv
      exact ⟨p, u, t1, t2, e, q.mono le2⟩
    · have e : i = ys.length := by
        have := (List.getElem?_eq_some_iff.mp hv).1
        simp at this; omega
      subst e
      rw [hlen] at hv ⊢
      simp [← hlen] at hv
      subst hv
      exact ⟨p, u, t1, t2, hp, _, rfl, o, hat, hto⟩
  · rintro k ys B' rs' ⟨_, _, _, hlen, hk, _⟩
    rw [hlen, sizeLine_eq]; omega
  · rintro ys B' rs' G' D ⟨X', le, rfl, hlen, hkl, hys⟩ hG'
    intro s C P' S
    clear I gok
    walk_at "go"
    refine ⟨_, _, by assumption, fun s S => ?_⟩
    walk_at "go"
    refine n_listcomp [] (by kernel_rfl!) (by kernel_rfl!) (fun _ => rfl) ?_
    walk_at "go"
    have hfr : ∀ k v, ys[k]? = some v → ∃ v1 v2, PairAt B' v v1 v2 ∧ (fun (k : Nat) (v1 v2 : Value) => ∃ p u t1 t2, (remF 0 false x)[k]? = some (p, u) ∧ v1 = .int (p : Nat) t1 ∧ v2 = .str (T u) t2) k v1 v2 := fun k v hv => by
      obtain ⟨p, u, t1, t2, e, q⟩ := hys k v hv
      exact ⟨_, _, q, p, u, t1, t2, e, rfl, rfl⟩
    refine n_iterList S (.inl (by walk_at "mem")) fun it s S => ?_
    have I := PSrc.list (prog := prog) (w := w) (A := AA) G' okd.1 it D hfr
    refine n_compAt2 (rs := (D, ListO ys) :: (L, FrO [("text", some (.str (T x) t)), ("told", some (.ref D)), ("left", none), ("place", none), ("ahead", none), ("behind", none)]) :: (L + 1, CellO none) :: rs) (ri := [(it, ListItO D 0)]) I
      (fun k zs B2 rs2 => B' = B2 ∧ rs2 = (D, ListO ys) :: (L, FrO [("text", some (.str (T x) t)), ("told", some (.ref D)), ("left", none), ("place", none), ("ahead", none), ("behind", none)]) :: (L + 1, CellO none) :: rs ∧ k ≤ ys.length ∧ StrVs zs (((unitsF x).take k).map T))
      okd.1 (by kernel_rfl!) rfl (by kernel_rfl!) (by kernel_rfl!) (by decide +kernel) (by rintro _ _ _ _ ⟨rfl, _⟩; exact X') (by rintro _ _ _ _ C D l ⟨rfl, rfl, _⟩; exact ⟨.inl (by walk_at "mem"), .rfl⟩) ?_ ?_ ?_ ⟨rfl, rfl⟩ S ⟨rfl, rfl, Nat.zero_le _, trivial⟩
    · rintro k zs B2 rs2 ri G2 C U v1 v2 K K0 hK hK0 s hk ⟨p, u, t1, t2, hp, rfl, rfl⟩ ⟨rfl, rfl, hkl, hz⟩ S
      have S : St _ _ (_ :: _ :: _ :: _ :: _ :: (_ ++ _)) _ _ := S
      refine wpAny_tests_nil (.yes ?_)
      walk_at "go"
      refine hK _ _ ⟨_, _, S, rfl, rfl, hk, ?_⟩
      have hu : (unitsF x)[k]? = some u := by unfold unitsF; rw [List.getElem?_map, hp]; rfl
      rw [List.take_add_one, hu, List.map_append]
      exact hz.snoc ⟨_, rfl⟩
    · rintro k zs B2 rs2 ⟨_, _, hkl, hz⟩
      rw [hz.length, List.length_map, List.length_take, sizeLine_eq]; omega
    · rintro zs B2 rs2 G2 U ⟨rfl, rfl, _, hz⟩ rfl
      have hul : (unitsF x).length = ys.length := by unfold unitsF; rw [List.length_map, hlen]
      rw [← hul, List.take_length] at hz
      intro s S
      clear I
      walk_at "go"
      clear S
      have S := ‹St _ _ ((U, ListO zs) :: (D, ListO ys) :: (L, _) :: (L + 1, CellO (some (.ref U))) :: rs) _ _›
      refine n_listcomp [] (by kernel_rfl!) (by kernel_rfl!) (fun _ => rfl) ?_
      walk_at "go"
      refine n_iterList S (.inl (by walk_at "mem")) fun it s S => ?_
      have I := PSrc.list (prog := prog) (w := w) (A := AA) G' okd.1 it D hfr
      refine n_compAt2 (rs := (U, ListO zs) :: (D, ListO ys) :: (L, FrO [("text", some (.str (T x) t)), ("told", some (.ref D)), ("left", none), ("place", none), ("ahead", none), ("behind", none)]) :: (L + 1, CellO (some (.ref U))) :: rs) (ri := [(it, ListItO D 0)]) I
        (fun k ws B3 rs3 => B' = B3 ∧ rs3 = (U, ListO zs) :: (D, ListO ys) :: (L, FrO [("text", some (.str (T x) t)), ("told", some (.ref D)), ("left", none), ("place", none), ("ahead", none), ("behind", none)]) :: (L + 1, CellO (some (.ref U))) :: rs ∧ k ≤ ys.length ∧ IntsAre ws ((((remF 0 false x).take k).map fun pu => (pu.1 : Int))))
        okd.1 (by kernel_rfl!) rfl (by kernel_rfl!) (by kernel_rfl!) (by decide +kernel) (by rintro _ _ _ _ ⟨rfl, _⟩; exact X') (by rintro _ _ _ _ C D l ⟨rfl, rfl, _⟩; exact ⟨.inl (by walk_at "mem"), .rfl⟩) ?_ ?_ ?_ ⟨rfl, rfl⟩ S ⟨rfl, rfl, Nat.zero_le _, .nil⟩
      · rintro k ws B3 rs3 ri G3 C V v1 v2 K K0 hK hK0 s hk ⟨p, u, t1, t2, hp, rfl, rfl⟩ ⟨rfl, rfl, hkl, hw⟩ S
        have S : St _ _ (_ :: _ :: _ :: _ :: _ :: _ :: (_ ++ _)) _ _ := S
        refine wpAny_tests_nil (.yes ?_)
        walk_at "go"
        refine hK _ _ ⟨_, _, S, rfl, rfl, hk, ?_⟩
        rw [List.take_add_one, hp, List.map_append]
        exact Mine.IntsAre.snoc' hw
      · rintro k ws B3 rs3 ⟨_, _, hkl, hw⟩
        rw [hw.length, List.length_map, List.length_take, sizeLine_eq]; omega
      · rintro ws B3 rs3 G3 V ⟨rfl, rfl, _, hw⟩ rfl
        have hyl : ys.length = (remF 0 false x).length := hlen
        rw [hyl, List.take_length] at hw
        intro s S
        clear I
        walk_at "go"
        refine n_listcomp [("units", L + 1)] (by kernel_rfl!) (by kernel_rfl!) (fun _ => rfl) ?_
        have hzl := hz.length
        rw [List.length_map] at hzl
        walk_at "go"
        have hflat : (unitsF x).flatten.length ≤ 100 := by
          have := remF_flatten x 0 false
          show ((remF 0 false x).map (·.2)).flatten.length ≤ 100
          rw [this]; exact hb
        have hn100 : (unitsF x).length ≤ 101 := by rw [hul, hlen]; omega
        refine n_iterRange (a := 0) (b := (unitsF x).length) (by walk_at "sz") (by walk_at "sz") (by assumption) (by rw [← hzl]; exact List.mem_cons_self) fun it s S => ?_
        have I := Iter.range (prog := prog) (w := w) (A := AA) okd.1 it 0 (unitsF x).length
        refine n_compAt I (fun k us B4 rs4 G4 => B' = B4 ∧ rs4 = (V, ListO ws) :: (U, ListO zs) :: (D, ListO ys) :: (L, FrO [("text", some (.str (T x) t)), ("told", some (.ref D)), ("left", none), ("place", none), ("ahead", none), ("behind", none)]) :: (L + 1, CellO (some (.ref U))) :: rs ∧ G' = G4 ∧ k ≤ (unitsF x).length ∧
            IntsAre us ((List.range k).map fun m => ((((unitsF x).take (m + 1)).flatten.length : Nat) : Int) - 1)) (by kernel_rfl!) rfl (by kernel_rfl!) (fun _ _ _ _ _ _ _ _ _ => trivial) ?_ ?_ ?_ (S.sub (.cons_cons _ (.cons _ (List.Sublist.refl _)))) ⟨rfl, rfl, rfl, Nat.zero_le _, .nil⟩
        · rintro k us B4 rs4 G4 C W v K K0 hK hK0 s hk ⟨tk, rfl⟩ ⟨rfl, rfl, rfl, hkl, hus⟩ S
          refine wpAny_tests_nil (.yes ?_)
          walk_at "go"
          refine n_cutList (by assumption) (.inl (by walk_at "mem")) .none (.int _ _) (by walk_at "sz") (fun D' s S => ?_) (fun _ _ => rfl) (fun _ _ => rfl)
          have e : cut zs none (some (((0 + k : Nat) : Int) + 1)) = zs.take (k + 1) := by
            have : ((0 + k : Nat) : Int) + 1 = ((k + 1 : Nat) : Int) := by omega
            rw [this, cut_to]
          rw [e] at S
          walk_at "go"
          have hle := flatten_take_le (unitsF x) (k + 1)
          refine n_join (by assumption) (.inl (by walk_at "mem")) (xs := ((unitsF x).take (k + 1)).map T) (by rw [List.map_take]; exact hz.take _) (by rw [catT_T]; omega) fun s t2 S => ?_
          rw [catT_T]
          walk_at "go"
          refine hK _ _ ⟨_, _, _, St.sub (by assumption) (.cons _ (List.Sublist.refl _)), rfl, rfl, rfl, hk, ?_⟩
          rw [List.range_succ, List.map_append]
          exact Mine.IntsAre.snoc' hus
        · rintro k us B4 rs4 G4 ⟨_, _, _, hkl, hus⟩
          rw [hus.length, List.length_map, List.length_range, sizeLine_eq]; omega
        · rintro us B4 rs4 G4 W ⟨rfl, rfl, rfl, _, hus⟩
          intro s S
          clear I
          walk_at "go"
          refine n_neInts okd.u S (.inl (by walk_at "mem")) (.inl (by walk_at "mem")) hw hus ?_
          walk_at "go"
          have hpk : placesOk x = !(List.map (fun pu => (pu.1 : Int)) (remF 0 false x) != List.map (fun m => ((((unitsF x).take (m + 1)).flatten.length : Nat) : Int) - 1) (List.range (unitsF x).length)) := by
            unfold placesOk; rw [bne, Bool.not_not]
          refine .both (fun hp => ?_) (fun hp => ?_)
          · rw [hp] at hpk
            walk_at "go"
            have hnone : takenF x = none := by unfold takenF; rw [hpk]; rfl
            have q := fun s' => h s' G' hG'
            simp only [hnone] at q
            exact q _ ((St.sub (by assumption) (by walk_at "mem")).shrink le)
          · rw [hp] at hpk
            walk_at "go"
            rename_i LL _ _ _ _ _ _ _ _ _ _
            refine n_iterRange (a := 0) (b := (unitsF x).length) (by walk_at "sz") (by walk_at "sz") (by assumption) (by rw [← hzl]; exact List.mem_cons_self) fun it s S => ?_
            have I := Iter.range (prog := prog) (w := w) (A := AA) okd.1 it 0 (unitsF x).length
            have S : St B' O ((it, RangeItO ((0 + 0 : Nat) : Int) (((unitsF x).length - 0 : Nat) : Int) 1) :: (L, FrO [("text", some (.str (T x) t)), ("told", some (.ref D)), ("left", some (.ref LL)), ("place", none), ("ahead", none), ("behind", none)]) :: (LL, ListO []) :: (U, ListO zs) :: (D, ListO ys) :: (L + 1, CellO (some (.ref U))) :: rs) G' s :=
              ((S.front (a := L) (by walk_at "mem")).front (a := it) (by walk_at "mem")).sub (by walk_at "mem")
            refine n_forLoop I (fun k (l : List (Str × Option Value)) B5 rs5 G5 => B' = B5 ∧ BareG G5 ∧ ∃ acc lv pv av bv, (List.range k).foldlM (takeStep x) [] = some acc ∧ StrVs lv (acc.map T) ∧
              l = ([("text", some (.str (T x) t)), ("told", some (.ref D)), ("left", some (.ref LL)), ("place", pv), ("ahead", av), ("behind", bv)] : List (Str × Option Value)) ∧
              rs5 = (LL, ListO lv) :: (U, ListO zs) :: (D, ListO ys) :: (L + 1, CellO (some (.ref U))) :: rs ∧ acc.length ≤ k) rfl (by kernel_rfl!) (fun _ _ _ _ _ _ => trivial) ?_ ?_ S ⟨rfl, hG', [], [], none, none, none, rfl, trivial, rfl, rfl, Nat.le_refl _⟩
            · rintro k l B5 rs5 G5 v K hK hk ⟨tk, rfl⟩ ⟨rfl, hG5, acc, lv, pv, av, bv, hacc, hlv, rfl, rfl, hal⟩
              refine ⟨_, .tail (.tail (.tail .head)), fun s S => ?_⟩
              have hzk : zs.length = (unitsF x).length := hzl
              obtain ⟨u, hu⟩ : ∃ u, (unitsF x)[k]? = some u := ⟨_, List.getElem?_eq_getElem hk⟩
              have huk : unitAt x k = u := by unfold unitAt; rw [List.getD_eq_getElem?_getD, hu]; rfl
              have hune : u ≠ [] := remF_ne x 0 false u (List.mem_of_getElem? hu)
              obtain ⟨tu, hzu⟩ := hz.at (k := k) (x := T u) (by rw [List.getElem?_map, hu]; rfl)
              have hul100 : u.length ≤ 100 := by
                have h1 : (unitsF x).drop k = u :: (unitsF x).drop (k + 1) := by
                  rw [List.drop_eq_getElem_cons hk]
                  rw [List.getElem?_eq_getElem hk] at hu; cases hu; rfl
                have h2 := flatten_drop_le (unitsF x) k
                rw [h1, List.flatten_cons, List.length_append] at h2
                omega
              have hah := flatten_take_le (unitsF x) k
              have hbe := flatten_drop_le (unitsF x) (k + 1)
              have hlast : u[u.length - 1]? = some (u.getLastD 0) := by
                rw [List.getLastD_eq_getLast?, List.getLast?_eq_getElem?]
                have : u.length - 1 < u.length := by have := List.length_pos_iff.mpr hune; omega
                rw [List.getElem?_eq_getElem this]; rfl
              have hup : 1 ≤ u.length := List.length_pos_iff.mpr hune
              have h0k : 0 + k = k := Nat.zero_add k
              rw [h0k] at S
              walk_at "go"
              refine n_itemList (k := k) (by assumption) (.inl (by walk_at "mem")) (by walk_at "sz") hzu ?_ (fun _ _ => rfl) (fun _ _ => rfl)
              walk_at "go"
              refine n_charLast (k := 1) (by assumption) (Nat.le_refl _) hup hlast (by walk_at "sz") (fun s tc S => ?_) (fun _ _ => rfl) (fun _ _ => rfl)
              walk_at "go"
              refine n_inLet (c := u.getLastD 0) ?_
              walk_at "go"
              have hfold : (List.range (k + 1)).foldlM (takeStep x) [] = takeStep x acc k := by rw [List.range_succ, List.foldlM_append, hacc]; simp
              refine .both (fun hlet => ?_) (fun hlet => ?_)
              · walk_at "go"
                have hsplit : (unitsF x).flatten = ((unitsF x).take k).flatten ++ (u ++ ((unitsF x).drop (k + 1)).flatten) := by
                  conv => lhs; rw [← List.take_append_drop k (unitsF x)]
                  rw [List.flatten_append]
                  congr 1
                  have h1 : (unitsF x).drop k = u :: (unitsF x).drop (k + 1) := by
                    rw [List.drop_eq_getElem_cons hk]
                    rw [List.getElem?_eq_getElem hk] at hu; cases hu; rfl
                  rw [h1, List.flatten_cons]
                have hxx : (unitsF x).flatten = x := remF_flatten x 0 false
                have hsum : ((unitsF x).take k).flatten.length + u.length + ((unitsF x).drop (k + 1)).flatten.length ≤ 100 := by
                  have := congrArg List.length hsplit
                  rw [List.length_append, List.length_append] at this; omega
                have hasc : (((((unitsF x).take k).flatten ++ [34]) ++ u ++ [34]) ++ ((unitsF x).drop (k + 1)).flatten).all (· < 128) = true := by
                  rw [hxx] at hsplit
                  rw [hsplit] at ha
                  simp only [List.all_append, Bool.and_eq_true] at ha ⊢
                  exact ⟨⟨⟨⟨ha.1, by decide⟩, ha.2.1⟩, by decide⟩, ha.2.2⟩
                clear hsplit hxx
                refine n_cutList (by assumption) (.inl (by walk_at "mem")) .none (.int _ _) (by walk_at "sz") (fun D1 s S => ?_) (fun _ _ => rfl) (fun _ _ => rfl)
                rw [cut_to] at S
                walk_at "go"
                refine n_join (by assumption) (.inl (by walk_at "mem")) (xs := ((unitsF x).take k).map T) (by rw [List.map_take]; exact hz.take _) (by rw [catT_T]; omega) fun s t2 S => ?_
                rw [catT_T]
                walk_at "go"
                refine n_cutList (by assumption) (.inl (by walk_at "mem")) (.int _ _) .none (by walk_at "sz") (fun D2 s S => ?_) (fun _ _ => rfl) (fun _ _ => rfl)
                have e1 : cut zs (some ((k : Int) + 1)) none = zs.drop (k + 1) := cut_from zs (k + 1)
                rw [e1] at S
                walk_at "go"
                refine n_join (by assumption) (.inl (by walk_at "mem")) (xs := ((unitsF x).drop (k + 1)).map T) (by rw [List.map_drop]; exact hz.drop _) (by rw [catT_T]; omega) fun s t3 S => ?_
                rw [catT_T]
                walk_at "go"
                refine n_itemList (k := k) (by assumption) (.inl (by walk_at "mem")) (by walk_at "sz") hzu ?_ (fun _ _ => rfl) (fun _ _ => rfl)
                walk_at "go"
                refine c_strip X' (by assumption) hG5 (okd.d (by walk_at "sz")) okd.1 hasc (by simp only [List.length_append, List.length_cons, List.length_nil]; omega) fun s t4 G6 hG6 S => ?_
                have hlvl := hlv.length
                rw [List.length_map] at hlvl
                walk_at "go"
                refine n_itemLast (by assumption) (.inl (by walk_at "mem")) ?_ (fun _ _ => rfl) (fun _ _ => rfl)
                walk_at "go"
                have hst : takeStep x acc k = if stripF ((((((unitsF x).take k).flatten ++ [34]) ++ u ++ [34]) ++ ((unitsF x).drop (k + 1)).flatten)) = ((unitsF x).take k).flatten ++ ((unitsF x).drop (k + 1)).flatten then some (acc ++ [stripF ((((((unitsF x).take k).flatten ++ [34]) ++ u ++ [34]) ++ ((unitsF x).drop (k + 1)).flatten))]) else none := by
                  unfold takeStep; rw [huk, hlet, if_pos rfl]; rfl
                refine .both (fun hne => ?_) (fun hne => ?_)
                · have hne : ¬ stripF ((((((unitsF x).take k).flatten ++ [34]) ++ u ++ [34]) ++ ((unitsF x).drop (k + 1)).flatten)) = ((unitsF x).take k).flatten ++ ((unitsF x).drop (k + 1)).flatten := fun e => by
                    rw [bne_iff_ne] at hne; exact hne (congrArg T e)
                  rw [if_neg hne] at hst
                  walk_at "go"
                  have hnone : takenF x = none := by
                    unfold takenF
                    rw [hpk]
                    have hr : List.range (unitsF x).length = List.range (k + 1) ++ (List.range ((unitsF x).length - (k + 1))).map (k + 1 + ·) := by
                      rw [← List.range_add]; congr 1; omega
                    show (List.range (unitsF x).length).foldlM (takeStep x) [] = none
                    rw [hr, List.foldlM_append, hfold, hst]; rfl
                  have q := fun s' => h s' G6 hG6
                  simp only [hnone] at q
                  exact hK _ _ (q _ ((St.sub (by assumption) (by walk_at "mem")).shrink le))
                · have he : stripF ((((((unitsF x).take k).flatten ++ [34]) ++ u ++ [34]) ++ ((unitsF x).drop (k + 1)).flatten)) = ((unitsF x).take k).flatten ++ ((unitsF x).drop (k + 1)).flatten := by
                    have : ¬ (T (stripF ((((((unitsF x).take k).flatten ++ [34]) ++ u ++ [34]) ++ ((unitsF x).drop (k + 1)).flatten))) ≠ T (((unitsF x).take k).flatten ++ ((unitsF x).drop (k + 1)).flatten)) := by
                      rw [← bne_iff_ne]; rw [hne]; exact Bool.false_ne_true
                    exact T_inj (Classical.not_not.mp this)
                  rw [if_pos he] at hst
                  walk_at "go"
                  refine hK _ _ ⟨_, _, _, _, St.sub (by assumption) (by walk_at "mem"), rfl, hG6, acc ++ [_], lv ++ [_], _, _, _, by rw [hfold, hst], ?_, rfl, rfl, by simp; omega⟩
                  rw [List.map_append]
                  exact hlv.snoc ⟨_, rfl⟩
              · walk_at "go"
                have hst : takeStep x acc k = some acc := by unfold takeStep; rw [huk, hlet]; rfl
                exact hK _ _ ⟨_, _, _, _, by assumption, rfl, hG5, acc, lv, _, _, _, by rw [hfold, hst], hlv, rfl, rfl, by omega⟩
            · rintro l B5 rs5 G5 s ⟨rfl, hG5, acc, lv, pv, av, bv, hacc, hlv, rfl, rfl, hal⟩ S
              walk_at "go"
              have hsome : takenF x = some acc := by unfold takenF; rw [hpk]; exact hacc
              have q := fun s' => h s' G5 hG5
              simp only [hsome] at q
              exact q _ LL lv hlv ((St.sub (by assumption) (by walk_at "mem")).shrink le)
end
-- T6
section
variable {prog : Program} {w : World} {A : Around} {E : Value → Shared → Prop} {B : Fix} {O : OsState} {rs rs' : List Res} {G : Array GenState} {s : Shared}
set_option pp.deepTerms false
set_option pp.maxSteps 800
theorem c_conv {H : Addr} {x : List Nat} {t : Tok} {b : Bool} {P : Value → Shared → Prop} (X : Base w B) (S : St B O rs G s) (hA : A.depth + 5 < recursionLimit) (hx : x.all plainCh = true)
    (h : ∀ s', St B O rs G s' → P (.str (T x) t) s') : wpAny (model prog w) A (call (.ref 83) [.ref H, .str (T x) t] [("name", .bool b)]) P NoE s := by
  refine r_call [("self", .ref H), ("value", .str (T x) t), ("name", .bool b)] ["self", "value", "name"] ["regex"] [("self", some (.ref H)), ("value", some (.str (T x) t)), ("name", some (.bool b)), ("regex", none)] X S (by walk_at "sz") rfl (by kernel_rfl!) rfl rfl (.eq (by kernel_rfl!)) (by decide +kernel) rfl ?_
  clear S
  intro s L S
  walk_at "go"
  refine .yes ?_
  walk_at "go"
  refine .both (fun hb => ?_) (fun hb => ?_)
  · walk_at "go"
    refine .no ?_
    walk_at "go"
    exact h _ (St.drop (by assumption))
  · walk_at "go"
    refine .no ?_
    walk_at "go"
    exact h _ (St.drop (by assumption))
end
-- T7
section
variable {prog : Program} {w : World} {A : Around} {E : Value → Shared → Prop} {B : Fix} {O : OsState} {rs rs' : List Res} {G : Array GenState} {s : Shared}
set_option pp.deepTerms false
set_option pp.maxSteps 800
theorem under_ok {A : Around} {k : Nat} (h : Ok A (k + 1)) : Ok (A.under (.builtin "type.__call__" ⟨[.ref 184], []⟩)) k := by
  have h1 : (Code.builtin "type.__call__" ⟨[.ref 184], []⟩).weight ≤ 1 := by decide +kernel
  have h2 : (Code.builtin "type.__call__" ⟨[.ref 184], []⟩).cUnits ≤ 3 := by decide +kernel
  obtain ⟨a, b, c⟩ := h
  exact ⟨a, by show A.depth + _ + k < _; omega, by show A.units + _ + 3 * k < _; omega⟩
theorem c_headers {P : Value → Shared → Prop} (X : Base w B) (S : St B O rs G s) (ok : Ok A 20)
    (h : ∀ s' x hl B', Fix.le B B' → HdAt B' x hl → St B' O ((hl, ListO []) :: rs) G s' → P (.ref x) s') : wpAny (model prog w) A (call (.ref 184) [] []) P NoE s := by
  have XK := (X.at S.own.base).k
  obtain ⟨hp0, g0, d0, t0, os0⟩ := s
  have hi : findIn (KF w.params) (.ref 184) "__init__" = some (some (.ref 76)) := by kernel_rfl!
  have hf : typeIn (KF w.params) (.ref 76) = some (.type "function") := by kernel_rfl!
  refine wpAny_call (make_core (makes_of XK (by kernel_rfl!)) (looks_findIn XK hi) (fun self => bind_fn XK self hf) (.inl rfl) ?_)
  have S1 : St B O ((hp0.objs.size + 1, InstO 184 hp0.objs.size) :: (hp0.objs.size, DictO [] 0) :: rs) G ⟨(hp0.push emptyDict).push (instObj 184 hp0.objs.size), g0, d0, t0, os0⟩ := by
    have q := (S.newObj (o := emptyDict) (P := DictO [] 0) rfl rfl).newObj (o := instObj 184 hp0.objs.size) (P := InstO 184 hp0.objs.size) rfl rfl
    have e : (hp0.push emptyDict).objs.size = hp0.objs.size + 1 := Heap.size_push ..
    have q : St B O (((hp0.push emptyDict).objs.size, InstO 184 hp0.objs.size) :: (hp0.objs.size, DictO [] 0) :: rs) G ⟨(hp0.push emptyDict).push (instObj 184 hp0.objs.size), g0, d0, t0, os0⟩ := q
    rw [e] at q; exact q
  have oku := under_ok ok
  generalize A.under (.builtin "type.__call__" ⟨[.ref 184], []⟩) = A' at oku ⊢
  generalize hp0.objs.size + 1 = x at S1 ⊢
  generalize hp0.objs.size = dx at S1 ⊢
  clear S XK
  refine r_callCode (fun v s' => v = .none ∧ P (.ref x) s') [("self", .ref x), ("headers", .none)] ["self", "headers"] ["k", "v"] [("self", some (.ref x)), ("headers", some .none), ("k", none), ("v", none)] X S1 (oku.d (j := 0) (by walk_at "sz")) rfl (by kernel_rfl!) rfl rfl (.dflt 69 _ _ _ _ _ _ rfl (by kernel_rfl!) rfl (by kernel_rfl!)) (by decide +kernel) rfl (fun v s' q => ?_) ?_
  · exact q
  intro s L S
  have okd := oku.down (env := envA w 76 L)
  walk_at "go"
  refine .no ?_
  walk_at "go"
  refine .no ?_
  walk_at "go"
  rename_i hl _ _ _ _
  refine n_setHd X (by assumption) (by walk_at "mem") (by walk_at "mem") fun s S => ?_
  walk_at "go"
  refine .yes ?_
  walk_at "go"
  refine n_iterList S (.inl (by walk_at "mem")) fun it s S => ?_
  have I := PSrc.list (prog := prog) (w := w) (A := A'.deeper (envA w 76 L)) (B₀ := B) (items := []) (P := fun _ _ _ => False) G okd.1 it hl (fun k v hv => by simp at hv)
  refine n_forLoop2 (G := G) (rs := (hl, ListO []) :: (x, InstO 184 dx) :: (dx, DHdO hl) :: rs) (ri := [(it, ListItO hl 0)]) I (fun k (l : List (Str × Option Value)) B' rs' => B = B' ∧ l = ([("self", some (.ref x)), ("headers", some (.ref hl)), ("k", none), ("v", none)] : List (Str × Option Value)) ∧ rs' = (hl, ListO []) :: (x, InstO 184 dx) :: (dx, DHdO hl) :: rs)
    okd.1 rfl (by kernel_rfl!) (by kernel_rfl!) (by rintro _ _ _ _ ⟨rfl, _⟩; exact X) (by rintro _ _ _ _ ⟨rfl, rfl, rfl⟩; exact ⟨.inl (by walk_at "mem"), .rfl⟩) (fun k _ _ _ _ _ _ _ _ _ hk => absurd hk (Nat.not_lt_zero _)) ?_ ⟨rfl, rfl⟩ (S.perm (.cons _ (.swap ..))) ⟨rfl, rfl, rfl⟩
  rintro l B' rs' G' s ⟨rfl, rfl, rfl⟩ rfl S
  walk_at "go"
  refine ⟨rfl, ?_⟩
  obtain ⟨o1, ho1, le1, ha1, S⟩ := (S.front (a := x) (by walk_at "mem")).freeze
  obtain ⟨o2, ho2, le2, ha2, S⟩ := (S.front (a := dx) (by walk_at "mem")).freeze
  obtain ⟨hash, tk, n, rfl⟩ := ho2
  cases ho1
  exact h _ x hl _ (le1.trans le2) ⟨dx, hash, tk, n, le2 _ _ ha1, ha2⟩ S.drop
end
-- T8
noncomputable def lowerF (x : List Nat) : List Nat := (Txt.lower (T x)).cps.toList
theorem lower_T (x : List Nat) : Txt.lower (T x) = T (lowerF x) := (T_cps _).symm
/-- a table's pairs, as they stand -/
noncomputable def TabVs (B : Fix) (vs : List Value) (ps : List (List Nat × List Nat)) : Prop := vs.length = ps.length ∧ ∀ (i : Nat) v, vs[i]? = some v → ∃ k x t1 t2, ps[i]? = some (k, x) ∧ PairAt B v (.str (T k) t1) (.str (T x) t2)
theorem TabVs.mono {B B' : Fix} {vs ps} (h : TabVs B vs ps) (l : Fix.le B B') : TabVs B' vs ps := ⟨h.1, fun i v e => let ⟨k, x, t1, t2, e1, p⟩ := h.2 i v e; ⟨k, x, t1, t2, e1, p.mono l⟩⟩
noncomputable def getF (name : List Nat) (ps : List (List Nat × List Nat)) : Option (List Nat) := (ps.find? fun p => lowerF p.1 == lowerF name).map (·.2)
section
variable {prog : Program} {w : World} {A : Around} {E : Value → Shared → Prop} {B : Fix} {O : OsState} {rs rs' : List Res} {G : Array GenState} {s : Shared}
set_option pp.deepTerms false
set_option pp.maxSteps 800
theorem c_get {H hl : Addr} {vs : List Value} {ps : List (List Nat × List Nat)} {name : List Nat} {t : Tok} {dv : Value} {args : List Value} {P : Value → Shared → Prop} (X : Base w B) (Hd : HdAt B H hl) (S : St B O ((hl, ListO vs) :: rs) G s) (ok : Ok A 20) (hv : TabVs B vs ps)
    (hbind : BindsAs w 131 args [] [("self", .ref H), ("name", .str (T name) t), ("default", dv)]) (hn : (lowerF name).all plainCh = true) (hnl : name.length ≤ 1000) (hps : ∀ p ∈ ps, p.1.length ≤ 1000)
    (h : ∀ s', St B O ((hl, ListO vs) :: rs) G s' → match getF name ps with | some x => ∀ t', P (.str (T x) t') s' | none => P dv s') : wpAny (model prog w) A (call (.ref 131) args []) P NoE s := by
  refine r_call [("self", .ref H), ("name", .str (T name) t), ("default", dv)] ["self", "name", "default"] ["k", "v"] [("self", some (.ref H)), ("name", some (.str (T name) t)), ("default", some dv), ("k", none), ("v", none)] X S (ok.d (j := 0) (by walk_at "sz")) rfl (by kernel_rfl!) rfl rfl hbind (by decide +kernel) rfl ?_
  clear S hbind
  intro s L S
  have okd := ok.down (env := envA w 131 L)
  generalize A.deeper (envA w 131 L) = AA at okd ⊢
  walk_at "go"
  rw [lower_T]
  refine c_conv X (by assumption) (okd.d (by walk_at "sz")) hn fun s S => ?_
  walk_at "go"
  refine n_iterList (by assumption) (.inl (by walk_at "mem")) fun it s S => ?_
  have I := PSrc.list (prog := prog) (w := w) (A := AA) (B₀ := B) (items := vs) (P := fun k v1 v2 => ∃ kk x t1 t2, ps[k]? = some (kk, x) ∧ v1 = .str (T kk) t1 ∧ v2 = .str (T x) t2) G okd.1 it hl (fun k v e => by
    obtain ⟨kk, x, t1, t2, e1, p⟩ := hv.2 k v e
    exact ⟨_, _, p, kk, x, t1, t2, e1, rfl, rfl⟩)
  refine n_forLoop2 (G := G) (rs := (hl, ListO vs) :: rs) (ri := [(it, ListItO hl 0)]) I (fun k (l : List (Str × Option Value)) B' rs' => B = B' ∧ (∃ kv vv tn, l = ([("self", some (.ref H)), ("name", some (.str (T (lowerF name)) tn)), ("default", some dv), ("k", kv), ("v", vv)] : List (Str × Option Value))) ∧ rs' = (hl, ListO vs) :: rs ∧ ((ps.take k).find? fun p => lowerF p.1 == lowerF name) = none)
    okd.1 rfl (by kernel_rfl!) (by kernel_rfl!) (by rintro _ _ _ _ ⟨rfl, _⟩; exact X) (by rintro _ _ _ _ ⟨rfl, _, rfl, _⟩; exact ⟨.inl (by walk_at "mem"), .rfl⟩) ?_ ?_ ⟨rfl, rfl⟩ (S.perm (.cons _ (.refl _))) ⟨rfl, ⟨_, _, _, rfl⟩, rfl, rfl⟩
  · rintro k l B' rs' ri G' v1 v2 K hK hk ⟨kk, x, t1, t2, e, rfl, rfl⟩ ⟨rfl, ⟨kv, vv, tn, rfl⟩, rfl, hf⟩ ⟨rfl, rfl⟩
    refine ⟨_, _, .tail (.tail (.tail .head)), .tail (.tail (.tail (.tail .head))), fun s S => ?_⟩
    have S : St _ _ (_ :: _ :: (_ ++ _)) _ _ := S
    have hkl : kk.length ≤ 1000 := hps _ (List.mem_of_getElem? e)
    have hst : ((ps.take (k + 1)).find? fun p => lowerF p.1 == lowerF name) = if lowerF kk == lowerF name then some (kk, x) else none := by
      rw [List.take_add_one, e, List.find?_append, hf]
      rw [Option.none_or, Option.toList_some, List.find?_cons]
      cases lowerF kk == lowerF name <;> rfl
    walk_at "go"
    rw [lower_T, T_beq]
    refine .both (fun hq => ?_) (fun hq => ?_)
    · walk_at "go"
      have q := h _ (St.drop (St.perm (rs' := (it, ListItO hl (k + 1)) :: (hl, ListO vs) :: rs) (St.drop (by assumption)) (List.perm_append_comm (l₁ := (hl, ListO vs) :: rs) (l₂ := [(it, ListItO hl (k + 1))]))))
      have hg : getF name ps = some x := by
        unfold getF
        have : ps.find? (fun p => lowerF p.1 == lowerF name) = some (kk, x) := by
          conv => lhs; rw [← List.take_append_drop (k + 1) ps]
          rw [List.find?_append, hst, if_pos hq]; rfl
        rw [this]; rfl
      rw [hg] at q
      exact hK _ _ (q _)
    · walk_at "go"
      exact hK _ _ ⟨_, _, _, by assumption, rfl, ⟨_, _, _, rfl⟩, rfl, by rw [hst, hq]; rfl⟩
  · rintro l B' rs' G' s ⟨rfl, ⟨kv, vv, tn, rfl⟩, rfl, hf⟩ rfl S
    walk_at "go"
    have q := h _ S.drop
    have hg : getF name ps = none := by
      unfold getF
      rw [hv.1, List.take_length] at hf
      rw [hf]; rfl
    rw [hg] at q
    exact q
end
-- T9
theorem TabVs.snoc {B B' : Fix} {vs : List Value} {ps : List (List Nat × List Nat)} {a : Addr} {k x : List Nat} {t1 t2 : Tok} (h : TabVs B vs ps) (l : Fix.le B B') (p : Tup B' a [.str (T k) t1, .str (T x) t2]) : TabVs B' (vs ++ [.ref a]) (ps ++ [(k, x)]) := by
  refine ⟨by simp [h.1], fun i v e => ?_⟩
  by_cases hi : i < vs.length
  · rw [List.getElem?_append_left hi] at e
    obtain ⟨k', x', u1, u2, e1, q⟩ := h.2 i v e
    exact ⟨k', x', u1, u2, by rw [List.getElem?_append_left (h.1 ▸ hi)]; exact e1, q.mono l⟩
  · have e2 : i = vs.length := by
      have := (List.getElem?_eq_some_iff.mp e).1
      simp at this; omega
    subst e2
    simp at e
    subst e
    exact ⟨k, x, t1, t2, by rw [h.1]; simp, a, rfl, p⟩
section
variable {prog : Program} {w : World} {A : Around} {E : Value → Shared → Prop} {B : Fix} {O : OsState} {rs rs' : List Res} {G : Array GenState} {s : Shared}
set_option pp.deepTerms false
set_option pp.maxSteps 800
theorem c_setdefault {H hl : Addr} {vs : List Value} {ps : List (List Nat × List Nat)} {name value : List Nat} {t u : Tok} {P : Value → Shared → Prop} (X : Base w B) (Hd : HdAt B H hl) (S : St B O ((hl, ListO vs) :: rs) G s) (ok : Ok A 30) (hv : TabVs B vs ps)
    (hn : (lowerF name).all plainCh = true) (hn2 : name.all plainCh = true) (hval : value.all plainCh = true) (hnl : name.length ≤ 1000) (hps : ∀ p ∈ ps, p.1.length ≤ 1000) (hpl : ps.length ≤ 10000)
    (h : ∀ s', match getF name ps with
      | some x => ∀ t', St B O ((hl, ListO vs) :: rs) G s' → P (.str (T x) t') s'
      | none => ∀ B' vs' t', Fix.le B B' → TabVs B' vs' (ps ++ [(name, value)]) → St B' O ((hl, ListO vs') :: rs) G s' → P (.str (T value) t') s') : wpAny (model prog w) A (call (.ref 174) [.ref H, .str (T name) t, .str (T value) u] []) P NoE s := by
  refine r_call [("self", .ref H), ("name", .str (T name) t), ("value", .str (T value) u)] ["self", "name", "value"] ["result"] [("self", some (.ref H)), ("name", some (.str (T name) t)), ("value", some (.str (T value) u)), ("result", none)] X S (ok.d (j := 0) (by walk_at "sz")) rfl (by kernel_rfl!) rfl rfl (.eq (by kernel_rfl!)) (by decide +kernel) rfl ?_
  clear S
  intro s L S
  have okd := ok.down (env := envA w 174 L)
  generalize A.deeper (envA w 174 L) = AA at okd ⊢
  walk_at "go"
  refine c_get (t := t) (dv := .none) X Hd (S.front (by walk_at "mem")) (okd.le (by walk_at "sz")) hv (.dflt 124 _ _ _ _ _ _ rfl (by kernel_rfl!) rfl (by kernel_rfl!)) hn hnl hps fun s S => ?_
  generalize hg : getF name ps = g at h
  cases g with
  | some x =>
    intro t'
    walk_at "go"
    refine .no ?_
    walk_at "go"
    exact h _ _ (St.sub (by assumption) (by walk_at "mem"))
  | none =>
    walk_at "go"
    refine .yes ?_
    walk_at "go"
    refine c_conv X (by assumption) (okd.d (by walk_at "sz")) hn2 fun s S => ?_
    walk_at "go"
    refine c_conv X (by assumption) (okd.d (by walk_at "sz")) hval fun s S => ?_
    have hvl : vs.length ≤ 10000 := by rw [hv.1]; exact hpl
    walk_at "go"
    have S := ‹St _ _ ((_, TupO _) :: _) _ _›
    obtain ⟨o, hto, le, ha, S⟩ := S.freeze
    exact h _ _ _ _ le (hv.snoc le ⟨o, ha, hto⟩) (S.sub (by walk_at "mem"))
end
-- T10
section
variable {prog : Program} {w : World} {A : Around} {E : Value → Shared → Prop} {B : Fix} {O : OsState} {rs rs' : List Res} {G : Array GenState} {s : Shared}
set_option pp.deepTerms false
set_option pp.maxSteps 800
theorem c_addh {H hl : Addr} {vs : List Value} {ps : List (List Nat × List Nat)} {name value : List Nat} {t u : Tok} {P : Value → Shared → Prop} (X : Base w B) (Hd : HdAt B H hl) (S : St B O ((hl, ListO vs) :: rs) G s) (ok : Ok A 30) (hv : TabVs B vs ps)
    (hn2 : name.all plainCh = true) (hval : value.all plainCh = true) (hvl : value.length ≤ 1000) (hpl : ps.length ≤ 10000)
    (h : ∀ s' B' vs', Fix.le B B' → TabVs B' vs' (ps ++ [(name, value)]) → St B' O ((hl, ListO vs') :: rs) G s' → P .none s') : wpAny (model prog w) A (call (.ref 181) [.ref H, .str (T name) t, .str (T value) u] []) P NoE s := by
  refine r_callD (fun d => [("self", .ref H), ("_name", .str (T name) t), ("_value", .str (T value) u), ("_params", .ref d)]) ["self", "_name", "_value", "_params"] ["parts", "k", "v"] (fun d => [("self", some (.ref H)), ("_name", some (.str (T name) t)), ("_value", some (.str (T value) u)), ("_params", some (.ref d)), ("parts", none), ("k", none), ("v", none)]) X S (ok.d (j := 0) (by walk_at "sz")) (fun _ => rfl) (by kernel_rfl!) rfl rfl (by kernel_rfl!) (by decide +kernel) (fun _ => rfl) ?_
  clear S
  intro s L d hd S
  have okd := ok.down (env := envA w 181 L)
  generalize A.deeper (envA w 181 L) = AA at okd ⊢
  have S : St B O ((L, FrO [("self", some (.ref H)), ("_name", some (.str (T name) t)), ("_value", some (.str (T value) u)), ("_params", some (.ref d)), ("parts", none), ("k", none), ("v", none)]) :: (d, DictO [] 0) :: (hl, ListO vs) :: rs) G s := S
  walk_at "go"
  refine .yes ?_
  walk_at "go"
  refine c_conv X (by assumption) (okd.d (by walk_at "sz")) hval fun s S => ?_
  walk_at "go"
  refine n_methItems (by assumption) (by walk_at "mem") ?_
  walk_at "go"
  refine n_items (by assumption) (by walk_at "mem") hd fun v s S => ?_
  refine n_iterItems S (by walk_at "mem") (by walk_at "mem") fun it s S => ?_
  rename_i PL _ _ _ _ _ _ _ _ _ _ _ _
  have S : St B O ((it, ItemItO d) :: (L, FrO [("self", some (.ref H)), ("_name", some (.str (T name) t)), ("_value", some (.str (T value) u)), ("_params", some (.ref d)), ("parts", some (.ref PL)), ("k", none), ("v", none)]) :: (PL, ListO ([] ++ [.str (T value) u])) :: (d, DictO [] 0) :: (hl, ListO vs) :: rs) G s :=
    ((S.front (a := L) (by walk_at "mem")).front (a := it) (by walk_at "mem")).sub (by walk_at "mem")
  have I := PSrc.items (prog := prog) (w := w) (A := AA) G okd.1 it d
  refine n_forLoop2 (G := G) (rs := (PL, ListO [.str (T value) u]) :: (d, DictO [] 0) :: (hl, ListO vs) :: rs) (ri := [(it, ItemItO d)]) I (fun k (l : List (Str × Option Value)) B' rs' => B = B' ∧ l = ([("self", some (.ref H)), ("_name", some (.str (T name) t)), ("_value", some (.str (T value) u)), ("_params", some (.ref d)), ("parts", some (.ref PL)), ("k", none), ("v", none)] : List (Str × Option Value)) ∧ rs' = (PL, ListO [.str (T value) u]) :: (d, DictO [] 0) :: (hl, ListO vs) :: rs)
    okd.1 rfl (by kernel_rfl!) (by kernel_rfl!) (by rintro _ _ _ _ ⟨rfl, _⟩; exact X) (by rintro _ _ _ _ ⟨rfl, rfl, rfl⟩; walk_at "mem") (fun k _ _ _ _ _ _ _ _ _ hk => absurd hk (Nat.not_lt_zero _)) ?_ ⟨rfl, rfl⟩ S ⟨rfl, rfl, rfl⟩
  rintro l B' rs' G' s ⟨rfl, rfl, rfl⟩ rfl S
  walk_at "go"
  refine c_conv X (by assumption) (okd.d (by walk_at "sz")) hn2 fun s S => ?_
  walk_at "go"
  refine n_join1 (x := value) (v := .str (T value) u) (by assumption) (.inl (by walk_at "mem")) ⟨u, rfl⟩ (by decide +kernel) (by walk_at "sz") fun s t3 S => ?_
  have hvl : vs.length ≤ 10000 := by rw [hv.1]; exact hpl
  walk_at "go"
  have S := ‹St _ _ ((_, TupO _) :: _) _ _›
  obtain ⟨o, hto, le, ha, S⟩ := S.freeze
  exact h _ _ _ le (hv.snoc le ⟨o, ha, hto⟩) (S.sub (by walk_at "mem"))
end
-- T11
section
variable {prog : Program} {w : World} {A : Around} {E : Value → Shared → Prop} {B : Fix} {O : OsState} {rs rs' : List Res} {G : Array GenState} {s : Shared}
set_option pp.deepTerms false
set_option pp.maxSteps 800
theorem c_keys {H hl : Addr} {vs : List Value} {ps : List (List Nat × List Nat)} {P : Value → Shared → Prop} (X : Base w B) (Hd : HdAt B H hl) (S : St B O ((hl, ListO vs) :: rs) G s) (ok : Ok A 30) (hv : TabVs B vs ps) (hpl : ps.length ≤ 10000)
    (h : ∀ s' D ks, StrVs ks (ps.map fun p => T p.1) → St B O ((D, ListO ks) :: (hl, ListO vs) :: rs) G s' → P (.ref D) s') : wpAny (model prog w) A (call (.ref 136) [.ref H] []) P NoE s := by
  refine r_call [("self", .ref H)] ["self"] [] [("self", some (.ref H))] X S (ok.d (j := 0) (by walk_at "sz")) rfl (by kernel_rfl!) rfl rfl (.eq (by kernel_rfl!)) (by decide +kernel) rfl ?_
  clear S
  intro s L S
  have okd := ok.down (env := envA w 136 L)
  generalize A.deeper (envA w 136 L) = AA at okd ⊢
  walk_at "go"
  refine n_listcomp [] (by kernel_rfl!) (by kernel_rfl!) (fun _ => rfl) ?_
  walk_at "go"
  refine n_iterList (by assumption) (.inl (by walk_at "mem")) fun it s S => ?_
  have I := PSrc.list (prog := prog) (w := w) (A := AA) (B₀ := B) (items := vs) (P := fun k v1 v2 => ∃ kk x t1 t2, ps[k]? = some (kk, x) ∧ v1 = .str (T kk) t1 ∧ v2 = .str (T x) t2) G okd.1 it hl (fun k v e => by
    obtain ⟨kk, x, t1, t2, e1, p⟩ := hv.2 k v e
    exact ⟨_, _, p, kk, x, t1, t2, e1, rfl, rfl⟩)
  refine n_compAt2 (rs := (L, FrO [("self", some (.ref H))]) :: (hl, ListO vs) :: rs) (ri := [(it, ListItO hl 0)]) I
    (fun k ks B2 rs2 => B = B2 ∧ rs2 = (L, FrO [("self", some (.ref H))]) :: (hl, ListO vs) :: rs ∧ k ≤ vs.length ∧ StrVs ks ((ps.take k).map fun p => T p.1))
    okd.1 (by kernel_rfl!) rfl (by kernel_rfl!) (by kernel_rfl!) (by decide +kernel) (by rintro _ _ _ _ ⟨rfl, _⟩; exact X) (by rintro _ _ _ _ C D l ⟨rfl, rfl, _⟩; exact ⟨.inl (by walk_at "mem"), .rfl⟩) ?_ ?_ ?_ ⟨rfl, rfl⟩ S ⟨rfl, rfl, Nat.zero_le _, trivial⟩
  · rintro k ks B2 rs2 ri G2 C U v1 v2 K K0 hK hK0 s hk ⟨kk, x, t1, t2, hp, rfl, rfl⟩ ⟨rfl, rfl, hkl, hz⟩ S
    have S : St _ _ (_ :: _ :: _ :: _ :: (_ ++ _)) _ _ := S
    refine wpAny_tests_nil (.yes ?_)
    walk_at "go"
    refine hK _ _ ⟨_, _, S, rfl, rfl, hk, ?_⟩
    rw [List.take_add_one, hp, List.map_append]
    exact hz.snoc ⟨_, rfl⟩
  · rintro k ks B2 rs2 ⟨_, _, hkl, hz⟩
    have := hv.1
    rw [hz.length, List.length_map, List.length_take, sizeLine_eq]; omega
  · rintro ks B2 rs2 G2 U ⟨rfl, rfl, _, hz⟩ rfl
    rw [hv.1, List.take_length] at hz
    intro s S
    walk_at "go"
    exact h _ _ _ hz (S.sub (by walk_at "mem"))
theorem TabVs.snocV {B : Fix} {vs : List Value} {ps : List (List Nat × List Nat)} {v : Value} {k x : List Nat} {t1 t2 : Tok} (h : TabVs B vs ps) (p : PairAt B v (.str (T k) t1) (.str (T x) t2)) : TabVs B (vs ++ [v]) (ps ++ [(k, x)]) := by
  obtain ⟨a, rfl, q⟩ := p
  exact h.snoc .rfl q
theorem c_del {H hl : Addr} {vs : List Value} {ps : List (List Nat × List Nat)} {name : List Nat} {t : Tok} {P : Value → Shared → Prop} (X : Base w B) (Hd : HdAt B H hl) (S : St B O ((hl, ListO vs) :: rs) G s) (ok : Ok A 30) (hv : TabVs B vs ps)
    (hn : (lowerF name).all plainCh = true) (hnl : name.length ≤ 1000) (hps : ∀ p ∈ ps, p.1.length ≤ 1000) (hpl : ps.length ≤ 10000)
    (h : ∀ s' vs', TabVs B vs' (ps.filter fun p => lowerF p.1 != lowerF name) → St B O ((hl, ListO vs') :: rs) G s' → P .none s') : wpAny (model prog w) A (call (.ref 102) [.ref H, .str (T name) t] []) P NoE s := by
  refine r_callC [("self", .ref H), ("name", .str (T name) t)] [("self", some (.ref H))] (fun L => [("name", L + 1)]) [("name", some (.str (T name) t))] (fun L => [(L + 1, CellO (some (.str (T name) t)))]) X S (ok.d (j := 0) (by walk_at "sz")) (by kernel_rfl!) rfl rfl (by kernel_rfl!) (by kernel_rfl!) (fun _ => by kernel_rfl!) (fun _ _ => by simp [List.lookup_cons]; split <;> simp_all) ["self"] rfl (by decide +kernel) (by kernel_rfl!) (by kernel_rfl!) (fun _ => by kernel_rfl!) (fun _ => by kernel_rfl!) (by simp) ?_
  clear S
  intro s L S
  have S : St B O ((L, FrO [("self", some (.ref H))]) :: (L + 1, CellO (some (.str (T name) t))) :: (hl, ListO vs) :: rs) G s := S
  have okd := ok.down (env := envC w 102 L [("name", L + 1)])
  generalize A.deeper (envC w 102 L [("name", L + 1)]) = AA at okd ⊢
  walk_at "go"
  rw [lower_T]
  refine c_conv X (by assumption) (okd.d (by walk_at "sz")) hn fun s S => ?_
  walk_at "go"
  have tn : Tok := t
  refine n_listcomp [("name", L + 1)] (by kernel_rfl!) (by kernel_rfl!) (fun _ => rfl) ?_
  walk_at "go"
  refine n_iterList (by assumption) (.inl (by walk_at "mem")) fun it s S => ?_
  have I := Iter.list (prog := prog) (w := w) (A := AA) okd.1 it hl vs
  refine n_compAt I (fun k ks B2 rs2 G2 => B = B2 ∧ rs2 = (L, FrO [("self", some (.ref H))]) :: (L + 1, CellO (some (.str (T (lowerF name)) _))) :: (hl, ListO vs) :: rs ∧ G = G2 ∧ k ≤ vs.length ∧ TabVs B ks ((ps.take k).filter fun p => lowerF p.1 != lowerF name))
    (by kernel_rfl!) rfl (by kernel_rfl!) (by rintro _ _ _ _ _ C D ov ⟨rfl, rfl, _⟩; exact .inl (by walk_at "mem")) ?_ ?_ ?_ S ⟨rfl, rfl, rfl, Nat.zero_le _, rfl, fun i v e => by simp at e⟩
  · rintro k ks B2 rs2 G2 C D v K K0 hK hK0 s hk hvk ⟨rfl, rfl, rfl, hkl, hz⟩ S
    obtain ⟨kk, x, t1, t2, e1, a, rfl, ht⟩ := hv.2 k v hvk
    have hkk : kk.length ≤ 1000 := hps _ (List.mem_of_getElem? e1)
    refine wpAny_tests_one ?_
    walk_at "go"
    refine item_tupleL (j := 0) (St.tup (by assumption) (.inr ht)) (by decide) (by decide) rfl rfl ?_ rfl (fun _ => rfl)
    walk_at "go"
    rw [lower_T]
    have hne : (T (lowerF kk) != T (lowerF name)) = (lowerF kk != lowerF name) := by rw [bne, bne, T_beq]
    rw [hne]
    have hst : ((ps.take (k + 1)).filter fun p => lowerF p.1 != lowerF name) = ((ps.take k).filter fun p => lowerF p.1 != lowerF name) ++ (if lowerF kk != lowerF name then [(kk, x)] else []) := by
      rw [List.take_add_one, e1, List.filter_append, Option.toList_some, List.filter_cons]
      rfl
    refine .both (fun hq => ?_) (fun hq => ?_)
    · walk_at "go"
      refine hK _ _ ⟨_, _, _, by assumption, rfl, rfl, rfl, hk, ?_⟩
      rw [hst, if_pos hq]
      exact hz.snocV ⟨a, rfl, ht⟩
    · refine hK0 _ ⟨_, _, _, by assumption, rfl, rfl, rfl, hk, ?_⟩
      rw [hst, if_neg (by rw [hq]; exact Bool.false_ne_true), List.append_nil]
      exact hz
  · rintro k ks B2 rs2 G2 ⟨_, _, _, hkl, hz⟩
    have h1 := List.length_filter_le (fun p : List Nat × List Nat => lowerF p.1 != lowerF name) (ps.take k)
    have h2 := List.length_take_le' k ps
    rw [hz.1, sizeLine_eq]; omega
  · rintro ks B2 rs2 G2 D ⟨rfl, rfl, rfl, _, hz⟩
    rw [hv.1, List.take_length] at hz
    intro s S
    have hne : hl ≠ D := fun e => by
      have nd := S.own.nodup
      subst e
      simp at nd
    have h1 := List.length_filter_le (fun p : List Nat × List Nat => lowerF p.1 != lowerF name) ps
    have hvl : vs.length ≤ 10000 := by rw [hv.1]; exact hpl
    have hkl : ks.length ≤ 10000 := by rw [hz.1]; omega
    clear I
    walk_at "go"
    refine n_setSliceAll (by assumption) (.inl (by walk_at "mem")) (by walk_at "mem") hne (by walk_at "sz") (by walk_at "sz") fun s S => ?_
    walk_at "go"
    exact h _ _ hz (S.sub (by walk_at "mem"))
end
-- T12
noncomputable def putF (name value : List Nat) (ps : List (List Nat × List Nat)) : List (List Nat × List Nat) := (ps.filter fun p => lowerF p.1 != lowerF name) ++ [(name, value)]
section
variable {prog : Program} {w : World} {A : Around} {E : Value → Shared → Prop} {B : Fix} {O : OsState} {rs rs' : List Res} {G : Array GenState} {s : Shared}
set_option pp.deepTerms false
set_option pp.maxSteps 800
theorem c_setitem {H hl : Addr} {vs : List Value} {ps : List (List Nat × List Nat)} {name value : List Nat} {t u : Tok} {P : Value → Shared → Prop} (X : Base w B) (Hd : HdAt B H hl) (S : St B O ((hl, ListO vs) :: rs) G s) (ok : Ok A 40) (hv : TabVs B vs ps)
    (hn : (lowerF name).all plainCh = true) (hn2 : name.all plainCh = true) (hval : value.all plainCh = true) (hnl : name.length ≤ 1000) (hps : ∀ p ∈ ps, p.1.length ≤ 1000) (hpl : ps.length ≤ 10000)
    (h : ∀ s' B' vs', Fix.le B B' → TabVs B' vs' (putF name value ps) → St B' O ((hl, ListO vs') :: rs) G s' → P .none s') : wpAny (model prog w) A (call (.ref 97) [.ref H, .str (T name) t, .str (T value) u] []) P NoE s := by
  refine r_call [("self", .ref H), ("name", .str (T name) t), ("val", .str (T value) u)] ["self", "name", "val"] [] [("self", some (.ref H)), ("name", some (.str (T name) t)), ("val", some (.str (T value) u))] X S (ok.d (j := 0) (by walk_at "sz")) rfl (by kernel_rfl!) rfl rfl (.eq (by kernel_rfl!)) (by decide +kernel) rfl ?_
  clear S
  intro s L S
  have okd := ok.down (env := envA w 97 L)
  generalize A.deeper (envA w 97 L) = AA at okd ⊢
  walk_at "go"
  refine n_delItemHd X (by assumption) Hd ?_
  refine c_del X Hd (S.front (by walk_at "mem")) (okd.le (by walk_at "sz")) hv hn hnl hps hpl fun s vs' hv' S => ?_
  have hvl : vs'.length ≤ 10000 := by
    have h1 := List.length_filter_le (fun p : List Nat × List Nat => lowerF p.1 != lowerF name) ps
    rw [hv'.1]; omega
  walk_at "go"
  refine c_conv X (by assumption) (okd.d (by walk_at "sz")) hn2 fun s S => ?_
  walk_at "go"
  refine c_conv X (by assumption) (okd.d (by walk_at "sz")) hval fun s S => ?_
  walk_at "go"
  have S := ‹St _ _ ((_, TupO _) :: _) _ _›
  obtain ⟨o, hto, le, ha, S⟩ := S.freeze
  exact h _ _ _ le (hv'.snoc le ⟨o, ha, hto⟩) (S.sub (by walk_at "mem"))
end
-- T13
noncomputable def cpl : List Nat → List Nat → Nat
  | x :: a, y :: b => if x = y then cpl a b + 1 else 0
  | _, _ => 0
theorem cpl_le : ∀ (a b : List Nat), cpl a b ≤ a.length ∧ cpl a b ≤ b.length
  | [], b => ⟨Nat.zero_le _, Nat.zero_le _⟩
  | _ :: _, [] => ⟨Nat.zero_le _, Nat.zero_le _⟩
  | x :: a, y :: b => by
    simp only [cpl]
    split
    · have := cpl_le a b; simp only [List.length_cons]; omega
    · simp
theorem cpl_spec : ∀ (a b : List Nat) (k : Nat), k ≤ cpl a b → (k < cpl a b ↔ ∃ c, a[k]? = some c ∧ b[k]? = some c)
  | [], b, k, h => by simp [cpl]
  | _ :: _, [], k, h => by simp [cpl]
  | x :: a, y :: b, 0, h => by
    simp only [cpl]
    split
    · rename_i e; subst e; simp
    · rename_i e; simp; omega
  | x :: a, y :: b, k + 1, h => by
    simp only [cpl] at h ⊢
    split at h
    · rename_i e
      rw [if_pos e]
      have := cpl_spec a b k (by walk_at "sz")
      simp only [List.getElem?_cons_succ]
      rw [← this]; omega
    · omega
theorem IntsAre.at' {vs : List Value} {ns : List Int} (h : IntsAre vs ns) : ∀ (k : Nat) (n : Int), ns[k]? = some n → ∃ t : Tok, vs[k]? = some (.int n t) := by
  induction h with
  | nil => intro k n e; simp at e
  | cons m t _ ih =>
    intro k n e
    cases k with
    | zero => simp at e; subst e; exact ⟨t, rfl⟩
    | succ k => simp at e; simpa using ih k n e
theorem IntsAre.set' {vs : List Value} {ns : List Int} (h : IntsAre vs ns) : ∀ (k : Nat) (n : Int) (t : Tok), IntsAre (vs.set k (.int n t)) (ns.set k n) := by
  induction h with
  | nil => intro k n t; exact .nil
  | cons m u h ih =>
    intro k n t
    cases k with
    | zero => exact .cons n t h
    | succ k => exact .cons m u (ih k n t)
noncomputable def subN (c d : Nat) : Int := substF (T [c]) (T [d])
noncomputable def inStep (a : List Nat) (c : Nat) (st : List Int × Int × Int × Int) (i : Nat) : List Int × Int × Int × Int :=
  let r := min (min st.2.2.1 (st.1.getD i 0) + 2) (st.2.1 + subN c (a.getD i 0))
  (st.1.set i r, st.1.getD i 0, r, if r < st.2.2.2 then r else st.2.2.2)
noncomputable def rowAt (a : List Nat) (c : Nat) (row : List Int) (j : Nat) (k : Nat) : List Int × Int × Int × Int := (List.range k).foldl (inStep a c) (row, (j : Int) * 2, (j : Int) * 2, 9223372036854775807)
noncomputable def outStep (a b : List Nat) (mx : Int) (st : List Int × Int) (j : Nat) : Except Int (List Int × Int) :=
  let r := rowAt a (b.getD j 0) st.1 j a.length
  if mx < r.2.2.2 then .error (mx + 1) else .ok (r.1, r.2.2.1)
noncomputable def row0 (a : List Nat) : List Int := (List.range a.length).map fun (i : Nat) => 2 + (i : Int) * 2
noncomputable def dpF (a b : List Nat) (mx : Int) : Int := match (List.range b.length).foldlM (outStep a b mx) (row0 a, 0) with
  | .error e => e
  | .ok r => r.2
noncomputable def levF (a b : List Nat) (mx : Int) : Int :=
  if a = b then 0 else
  let a1 := a.drop (cpl a b)
  let b1 := b.drop (cpl a b)
  let k := cpl a1.reverse b1.reverse
  let a2 := a1.take (a1.length - k)
  let b2 := b1.take (b1.length - k)
  if a2 = [] ∨ b2 = [] then 2 * ((a2.length : Int) + b2.length) else
  let p := if b2.length < a2.length then (b2, a2) else (a2, b2)
  if mx < ((p.2.length : Int) - p.1.length) * 2 then mx + 1 else dpF p.1 p.2 mx
noncomputable def levP (p : List Nat × List Nat) (mx : Int) : Int := if mx < ((p.2.length : Int) - p.1.length) * 2 then mx + 1 else dpF p.1 p.2 mx
noncomputable def levE (a b : List Nat) (mx : Int) : Int := if a = [] ∨ b = [] then 2 * ((a.length : Int) + b.length) else levP (if b.length < a.length then (b, a) else (a, b)) mx
noncomputable def levT (a b : List Nat) (mx : Int) : Int := levE (a.take (a.length - cpl a.reverse b.reverse)) (b.take (b.length - cpl a.reverse b.reverse)) mx
theorem levF_ne {a b : List Nat} {mx : Int} (h : ¬ a = b) : levF a b mx = levT (a.drop (cpl a b)) (b.drop (cpl a b)) mx := by
  unfold levF; rw [if_neg h]; rfl
section
variable {prog : Program} {w : World} {A : Around} {E : Value → Shared → Prop} {B : Fix} {O : OsState} {rs rs' : List Res} {G : Array GenState} {s : Shared}
set_option pp.deepTerms false
set_option pp.maxSteps 800
theorem c_lev {a b : List Nat} {mx : Int} {t u v : Tok} {P : Value → Shared → Prop} (X : Base w B) (S : St B O rs G s) (ok : Ok A 10) (ha : a.length ≤ 10) (hb : b.length ≤ 10)
    (h : ∀ s' t', St B O rs G s' → P (.int (levF a b mx) t') s') : wpAny (model prog w) A (call (.ref 216) [.str (T a) t, .str (T b) u, .int mx v] []) P NoE s := by
  refine r_call [("a", .str (T a) t), ("b", .str (T b) u), ("max_cost", .int mx v)] ["a", "b", "max_cost"] ["pre", "post", "row", "result", "bindex", "bchar", "distance", "minimum", "index", "substitute", "insert_delete"]
    [("a", some (.str (T a) t)), ("b", some (.str (T b) u)), ("max_cost", some (.int mx v)), ("pre", none), ("post", none), ("row", none), ("result", none), ("bindex", none), ("bchar", none), ("distance", none), ("minimum", none), ("index", none), ("substitute", none), ("insert_delete", none)] X S (ok.d (j := 0) (by walk_at "sz")) rfl (by kernel_rfl!) rfl rfl (.eq (by kernel_rfl!)) (by decide +kernel) rfl ?_
  clear S
  intro s L S
  have okd := ok.down (env := envA w 216 L)
  generalize A.deeper (envA w 216 L) = AA at okd ⊢
  have hhd : AA.handled = none := okd.1
  generalize hr : levF a b mx = r at h
  walk_at "go"
  refine Br.eq (T_beq _ _) ?_
  refine .both (fun hab => ?_) (fun hab => ?_)
  · have hab : a = b := by simpa using hab
    walk_at "go"
    have e : r = 0 := by rw [← hr]; unfold levF; rw [if_pos hab]
    rw [e] at h
    exact h _ _ (St.sub (by assumption) (by walk_at "mem"))
  have hab : ¬ a = b := by simpa using hab
  rw [levF_ne hab] at hr
  obtain ⟨a1, ha1⟩ : ∃ a1, a1 = a.drop (cpl a b) := ⟨_, rfl⟩
  obtain ⟨b1, hb1⟩ : ∃ b1, b1 = b.drop (cpl a b) := ⟨_, rfl⟩
  rw [← ha1, ← hb1] at hr
  walk_at "go"
  have hca := cpl_le a b
  refine n_whileTo (fun m s => ∃ k tk, m = a.length - k ∧ k ≤ cpl a b ∧ St B O ((L, FrO [("a", some (.str (T a) t)), ("b", some (.str (T b) u)), ("max_cost", some (.int mx v)), ("pre", some (.int (k : Nat) tk)), ("post", none), ("row", none), ("result", none), ("bindex", none), ("bchar", none), ("distance", none), ("minimum", none), ("index", none), ("substitute", none), ("insert_delete", none)]) :: rs) G s)
    (fun s => ∃ tk, St B O ((L, FrO [("a", some (.str (T a) t)), ("b", some (.str (T b) u)), ("max_cost", some (.int mx v)), ("pre", some (.int (cpl a b : Nat) tk)), ("post", none), ("row", none), ("result", none), ("bindex", none), ("bchar", none), ("distance", none), ("minimum", none), ("index", none), ("substitute", none), ("insert_delete", none)]) :: rs) G s) ?_ (a.length - 0) ⟨0, _, rfl, Nat.zero_le _, by assumption⟩ ?_
  · rintro m K K0 hK hK0 s ⟨k, tk, rfl, hk, S⟩
    have hsp := cpl_spec a b k hk
    have stop : ¬ k < cpl a b → k = cpl a b := fun h => by omega
    walk_at "go"
    refine n_cutStr (l := some ((k : Int), tk)) (u := none) (by walk_at "sz") (by assumption) (fun s k2 S => ?_) (fun _ _ => rfl) (fun _ _ => rfl)
    rw [show cut a (Option.map (·.1) (some ((k : Int), tk))) (Option.map (·.1) (none : Option (Int × Tok))) = a.drop k from cut_from a k]
    walk_at "go"
    refine .both (fun h1 => ?_) (fun h1 => ?_)
    · have h1 : k < a.length := by simpa using h1
      walk_at "go"
      refine n_cutStr (l := some ((k : Int), tk)) (u := none) (by walk_at "sz") (by assumption) (fun s k2 S => ?_) (fun _ _ => rfl) (fun _ _ => rfl)
      rw [show cut b (Option.map (·.1) (some ((k : Int), tk))) (Option.map (·.1) (none : Option (Int × Tok))) = b.drop k from cut_from b k]
      walk_at "go"
      refine .both (fun h2 => ?_) (fun h2 => ?_)
      · have h2 : k < b.length := by simpa using h2
        walk_at "go"
        refine n_charAt (by assumption) (List.getElem?_eq_getElem h1) (by walk_at "sz") (fun s k3 S => ?_) (fun _ _ => rfl) (fun _ _ => rfl)
        walk_at "go"
        refine n_charAt (by assumption) (List.getElem?_eq_getElem h2) (by walk_at "sz") (fun s k4 S => ?_) (fun _ _ => rfl) (fun _ _ => rfl)
        walk_at "go"
        refine Br.eq (T_beq _ _) ?_
        refine .both (fun h3 => ?_) (fun h3 => ?_)
        · have h3 : a[k] = b[k] := by simpa using h3
          have hlt : k < cpl a b := hsp.mpr ⟨a[k], List.getElem?_eq_getElem h1, by rw [List.getElem?_eq_getElem h2, h3]⟩
          walk_at "go"
          refine .yes ?_
          walk_at "go"
          exact hK _ ⟨_, Nat.sub_lt_sub_left h1 (Nat.lt_succ_self k), k + 1, _, rfl, hlt, by assumption⟩
        · have h3 : ¬ a[k] = b[k] := by simpa using h3
          have := stop fun hlt => by
            obtain ⟨c, e1, e2⟩ := hsp.mp hlt
            rw [List.getElem?_eq_getElem h1] at e1
            rw [List.getElem?_eq_getElem h2] at e2
            exact h3 ((Option.some.inj e1).trans (Option.some.inj e2).symm)
          exact .no (hK0 _ ⟨_, by rw [← this]; assumption⟩)
      · have h2 : ¬ k < b.length := by simpa using h2
        have := stop fun hlt => by omega
        exact .no (hK0 _ ⟨_, by rw [← this]; assumption⟩)
    · have h1 : ¬ k < a.length := by simpa using h1
      have := stop fun hlt => by omega
      exact .no (hK0 _ ⟨_, by rw [← this]; assumption⟩)
  rintro s ⟨tk, S⟩
  walk_at "go"
  refine n_cutStr (l := some ((cpl a b : Int), tk)) (u := none) (by walk_at "sz") (by assumption) (fun s ka S => ?_) (fun _ _ => rfl) (fun _ _ => rfl)
  rw [show cut a (Option.map (·.1) (some ((cpl a b : Int), tk))) (Option.map (·.1) (none : Option (Int × Tok))) = a1 from (cut_from a _).trans ha1.symm]
  walk_at "go"
  refine n_cutStr (l := some ((cpl a b : Int), tk)) (u := none) (by walk_at "sz") (by assumption) (fun s kb S => ?_) (fun _ _ => rfl) (fun _ _ => rfl)
  rw [show cut b (Option.map (·.1) (some ((cpl a b : Int), tk))) (Option.map (·.1) (none : Option (Int × Tok))) = b1 from (cut_from b _).trans hb1.symm]
  walk_at "go"
  have hla : a1.length ≤ 10 := by rw [ha1]; simp; omega
  have hlb : b1.length ≤ 10 := by rw [hb1]; simp; omega
  clear ha1 hb1 hca
  unfold levT at hr
  obtain ⟨a2, ha2⟩ : ∃ a2, a2 = a1.take (a1.length - cpl a1.reverse b1.reverse) := ⟨_, rfl⟩
  obtain ⟨b2, hb2⟩ : ∃ b2, b2 = b1.take (b1.length - cpl a1.reverse b1.reverse) := ⟨_, rfl⟩
  rw [← ha2, ← hb2] at hr
  have hcr := cpl_le a1.reverse b1.reverse
  rw [List.length_reverse, List.length_reverse] at hcr
  refine n_whileTo (fun m s => ∃ k tp, m = a1.length - k ∧ k ≤ cpl a1.reverse b1.reverse ∧ St B O ((L, FrO [("a", some (.str (T a1) ka)), ("b", some (.str (T b1) kb)), ("max_cost", some (.int mx v)), ("pre", some (.int (cpl a b : Nat) tk)), ("post", some (.int (-((k : Nat) : Int)) tp)), ("row", none), ("result", none), ("bindex", none), ("bchar", none), ("distance", none), ("minimum", none), ("index", none), ("substitute", none), ("insert_delete", none)]) :: rs) G s)
    (fun s => ∃ tp, St B O ((L, FrO [("a", some (.str (T a1) ka)), ("b", some (.str (T b1) kb)), ("max_cost", some (.int mx v)), ("pre", some (.int (cpl a b : Nat) tk)), ("post", some (.int (-((cpl a1.reverse b1.reverse : Nat) : Int)) tp)), ("row", none), ("result", none), ("bindex", none), ("bchar", none), ("distance", none), ("minimum", none), ("index", none), ("substitute", none), ("insert_delete", none)]) :: rs) G s) ?_ (a1.length - 0) ⟨0, _, rfl, Nat.zero_le _, by assumption⟩ ?_
  · rintro m K K0 hK hK0 s ⟨k, tp, rfl, hk, S⟩
    have hsp := cpl_spec a1.reverse b1.reverse k hk
    have stop : ¬ k < cpl a1.reverse b1.reverse → k = cpl a1.reverse b1.reverse := fun h => by omega
    walk_at "go"
    refine n_orNone (fun _ _ h => Constant_none h) ?_
    walk_at "go"
    refine ⟨_, _, _, _, _, _, rfl, S, fun o1 s ho1 S => ?_⟩
    walk_at "go"
    refine n_cutStr (l := none) (u := o1) (by walk_at "sz") (by assumption) (fun s k2 S => ?_) (fun _ _ => rfl) (fun _ _ => rfl)
    rw [show cut a1 (Option.map (·.1) (none : Option (Int × Tok))) (Option.map (·.1) o1) = a1.take (a1.length - k) from cut_negOr a1 k _ ho1]
    walk_at "go"
    refine .both (fun h1 => ?_) (fun h1 => ?_)
    · have h1 : k < a1.length := by
        rcases Nat.lt_or_ge k a1.length with h | h
        · exact h
        · rw [Nat.sub_eq_zero_of_le h] at h1; simp at h1
      walk_at "go"
      refine n_orNone (fun _ _ h => Constant_none h) ?_
      walk_at "go"
      refine ⟨_, _, _, _, _, _, rfl, by assumption, fun o2 s ho2 S => ?_⟩
      walk_at "go"
      refine n_cutStr (l := none) (u := o2) (by walk_at "sz") (by assumption) (fun s k2 S => ?_) (fun _ _ => rfl) (fun _ _ => rfl)
      rw [show cut b1 (Option.map (·.1) (none : Option (Int × Tok))) (Option.map (·.1) o2) = b1.take (b1.length - k) from cut_negOr b1 k _ ho2]
      walk_at "go"
      refine .both (fun h2 => ?_) (fun h2 => ?_)
      · have h2 : k < b1.length := by
          rcases Nat.lt_or_ge k b1.length with h | h
          · exact h
          · rw [Nat.sub_eq_zero_of_le h] at h2; simp at h2
        have ea : a1.reverse[k]? = some a1[a1.length - (k + 1)] := by
          rw [List.getElem?_reverse h1, show a1.length - 1 - k = a1.length - (k + 1) by omega]
          exact List.getElem?_eq_getElem (by walk_at "sz")
        have eb : b1.reverse[k]? = some b1[b1.length - (k + 1)] := by
          rw [List.getElem?_reverse h2, show b1.length - 1 - k = b1.length - (k + 1) by omega]
          exact List.getElem?_eq_getElem (by walk_at "sz")
        have en : -(k : Int) - 1 = -((k + 1 : Nat) : Int) := by omega
        walk_at "go"
        rw [en]
        refine n_charLast (k := k + 1) (by assumption) (by walk_at "sz") (by walk_at "sz") (List.getElem?_eq_getElem (by walk_at "sz")) (by walk_at "sz") (fun s k3 S => ?_) (fun _ _ => rfl) (fun _ _ => rfl)
        walk_at "go"
        rw [en]
        refine n_charLast (k := k + 1) (by assumption) (by walk_at "sz") (by walk_at "sz") (List.getElem?_eq_getElem (by walk_at "sz")) (by walk_at "sz") (fun s k4 S => ?_) (fun _ _ => rfl) (fun _ _ => rfl)
        walk_at "go"
        refine Br.eq (T_beq _ _) ?_
        refine .both (fun h3 => ?_) (fun h3 => ?_)
        · have h3 : a1[a1.length - (k + 1)] = b1[b1.length - (k + 1)] := by simpa using h3
          have hlt : k < cpl a1.reverse b1.reverse := hsp.mpr ⟨_, ea, by rw [eb, h3]⟩
          walk_at "go"
          refine .yes ?_
          walk_at "go"
          exact hK _ ⟨_, Nat.sub_lt_sub_left h1 (Nat.lt_succ_self k), k + 1, _, rfl, hlt, by rw [← en]; assumption⟩
        · have h3 : ¬ a1[a1.length - (k + 1)] = b1[b1.length - (k + 1)] := by simpa using h3
          have := stop fun hlt => by
            obtain ⟨c, e1, e2⟩ := hsp.mp hlt
            rw [ea] at e1
            rw [eb] at e2
            exact h3 ((Option.some.inj e1).trans (Option.some.inj e2).symm)
          exact .no (hK0 _ ⟨_, by rw [← this]; assumption⟩)
      · have h2 : ¬ k < b1.length := fun h => by
          have : 0 < b1.length - k := by omega
          simp at h2
          rcases h2 with h2 | h2
          · omega
          · subst h2; simp at h
        have := stop fun hlt => by omega
        exact .no (hK0 _ ⟨_, by rw [← this]; assumption⟩)
    · have h1 : ¬ k < a1.length := fun h => by
        simp at h1
        rcases h1 with h1 | h1
        · omega
        · subst h1; simp at h
      have := stop fun hlt => by omega
      exact .no (hK0 _ ⟨_, by rw [← this]; assumption⟩)
  rintro s ⟨tp, S⟩
  walk_at "go"
  refine n_orNone (fun _ _ h => Constant_none h) ?_
  walk_at "go"
  refine ⟨_, _, _, _, _, _, rfl, S, fun o1 s ho1 S => ?_⟩
  walk_at "go"
  refine n_cutStr (l := none) (u := o1) (by walk_at "sz") (by assumption) (fun s kc S => ?_) (fun _ _ => rfl) (fun _ _ => rfl)
  rw [show cut a1 (Option.map (·.1) (none : Option (Int × Tok))) (Option.map (·.1) o1) = a2 from (cut_negOr a1 _ _ ho1).trans ha2.symm]
  walk_at "go"
  refine n_orNone (fun _ _ h => Constant_none h) ?_
  walk_at "go"
  refine ⟨_, _, _, _, _, _, rfl, by assumption, fun o2 s ho2 S => ?_⟩
  walk_at "go"
  refine n_cutStr (l := none) (u := o2) (by walk_at "sz") (by assumption) (fun s kd S => ?_) (fun _ _ => rfl) (fun _ _ => rfl)
  rw [show cut b1 (Option.map (·.1) (none : Option (Int × Tok))) (Option.map (·.1) o2) = b2 from (cut_negOr b1 _ _ ho2).trans hb2.symm]
  have hl2a : a2.length ≤ 10 := by rw [ha2]; simp; omega
  have hl2b : b2.length ≤ 10 := by rw [hb2]; simp; omega
  clear ho1 ho2 ha2 hb2
  walk_at "go"
  have ret0 : (a2 = [] ∨ b2 = []) → r = 2 * ((a2.length : Int) + b2.length) := fun hc => by
    rw [← hr]; exact if_pos hc
  refine .both (fun h1 => ?_) (fun h1 => ?_)
  · have h1 : a2 = [] := by simpa using h1
    refine .yes ?_
    walk_at "go"
    rw [ret0 (.inl h1)] at h
    exact h _ _ (St.sub (by assumption) (by walk_at "mem"))
  have h1 : ¬ a2 = [] := by simpa using h1
  walk_at "go"
  refine .both (fun h2 => ?_) (fun h2 => ?_)
  · have h2 : b2 = [] := by simpa using h2
    refine .yes ?_
    walk_at "go"
    rw [ret0 (.inr h2)] at h
    exact h _ _ (St.sub (by assumption) (by walk_at "mem"))
  have h2 : ¬ b2 = [] := by simpa using h2
  clear ret0
  unfold levE at hr
  rw [if_neg (by simp [h1, h2])] at hr
  obtain ⟨⟨x3, y3⟩, hp⟩ : ∃ p, p = if b2.length < a2.length then (b2, a2) else (a2, b2) := ⟨_, rfl⟩
  rw [← hp] at hr
  walk_at "go"
  refine .no ?_
  walk_at "go"
  refine .ofFalse (by simp; omega) ?_
  walk_at "go"
  refine .ofFalse (by simp; omega) ?_
  walk_at "go"
  refine .no ?_
  refine wpAny_execs_nil (n_then (n_execTo (fun s => ∃ kx ky, St B O ((L, FrO [("a", some (.str (T x3) kx)), ("b", some (.str (T y3) ky)), ("max_cost", some (.int mx v)), ("row", none), ("result", none), ("bindex", none), ("bchar", none), ("distance", none), ("minimum", none), ("index", none), ("substitute", none), ("insert_delete", none)]) :: rs) G s) ?_ ?_))
  · intro K hK
    walk_at "go"
    refine .both (fun h3 => ?_) (fun h3 => ?_)
    · have h3 : b2.length < a2.length := by simpa using h3
      rw [if_pos h3] at hp
      have hx : x3 = b2 := congrArg Prod.fst hp
      have hy : y3 = a2 := congrArg Prod.snd hp
      rw [hx, hy] at hK
      refine n_execs ?_
      refine n_swap (x := "a") (y := "b") (by kernel_rfl!) (by kernel_rfl!) ?_
      walk_at "go"
      refine n_swapTo okd.1 (by assumption) .head (.tail .head) .head rfl (by kernel_rfl!) (by kernel_rfl!) fun s S => ?_
      walk_at "go"
      exact hK _ ⟨_, _, St.thin (St.sub (by assumption) (by walk_at "mem")) (by walk_at "mem")⟩
    · have h3 : ¬ b2.length < a2.length := by simpa using h3
      rw [if_neg h3] at hp
      have hx : x3 = a2 := congrArg Prod.fst hp
      have hy : y3 = b2 := congrArg Prod.snd hp
      rw [hx, hy] at hK
      walk_at "go"
      exact hK _ ⟨_, _, St.thin (St.sub (by assumption) (by walk_at "mem")) (by walk_at "mem")⟩
  rintro s ⟨kx, ky, S⟩
  have hpx : (x3, y3).1 ≠ [] ∧ (x3, y3).2 ≠ [] ∧ (x3, y3).1.length ≤ 10 ∧ (x3, y3).2.length ≤ 10 := by rw [hp]; split <;> exact ⟨‹_›, ‹_›, ‹_›, ‹_›⟩
  clear hp
  obtain ⟨hxe, hye, hlx, hly⟩ := hpx
  dsimp only at hxe hye hlx hly
  clear h1 h2 hl2a hl2b
  walk_at "go"
  refine .both (fun h4 => ?_) (fun h4 => ?_)
  · have h4 : mx < ((y3.length : Int) - x3.length) * 2 := by simpa using h4
    rw [show r = mx + 1 from hr.symm.trans (if_pos h4)] at h
    walk_at "go"
    exact h _ _ (St.sub (by assumption) (by walk_at "mem"))
  have h4 : ¬ mx < ((y3.length : Int) - x3.length) * 2 := by simpa using h4
  have hr : r = dpF x3 y3 mx := hr.symm.trans (if_neg h4)
  walk_at "go"
  refine n_range3 (by decide) (by walk_at "sz") (by walk_at "sz") (by walk_at "sz") (by assumption) fun r s S => ?_
  walk_at "go"
  refine n_listRange (m := x3.length) okd.1 (List.length_pos_iff.mpr hxe) (by walk_at "sz") rfl S (by walk_at "mem") fun RW vs s hvs S => ?_
  walk_at "go"
  refine n_iterRange (a := 0) (b := y3.length) (by walk_at "sz") (by walk_at "sz") (by assumption) (by exact List.mem_cons_self) fun it s S => ?_
  have I := Iter.range (prog := prog) (w := w) (A := AA) okd.1 it 0 y3.length
  have S : St B O ((it, RangeItO ((0 + 0 : Nat) : Int) ((y3.length - 0 : Nat) : Int) 1) :: (L, FrO [("a", some (.str (T x3) kx)), ("b", some (.str (T y3) ky)), ("max_cost", some (.int mx v)), ("row", some (.ref RW)), ("result", some (.int 0 _)), ("bindex", none), ("bchar", none), ("distance", none), ("minimum", none), ("index", none), ("substitute", none), ("insert_delete", none)]) :: (RW, ListO vs) :: rs) G s :=
    ((S.front (a := L) (by walk_at "mem")).front (a := it) (by walk_at "mem")).sub (by walk_at "mem")
  refine n_forLoop I (fun k (l : List (Str × Option Value)) B' rs' G' => B = B' ∧ G = G' ∧ ∃ row res tr vs o1 o2 o3 o4 o5 o6 o7, (List.range k).foldlM (outStep x3 y3 mx) (row0 x3, 0) = .ok (row, res) ∧ IntsAre vs row ∧ row.length = x3.length ∧
    l = ([("a", some (.str (T x3) kx)), ("b", some (.str (T y3) ky)), ("max_cost", some (.int mx v)), ("row", some (.ref RW)), ("result", some (.int res tr)), ("bindex", o1), ("bchar", o2), ("distance", o3), ("minimum", o4), ("index", o5), ("substitute", o6), ("insert_delete", o7)] : List (Str × Option Value)) ∧ rs' = (RW, ListO vs) :: rs)
    rfl (by kernel_rfl!) (fun _ _ _ _ _ _ => trivial) ?_ ?_ S ⟨rfl, rfl, row0 x3, 0, _, vs, none, none, none, none, none, none, none, rfl, hvs, by simp [row0], rfl, rfl⟩
  · rintro k l B' rs' G' vk K hK hk ⟨tb, rfl⟩ ⟨rfl, rfl, row, res, tr, vs, o1, o2, o3, o4, o5, o6, o7, hf, hvs, hrl, rfl, rfl⟩
    refine ⟨_, .tail (.tail (.tail (.tail (.tail .head)))), fun s S => ?_⟩
    have h0k : 0 + k = k := Nat.zero_add k
    rw [h0k] at S
    clear I
    walk_at "go"
    obtain ⟨c, hc⟩ : ∃ c, y3[k]? = some c := ⟨_, List.getElem?_eq_getElem hk⟩
    have hgd : y3.getD k 0 = c := by rw [List.getD_eq_getElem?_getD, hc]; rfl
    refine n_charAt (by assumption) hc (by walk_at "sz") (fun s k3 S => ?_) (fun _ _ => rfl) (fun _ _ => rfl)
    walk_at "go"
    have S := ‹St _ _ ((_, RangeO _ _ _) :: _) _ _›
    refine n_iterRange (a := 0) (b := x3.length) (by walk_at "sz") (by walk_at "sz") S (by exact List.mem_cons_self) fun it2 s S => ?_
    have I := Iter.range (prog := prog) (w := w) (A := AA) okd.1 it2 0 x3.length
    have S : St B O ((it2, RangeItO ((0 + 0 : Nat) : Int) ((x3.length - 0 : Nat) : Int) 1) :: (L, FrO [("a", some (.str (T x3) kx)), ("b", some (.str (T y3) ky)), ("max_cost", some (.int mx v)), ("row", some (.ref RW)), ("result", some (.int ((k : Int) * 2) _)), ("bindex", some (.int (k : Nat) tb)), ("bchar", some (.str (T [c]) k3)), ("distance", some (.int ((k : Int) * 2) _)), ("minimum", some (.int 9223372036854775807 _)), ("index", o5), ("substitute", o6), ("insert_delete", o7)]) :: (it, RangeItO ((0 + (k + 1) : Nat) : Int) ((y3.length - (k + 1) : Nat) : Int) 1) :: (RW, ListO vs) :: rs) G s :=
      ((S.front (a := L) (by walk_at "mem")).front (a := it2) (by walk_at "mem")).sub (by walk_at "mem")
    refine n_forLoop I (fun i (l : List (Str × Option Value)) B2 rs2 G2 => B = B2 ∧ G = G2 ∧ ∃ vs2 td tr tm o5 o6 o7, IntsAre vs2 (rowAt x3 c row k i).1 ∧ (rowAt x3 c row k i).1.length = x3.length ∧
      l = ([("a", some (.str (T x3) kx)), ("b", some (.str (T y3) ky)), ("max_cost", some (.int mx v)), ("row", some (.ref RW)), ("result", some (.int (rowAt x3 c row k i).2.2.1 tr)), ("bindex", some (.int (k : Nat) tb)), ("bchar", some (.str (T [c]) k3)), ("distance", some (.int (rowAt x3 c row k i).2.1 td)), ("minimum", some (.int (rowAt x3 c row k i).2.2.2 tm)), ("index", o5), ("substitute", o6), ("insert_delete", o7)] : List (Str × Option Value)) ∧ rs2 = (it, RangeItO ((0 + (k + 1) : Nat) : Int) ((y3.length - (k + 1) : Nat) : Int) 1) :: (RW, ListO vs2) :: rs)
      rfl (by kernel_rfl!) (fun _ _ _ _ _ _ => trivial) ?_ ?_ S ⟨rfl, rfl, vs, _, _, _, o5, o6, o7, hvs, hrl, rfl, rfl⟩
    · clear I S
      rintro i l B2 rs2 G2 vi K2 hK2 hi ⟨ti, rfl⟩ ⟨rfl, rfl, vs2, td, tr2, tm, p5, p6, p7, hvs2, hrl2, rfl, rfl⟩
      refine ⟨_, .tail (.tail (.tail (.tail (.tail (.tail (.tail (.tail (.tail .head)))))))), fun s S => ?_⟩
      have h0i : 0 + i = i := Nat.zero_add i
      rw [h0i] at S
      have hst : rowAt x3 c row k (i + 1) = inStep x3 c (rowAt x3 c row k i) i := by unfold rowAt; rw [List.range_succ, List.foldl_append]; rfl
      generalize rowAt x3 c row k i = st at hvs2 hrl2 S hst
      obtain ⟨r0, d0, q0, m0⟩ := st
      dsimp only at hvs2 hrl2 S
      obtain ⟨d, hd⟩ : ∃ d, x3[i]? = some d := ⟨_, List.getElem?_eq_getElem hi⟩
      have hdd : x3.getD i 0 = d := by rw [List.getD_eq_getElem?_getD, hd]; rfl
      obtain ⟨r1, hr1⟩ : ∃ r1, r0[i]? = some r1 := ⟨_, List.getElem?_eq_getElem (by walk_at "sz")⟩
      have hrd : r0.getD i 0 = r1 := by rw [List.getD_eq_getElem?_getD, hr1]; rfl
      obtain ⟨t1, hv1⟩ := Mine.IntsAre.at' hvs2 i r1 hr1
      have hvl : vs2.length = x3.length := by rw [hvs2.length]; exact hrl2
      unfold inStep at hst
      rw [hdd] at hst
      dsimp only at hst
      rw [hrd] at hst
      walk_at "go"
      refine n_charAt (by assumption) hd (by walk_at "sz") (fun s k4 S => ?_) (fun _ _ => rfl) (fun _ _ => rfl)
      walk_at "go"
      refine c_subst X (by assumption) (okd.d (by walk_at "sz")) (by rw [T_len]; simp) (by rw [T_len]; simp) fun s k5 S => ?_
      walk_at "go"
      refine n_itemList (k := i) (by assumption) (.inl (by walk_at "mem")) (by walk_at "sz") hv1 ?_ (fun _ _ => rfl) (fun _ _ => rfl)
      walk_at "go"
      refine n_setIndex (k := i) (items := vs2) (by assumption) (by walk_at "mem") (by walk_at "sz") (by walk_at "sz") fun s S => ?_
      walk_at "go"
      have hset := Mine.IntsAre.set' hvs2 i (min (min q0 r1 + 2) (d0 + substF (T [c]) (T [d])))
      refine .both (fun hm => ?_) (fun hm => ?_)
      · have hm : min (min q0 r1 + 2) (d0 + subN c d) < m0 := by simpa [subN] using hm
        rw [if_pos hm] at hst
        walk_at "go"
        refine hK2 _ _ ⟨_, _, _, _, by assumption, rfl, rfl, _, _, _, _, _, _, _, by rw [hst]; exact hset _, by rw [hst]; simpa using hrl2, by rw [hst]; rfl, rfl⟩
      · have hm : ¬ min (min q0 r1 + 2) (d0 + subN c d) < m0 := by simpa [subN] using hm
        rw [if_neg hm] at hst
        walk_at "go"
        refine hK2 _ _ ⟨_, _, _, _, by assumption, rfl, rfl, _, _, _, _, _, _, _, by rw [hst]; exact hset _, by rw [hst]; simpa using hrl2, by rw [hst]; rfl, rfl⟩
    · clear I S
      rintro l B2 rs2 G2 s ⟨rfl, rfl, vs2, td, tr2, tm, p5, p6, p7, hvs2, hrl2, rfl, rfl⟩ S
      walk_at "go"
      have hstep : (List.range (k + 1)).foldlM (outStep x3 y3 mx) (row0 x3, 0) = outStep x3 y3 mx (row, res) k := by rw [List.range_succ, List.foldlM_append, hf]; simp [bind, Except.bind]; cases outStep x3 y3 mx (row, res) k <;> rfl
      have hos : outStep x3 y3 mx (row, res) k = if mx < (rowAt x3 c row k x3.length).2.2.2 then .error (mx + 1) else .ok ((rowAt x3 c row k x3.length).1, (rowAt x3 c row k x3.length).2.2.1) := by unfold outStep; rw [hgd]
      rw [hos] at hstep
      refine .both (fun hm => ?_) (fun hm => ?_)
      · have hm : mx < (rowAt x3 c row k x3.length).2.2.2 := by simpa using hm
        rw [if_pos hm] at hstep
        walk_at "go"
        have e : dpF x3 y3 mx = mx + 1 := by
          have hr : List.range y3.length = List.range (k + 1) ++ (List.range (y3.length - (k + 1))).map (k + 1 + ·) := by
            rw [← List.range_add]; congr 1; omega
          unfold dpF
          rw [hr, List.foldlM_append, hstep]
          rfl
        rw [hr.trans e] at h
        exact hK _ _ (h _ _ (St.sub (by assumption) (by walk_at "mem")))
      · have hm : ¬ mx < (rowAt x3 c row k x3.length).2.2.2 := by simpa using hm
        rw [if_neg hm] at hstep
        walk_at "go"
        exact hK _ _ ⟨_, _, _, _, St.front (a := it) (by assumption) (by walk_at "mem"), rfl, rfl, _, _, _, _, _, _, _, _, _, _, _, hstep, hvs2, hrl2, rfl, rfl⟩
  · rintro l B' rs' G' s ⟨rfl, rfl, row, res, tr, vs, o1, o2, o3, o4, o5, o6, o7, hf, hvs, hrl, rfl, rfl⟩ S
    walk_at "go"
    have e : dpF x3 y3 mx = res := by unfold dpF; rw [hf]
    rw [hr.trans e] at h
    exact h _ _ (St.sub (by assumption) (by walk_at "mem"))
end
-- T14
noncomputable def upperF (x : List Nat) : List Nat := (Txt.upper (T x)).cps.toList
theorem upper_T (x : List Nat) : Txt.upper (T x) = T (upperF x) := (T_cps _).symm
noncomputable def liesF (low high : List Nat) (great : Bool) : Option Bool :=
  let due : Int := if great then 2 + low.length else 2
  let gap := if great then levF low (upperF high) (due + 3) else levF high low due
  if gap < due then none else some (gap == due)
section
variable {prog : Program} {w : World} {A : Around} {E : Value → Shared → Prop} {B : Fix} {O : OsState} {rs rs' : List Res} {G : Array GenState} {s : Shared}
set_option pp.deepTerms false
set_option pp.maxSteps 800
noncomputable def optBool : Option Bool → Value
  | none => .none
  | some b => .bool b
theorem c_lies {low high : List Nat} {great : Bool} {t u : Tok} {P : Value → Shared → Prop} (X : Base w B) (S : St B O rs G s) (ok : Ok A 20) (hlo : low.length ≤ 10) (hhi : high.length ≤ 10) (hup : (upperF high).length ≤ 10)
    (h : ∀ s', St B O rs G s' → P (optBool (liesF low high great)) s') : wpAny (model prog w) A (call (.ref 238) [.str (T low) t, .str (T high) u, .bool great] []) P NoE s := by
  refine r_call [("low", .str (T low) t), ("high", .str (T high) u), ("great", .bool great)] ["low", "high", "great"] ["due", "gap"]
    [("low", some (.str (T low) t)), ("high", some (.str (T high) u)), ("great", some (.bool great)), ("due", none), ("gap", none)] X S (ok.d (j := 0) (by walk_at "sz")) rfl (by kernel_rfl!) rfl rfl (.eq (by kernel_rfl!)) (by decide +kernel) rfl ?_
  clear S
  intro s L S
  have okd := ok.down (env := envA w 238 L)
  generalize A.deeper (envA w 238 L) = AA at okd ⊢
  have hup2 : (T high).length ≤ 5592405 := by rw [T_len]; omega
  cases great with
  | true =>
    walk_at "go"
    refine .yes ?_
    walk_at "go"
    refine .yes ?_
    walk_at "go"
    rw [upper_T]
    walk_at "go"
    refine c_lev X (by assumption) (okd.le (by walk_at "sz")) hlo hup fun s tg S => ?_
    walk_at "go"
    refine .no ?_
    walk_at "go"
    refine .both (fun hg => ?_) (fun hg => ?_)
    · have hg : levF low (upperF high) (2 + (low.length : Int) + 3) < 2 + (low.length : Int) := by simpa using hg
      walk_at "go"
      refine .yes ?_
      walk_at "go"
      have q := h _ (St.sub (by assumption) (by walk_at "mem"))
      have e : liesF low high true = none := by unfold liesF; dsimp only; rw [if_pos rfl, if_pos rfl, if_pos hg]
      rw [e] at q
      exact q
    · have hg : ¬ levF low (upperF high) (2 + (low.length : Int) + 3) < 2 + (low.length : Int) := by simpa using hg
      walk_at "go"
      refine .no ?_
      walk_at "go"
      have q := h _ (St.sub (by assumption) (by walk_at "mem"))
      have e : liesF low high true = some (levF low (upperF high) (2 + (low.length : Int) + 3) == 2 + (low.length : Int)) := by unfold liesF; dsimp only; rw [if_pos rfl, if_pos rfl, if_neg hg]
      rw [e] at q
      exact q
  | false =>
    walk_at "go"
    refine .no ?_
    walk_at "go"
    refine .no ?_
    walk_at "go"
    refine c_lev X (by assumption) (okd.le (by walk_at "sz")) hhi hlo fun s tg S => ?_
    walk_at "go"
    refine .no ?_
    walk_at "go"
    refine .both (fun hg => ?_) (fun hg => ?_)
    · have hg : levF high low 2 < 2 := by simpa using hg
      walk_at "go"
      refine .yes ?_
      walk_at "go"
      have q := h _ (St.sub (by assumption) (by walk_at "mem"))
      have e : liesF low high false = none := by unfold liesF; dsimp only; rw [if_neg Bool.false_ne_true, if_neg Bool.false_ne_true, if_pos hg]
      rw [e] at q
      exact q
    · have hg : ¬ levF high low 2 < 2 := by simpa using hg
      walk_at "go"
      refine .no ?_
      walk_at "go"
      have q := h _ (St.sub (by assumption) (by walk_at "mem"))
      have e : liesF low high false = some (levF high low 2 == 2) := by unfold liesF; dsimp only; rw [if_neg Bool.false_ne_true, if_neg Bool.false_ne_true, if_neg hg]
      rw [e] at q
      exact q
end
-- T15
noncomputable def insF (th : Nat) (o : List Int) (p : Nat) : List Int := o.take p ++ [(th : Int)] ++ o.drop p
noncomputable def insAll (th : Nat) (oss : List (List Int)) : List (List Int) := oss.flatMap fun o => (List.range (th + 1)).map (insF th o)
noncomputable def ordersF (k : Nat) : List (List Int) := (List.range k).foldl (fun oss j => insAll (j + 1) oss) [[0]]
noncomputable def fallF (many : Nat) (o : List Int) : List Nat := (List.range many).map fun p => if o.getD p 0 < o.getD (p + 1) 0 then 97 else 98
theorem ordersF_succ (k : Nat) : ordersF (k + 1) = insAll (k + 1) (ordersF k) := by unfold ordersF; rw [List.range_succ, List.foldl_append]; rfl
theorem insAll_len (th : Nat) : ∀ l : List (List Int), (insAll th l).length = l.length * (th + 1)
  | [] => by simp [insAll]
  | o :: r => by
    have ih := insAll_len th r
    unfold insAll at ih ⊢
    rw [List.flatMap_cons, List.length_append, ih, List.length_map, List.length_range, List.length_cons, Nat.succ_mul]; omega
theorem catT_ones (l : List Nat) : catT (l.map fun c => T [c]) = l := by simp [catT, T, List.flatMap_map]
theorem ordersF_small : ∀ k, k ≤ 4 → (ordersF k).length ≤ 120 ∧ ∀ o ∈ ordersF k, o.length = k + 1 := by
  have h : ∀ k, k < 5 → (ordersF k).length ≤ 120 ∧ ∀ o ∈ ordersF k, o.length = k + 1 := by decide +kernel
  exact fun k hk => h k (by walk_at "sz")
/-- lists of ints that stand -/
noncomputable def OrdsAt (B : Fix) (vs : List Value) (oss : List (List Int)) : Prop := vs.length = oss.length ∧ ∀ (i : Nat) v, vs[i]? = some v → ∃ a o ws ns, v = .ref a ∧ B a = some o ∧ ListO ws o ∧ IntsAre ws ns ∧ oss[i]? = some ns
theorem OrdsAt.mono {B B' : Fix} {vs oss} (h : OrdsAt B vs oss) (l : Fix.le B B') : OrdsAt B' vs oss := ⟨h.1, fun i v e => let ⟨a, o, ws, ns, e1, e2, e3, e4, e5⟩ := h.2 i v e; ⟨a, o, ws, ns, e1, l _ _ e2, e3, e4, e5⟩⟩
theorem OrdsAt.nil {B : Fix} : OrdsAt B [] [] := ⟨rfl, fun i v e => by simp at e⟩
theorem OrdsAt.snoc {B : Fix} {vs oss} {a : Addr} {o : Obj} {ws ns} (h : OrdsAt B vs oss) (e : B a = some o) (hl : ListO ws o) (hi : IntsAre ws ns) : OrdsAt B (vs ++ [.ref a]) (oss ++ [ns]) := by
  refine ⟨by simp [h.1], fun i v e2 => ?_⟩
  by_cases hlt : i < vs.length
  · rw [List.getElem?_append_left hlt] at e2
    obtain ⟨a, o, ws, ns, q1, q2, q3, q4, q5⟩ := h.2 i v e2
    exact ⟨a, o, ws, ns, q1, q2, q3, q4, by rw [List.getElem?_append_left (h.1 ▸ hlt)]; exact q5⟩
  · have e3 : i = vs.length := by
      have := (List.getElem?_eq_some_iff.mp e2).1
      simp at this; omega
    subst e3
    simp at e2
    subst e2
    exact ⟨a, o, ws, ns, rfl, e, hl, hi, by rw [h.1]; simp⟩
theorem IntsAre.take' {vs : List Value} {ns : List Int} (h : IntsAre vs ns) : ∀ k, IntsAre (vs.take k) (ns.take k) := by
  induction h with
  | nil => intro k; simp; exact .nil
  | cons m u h ih =>
    intro k
    cases k with
    | zero => exact .nil
    | succ k => exact .cons m u (ih k)
theorem IntsAre.drop' {vs : List Value} {ns : List Int} (h : IntsAre vs ns) : ∀ k, IntsAre (vs.drop k) (ns.drop k) := by
  induction h with
  | nil => intro k; simp; exact .nil
  | cons m u h ih =>
    intro k
    cases k with
    | zero => exact .cons m u h
    | succ k => exact ih k
theorem sA : Str.ofString "a" = T [97] := by decide +kernel
theorem sB : Str.ofString "b" = T [98] := by decide +kernel
section
variable {prog : Program} {w : World} {A : Around} {E : Value → Shared → Prop} {B : Fix} {O : OsState} {rs rs' : List Res} {G : Array GenState} {s : Shared}
set_option pp.deepTerms false
set_option pp.maxSteps 800
theorem c_orders {many : Nat} {t : Tok} {P : Value → Shared → Prop} (X : Base w B) (S : St B O rs G s) (ok : Ok A 20) (hm : many ≤ 4)
    (h : ∀ s' D vs, StrVs vs ((ordersF many).map fun o => T (fallF many o)) → St B O ((D, ListO vs) :: rs) G s' → P (.ref D) s') : wpAny (model prog w) A (call (.ref 231) [.int (many : Nat) t] []) P NoE s := by
  refine r_callC [("many", .int (many : Nat) t)] [("orders", none)] (fun L => [("thing", L + 2), ("many", L + 1)]) [("thing", none), ("many", some (.int (many : Nat) t))] (fun L => [(L + 2, CellO none), (L + 1, CellO (some (.int (many : Nat) t)))]) X S (ok.d (j := 0) (by walk_at "sz")) (by kernel_rfl!) rfl rfl (by kernel_rfl!) (by kernel_rfl!) (fun _ => by kernel_rfl!) (fun _ _ => by simp [List.lookup_cons]; split <;> simp_all; split <;> simp_all) ["orders"] rfl (by decide +kernel) (by kernel_rfl!) (by kernel_rfl!) (fun _ => by kernel_rfl!) (fun _ => by kernel_rfl!) (by show ([Str.ofString "thing", Str.ofString "many"] : List Str).Nodup; decide +kernel) ?_
  clear S
  intro s L S
  have S : St B O ((L, FrO [("orders", none)]) :: (L + 2, CellO none) :: (L + 1, CellO (some (.int (many : Nat) t))) :: rs) G s := S
  have okd := ok.down (env := envC w 231 L [("thing", L + 2), ("many", L + 1)])
  generalize A.deeper (envC w 231 L [("thing", L + 2), ("many", L + 1)]) = AA at okd ⊢
  clear ok
  walk_at "go"
  rename_i IA _ _ OL _ _ _ _ _ _ _ _ _ _ _ _ _ r s S
  refine n_iterRange (a := 1) (b := many + 1) (by walk_at "sz") (by walk_at "sz") S (by exact List.mem_cons_self) fun it s S => ?_
  have I := Iter.range (prog := prog) (w := w) (A := AA) okd.1 it 1 many
  obtain ⟨oi, hoi, le0, ha0, S⟩ := (S.front (a := IA) (by walk_at "mem")).freeze
  have S : St (B.put IA oi) O ((it, RangeItO ((1 + 0 : Nat) : Int) ((many - 0 : Nat) : Int) 1) :: (L, FrO [("orders", some (.ref OL))]) :: (OL, ListO [.ref IA]) :: (L + 2, CellO none) :: (L + 1, CellO (some (.int (many : Nat) t))) :: rs) G s := by
    have q := ((S.front (a := L) (by walk_at "mem")).front (a := it) (by walk_at "mem"))
    exact q.sub (.cons_cons _ (.cons_cons _ (.cons _ (List.Sublist.refl _))))
  refine n_forLoopC (c := L + 2) I (fun k (l : List (Str × Option Value)) B' rs' G' => Fix.le B B' ∧ G = G' ∧ k ≤ many ∧ ∃ OL vs tv, OrdsAt B' vs (ordersF k) ∧ l = ([("orders", some (.ref OL))] : List (Str × Option Value)) ∧ rs' = (OL, ListO vs) :: (L + 2, CellO tv) :: (L + 1, CellO (some (.int (many : Nat) t))) :: rs)
    rfl (by kernel_rfl!) .head (fun _ _ _ _ _ _ => trivial) ?_ ?_ S ⟨le0, rfl, Nat.zero_le _, OL, _, none, OrdsAt.snoc .nil ha0 hoi (.cons 0 _ .nil), rfl, rfl⟩
  · clear S I
    rintro k l B' rs' G' v K hK hk ⟨tk, rfl⟩ ⟨le, rfl, hkm, OL, vs, tv, hov, rfl, rfl⟩
    refine ⟨_, _, .tail .head, fun s S => ?_⟩
    have h1k : 1 + k = k + 1 := Nat.add_comm ..
    rw [h1k] at S
    have hsm := ordersF_small k (by walk_at "sz")
    have hsm2 := ordersF_small (k + 1) (by walk_at "sz")
    refine n_execs ?_
    refine n_assignComp [("thing", L + 2)] (by kernel_rfl!) (by kernel_rfl!) (by kernel_rfl!) (fun _ => rfl) ?_
    walk_at "go"
    refine n_iterList S (.inl (by walk_at "mem")) fun it2 s S => ?_
    have I2 := Iter.list (prog := prog) (w := w) (A := AA) okd.1 it2 OL vs
    obtain ⟨RR, hRR⟩ : ∃ RR : List Res, RR = (it, RangeItO ((1 + (k + 1) : Nat) : Int) ((many - (k + 1) : Nat) : Int) 1) :: (L, FrO [("orders", some (.ref OL))]) :: (L + 1, CellO (some (.int (many : Nat) t))) :: rs := ⟨_, rfl⟩
    have S : St B' O ((it2, ListItO OL 0) :: (L + 2, CellO (some (.int ((k + 1 : Nat) : Int) tk))) :: (OL, ListO vs) :: RR) G s := by
      rw [hRR]
      exact (((S.front (a := OL) (by walk_at "mem")).front (a := L + 2) (by walk_at "mem")).front (a := it2) (by walk_at "mem"))
    refine n_compAtTwo I2 (fun j ys B2 rs2 G2 => Fix.le B' B2 ∧ G = G2 ∧ j ≤ vs.length ∧ rs2 = (L + 2, CellO (some (.int ((k + 1 : Nat) : Int) tk))) :: (OL, ListO vs) :: RR ∧ OrdsAt B2 ys (insAll (k + 1) ((ordersF k).take j)))
      (by kernel_rfl!) rfl (by kernel_rfl!) (by kernel_rfl!) (by decide +kernel) (fun _ _ => rfl) (by rintro _ _ _ _ _ C D l ⟨_, rfl, _, rfl, _⟩; exact .inl (by walk_at "mem")) ?_ ?_ S ⟨.rfl, rfl, Nat.zero_le _, rfl, .nil⟩
    · clear S
      rintro j ys B2 rs2 G2 C D v ov K hK s hj hv ⟨le2, rfl, hjl, rfl, hys⟩ S
      obtain ⟨a, o, ws, ns, rfl, ha, hlo, hiws, hns⟩ := hov.2 j v hv
      have hnl := hsm.2 ns (List.mem_of_getElem? hns)
      have hwl : ws.length = k + 1 := by rw [hiws.length]; exact hnl
      have X2 := X.mono (le.trans le2)
      walk_at "go"
      have S := ‹St _ _ ((_, RangeO _ _ _) :: _) _ _›
      refine hK _ _ ?_
      refine n_iterRange (a := 0) (b := k + 2) (by walk_at "sz") (by walk_at "sz") S (by exact List.mem_cons_self) fun it3 s S => ?_
      refine ⟨it3, k + 2, _, _, _, fun i zs B3 rs3 G3 => Fix.le B2 B3 ∧ G = G3 ∧ i ≤ k + 2 ∧ rs3 = (L + 2, CellO (some (.int ((k + 1 : Nat) : Int) tk))) :: (OL, ListO vs) :: RR ∧ OrdsAt B3 zs (insAll (k + 1) ((ordersF k).take j) ++ (List.range i).map (insF (k + 1) ns)),
        B2, _, G, ys, ov, rfl, Iter.range okd.1 it3 0 (k + 2), S.sub (.cons_cons _ (.cons _ (List.Sublist.refl _))), ⟨.rfl, rfl, Nat.zero_le _, rfl, by simpa using hys⟩, fun _ _ _ _ _ _ _ => trivial, ?_, ?_, ?_⟩
      · clear S
        rintro i zs B3 rs3 G3 v2 K2 hK2 s hi ⟨tp, rfl⟩ ⟨le3, rfl, hik, rfl, hzs⟩ S
        have h0i : 0 + i = i := Nat.zero_add i
        rw [h0i] at S hK2
        have S : St B3 O ((it3, RangeItO ((0 + (i + 1) : Nat) : Int) ((k + 2 - (i + 1) : Nat) : Int) 1) :: (it2, ListItO OL (j + 1)) :: (C, FrO [("order", some (.ref a)), ("place", some (.int (i : Nat) tp))]) :: (D, ListO zs) :: (L + 2, CellO (some (.int ((k + 1 : Nat) : Int) tk))) :: (OL, ListO vs) :: RR) G s := S
        walk_at "go"
        refine n_cutList (by assumption) (.std (le3 _ _ (le2 _ _ ha)) hlo) .none (.int _ _) (by walk_at "sz") (fun D1 s S => ?_) (fun _ _ => rfl) (fun _ _ => rfl)
        rw [cut_to] at S
        walk_at "go"
        refine n_addL (by assumption) (.inl (by walk_at "mem")) (.inl (by walk_at "mem")) (by simp; omega) fun D2 s S => ?_
        walk_at "go"
        refine n_cutList (by assumption) (.std (le3 _ _ (le2 _ _ ha)) hlo) (.int _ _) .none (by walk_at "sz") (fun D3 s S => ?_) (fun _ _ => rfl) (fun _ _ => rfl)
        rw [cut_from] at S
        walk_at "go"
        refine n_addL (by assumption) (.inl (by walk_at "mem")) (.inl (by walk_at "mem")) (by simp; omega) fun D4 s S => ?_
        obtain ⟨o4, ho4, le4, ha4, S⟩ := S.freeze
        have S : St (B3.put D4 o4) O ((it3, RangeItO ((0 + (i + 1) : Nat) : Int) ((k + 2 - (i + 1) : Nat) : Int) 1) :: (it2, ListItO OL (j + 1)) :: (C, FrO [("order", some (.ref a)), ("place", some (.int (i : Nat) tp))]) :: (D, ListO zs) :: (L + 2, CellO (some (.int ((k + 1 : Nat) : Int) tk))) :: (OL, ListO vs) :: RR) G s := S.sub (by walk_at "mem")
        refine hK2 _ _ ⟨_, (L + 2, CellO (some (.int ((k + 1 : Nat) : Int) tk))) :: (OL, ListO vs) :: RR, _, S, le3.trans le4, rfl, hi, rfl, ?_⟩
        rw [List.range_succ, List.map_append, ← List.append_assoc]
        exact (hzs.mono le4).snoc ha4 ho4 (((Mine.IntsAre.take' hiws i).append (.cons _ _ .nil)).append (Mine.IntsAre.drop' hiws i))
      · rintro i zs B3 rs3 G3 ⟨_, _, hik, _, hzs⟩
        have h1 := insAll_len (k + 1) ((ordersF k).take j)
        have h2 : ((ordersF k).take j).length ≤ 120 := Nat.le_trans (List.length_take_le' ..) hsm.1
        have h3 : ((ordersF k).take j).length * (k + 1 + 1) ≤ 120 * 6 := Nat.mul_le_mul h2 (by walk_at "sz")
        rw [hzs.1, List.length_append, h1, List.length_map, List.length_range, sizeLine_eq]; omega
      · rintro zs B3 rs3 G3 ⟨le3, rfl, _, rfl, hzs⟩
        refine ⟨le2.trans le3, rfl, hj, rfl, ?_⟩
        have e : insAll (k + 1) ((ordersF k).take (j + 1)) = insAll (k + 1) ((ordersF k).take j) ++ (List.range (k + 2)).map (insF (k + 1) ns) := by
          unfold insAll
          rw [List.take_add_one, hns, List.flatMap_append]; simp
        rw [e]; exact hzs
    · clear S
      rintro ys B2 rs2 G2 D ⟨le2, rfl, _, rfl, hys⟩
      subst hRR
      rw [hov.1, List.take_length, ← ordersF_succ] at hys
      intro s C P' S
      walk_at "go"
      refine ⟨_, _, by assumption, fun s S => ?_⟩
      walk_at "go"
      exact hK _ _ ⟨_, _, _, _, ((((S.front (a := L + 2) (by walk_at "mem")).front (a := D) (by walk_at "mem")).front (a := L) (by walk_at "mem")).front (a := it) (by walk_at "mem")).sub (by walk_at "mem"), le.trans le2, rfl, hk, D, ys, _, hys, rfl, rfl⟩
  · clear I
    rintro l B' rs' G' s ⟨le, rfl, _, OL, vs, tv, hov, rfl, rfl⟩ S
    have hsm := ordersF_small many hm
    walk_at "go"
    refine n_listcomp [("many", L + 1)] (by kernel_rfl!) (by kernel_rfl!) (fun _ => rfl) ?_
    walk_at "go"
    refine n_iterList S (.inl (by walk_at "mem")) fun it2 s S => ?_
    have I2 := Iter.list (prog := prog) (w := w) (A := AA) okd.1 it2 OL vs
    refine n_compAtC I2 (fun j ys B2 rs2 G2 => B' = B2 ∧ G = G2 ∧ j ≤ vs.length ∧ rs2 = (L, FrO [("orders", some (.ref OL))]) :: (OL, ListO vs) :: (L + 2, CellO tv) :: (L + 1, CellO (some (.int (many : Nat) t))) :: rs ∧ StrVs ys (((ordersF many).take j).map fun o => T (fallF many o)))
      (fun _ => by kernel_rfl!) (fun _ => rfl) rfl (fun _ _ => by kernel_rfl!) (by rintro _ _ _ _ _ C D c ov ⟨rfl, rfl, _, rfl, _⟩; exact .inl (by walk_at "mem")) ?_ ?_ ?_ S ⟨rfl, rfl, Nat.zero_le _, rfl, trivial⟩
    · clear S
      rintro j ys B2 rs2 G2 C D c v K K0 hK hK0 s hj hv ⟨rfl, rfl, hjl, rfl, hys⟩ S
      obtain ⟨a, o, ws, ns, rfl, ha, hlo, hiws, hns⟩ := hov.2 j v hv
      have hnl := hsm.2 ns (List.mem_of_getElem? hns)
      have hwl : ws.length = many + 1 := by rw [hiws.length]; exact hnl
      have X2 := X.mono le
      refine wpAny_tests_nil (.yes ?_)
      walk_at "go"
      refine n_listcomp [("order", c)] (by kernel_rfl!) (by kernel_rfl!) (fun _ => rfl) ?_
      walk_at "go"
      have S := ‹St _ _ ((_, RangeO _ _ _) :: _) _ _›
      refine n_iterRange (a := 0) (b := many) (by walk_at "sz") (by walk_at "sz") S (by exact List.mem_cons_self) fun it3 s S => ?_
      have I3 := Iter.range (prog := prog) (w := w) (A := AA) okd.1 it3 0 many
      refine n_compAt I3 (fun i us B3 rs3 G3 => B' = B3 ∧ G = G3 ∧ i ≤ many ∧ rs3 = (it2, ListItO OL (j + 1)) :: (C, FrO []) :: (c, CellO (some (.ref a))) :: (D, ListO ys) :: (L, FrO [("orders", some (.ref OL))]) :: (OL, ListO vs) :: (L + 2, CellO tv) :: (L + 1, CellO (some (.int (many : Nat) t))) :: rs ∧
          StrVs us (((List.range i).map fun p => if ns.getD p 0 < ns.getD (p + 1) 0 then 97 else 98).map fun c => T [c])) (by kernel_rfl!) rfl (by kernel_rfl!) (fun _ _ _ _ _ _ _ _ _ => trivial) ?_ ?_ ?_ (S.sub (.cons_cons _ (.cons _ (List.Sublist.refl _)))) ⟨rfl, rfl, Nat.zero_le _, rfl, trivial⟩
      · clear S
        rintro i us B3 rs3 G3 C2 D2 v2 K2 K02 hK2 hK02 s hi ⟨tp, rfl⟩ ⟨rfl, rfl, hil, rfl, hus⟩ S
        have h0i : 0 + i = i := Nat.zero_add i
        rw [h0i] at S hK2
        obtain ⟨n1, hn1⟩ : ∃ n1, ns[i]? = some n1 := ⟨_, List.getElem?_eq_getElem (by walk_at "sz")⟩
        obtain ⟨n2, hn2⟩ : ∃ n2, ns[i + 1]? = some n2 := ⟨_, List.getElem?_eq_getElem (by walk_at "sz")⟩
        obtain ⟨t1, hv1⟩ := Mine.IntsAre.at' hiws i n1 hn1
        obtain ⟨t2, hv2⟩ := Mine.IntsAre.at' hiws (i + 1) n2 hn2
        have hd1 : ns.getD i 0 = n1 := by rw [List.getD_eq_getElem?_getD, hn1]; rfl
        have hd2 : ns.getD (i + 1) 0 = n2 := by rw [List.getD_eq_getElem?_getD, hn2]; rfl
        refine wpAny_tests_nil (.yes ?_)
        walk_at "go"
        refine n_itemList (k := i) (by assumption) (.std ha hlo) (by walk_at "sz") hv1 ?_ (fun _ _ => rfl) (fun _ _ => rfl)
        walk_at "go"
        refine n_itemList (k := i + 1) (by assumption) (.std ha hlo) (by walk_at "sz") hv2 ?_ (fun _ _ => rfl) (fun _ _ => rfl)
        walk_at "go"
        refine .both (fun hc => ?_) (fun hc => ?_)
        · have hc : n1 < n2 := by simpa using hc
          walk_at "go"
          refine hK2 _ _ ⟨_, _, _, by assumption, rfl, rfl, hi, rfl, ?_⟩
          rw [List.range_succ, List.map_append, List.map_append, List.map_cons, List.map_nil, hd1, hd2, if_pos hc]
          exact hus.snoc (x := T [97]) ⟨_, congrArg (Value.str · _) sA⟩
        · have hc : ¬ n1 < n2 := by simpa using hc
          walk_at "go"
          refine hK2 _ _ ⟨_, _, _, by assumption, rfl, rfl, hi, rfl, ?_⟩
          rw [List.range_succ, List.map_append, List.map_append, List.map_cons, List.map_nil, hd1, hd2, if_neg hc]
          exact hus.snoc (x := T [98]) ⟨_, congrArg (Value.str · _) sB⟩
      · rintro i us B3 rs3 G3 ⟨_, _, hil, _, hus⟩
        rw [hus.length, List.length_map, List.length_map, List.length_range, sizeLine_eq]; omega
      · rintro us B3 rs3 G3 D2 ⟨rfl, rfl, _, rfl, hus⟩
        intro s S
        walk_at "go"
        refine n_join S (.inl (by walk_at "mem")) hus (by rw [catT_ones]; simp; omega) fun s t3 S => ?_
        rw [catT_ones]
        walk_at "go"
        refine hK _ _ ⟨_, _, _, S.sub (.cons _ (List.Sublist.refl _)), rfl, rfl, hj, rfl, ?_⟩
        rw [List.take_add_one, hns, List.map_append]
        exact hys.snoc ⟨_, rfl⟩
    · rintro j ys B2 rs2 G2 ⟨_, _, hjl, _, hys⟩
      have h2 : ((ordersF many).take j).length ≤ 120 := Nat.le_trans (List.length_take_le' ..) hsm.1
      rw [hys.length, List.length_map, sizeLine_eq]; omega
    · rintro ys B2 rs2 G2 D ⟨rfl, rfl, _, rfl, hys⟩
      rw [hov.1, List.take_length] at hys
      intro s S
      walk_at "go"
      exact h _ _ _ hys ((S.sub (by walk_at "mem")).shrink le)
end
-- PL1
/-- a unit as it is told, but a lone quotation mark or backslash -/
noncomputable def unitOk : List Nat → Bool
  | [c] => c != 92 && c != 34 && plainCh c
  | [b, c] => b == 92 && plainCh c
  | _ => false
/-- a unit that is told as one -/
noncomputable def unitIs : List Nat → Bool
  | [c] => c != 92
  | [b, _] => b == 92
  | _ => false
theorem unitIs_of {u : List Nat} (h : unitOk u = true) : unitIs u = true := by
  match u, h with
  | [c], h => simp [unitOk] at h; simp [unitIs]; exact h.1.1
  | [b, c], h => simp [unitOk] at h; simp [unitIs]; exact h.1
/-- units with the place of the last sign of each -/
noncomputable def placed : Nat → List (List Nat) → List (Nat × List Nat)
  | _, [] => []
  | p, u :: r => (p + u.length - 1, u) :: placed (p + u.length) r
theorem remF_units : ∀ (us : List (List Nat)) (p : Nat), us.all unitIs = true → remF p false us.flatten = placed p us
  | [], _, _ => rfl
  | u :: r, p, h => by
    rw [List.all_cons, Bool.and_eq_true] at h
    match u, h with
    | [c], h =>
      have hc : ¬ c = 92 := by simpa [unitIs] using h.1
      rw [List.flatten_cons, List.singleton_append, remF, if_neg hc, remF_units r (p + 1) h.2]
      rfl
    | [b, c], h =>
      have hb : b = 92 := by simpa [unitIs] using h.1
      subst hb
      show remF p false (92 :: c :: r.flatten) = _
      rw [remF, if_pos rfl, remF, remF_units r (p + 1 + 1) h.2]
      rfl
theorem placed_snd : ∀ (us : List (List Nat)) (p : Nat), (placed p us).map (·.2) = us
  | [], _ => rfl
  | u :: r, p => by rw [placed, List.map_cons, placed_snd r]
theorem placed_append : ∀ (us vs : List (List Nat)) (p : Nat), placed p (us ++ vs) = placed p us ++ placed (p + us.flatten.length) vs
  | [], vs, p => by simp [placed]
  | u :: r, vs, p => by
    rw [List.cons_append, placed, placed, placed_append r vs, List.flatten_cons, List.length_append, List.cons_append, Nat.add_assoc]
theorem units_of {us : List (List Nat)} (h : us.all unitIs = true) : unitsF us.flatten = us := by
  unfold unitsF; rw [remF_units us 0 h, placed_snd]
theorem placed_places : ∀ (us pre : List (List Nat)), us.all unitIs = true → (placed pre.flatten.length us).map (fun pu => (pu.1 : Int)) = (List.range' pre.length us.length).map fun m => (((((pre ++ us).take (m + 1)).flatten.length : Nat) : Int) - 1)
  | [], pre, _ => by simp [placed]
  | u :: r, pre, h => by
    rw [List.all_cons, Bool.and_eq_true] at h
    have ih := placed_places r (pre ++ [u]) h.2
    have e1 : (pre ++ [u]).flatten.length = pre.flatten.length + u.length := by simp
    have e2 : (pre ++ [u]) ++ r = pre ++ u :: r := by simp
    have e3 : (pre ++ [u]).length = pre.length + 1 := by simp
    rw [e1, e2, e3] at ih
    rw [placed, List.map_cons, ih, List.length_cons, List.range'_succ, List.map_cons]
    congr 1
    have e4 : (pre ++ u :: r).take (pre.length + 1) = pre ++ [u] := by
      rw [← e2, List.take_append_of_le_length (by simp), List.take_of_length_le (by simp)]
    rw [e4, e1]
    have hu : 1 ≤ u.length := by
      match u, h with
      | [c], _ => simp
      | [b, c], _ => simp
    omega
theorem placesOk_of {us : List (List Nat)} (h : us.all unitIs = true) : placesOk us.flatten = true := by
  unfold placesOk
  rw [beq_iff_eq, units_of h, remF_units us 0 h, List.range_eq_range']
  have := placed_places us [] h
  simpa using this
-- what is stripped
theorem strip_plain (x : List Nat) : ∀ (us : List (Nat × List Nat)) (st : Nat × Option Nat × List (List Nat)), (∀ pu ∈ us, pu.2 ≠ [34]) → us.foldl (stripStep x) st = st
  | [], _, _ => rfl
  | pu :: r, st, h => by
    rw [List.foldl_cons]
    have : stripStep x st pu = st := by unfold stripStep; rw [if_neg (h pu (by simp))]
    rw [this]; exact strip_plain x r st fun q hq => h q (by simp [hq])
theorem placed_ne (us : List (List Nat)) (p : Nat) (h : us.all unitOk = true) : ∀ pu ∈ placed p us, pu.2 ≠ [34] := fun pu hpu e => by
  have hm : pu.2 ∈ us := by rw [← placed_snd us p]; exact List.mem_map_of_mem (f := (·.2)) hpu
  have := List.all_eq_true.mp h _ hm
  rw [e] at this; simp [unitOk] at this
theorem all_is {us : List (List Nat)} (h : us.all unitOk = true) : us.all unitIs = true := List.all_eq_true.mpr fun u hu => unitIs_of (List.all_eq_true.mp h u hu)
theorem strip_of {us vs : List (List Nat)} {u : List Nat} (h1 : us.all unitOk = true) (h2 : unitOk u = true) (h3 : vs.all unitOk = true) : stripF (us.flatten ++ [34] ++ u ++ [34] ++ vs.flatten) = us.flatten ++ vs.flatten := by
  have ex : us.flatten ++ [34] ++ u ++ [34] ++ vs.flatten = (us ++ [34] :: u :: [34] :: vs).flatten := by simp
  have hall : (us ++ [34] :: u :: [34] :: vs).all unitIs = true := by
    rw [List.all_append, List.all_cons, List.all_cons, List.all_cons, all_is h1, unitIs_of h2, all_is h3]; rfl
  obtain ⟨x, hx⟩ : ∃ x, x = us.flatten ++ [34] ++ u ++ [34] ++ vs.flatten := ⟨_, rfl⟩
  rw [← hx]
  have hst : stripSt x = (us.flatten.length + 1 + u.length + 1, none, if 0 = us.flatten.length then [] else [us.flatten]) := by
    unfold stripSt
    conv => lhs; arg 3; rw [hx, ex, remF_units _ 0 hall, placed_append]
    rw [List.foldl_append, strip_plain x _ _ (placed_ne us 0 h1)]
    simp only [placed, List.foldl_cons, Nat.zero_add, List.length_singleton, Nat.add_sub_cancel]
    have e1 : stripStep x (0, none, []) (us.flatten.length, [34]) = (0, some us.flatten.length, []) := by unfold stripStep; rw [if_pos rfl]
    rw [e1]
    have hu34 : u ≠ [34] := fun e => by rw [e] at h2; simp [unitOk] at h2
    have e2 : ∀ p, stripStep x (0, some us.flatten.length, []) (p, u) = (0, some us.flatten.length, []) := fun p => by unfold stripStep; rw [if_neg hu34]
    rw [e2]
    have e3 : ∀ p, stripStep x (0, some us.flatten.length, []) (p, [34]) = (p + 1, none, if 0 = us.flatten.length then [] else [us.flatten]) := fun p => by
      unfold stripStep
      rw [if_pos rfl]
      dsimp only
      have e4 : cut x (some ((0 : Nat) : Int)) (some (us.flatten.length : Int)) = us.flatten := by
        rw [cut_both x 0 us.flatten.length (by rw [hx]; simp) (Nat.zero_le _), hx]
        simp
      rw [e4]
      rfl
    rw [e3, strip_plain x _ _ (placed_ne vs _ h3)]
  have hq : 34 ∈ x := by rw [hx]; simp
  have hl : x.length = us.flatten.length + 1 + u.length + 1 + vs.flatten.length := by rw [hx]; simp; omega
  have hd : x.drop (us.flatten.length + 1 + u.length + 1) = vs.flatten := by
    have : us.flatten.length + 1 + u.length + 1 = (us.flatten ++ [34] ++ u ++ [34]).length := by simp; omega
    rw [this, hx, List.drop_left]
  unfold stripF
  rw [if_pos hq, hst, hd, hl]
  dsimp only
  rcases us.flatten with _ | ⟨a, r⟩
  · rcases vs.flatten with _ | ⟨b, q⟩ <;> simp
  · rcases vs.flatten with _ | ⟨b, q⟩ <;> simp
/-- the texts of one letter less, as units -/
noncomputable def letU (u : List Nat) : Bool := isLet (u.getLastD 0)
noncomputable def partsU : List (List Nat) → List (List (List Nat))
  | [] => []
  | u :: r => (if letU u then [r] else []) ++ (partsU r).map (u :: ·)
theorem taken_go (x : List Nat) (us : List (List Nat)) (hx : x = us.flatten) (hus : us.all unitOk = true) : ∀ (post pre : List (List Nat)) (acc : List (List Nat)), pre ++ post = us →
    (List.range' pre.length post.length).foldlM (takeStep x) acc = some (acc ++ (partsU post).map fun v => (pre ++ v).flatten)
  | [], pre, acc, _ => by simp [partsU]
  | u :: r, pre, acc, h => by
    have hu : unitsF x = us := by rw [hx]; exact units_of (all_is hus)
    have hsplit : pre.all unitOk = true ∧ unitOk u = true ∧ r.all unitOk = true := by
      rw [← h, List.all_append, List.all_cons, Bool.and_eq_true, Bool.and_eq_true] at hus
      exact ⟨hus.1, hus.2.1, hus.2.2⟩
    have h1 : unitAt x pre.length = u := by unfold unitAt; rw [hu, ← h]; simp
    have h2 : aheadF x pre.length = pre.flatten := by unfold aheadF; rw [hu, ← h, List.take_left]
    have h3 : behindF x pre.length = r.flatten := by
      unfold behindF; rw [hu, ← h]
      have : pre ++ u :: r = (pre ++ [u]) ++ r := by simp
      rw [this, show pre.length + 1 = (pre ++ [u]).length by simp, List.drop_left]
    have ih := fun acc => taken_go x us hx hus r (pre ++ [u]) acc (by rw [← h]; simp)
    rw [show (pre ++ [u]).length = pre.length + 1 by simp] at ih
    rw [List.length_cons, List.range'_succ, List.foldlM_cons]
    have hst : takeStep x acc pre.length = some (acc ++ if letU u then [(pre ++ r).flatten] else []) := by
      unfold takeStep
      rw [h1, h2, h3, strip_of hsplit.1 hsplit.2.1 hsplit.2.2]
      show (if letU u = true then _ else _) = _
      cases letU u
      · simp
      · simp
    rw [hst]
    show (List.range' (pre.length + 1) r.length).foldlM (takeStep x) _ = _
    rw [ih, partsU]
    congr 1
    rw [List.map_append, List.append_assoc, List.map_map]
    cases letU u <;> simp [Function.comp_def]
theorem taken_of {us : List (List Nat)} (h : us.all unitOk = true) : takenF us.flatten = some ((partsU us).map List.flatten) := by
  unfold takenF
  rw [placesOk_of (all_is h), if_pos rfl, units_of (all_is h), List.range_eq_range']
  have := taken_go us.flatten us rfl h us [] [] rfl
  simpa using this
-- letters
noncomputable def word (us : List (List Nat)) : List Nat := letF us.flatten
noncomputable def eras : List Nat → List (List Nat)
  | [] => []
  | c :: w => w :: (eras w).map (c :: ·)
theorem letF_append (a b : List Nat) : letF (a ++ b) = letF a ++ letF b := List.filter_append ..
theorem letF_unit {u : List Nat} (h : unitOk u = true) : letF u = if letU u then [u.getLastD 0] else [] := by
  match u, h with
  | [c], _ =>
    show List.filter isLet [c] = if isLet c = true then [c] else []
    cases hc : isLet c <;> simp [hc]
  | [b, c], h =>
    have hb : b = 92 := by simp [unitOk] at h; exact h.1
    subst hb
    show List.filter isLet [92, c] = if isLet c = true then [c] else []
    have : isLet 92 = false := by decide
    cases hc : isLet c <;> simp [hc, this]
theorem word_cons (u : List Nat) (r : List (List Nat)) : word (u :: r) = letF u ++ word r := by unfold word; rw [List.flatten_cons, letF_append]
theorem parts_words : ∀ us : List (List Nat), us.all unitOk = true → (partsU us).map word = eras (word us)
  | [], _ => rfl
  | u :: r, h => by
    rw [List.all_cons, Bool.and_eq_true] at h
    have ih := parts_words r h.2
    rw [partsU, List.map_append, List.map_map, word_cons, letF_unit h.1]
    cases hl : letU u with
    | true =>
      rw [if_pos rfl, if_pos rfl, List.singleton_append, eras, ← ih, List.map_map]
      simp [Function.comp_def, word_cons, letF_unit h.1, hl]
    | false =>
      simp [Function.comp_def, word_cons, letF_unit h.1, hl]
      exact ih
theorem parts_ok : ∀ us : List (List Nat), us.all unitOk = true → ∀ v ∈ partsU us, v.all unitOk = true ∧ v.length ≤ us.length
  | [], _, v, hv => by simp [partsU] at hv
  | u :: r, h, v, hv => by
    rw [List.all_cons, Bool.and_eq_true] at h
    rw [partsU, List.mem_append] at hv
    rcases hv with hv | hv
    · split at hv
      · rw [List.mem_singleton.mp hv]; exact ⟨h.2, by simp⟩
      · cases hv
    · obtain ⟨q, hq, rfl⟩ := List.mem_map.mp hv
      have := parts_ok r h.2 q hq
      exact ⟨by rw [List.all_cons, h.1, this.1]; rfl, by simp; exact this.2⟩
theorem parts_len : ∀ us : List (List Nat), (partsU us).length ≤ us.length
  | [] => by simp [partsU]
  | u :: r => by
    have := parts_len r
    rw [partsU, List.length_append, List.length_map, List.length_cons]
    split <;> simp <;> omega
-- PL2
noncomputable def addW (acc : List (List Nat)) (wd : List Nat) : List (List Nat) := if acc.contains wd then acc else acc ++ [wd]
noncomputable def nextW (ws : List (List Nat)) : List (List Nat) := (ws.flatMap eras).foldl addW []
noncomputable def wlevels (wd : List Nat) (k : Nat) : List (List (List Nat)) := (List.range k).foldl (fun lv j => lv ++ [nextW (lv.getD j [])]) [[wd]]
noncomputable def getI (name : List Nat) (wt : List (List Nat × Int)) : Int := match wt.find? (fun p => lowerF p.1 == lowerF name) with
  | some p => p.2
  | none => 0
noncomputable def putI (name : List Nat) (v : Int) (wt : List (List Nat × Int)) : List (List Nat × Int) := (wt.filter fun p => lowerF p.1 != lowerF name) ++ [(name, v)]
noncomputable def wordOk (x : List Nat) : Bool := decide (x.length ≤ 8) && decide ((upperF x).length ≤ 8) && x.all plainCh && (upperF x).all plainCh && (lowerF x).all plainCh && (lowerF (upperF x)).all plainCh
noncomputable def lowStep (great : Bool) (high : List Nat) (wt : List (List Nat × Int)) (tot : Int) (low : List Nat) : Option Int :=
  if wordOk low && wordOk high then
    match liesF low high great with
    | none => none
    | some true => some (tot + getI (upperF low) wt)
    | some false => some tot
  else none
noncomputable def highStep (told lows : List (List Nat)) (great : Bool) (start : Int) (wt : List (List Nat × Int)) (high : List Nat) : Option (List (List Nat × Int)) :=
  match lows.foldlM (lowStep great high wt) start with
  | none => none
  | some total => if wordOk high && decide (0 ≤ total ∧ total < 1000) && (total == ((told.countP (· == high) : Nat) : Int)) && decide (wt.length ≤ 50) then some (putI high total (putI (upperF high) 0 wt)) else none
noncomputable def toldF (k : Nat) : List (List Nat) := (ordersF k).map (fallF k)
noncomputable def lowsF (names : List (List (List Nat))) (many size : Nat) : List (List Nat) := if size = 0 then [] else names.getD (many + 1 - size) []
noncomputable def greatF (par : Bool) (size : Nat) : Bool := par != (size % 2 == 1)
noncomputable def sizeStep (names : List (List (List Nat))) (many : Nat) (par : Bool) (wt : List (List Nat × Int)) (size : Nat) : Option (List (List Nat × Int)) :=
  (names.getD (many - size) []).foldlM (highStep (toldF size) (lowsF names many size) (greatF par size) (if size = 0 then 1 else 0)) wt
noncomputable def waysF (names : List (List (List Nat))) (many : Nat) (par : Bool) : Option (List (List Nat × Int)) := (List.range (many + 1)).foldlM (sizeStep names many par) []
noncomputable def abWords : Nat → List (List Nat)
  | 0 => [[]]
  | n + 1 => (abWords n).flatMap fun x => [97 :: x, 98 :: x]
theorem ways3 : ∀ x ∈ abWords 3, ∀ par : Bool, (waysF (wlevels x 3) 3 par).isSome = true := by decide +kernel

theorem abWords_cons {n : Nat} {x : List Nat} (h : x ∈ abWords (n + 1)) : ∃ y, y ∈ abWords n ∧ (x = 97 :: y ∨ x = 98 :: y) := by
  obtain ⟨y, hy, h⟩ := List.mem_flatMap.1 h
  exact ⟨y, hy, by simpa using h⟩
theorem ways4aa : ∀ x ∈ abWords 2, ∀ par : Bool, (waysF (wlevels (97 :: 97 :: x) 4) 4 par).isSome = true := by decide +kernel
theorem ways4ab : ∀ x ∈ abWords 2, ∀ par : Bool, (waysF (wlevels (97 :: 98 :: x) 4) 4 par).isSome = true := by decide +kernel
theorem ways4ba : ∀ x ∈ abWords 2, ∀ par : Bool, (waysF (wlevels (98 :: 97 :: x) 4) 4 par).isSome = true := by decide +kernel
theorem ways4bb : ∀ x ∈ abWords 2, ∀ par : Bool, (waysF (wlevels (98 :: 98 :: x) 4) 4 par).isSome = true := by decide +kernel
theorem ways4 : ∀ x ∈ abWords 4, ∀ par : Bool, (waysF (wlevels x 4) 4 par).isSome = true := by
  intro x hx par
  obtain ⟨y, hy, h⟩ := abWords_cons hx
  obtain ⟨z, hz, h'⟩ := abWords_cons hy
  rcases h with rfl | rfl <;> rcases h' with rfl | rfl
  · exact ways4aa z hz par
  · exact ways4ab z hz par
  · exact ways4ba z hz par
  · exact ways4bb z hz par
theorem sizes3 : ∀ x ∈ abWords 3, ∀ k, k < 4 → ((wlevels x k).getD k []).length ≤ 24 := by decide +kernel
theorem sizes4 : ∀ x ∈ abWords 4, ∀ k, k < 5 → ((wlevels x k).getD k []).length ≤ 24 := by decide +kernel
-- PL3
abbrev Un := List (List Nat)
noncomputable def low (us : Un) : List Nat := lowerF (word us)
noncomputable def hasT (fresh : List Un) (v : Un) : Bool := fresh.any fun q => q.flatten == v.flatten
noncomputable def addU (st : List Un × List Un) (left : Un) : List Un × List Un :=
  match st.1.find? (fun v => low v == low left) with
  | some v => (st.1, if hasT st.2 v then st.2 else st.2 ++ [v])
  | none => (st.1 ++ [left], if hasT st.2 left then st.2 else st.2 ++ [left])
noncomputable def levelU (tab : List Un) (level : List Un) : List Un × List Un := (level.flatMap partsU).foldl addU (tab, [])
noncomputable def levelsF (us : Un) (k : Nat) : List Un × List (List Un) := (List.range k).foldl (fun st j => ((levelU st.1 (st.2.getD j [])).1, st.2 ++ [(levelU st.1 (st.2.getD j [])).2])) ([us], [[us]])
theorem levelsF_succ (us : Un) (k : Nat) : levelsF us (k + 1) = ((levelU (levelsF us k).1 ((levelsF us k).2.getD k [])).1, (levelsF us k).2 ++ [(levelU (levelsF us k).1 ((levelsF us k).2.getD k [])).2]) := by
  unfold levelsF; rw [List.range_succ, List.foldl_append]; rfl
theorem wlevels_succ (w : List Nat) (k : Nat) : wlevels w (k + 1) = wlevels w k ++ [nextW ((wlevels w k).getD k [])] := by
  unfold wlevels; rw [List.range_succ, List.foldl_append]; rfl
-- lower letters
theorem isLet_lt {c : Nat} (h : isLet c = true) : c < 128 := by
  simp [isLet] at h; omega
theorem letF_lt (x : List Nat) : ∀ c ∈ letF x, c < 128 := fun c hc => isLet_lt (List.mem_filter.mp hc).2
theorem lowerF_map {x : List Nat} (h : ∀ c ∈ x, c < 128) : lowerF x = x.map lo1 := by
  unfold lowerF
  rw [lower_ascii (by simpa [T] using h)]
  simp [T]
theorem upperF_map {x : List Nat} (h : ∀ c ∈ x, c < 128) : upperF x = x.map up1 := by
  unfold upperF
  rw [upper_ascii (by simpa [T] using h)]
  simp [T]
theorem low_eq (us : Un) : low us = (word us).map lo1 := lowerF_map (letF_lt _)
theorem eras_map (f : Nat → Nat) : ∀ w : List Nat, eras (w.map f) = (eras w).map (List.map f)
  | [] => rfl
  | c :: w => by rw [List.map_cons, eras, eras_map f w, eras, List.map_cons, List.map_map, List.map_map]; rfl
theorem eras_len : ∀ (w : List Nat), ∀ v ∈ eras w, v.length + 1 = w.length
  | [], v, h => by simp [eras] at h
  | c :: w, v, h => by
    rw [eras, List.mem_cons] at h
    rcases h with rfl | h
    · rfl
    · obtain ⟨q, hq, rfl⟩ := List.mem_map.mp h
      have := eras_len w q hq
      simp; omega
theorem parts_low {us : Un} (h : us.all unitOk = true) : (partsU us).map low = eras (low us) := by
  have e : (partsU us).map low = ((partsU us).map word).map (List.map lo1) := by
    rw [List.map_map]; exact List.map_congr_left fun v _ => low_eq v
  rw [e, parts_words us h, low_eq, eras_map]
theorem low_flat {a b : Un} (h : a.flatten = b.flatten) : low a = low b := by unfold low word; rw [h]
-- one level
structure LvInv (tab0 tab fresh : List Un) (acc : List (List Nat)) (n : Nat) : Prop where
  tab : tab = tab0 ++ fresh
  words : fresh.map low = acc
  old : ∀ v ∈ tab0, n < (low v).length
theorem addU_inv {tab0 tab fresh : List Un} {acc : List (List Nat)} {n : Nat} {left : Un} (I : LvInv tab0 tab fresh acc n) (hl : (low left).length = n) :
    LvInv tab0 (addU (tab, fresh) left).1 (addU (tab, fresh) left).2 (addW acc (low left)) n := by
  obtain ⟨rfl, rfl, hold⟩ := I
  have h0 : tab0.find? (fun v => low v == low left) = none := by
    rw [List.find?_eq_none]
    intro v hv e
    have := hold v hv
    rw [beq_iff_eq] at e
    rw [e, hl] at this
    exact absurd this (Nat.lt_irrefl _)
  unfold addU addW
  dsimp only
  rw [List.find?_append, h0, Option.none_or]
  cases hf : fresh.find? (fun v => low v == low left) with
  | some v =>
    have hv := List.mem_of_find?_eq_some hf
    have he : low v = low left := by have := List.find?_some hf; simpa using this
    have h1 : hasT fresh v = true := List.any_eq_true.mpr ⟨v, hv, by simp⟩
    have h2 : (fresh.map low).contains (low left) = true := by
      rw [List.contains_iff_mem, ← he]; exact List.mem_map_of_mem hv
    dsimp only
    rw [h1, h2, if_pos rfl, if_pos rfl]
    exact ⟨rfl, rfl, hold⟩
  | none =>
    rw [List.find?_eq_none] at hf
    have h1 : hasT fresh left = false := by
      rw [Bool.eq_false_iff]
      intro e
      obtain ⟨q, hq, e⟩ := List.any_eq_true.mp e
      rw [beq_iff_eq] at e
      exact hf q hq (by rw [low_flat e]; simp)
    have h2 : (fresh.map low).contains (low left) = false := by
      rw [Bool.eq_false_iff]
      intro e
      rw [List.contains_iff_mem] at e
      obtain ⟨q, hq, e⟩ := List.mem_map.mp e
      exact hf q hq (by rw [e]; simp)
    dsimp only
    rw [h1, h2, if_neg Bool.false_ne_true, if_neg Bool.false_ne_true]
    exact ⟨by rw [List.append_assoc], by simp, hold⟩
theorem foldU_inv {tab0 : List Un} {n : Nat} : ∀ (lefts : List Un) (tab fresh : List Un) (acc : List (List Nat)), (∀ v ∈ lefts, (low v).length = n) → LvInv tab0 tab fresh acc n →
    LvInv tab0 (lefts.foldl addU (tab, fresh)).1 (lefts.foldl addU (tab, fresh)).2 ((lefts.map low).foldl addW acc) n
  | [], _, _, _, _, I => I
  | v :: r, tab, fresh, acc, h, I => by
    rw [List.foldl_cons, List.map_cons, List.foldl_cons]
    exact foldU_inv r _ _ _ (fun q hq => h q (by simp [hq])) (addU_inv I (h v (by simp)))
/-- what holds of a text on the way -/
noncomputable def goodU (v : Un) : Prop := v.all unitOk = true ∧ v.length ≤ 8
theorem addU_mem {P : Un → Prop} {st : List Un × List Un} {left : Un} (h1 : ∀ v ∈ st.1, P v) (h2 : ∀ v ∈ st.2, P v) (hl : P left) : (∀ v ∈ (addU st left).1, P v) ∧ ∀ v ∈ (addU st left).2, P v := by
  unfold addU
  split
  · rename_i v hv
    refine ⟨h1, fun q hq => ?_⟩
    dsimp only at hq
    split at hq
    · exact h2 q hq
    · rcases List.mem_append.mp hq with hq | hq
      · exact h2 q hq
      · rw [List.mem_singleton.mp hq]; exact h1 v (List.mem_of_find?_eq_some hv)
  · refine ⟨fun q hq => ?_, fun q hq => ?_⟩
    · rcases List.mem_append.mp hq with hq | hq
      · exact h1 q hq
      · rw [List.mem_singleton.mp hq]; exact hl
    · dsimp only at hq
      split at hq
      · exact h2 q hq
      · rcases List.mem_append.mp hq with hq | hq
        · exact h2 q hq
        · rw [List.mem_singleton.mp hq]; exact hl
theorem foldU_mem {P : Un → Prop} : ∀ (lefts : List Un) (st : List Un × List Un), (∀ v ∈ st.1, P v) → (∀ v ∈ st.2, P v) → (∀ v ∈ lefts, P v) → (∀ v ∈ (lefts.foldl addU st).1, P v) ∧ ∀ v ∈ (lefts.foldl addU st).2, P v
  | [], _, h1, h2, _ => ⟨h1, h2⟩
  | v :: r, st, h1, h2, h => by
    have := addU_mem h1 h2 (h v (by simp))
    exact foldU_mem r _ this.1 this.2 fun q hq => h q (by simp [hq])
theorem addU_len (st : List Un × List Un) (left : Un) : (addU st left).1.length ≤ st.1.length + 1 ∧ (addU st left).2.length ≤ st.2.length + 1 := by
  unfold addU
  split
  · dsimp only; split <;> simp
  · dsimp only; split <;> simp
theorem foldU_len : ∀ (lefts : List Un) (st : List Un × List Un), (lefts.foldl addU st).1.length ≤ st.1.length + lefts.length ∧ (lefts.foldl addU st).2.length ≤ st.2.length + lefts.length
  | [], _ => ⟨Nat.le_refl _, Nat.le_refl _⟩
  | v :: r, st => by
    have h1 := addU_len st v
    have h2 := foldU_len r (addU st v)
    rw [List.foldl_cons, List.length_cons]
    omega
/-- what holds behind k levels -/
structure Levels (us : Un) (k : Nat) : Prop where
  len : (levelsF us k).2.length = k + 1
  tab : (levelsF us k).1 = (levelsF us k).2.flatten
  words : (levelsF us k).2.map (List.map low) = wlevels (low us) k
  good : ∀ lv ∈ (levelsF us k).2, ∀ v ∈ lv, goodU v
  size : ∀ j, j ≤ k → ∀ v ∈ (levelsF us k).2.getD j [], (low v).length + j = (low us).length
theorem levels_of {us : Un} (h : goodU us) : ∀ k, k ≤ (low us).length → Levels us k
  | 0, _ => by
    refine ⟨rfl, rfl, rfl, fun lv hlv v hv => ?_, fun j hj v hv => ?_⟩
    · rw [List.mem_singleton.mp hlv] at hv
      rw [List.mem_singleton.mp hv]; exact h
    · have : j = 0 := by omega
      subst this
      have hv : v ∈ [us] := hv
      rw [List.mem_singleton.mp hv]; rfl
  | k + 1, hk => by
    have I := levels_of h k (by omega)
    have hs := levelsF_succ us k
    have hmem : (levelsF us k).2.getD k [] ∈ (levelsF us k).2 := by
      rw [List.getD_eq_getElem?_getD, List.getElem?_eq_getElem (by rw [I.len]; omega)]
      exact List.getElem_mem _
    generalize hlv : (levelsF us k).2.getD k [] = lv at hs hmem
    have hgl : ∀ v ∈ lv, goodU v := I.good lv hmem
    have hsz : ∀ v ∈ lv, (low v).length + k = (low us).length := fun v hv => I.size k (Nat.le_refl _) v (by rw [hlv]; exact hv)
    have hwl : (wlevels (low us) k).getD k [] = lv.map low := by
      rw [← I.words, ← hlv, List.getD_eq_getElem?_getD, List.getD_eq_getElem?_getD, List.getElem?_map, List.getElem?_eq_getElem (by rw [I.len]; omega)]; rfl
    have hlow : (lv.flatMap partsU).map low = (lv.map low).flatMap eras := by
      rw [List.map_flatMap, List.flatMap_map]
      have : ∀ (l : List Un), (∀ v ∈ l, goodU v) → l.flatMap (fun a => (partsU a).map low) = l.flatMap fun a => eras (low a) := fun l => by
        induction l with
        | nil => intro _; rfl
        | cons v r ih => intro hg; rw [List.flatMap_cons, List.flatMap_cons, parts_low (hg v (by simp)).1, ih fun q hq => hg q (by simp [hq])]
      exact this lv hgl
    have hlefts : ∀ v ∈ lv.flatMap partsU, (low v).length = (low us).length - (k + 1) := fun v hv => by
      obtain ⟨q, hq, hv⟩ := List.mem_flatMap.mp hv
      have h1 : low v ∈ eras (low q) := by rw [← parts_low (hgl q hq).1]; exact List.mem_map_of_mem hv
      have h2 := eras_len _ _ h1
      have h3 := hsz q hq
      omega
    have J := foldU_inv (tab0 := (levelsF us k).1) (n := (low us).length - (k + 1)) (lv.flatMap partsU) (levelsF us k).1 [] [] hlefts ⟨by simp, rfl, fun v hv => by
      rw [I.tab] at hv
      obtain ⟨l2, hl2, hv⟩ := List.mem_flatten.mp hv
      obtain ⟨j, hj, e⟩ := List.mem_iff_getElem.mp hl2
      have hj : j < (levelsF us k).2.length := hj
      have := I.size j (by rw [I.len] at hj; omega) v (by rw [List.getD_eq_getElem?_getD, List.getElem?_eq_getElem hj, e]; exact hv)
      rw [I.len] at hj
      omega⟩
    have K := foldU_mem (P := goodU) (lv.flatMap partsU) ((levelsF us k).1, []) (fun v hv => by
      rw [I.tab] at hv
      obtain ⟨l2, hl2, hv⟩ := List.mem_flatten.mp hv
      exact I.good l2 hl2 v hv) (fun v hv => by simp at hv) (fun v hv => by
      obtain ⟨q, hq, hv⟩ := List.mem_flatMap.mp hv
      have := parts_ok q (hgl q hq).1 v hv
      exact ⟨this.1, Nat.le_trans this.2 (hgl q hq).2⟩)
    have hn : nextW ((wlevels (low us) k).getD k []) = (levelU (levelsF us k).1 lv).2.map low := by
      rw [hwl]; unfold nextW levelU; rw [← hlow]; exact J.words.symm
    have htab : (levelU (levelsF us k).1 lv).1 = (levelsF us k).1 ++ (levelU (levelsF us k).1 lv).2 := J.tab
    refine ⟨?_, ?_, ?_, ?_, ?_⟩
    · rw [hs]; simp [I.len]
    · rw [hs]
      show (levelU (levelsF us k).1 lv).1 = ((levelsF us k).2 ++ [(levelU (levelsF us k).1 lv).2]).flatten
      rw [htab, List.flatten_append, ← I.tab]; simp
    · rw [hs, wlevels_succ, hn]
      show ((levelsF us k).2 ++ [(levelU (levelsF us k).1 lv).2]).map (List.map low) = _
      rw [List.map_append, I.words]; rfl
    · rw [hs]
      intro l2 hl2 v hv
      rcases List.mem_append.mp hl2 with hl2 | hl2
      · exact I.good l2 hl2 v hv
      · rw [List.mem_singleton.mp hl2] at hv
        exact K.2 v hv
    · rw [hs]
      intro j hj v hv
      have hv : v ∈ ((levelsF us k).2 ++ [(levelU (levelsF us k).1 lv).2]).getD j [] := hv
      rw [List.getD_eq_getElem?_getD] at hv
      by_cases hjk : j ≤ k
      · rw [List.getElem?_append_left (by rw [I.len]; omega), ← List.getD_eq_getElem?_getD] at hv
        exact I.size j hjk v hv
      · have : j = k + 1 := by omega
        subst this
        rw [List.getElem?_append_right (by rw [I.len]; omega), I.len, Nat.sub_self] at hv
        have hv : v ∈ (levelU (levelsF us k).1 lv).2 := hv
        have hw : low v ∈ (levelU (levelsF us k).1 lv).2.map low := List.mem_map_of_mem hv
        have := (foldU_mem (P := fun v => (low v).length = (low us).length - (k + 1)) (lv.flatMap partsU) ([], []) (fun v hv => by simp at hv) (fun v hv => by simp at hv) hlefts)
        have hlen : ∀ q ∈ (levelU (levelsF us k).1 lv).2.map low, q.length = (low us).length - (k + 1) := by
          have e : (levelU (levelsF us k).1 lv).2.map low = ((lv.flatMap partsU).map low).foldl addW [] := J.words
          rw [e]
          have gen : ∀ (l acc : List (List Nat)), (∀ q ∈ acc, q.length = (low us).length - (k + 1)) → (∀ q ∈ l, q.length = (low us).length - (k + 1)) → ∀ q ∈ l.foldl addW acc, q.length = (low us).length - (k + 1) := fun l => by
            induction l with
            | nil => intro acc h1 _ q hq; exact h1 q hq
            | cons a r ih =>
              intro acc h1 h2 q hq
              rw [List.foldl_cons] at hq
              refine ih _ (fun q hq => ?_) (fun q hq => h2 q (by simp [hq])) q hq
              unfold addW at hq
              split at hq
              · exact h1 q hq
              · rcases List.mem_append.mp hq with hq | hq
                · exact h1 q hq
                · rw [List.mem_singleton.mp hq]; exact h2 a (by simp)
          refine gen _ _ (fun q hq => by simp at hq) fun q hq => ?_
          obtain ⟨v2, hv2, rfl⟩ := List.mem_map.mp hq
          exact hlefts v2 hv2
        have := hlen _ hw
        omega
-- PL4
noncomputable def tabP (tab : List Un) : List (List Nat × List Nat) := tab.map fun v => (word v, v.flatten)
theorem getF_tab (v : Un) (tab : List Un) : getF (word v) (tabP tab) = (tab.find? fun q => low q == low v).map List.flatten := by
  unfold getF tabP
  rw [List.find?_map, Option.map_map]
  rfl
theorem unit_len {u : List Nat} (h : unitOk u = true) : u.length ≤ 2 := by
  match u, h with
  | [c], _ => simp
  | [b, c], _ => simp
theorem unit_plain {u : List Nat} (h : unitOk u = true) : u.all plainCh = true := by
  match u, h with
  | [c], h => simp [unitOk] at h; simp [h.2]
  | [b, c], h =>
    simp [unitOk] at h
    obtain ⟨rfl, h⟩ := h
    simp [h]; decide
theorem flat_len : ∀ {v : Un}, v.all unitOk = true → v.flatten.length ≤ 2 * v.length
  | [], _ => by simp
  | u :: r, h => by
    rw [List.all_cons, Bool.and_eq_true] at h
    have h1 := unit_len h.1
    have h2 := flat_len h.2
    simp only [List.flatten_cons, List.length_append, List.length_cons]; omega
theorem flat_plain : ∀ {v : Un}, v.all unitOk = true → v.flatten.all plainCh = true
  | [], _ => rfl
  | u :: r, h => by
    rw [List.all_cons, Bool.and_eq_true] at h
    rw [List.flatten_cons, List.all_append, unit_plain h.1, flat_plain h.2]; rfl
theorem plain_lt {x : List Nat} (h : x.all plainCh = true) : x.all (· < 128) = true := List.all_eq_true.mpr fun c hc => by
  have := List.all_eq_true.mp h c hc
  simp [plainCh] at this; simp; omega
structure Plain (v : Un) : Prop where
  len : v.flatten.length ≤ 16
  plain : v.flatten.all plainCh = true
  lt : v.flatten.all (· < 128) = true
  wlen : (word v).length ≤ 16
  wplain : (word v).all plainCh = true
  lplain : (lowerF (word v)).all plainCh = true
theorem goodU.plain {v : Un} (h : goodU v) : Plain v := by
  have h1 := flat_len h.1
  have h2 := flat_plain h.1
  have h3 : (word v).length ≤ v.flatten.length := List.length_filter_le ..
  have h4 := h.2
  refine ⟨by omega, h2, plain_lt h2, by omega, List.all_eq_true.mpr fun c hc => List.all_eq_true.mp h2 c (List.mem_filter.mp hc).1, ?_⟩
  rw [lowerF_map (x := word v) (letF_lt _)]
  refine List.all_eq_true.mpr fun c hc => ?_
  obtain ⟨d, hd, rfl⟩ := List.mem_map.mp hc
  have : isLet d = true := (List.mem_filter.mp hd).2
  simp [isLet] at this
  rcases this with ((rfl | rfl) | rfl) | rfl <;> decide
theorem tabP_len (tab : List Un) : (tabP tab).length = tab.length := by unfold tabP; simp
theorem tabP_key {tab : List Un} (h : ∀ v ∈ tab, goodU v) : ∀ p ∈ tabP tab, p.1.length ≤ 1000 := fun p hp => by
  obtain ⟨v, hv, rfl⟩ := List.mem_map.mp hp
  have := (h v hv).plain.wlen
  show (word v).length ≤ 1000
  omega
/-- texts of units, in a list -/
noncomputable def txts (l : List Un) : List Str := l.map fun v => T v.flatten
theorem any_txts (l : List Un) (v : Un) : ((txts l).any (· == T v.flatten)) = hasT l v := by
  unfold txts hasT
  rw [List.any_map]
  congr 1
  funext q
  exact T_beq _ _
/-- a turn: what a text of one letter less leaves -/
theorem addU_tab {st : List Un × List Un} {v : Un} : addU st v = match st.1.find? (fun q => low q == low v) with
  | some q => (st.1, if hasT st.2 q then st.2 else st.2 ++ [q])
  | none => (st.1 ++ [v], if hasT st.2 v then st.2 else st.2 ++ [v]) := rfl
theorem flat3 : ∀ x ∈ abWords 3, ∀ k, k < 4 → (wlevels x k).flatten.length ≤ 60 := by decide +kernel
theorem flat4 : ∀ x ∈ abWords 4, ∀ k, k < 5 → (wlevels x k).flatten.length ≤ 60 := by decide +kernel
structure Sized (us : Un) (many : Nat) : Prop where
  good : goodU us
  few : many ≤ 4
  len : (low us).length = many
  flat : ∀ k, k ≤ many → (wlevels (low us) k).flatten.length ≤ 60
  one : ∀ k, k ≤ many → ((wlevels (low us) k).getD k []).length ≤ 24
theorem Sized.levels {us : Un} {many : Nat} (h : Sized us many) {k : Nat} (hk : k ≤ many) : Levels us k := levels_of h.good k (by rw [h.len]; exact hk)
theorem Sized.tabLen {us : Un} {many : Nat} (h : Sized us many) {k : Nat} (hk : k ≤ many) : (levelsF us k).1.length ≤ 60 := by
  have I := h.levels hk
  have h1 := h.flat k hk
  rw [← I.words] at h1
  rw [I.tab]
  have e : ((levelsF us k).2.map (List.map low)).flatten = (levelsF us k).2.flatten.map low := by
    rw [List.map_flatten]
  rw [e, List.length_map] at h1
  exact h1
theorem Sized.lvLen {us : Un} {many : Nat} (h : Sized us many) {k : Nat} (hk : k ≤ many) : ((levelsF us k).2.getD k []).length ≤ 24 := by
  have I := h.levels hk
  have h1 := h.one k hk
  rw [← I.words, List.getD_eq_getElem?_getD, List.getElem?_map, List.getElem?_eq_getElem (by rw [I.len]; omega)] at h1
  rw [List.getD_eq_getElem?_getD, List.getElem?_eq_getElem (by rw [I.len]; omega)]
  simpa using h1
theorem Sized.tabGood {us : Un} {many : Nat} (h : Sized us many) {k : Nat} (hk : k ≤ many) : ∀ v ∈ (levelsF us k).1, goodU v := fun v hv => by
  have I := h.levels hk
  rw [I.tab] at hv
  obtain ⟨l, hl, hv⟩ := List.mem_flatten.mp hv
  exact I.good l hl v hv
theorem Sized.lvGood {us : Un} {many : Nat} (h : Sized us many) {k : Nat} (hk : k ≤ many) : ∀ v ∈ (levelsF us k).2.getD k [], goodU v := fun v hv => by
  have I := h.levels hk
  refine I.good _ ?_ v hv
  rw [List.getD_eq_getElem?_getD, List.getElem?_eq_getElem (by rw [I.len]; omega)]
  exact List.getElem_mem _
theorem lefts_len : ∀ (l : List Un), (∀ v ∈ l, goodU v) → (l.flatMap partsU).length ≤ l.length * 8
  | [], _ => by simp
  | v :: r, h => by
    have h1 := lefts_len r fun q hq => h q (by simp [hq])
    have h2 := parts_len v
    have h3 := (h v (by simp)).2
    rw [List.flatMap_cons, List.length_append, List.length_cons]; omega
theorem lefts_good {l : List Un} (h : ∀ v ∈ l, goodU v) : ∀ q ∈ l.flatMap partsU, goodU q := fun q hq => by
  obtain ⟨v, hv, hq⟩ := List.mem_flatMap.mp hq
  have := parts_ok v (h v hv).1 q hq
  exact ⟨this.1, Nat.le_trans this.2 (h v hv).2⟩
-- T16
/-- the law's frame -/
@[reducible] def lawFr (script sums many text x letter table levels step fresh one parts left kept names ways size told high total low lies : Option Value) : List (Str × Option Value) :=
  [("script", script), ("sums", sums), ("many", many), ("text", text), ("x", x), ("letter", letter), ("table", table), ("levels", levels), ("step", step), ("fresh", fresh), ("one", one), ("parts", parts), ("left", left), ("kept", kept), ("names", names), ("ways", ways), ("size", size), ("told", told), ("high", high), ("total", total), ("low", low), ("lies", lies)]
noncomputable def lawSt (P : Params) (n : Nat) : Stmt := ((bodyOf (fdOf P 243).body)[n]?).getD default
theorem body_eq {P : Params} {oc : Value} {od : Option Addr} {fd : FuncData} {osl : Array (Option Value)} {body : List Stmt} (hlook : (KF P).lookup 243 = some ⟨oc, od, .func fd, osl⟩) (hbody : fd.body = .stmts body) : bodyOf (fdOf P 243).body = body := by
  unfold fdOf
  rw [hlook]
  show bodyOf fd.body = body
  rw [hbody]; rfl
/-- the law's text, looked up once -/
noncomputable def lawTx (P : Params) : { l : List Stmt // bodyOf (fdOf P 243).body = l } := ⟨_, body_eq rfl rfl⟩
theorem lawSt_eq {P : Params} {n : Nat} {st : Stmt} (hn : (lawTx P).1[n]? = some st) : lawSt P n = st := by
  unfold lawSt
  rw [(lawTx P).2, hn]; rfl
noncomputable abbrev lawEnv (w : World) (L : Addr) : Env := envC w 243 L [("numbers", L + 1)]
/-- lists of texts that stand -/
noncomputable def LvAt (B : Fix) (vs : List Value) (lv : List (List Str)) : Prop := vs.length = lv.length ∧ ∀ (i : Nat) v, vs[i]? = some v → ∃ a o ws u, v = .ref a ∧ B a = some o ∧ ListO ws o ∧ lv[i]? = some u ∧ StrVs ws u
theorem LvAt.mono {B B' : Fix} {vs lv} (h : LvAt B vs lv) (l : Fix.le B B') : LvAt B' vs lv := ⟨h.1, fun i v e => let ⟨a, o, ws, u, e1, e2, e3⟩ := h.2 i v e; ⟨a, o, ws, u, e1, l _ _ e2, e3⟩⟩
theorem LvAt.nil {B : Fix} : LvAt B [] [] := ⟨rfl, fun i v e => by simp at e⟩
theorem LvAt.snoc {B : Fix} {vs lv} {a : Addr} {o : Obj} {ws u} (h : LvAt B vs lv) (e : B a = some o) (hl : ListO ws o) (hu : StrVs ws u) : LvAt B (vs ++ [.ref a]) (lv ++ [u]) := by
  refine ⟨by simp [h.1], fun i v e2 => ?_⟩
  by_cases hlt : i < vs.length
  · rw [List.getElem?_append_left hlt] at e2
    obtain ⟨a, o, ws, u, q1, q2, q3, q4, q5⟩ := h.2 i v e2
    exact ⟨a, o, ws, u, q1, q2, q3, by rw [List.getElem?_append_left (h.1 ▸ hlt)]; exact q4, q5⟩
  · have e3 : i = vs.length := by
      have := (List.getElem?_eq_some_iff.mp e2).1
      simp at this; omega
    subst e3
    simp at e2
    subst e2
    exact ⟨a, o, ws, u, rfl, e, hl, by rw [h.1]; simp, hu⟩
section
variable {prog : Program} {w : World} {A : Around} {E : Value → Shared → Prop} {B : Fix} {O : OsState} {rs rs' : List Res} {G : Array GenState} {s : Shared}
set_option pp.deepTerms false
set_option pp.maxSteps 800
theorem law_levels {us : Un} {many : Nat} {L H hl LV : Addr} {tm : Tok} {script sums text x letter : Option Value} {tvs lvs : List Value} {st : Stmt} (hst : lawSt w.params 8 = st) (X : Base w B) (ok : Ok A 60) (Z : Sized us many) (Hd : HdAt B H hl) (hG : BareG G)
    (S : St B O ((L, FrO (lawFr script sums (some (.int (many : Nat) tm)) text x letter (some (.ref H)) (some (.ref LV)) none none none none none none none none none none none none none none)) :: (hl, ListO tvs) :: (LV, ListO lvs) :: rs) G s)
    (htv : TabVs B tvs (tabP [us])) (hlv : LvAt B lvs [txts [us]]) :
    wpAny (model prog w) A (exec st (lawEnv w L)) (fun f s' => f = .next ∧ ∃ B' G' tvs lvs o1 o2 o3 o4 o5 o6, Fix.le B B' ∧ BareG G' ∧ TabVs B' tvs (tabP (levelsF us many).1) ∧ LvAt B' lvs ((levelsF us many).2.map txts) ∧
      St B' O ((L, FrO (lawFr script sums (some (.int (many : Nat) tm)) text x letter (some (.ref H)) (some (.ref LV)) o1 o2 o3 o4 o5 o6 none none none none none none none none)) :: (hl, ListO tvs) :: (LV, ListO lvs) :: rs) G' s') NoE s := by
  rw [lawSt_eq rfl] at hst
  subst hst
  refine opq fun K9 hK9 => ?_
  walk_at "go"
  have S := ‹St _ _ ((_, RangeO _ _ _) :: _) _ _›
  have hm4 := Z.few
  refine n_iterRange (a := 0) (b := many) (by walk_at "sz") (by walk_at "sz") S (by exact List.mem_cons_self) fun it s S => ?_
  have I := Iter.range (prog := prog) (w := w) (A := A) ok.1 it 0 many
  have S : St B O ((it, RangeItO ((0 + 0 : Nat) : Int) ((many - 0 : Nat) : Int) 1) :: (L, FrO (lawFr script sums (some (.int (many : Nat) tm)) text x letter (some (.ref H)) (some (.ref LV)) none none none none none none none none none none none none none none)) :: (hl, ListO tvs) :: (LV, ListO lvs) :: rs) G s :=
    ((S.front (a := L) (by walk_at "mem")).front (a := it) (by walk_at "mem")).sub (by walk_at "mem")
  refine n_forLoop I (fun k (l : List (Str × Option Value)) B' rs' G' => Fix.le B B' ∧ BareG G' ∧ k ≤ many ∧ ∃ tvs lvs o1 o2 o3 o4 o5 o6, TabVs B' tvs (tabP (levelsF us k).1) ∧ LvAt B' lvs ((levelsF us k).2.map txts) ∧
      l = lawFr script sums (some (.int (many : Nat) tm)) text x letter (some (.ref H)) (some (.ref LV)) o1 o2 o3 o4 o5 o6 none none none none none none none none ∧ rs' = (hl, ListO tvs) :: (LV, ListO lvs) :: rs)
    rfl (by kernel_rfl!) (fun _ _ _ _ _ _ => trivial) ?_ ?_ S ⟨.rfl, hG, Nat.zero_le _, tvs, lvs, none, none, none, none, none, none, htv, hlv, rfl, rfl⟩
  · clear I S htv hlv hG
    rintro k l B' rs' G' v K hK hk ⟨tk, rfl⟩ ⟨le, hG', hkm, tvs, lvs, o1, o2, o3, o4, o5, o6, htv, hlv, rfl, rfl⟩
    refine ⟨_, .tail (.tail (.tail (.tail (.tail (.tail (.tail (.tail .head))))))), fun s S => ?_⟩
    have h0k : 0 + k = k := Nat.zero_add k
    rw [h0k] at S
    have X1 := X.mono le
    have Hd1 := Hd.mono le
    have Lk := Z.levels hkm
    have htl := Z.tabLen hkm
    have hgt := Z.tabGood hkm
    have hgl := Z.lvGood hkm
    have hll := Z.lvLen hkm
    have hlen := hlv.1
    rw [List.length_map, Lk.len] at hlen
    obtain ⟨lv, hlvk⟩ : ∃ lv, (levelsF us k).2[k]? = some lv := ⟨_, List.getElem?_eq_getElem (by rw [Lk.len]; omega)⟩
    have hgd : (levelsF us k).2.getD k [] = lv := by rw [List.getD_eq_getElem?_getD, hlvk]; rfl
    rw [hgd] at hgl hll
    obtain ⟨vk, hvk⟩ : ∃ v, lvs[k]? = some v := ⟨_, List.getElem?_eq_getElem (by walk_at "sz")⟩
    obtain ⟨a, o, ws, u, rfl, ha, hlo, hu, hws⟩ := hlv.2 k vk hvk
    have hu : u = txts lv := by rw [List.getElem?_map, hlvk] at hu; exact (Option.some.inj hu).symm
    subst hu
    have hwl : ws.length = lv.length := by rw [hws.length]; simp [txts]
    walk_at "go"
    refine n_itemList (k := k) (by assumption) (.inl (by walk_at "mem")) (by walk_at "sz") hvk ?_ (fun _ _ => rfl) (fun _ _ => rfl)
    walk_at "go"
    rename_i FR _ _ s S
    refine n_iterList S (.std ha hlo) fun it2 s S => ?_
    have I2 := Iter.list (prog := prog) (w := w) (A := A) ok.1 it2 a ws
    have S : St B' O ((it2, ListItO a 0) :: (L, FrO (lawFr script sums (some (.int (many : Nat) tm)) text x letter (some (.ref H)) (some (.ref LV)) (some (.int (k : Nat) tk)) (some (.ref FR)) o3 o4 o5 o6 none none none none none none none none)) :: (hl, ListO tvs) :: (FR, ListO []) :: (LV, ListO lvs) :: (it, RangeItO ((0 + (k + 1) : Nat) : Int) ((many - (k + 1) : Nat) : Int) 1) :: rs) G' s :=
      ((((S.front (a := LV) (by walk_at "mem")).front (a := FR) (by walk_at "mem")).front (a := hl) (by walk_at "mem")).front (a := L) (by walk_at "mem")).front (a := it2) (by walk_at "mem")
    refine n_forLoop I2 (fun i (l : List (Str × Option Value)) B2 rs2 G2 => Fix.le B' B2 ∧ BareG G2 ∧ i ≤ lv.length ∧ ∃ tvs frs p3 p4 p5 p6, TabVs B2 tvs (tabP (((lv.take i).flatMap partsU).foldl addU ((levelsF us k).1, [])).1) ∧ StrVs frs (txts (((lv.take i).flatMap partsU).foldl addU ((levelsF us k).1, [])).2) ∧
        l = lawFr script sums (some (.int (many : Nat) tm)) text x letter (some (.ref H)) (some (.ref LV)) (some (.int (k : Nat) tk)) (some (.ref FR)) p3 p4 p5 p6 none none none none none none none none ∧ rs2 = (hl, ListO tvs) :: (FR, ListO frs) :: (LV, ListO lvs) :: (it, RangeItO ((0 + (k + 1) : Nat) : Int) ((many - (k + 1) : Nat) : Int) 1) :: rs)
      rfl (by kernel_rfl!) (by rintro _ _ _ _ _ ⟨le2, _⟩; exact .std (le2 _ _ ha) hlo) ?_ ?_ S ⟨.rfl, hG', Nat.zero_le _, tvs, [], o3, o4, o5, o6, by simpa using htv, trivial, rfl, rfl⟩
    · clear I2 S htv hG'
      rintro i l B2 rs2 G2 v K2 hK2 hi hv ⟨le2, hG2, hil, tvs2, frs, p3, p4, p5, p6, htv2, hfr, rfl, rfl⟩
      obtain ⟨q, hq⟩ : ∃ q, lv[i]? = some q := ⟨_, List.getElem?_eq_getElem (by walk_at "sz")⟩
      obtain ⟨t1, hv1⟩ := hws.at (k := i) (x := T q.flatten) (by unfold txts; rw [List.getElem?_map, hq]; rfl)
      rw [hv1] at hv
      cases hv
      refine ⟨_, .tail (.tail (.tail (.tail (.tail (.tail (.tail (.tail (.tail (.tail .head))))))))), fun s S => ?_⟩
      have hgq := hgl q (List.mem_of_getElem? hq)
      have hpq := hgq.plain
      have hpl := hpq.len
      have X2 := X1.mono le2
      have Hd2 := Hd1.mono le2
      walk_at "go"
      refine c_taken X2 (by assumption) hG2 (ok.le (by walk_at "sz")) hpq.lt (by walk_at "sz") fun s G3 hG3 => ?_
      rw [taken_of hgq.1]
      intro D pvs hpv S
      have hpv : StrVs pvs (txts (partsU q)) := by rw [List.map_map] at hpv; exact hpv
      have hpvl : pvs.length = (partsU q).length := by rw [hpv.length]; simp [txts]
      walk_at "go"
      refine .no ?_
      walk_at "go"
      refine n_iterList (by assumption) (.inl (by walk_at "mem")) fun it3 s S => ?_
      have I3 := Iter.list (prog := prog) (w := w) (A := A) ok.1 it3 D pvs
      have S : St B2 O ((it3, ListItO D 0) :: (L, FrO (lawFr script sums (some (.int (many : Nat) tm)) text x letter (some (.ref H)) (some (.ref LV)) (some (.int (k : Nat) tk)) (some (.ref FR)) (some (.str (T q.flatten) t1)) (some (.ref D)) p5 p6 none none none none none none none none)) :: (hl, ListO tvs2) :: (FR, ListO frs) :: (D, ListO pvs) :: (LV, ListO lvs) :: (it2, ListItO a (i + 1)) :: (it, RangeItO ((0 + (k + 1) : Nat) : Int) ((many - (k + 1) : Nat) : Int) 1) :: rs) G3 s :=
        ((((((S.front (a := it2) (by walk_at "mem")).front (a := LV) (by walk_at "mem")).front (a := D) (by walk_at "mem")).front (a := FR) (by walk_at "mem")).front (a := hl) (by walk_at "mem")).front (a := L) (by walk_at "mem")).front (a := it3) (by walk_at "mem")
      refine n_forLoop I3 (fun j (l : List (Str × Option Value)) B3 rs3 G4 => Fix.le B2 B3 ∧ G3 = G4 ∧ j ≤ (partsU q).length ∧ ∃ tvs frs p5 p6, TabVs B3 tvs (tabP (((partsU q).take j).foldl addU (((lv.take i).flatMap partsU).foldl addU ((levelsF us k).1, []))).1) ∧ StrVs frs (txts (((partsU q).take j).foldl addU (((lv.take i).flatMap partsU).foldl addU ((levelsF us k).1, []))).2) ∧
          l = lawFr script sums (some (.int (many : Nat) tm)) text x letter (some (.ref H)) (some (.ref LV)) (some (.int (k : Nat) tk)) (some (.ref FR)) (some (.str (T q.flatten) t1)) (some (.ref D)) p5 p6 none none none none none none none none ∧ rs3 = (hl, ListO tvs) :: (FR, ListO frs) :: (D, ListO pvs) :: (LV, ListO lvs) :: (it2, ListItO a (i + 1)) :: (it, RangeItO ((0 + (k + 1) : Nat) : Int) ((many - (k + 1) : Nat) : Int) 1) :: rs)
        rfl (by kernel_rfl!) (by rintro _ _ _ _ _ ⟨_, _, _, _, _, _, _, _, _, _, rfl⟩; exact .inl (by walk_at "mem")) ?_ ?_ S ⟨.rfl, rfl, Nat.zero_le _, tvs2, frs, p5, p6, htv2, hfr, rfl, rfl⟩
      · clear I3 S htv2 hfr
        rintro j l B3 rs3 G4 v K3 hK3 hj hv ⟨le3, rfl, hjl, tvs3, frs3, p5, p6, htv3, hfr3, rfl, rfl⟩
        obtain ⟨y, hy⟩ : ∃ y, (partsU q)[j]? = some y := ⟨_, List.getElem?_eq_getElem (by walk_at "sz")⟩
        obtain ⟨t2, hv2⟩ := hpv.at (k := j) (x := T y.flatten) (by unfold txts; rw [List.getElem?_map, hy]; rfl)
        rw [hv2] at hv
        cases hv
        refine ⟨_, .tail (.tail (.tail (.tail (.tail (.tail (.tail (.tail (.tail (.tail (.tail (.tail .head))))))))))), fun s S => ?_⟩
        have hgy : goodU y := lefts_good hgl y (List.mem_flatMap.mpr ⟨q, List.mem_of_getElem? hq, List.mem_of_getElem? hy⟩)
        have hpy := hgy.plain
        have hpyl := hpy.len
        have hpyw := hpy.wlen
        have X3 := X2.mono le3
        have Hd3 := Hd2.mono le3
        have hfold : ((partsU q).take (j + 1)).foldl addU (((lv.take i).flatMap partsU).foldl addU ((levelsF us k).1, [])) = addU (((partsU q).take j).foldl addU (((lv.take i).flatMap partsU).foldl addU ((levelsF us k).1, []))) y := by
          rw [List.take_add_one, hy, List.foldl_append]; rfl
        have hgood : ∀ v ∈ (((partsU q).take j).foldl addU (((lv.take i).flatMap partsU).foldl addU ((levelsF us k).1, []))).1, goodU v := by
          have h1 := foldU_mem (P := goodU) ((lv.take i).flatMap partsU) ((levelsF us k).1, []) hgt (fun v hv => by simp at hv) (lefts_good fun v hv => hgl v (List.mem_of_mem_take hv))
          exact (foldU_mem (P := goodU) ((partsU q).take j) _ h1.1 h1.2 fun v hv => lefts_good hgl v (List.mem_flatMap.mpr ⟨q, List.mem_of_getElem? hq, List.mem_of_mem_take hv⟩)).1
        have hsize : (((partsU q).take j).foldl addU (((lv.take i).flatMap partsU).foldl addU ((levelsF us k).1, []))).1.length ≤ 500 ∧ (((partsU q).take j).foldl addU (((lv.take i).flatMap partsU).foldl addU ((levelsF us k).1, []))).2.length ≤ 500 := by
          have h1 := foldU_len ((lv.take i).flatMap partsU) ((levelsF us k).1, [])
          have h2 := foldU_len ((partsU q).take j) (((lv.take i).flatMap partsU).foldl addU ((levelsF us k).1, []))
          have h3 := lefts_len (lv.take i) fun v hv => hgl v (List.mem_of_mem_take hv)
          have h4 : (lv.take i).length ≤ 24 := Nat.le_trans (List.length_take_le' ..) hll
          have h5 : ((partsU q).take j).length ≤ 8 := Nat.le_trans (List.length_take_le' ..) (Nat.le_trans (parts_len q) hgq.2)
          have h6 : (lv.take i).length * 8 ≤ 24 * 8 := Nat.mul_le_mul_right 8 h4
          simp only [List.length_nil] at h1
          omega
        generalize ((partsU q).take j).foldl addU (((lv.take i).flatMap partsU).foldl addU ((levelsF us k).1, [])) = st at htv3 hfr3 hfold hgood hsize S
        have hfl : frs3.length ≤ 500 := by rw [hfr3.length]; simp only [txts, List.length_map]; exact hsize.2
        walk_at "go"
        refine c_letters X3 (by assumption) (ok.d (by walk_at "sz")) ok.1 hpy.lt (by walk_at "sz") fun s t3 S => ?_
        walk_at "go"
        refine c_setdefault (name := word y) (ps := tabP st.1) X3 Hd3 (St.front (a := hl) (by assumption) (by walk_at "mem")) (ok.le (by walk_at "sz")) htv3 hpy.lplain hpy.wplain hpy.plain (by walk_at "sz") (tabP_key hgood) (by rw [tabP_len]; omega) fun s => ?_
        rw [getF_tab]
        cases hf : st.1.find? (fun z => low z == low y) with
        | some z =>
          have hadd : addU st y = (st.1, if hasT st.2 z then st.2 else st.2 ++ [z]) := by rw [addU_tab, hf]
          intro t4 S
          walk_at "go"
          refine n_notInStrs (by assumption) (.inl (by walk_at "mem")) hfr3 ?_
          rw [any_txts]
          walk_at "go"
          refine .both (fun hc => ?_) (fun hc => ?_)
          · have hc : hasT st.2 z = false := by simpa using hc
            rw [hc, if_neg Bool.false_ne_true] at hadd
            walk_at "go"
            refine hK3 _ _ ⟨_, _, _, _, St.front (a := it3) (St.front (a := L) (by assumption) (by walk_at "mem")) (by walk_at "mem"), le3, rfl, by omega, _, _, _, _, ?_, ?_, rfl, rfl⟩
            · rw [hfold, hadd]; exact htv3
            · rw [hfold, hadd]; unfold txts; rw [List.map_append]; exact hfr3.snoc ⟨_, rfl⟩
          · have hc : hasT st.2 z = true := by simpa using hc
            rw [hc, if_pos rfl] at hadd
            walk_at "go"
            refine hK3 _ _ ⟨_, _, _, _, St.front (a := it3) (St.front (a := L) (by assumption) (by walk_at "mem")) (by walk_at "mem"), le3, rfl, by omega, _, _, _, _, ?_, ?_, rfl, rfl⟩
            · rw [hfold, hadd]; exact htv3
            · rw [hfold, hadd]; exact hfr3
        | none =>
          have hadd : addU st y = (st.1 ++ [y], if hasT st.2 y then st.2 else st.2 ++ [y]) := by rw [addU_tab, hf]
          intro B4 tvs4 t4 le4 htv4 S
          have htv4 : TabVs B4 tvs4 (tabP (st.1 ++ [y])) := by unfold tabP; rw [List.map_append]; exact htv4
          walk_at "go"
          refine n_notInStrs (by assumption) (.inl (by walk_at "mem")) hfr3 ?_
          rw [any_txts]
          walk_at "go"
          refine .both (fun hc => ?_) (fun hc => ?_)
          · have hc : hasT st.2 y = false := by simpa using hc
            rw [hc, if_neg Bool.false_ne_true] at hadd
            walk_at "go"
            refine hK3 _ _ ⟨_, _, _, _, St.front (a := it3) (St.front (a := L) (by assumption) (by walk_at "mem")) (by walk_at "mem"), le3.trans le4, rfl, by omega, _, _, _, _, ?_, ?_, rfl, rfl⟩
            · rw [hfold, hadd]; exact htv4
            · rw [hfold, hadd]; unfold txts; rw [List.map_append]; exact hfr3.snoc ⟨_, rfl⟩
          · have hc : hasT st.2 y = true := by simpa using hc
            rw [hc, if_pos rfl] at hadd
            walk_at "go"
            refine hK3 _ _ ⟨_, _, _, _, St.front (a := it3) (St.front (a := L) (by assumption) (by walk_at "mem")) (by walk_at "mem"), le3.trans le4, rfl, by omega, _, _, _, _, ?_, ?_, rfl, rfl⟩
            · rw [hfold, hadd]; exact htv4
            · rw [hfold, hadd]; exact hfr3
      · clear I3 S htv2 hfr
        rintro l B3 rs3 G4 s ⟨le3, rfl, _, tvs3, frs3, p5, p6, htv3, hfr3, rfl, rfl⟩ S
        rw [hpvl, List.take_length] at htv3 hfr3
        have hfold : ((lv.take (i + 1)).flatMap partsU).foldl addU ((levelsF us k).1, []) = (partsU q).foldl addU (((lv.take i).flatMap partsU).foldl addU ((levelsF us k).1, [])) := by
          rw [List.take_add_one, hq, List.flatMap_append, List.foldl_append]; simp
        walk_at "go"
        refine hK2 _ _ ⟨_, _, _, _, (St.front (a := it2) (St.front (a := L) (by assumption) (by walk_at "mem")) (by walk_at "mem")).sub (by walk_at "mem"), le2.trans le3, hG3, by omega, _, _, _, _, _, _, ?_, ?_, rfl, rfl⟩
        · rw [hfold]; exact htv3
        · rw [hfold]; exact hfr3
    · clear I2 S htv hG'
      rintro l B2 rs2 G2 s ⟨le2, hG2, _, tvs2, frs, p3, p4, p5, p6, htv2, hfr, rfl, rfl⟩ S
      rw [hwl, List.take_length] at htv2 hfr
      have hlu : (lv.flatMap partsU).foldl addU ((levelsF us k).1, []) = levelU (levelsF us k).1 lv := rfl
      rw [hlu] at htv2 hfr
      have hs := levelsF_succ us k
      rw [hgd] at hs
      walk_at "go"
      obtain ⟨oF, hoF, leF, haF, S⟩ := (St.front (a := FR) (by assumption) (by walk_at "mem")).freeze
      refine hK _ _ ⟨_, _, _, _, (St.front (a := it) (St.front (a := L) S (by walk_at "mem")) (by walk_at "mem")).sub (by walk_at "mem"), le.trans (le2.trans leF), hG2, hk, _, _, _, _, _, _, _, _, ?_, ?_, rfl, rfl⟩
      · rw [hs]; exact htv2.mono leF
      · rw [hs]
        show LvAt _ _ (((levelsF us k).2 ++ [_]).map txts)
        rw [List.map_append]
        exact (hlv.mono (le2.trans leF)).snoc haF hoF hfr
  · rintro l B' rs' G' s ⟨le, hG', _, tvs, lvs, o1, o2, o3, o4, o5, o6, htv, hlv, rfl, rfl⟩ S
    exact hK9 _ _ ⟨rfl, _, _, _, _, _, _, _, _, _, _, le, hG', htv, hlv, S⟩
end
-- T17
theorem foldlM_step {α β : Type} {f : β → α → Option β} {l : List α} {b r : β} (h : l.foldlM f b = some r) {k : Nat} {x : α} (hx : l[k]? = some x) {m : β} (hm : (l.take k).foldlM f b = some m) : ∃ m', f m x = some m' ∧ (l.take (k + 1)).foldlM f b = some m' := by
  have e : l.take (k + 1) ++ l.drop (k + 1) = l := List.take_append_drop ..
  rw [← e, List.foldlM_append] at h
  have e2 : (l.take (k + 1)).foldlM f b = f m x := by
    rw [List.take_add_one, hx, List.foldlM_append, hm]
    show (([x] : List α).foldlM f m) = f m x
    rw [List.foldlM_cons]
    cases f m x <;> rfl
  cases hq : f m x with
  | none => rw [e2, hq] at h; cases h
  | some m' => exact ⟨m', rfl, by rw [e2, hq]⟩
noncomputable def wtP (wt : List (List Nat × Int)) : List (List Nat × List Nat) := wt.map fun p => (p.1, decF p.2)
theorem wtP_put (name : List Nat) (v : Int) (wt : List (List Nat × Int)) : putF name (decF v) (wtP wt) = wtP (putI name v wt) := by
  unfold putF wtP putI
  rw [List.filter_map, List.map_append]; rfl
theorem getF_wt (name : List Nat) (wt : List (List Nat × Int)) : getF name (wtP wt) = (wt.find? fun p => lowerF p.1 == lowerF name).map fun p => decF p.2 := by
  unfold getF wtP
  rw [List.find?_map, Option.map_map]; rfl
theorem s0 : Str.ofString "0" = T (decF 0) := by decide +kernel
theorem decF_plain {n : Int} (h0 : 0 ≤ n) (h1 : n < 1000) : (decF n).all plainCh = true := by
  have h : ∀ k : Nat, k < 1000 → (decF (k : Int)).all plainCh = true := by decide +kernel
  obtain ⟨k, rfl⟩ := Int.eq_ofNat_of_zero_le h0
  exact h k (by walk_at "sz")
structure WtOk (wt : List (List Nat × Int)) : Prop where
  ok : ∀ p ∈ wt, p.1.length ≤ 8 ∧ 0 ≤ p.2 ∧ p.2 < 1000
  len : wt.length ≤ 100
theorem WtOk.put {wt : List (List Nat × Int)} {name : List Nat} {v : Int} (h : ∀ p ∈ wt, p.1.length ≤ 8 ∧ 0 ≤ p.2 ∧ p.2 < 1000) (hn : name.length ≤ 8) (h0 : 0 ≤ v) (h1 : v < 1000) : (∀ p ∈ putI name v wt, p.1.length ≤ 8 ∧ 0 ≤ p.2 ∧ p.2 < 1000) ∧ (putI name v wt).length ≤ wt.length + 1 := by
  constructor
  · intro p hp
    rcases List.mem_append.mp hp with hp | hp
    · exact h p (List.mem_filter.mp hp).1
    · rw [List.mem_singleton.mp hp]; exact ⟨hn, h0, h1⟩
  · unfold putI
    have := List.length_filter_le (fun p : List Nat × Int => lowerF p.1 != lowerF name) wt
    simp; omega
theorem wtP_key {wt : List (List Nat × Int)} (h : ∀ p ∈ wt, p.1.length ≤ 8 ∧ 0 ≤ p.2 ∧ p.2 < 1000) : ∀ p ∈ wtP wt, p.1.length ≤ 1000 := fun p hp => by
  obtain ⟨q, hq, rfl⟩ := List.mem_map.mp hp
  have := (h q hq).1
  show q.1.length ≤ 1000
  omega
theorem wtP_len (wt : List (List Nat × Int)) : (wtP wt).length = wt.length := by unfold wtP; simp
structure WordIs (x : List Nat) : Prop where
  len : x.length ≤ 8
  ulen : (upperF x).length ≤ 8
  plain : x.all plainCh = true
  uplain : (upperF x).all plainCh = true
  lplain : (lowerF x).all plainCh = true
  luplain : (lowerF (upperF x)).all plainCh = true
theorem wordIs_of {x : List Nat} (h : wordOk x = true) : WordIs x := by
  unfold wordOk at h
  simp only [Bool.and_eq_true, decide_eq_true_eq] at h
  obtain ⟨⟨⟨⟨⟨a, b⟩, c⟩, d⟩, e⟩, f⟩ := h
  exact ⟨a, b, c, d, e, f⟩
theorem greatF_eq (x0 : Int) (k : Nat) : ((x0 + (k : Int)).fmod 2 == 1) = greatF (x0.fmod 2 == 1) k := by
  rw [Int.fmod_eq_emod_of_nonneg _ (by decide), Int.fmod_eq_emod_of_nonneg _ (by decide)]
  unfold greatF
  rw [Bool.eq_iff_iff]
  simp only [beq_iff_eq, bne_iff_ne, ne_eq]
  constructor
  · intro h e
    have : (x0 % 2 = 1) ↔ (k % 2 = 1) := by
      rw [Bool.eq_iff_iff] at e; simpa using e
    omega
  · intro h
    have : ¬ ((x0 % 2 = 1) ↔ (k % 2 = 1)) := fun e => h (by rw [Bool.eq_iff_iff]; simpa using e)
    omega
section
variable {prog : Program} {w : World} {A : Around} {E : Value → Shared → Prop} {B : Fix} {O : OsState} {rs rs' : List Res} {G : Array GenState} {s : Shared}
set_option pp.deepTerms false
set_option pp.maxSteps 800
theorem n_intZero {t : Tok} {Q : Value → Shared → Prop} (S : St B O rs G s) (h : ∀ s' k, St B O rs G s' → Q (.int 0 k) s') : wpAny (model prog w) A (call (.type "int") [.str (Str.ofString "0") t]) Q E s := by
  have := n_intStr (prog := prog) (w := w) (A := A) (E := E) (n := 0) (t := t) S (by decide) (by decide) h
  rw [← s0] at this
  exact this
theorem c_setitemS {H hl : Addr} {vs : List Value} {ps : List (List Nat × List Nat)} {name value : List Nat} {v : Str} {t u : Tok} {P : Value → Shared → Prop} (hv' : v = T value) (X : Base w B) (Hd : HdAt B H hl) (S : St B O ((hl, ListO vs) :: rs) G s) (ok : Ok A 40) (hv : TabVs B vs ps)
    (hn : (lowerF name).all plainCh = true) (hn2 : name.all plainCh = true) (hval : value.all plainCh = true) (hnl : name.length ≤ 1000) (hps : ∀ p ∈ ps, p.1.length ≤ 1000) (hpl : ps.length ≤ 10000)
    (h : ∀ s' B' vs', Fix.le B B' → TabVs B' vs' (putF name value ps) → St B' O ((hl, ListO vs') :: rs) G s' → P .none s') : wpAny (model prog w) A (call (.ref 97) [.ref H, .str (T name) t, .str v u] []) P NoE s := by
  subst hv'
  exact c_setitem X Hd S ok hv hn hn2 hval hnl hps hpl h
theorem c_getD {H hl : Addr} {vs : List Value} {ps : List (List Nat × List Nat)} {name : List Nat} {d : Str} {t u : Tok} {P : Value → Shared → Prop} (X : Base w B) (Hd : HdAt B H hl) (S : St B O ((hl, ListO vs) :: rs) G s) (ok : Ok A 20) (hv : TabVs B vs ps)
    (hn : (lowerF name).all plainCh = true) (hnl : name.length ≤ 1000) (hps : ∀ p ∈ ps, p.1.length ≤ 1000)
    (h : ∀ s', St B O ((hl, ListO vs) :: rs) G s' → match getF name ps with | some x => ∀ t', P (.str (T x) t') s' | none => P (.str d u) s') : wpAny (model prog w) A (call (.ref 131) [.ref H, .str (T name) t, .str d u] []) P NoE s :=
  c_get (t := t) (dv := .str d u) (args := [.ref H, .str (T name) t, .str d u]) X Hd S ok hv (.dflt 124 _ _ _ _ _ _ rfl (by kernel_rfl!) rfl (by kernel_rfl!)) hn hnl hps h
theorem law_ways {names : List (List (List Nat))} {many : Nat} {x0 : Int} {L H hl SU NM : Addr} {tm t0 : Tok} {script text x letter table levels step fresh one parts left kept : Option Value} {svs nvs : List Value} {st : Stmt} (hst : lawSt w.params 12 = st) (X : Base w B) (ok : Ok A 60) (hm4 : many ≤ 4)
    (hways : (waysF names many (x0.fmod 2 == 1)).isSome = true) (hnl : names.length = many + 1) (Hd : HdAt B H hl) (hs0 : svs[0]? = some (.int x0 t0)) (hnv : LvAt B nvs (names.map (List.map T)))
    (S : St B O ((L, FrO (lawFr script (some (.ref SU)) (some (.int (many : Nat) tm)) text x letter table levels step fresh one parts left kept (some (.ref NM)) (some (.ref H)) none none none none none none)) :: (hl, ListO []) :: (SU, ListO svs) :: (NM, ListO nvs) :: rs) G s) :
    wpAny (model prog w) A (exec st (lawEnv w L)) (fun f s' => f = .next ∧ ∃ B' l rs', Fix.le B B' ∧ St B' O ((L, FrO l) :: rs') G s') NoE s := by
  rw [lawSt_eq rfl] at hst
  subst hst
  refine opq fun K9 hK9 => ?_
  obtain ⟨wr, hways⟩ := Option.isSome_iff_exists.mp hways
  unfold waysF at hways
  generalize hpar : (x0.fmod 2 == 1) = par at hways
  walk_at "go"
  have S := ‹St _ _ ((_, RangeO _ _ _) :: _) _ _›
  have e1 : ((many : Int) + 1) = ((many + 1 : Nat) : Int) := by omega
  rw [e1] at S
  refine n_iterRange (a := 0) (b := many + 1) (by walk_at "sz") (by walk_at "sz") S (by exact List.mem_cons_self) fun it s S => ?_
  have I := Iter.range (prog := prog) (w := w) (A := A) ok.1 it 0 (many + 1)
  have S : St B O ((it, RangeItO ((0 + 0 : Nat) : Int) ((many + 1 - 0 : Nat) : Int) 1) :: (L, FrO (lawFr script (some (.ref SU)) (some (.int (many : Nat) tm)) text x letter table levels step fresh one parts left kept (some (.ref NM)) (some (.ref H)) none none none none none none)) :: (hl, ListO []) :: (SU, ListO svs) :: (NM, ListO nvs) :: rs) G s :=
    ((S.front (a := L) (by walk_at "mem")).front (a := it) (by walk_at "mem")).sub (by walk_at "mem")
  refine n_forLoop I (fun k (l : List (Str × Option Value)) B' rs' G' => Fix.le B B' ∧ G = G' ∧ ∃ wt wvs sz td hg tt lo ls, ((List.range (many + 1)).take k).foldlM (sizeStep names many par) [] = some wt ∧ WtOk wt ∧ TabVs B' wvs (wtP wt) ∧
      l = lawFr script (some (.ref SU)) (some (.int (many : Nat) tm)) text x letter table levels step fresh one parts left kept (some (.ref NM)) (some (.ref H)) sz td hg tt lo ls ∧ rs' = (hl, ListO wvs) :: (SU, ListO svs) :: (NM, ListO nvs) :: rs)
    rfl (by kernel_rfl!) (fun _ _ _ _ _ _ => trivial) ?_ ?_ S ⟨.rfl, rfl, [], [], none, none, none, none, none, none, rfl, ⟨fun p hp => by simp at hp, by simp⟩, ⟨rfl, fun i v e => by simp at e⟩, rfl, rfl⟩
  · clear I S
    rintro k l B' rs' G' v K hK hk ⟨tk, rfl⟩ ⟨le, rfl, wt, wvs, sz, td, hg, tt, lo, ls, hwt, hwo, hwv, rfl, rfl⟩
    refine ⟨_, .tail (.tail (.tail (.tail (.tail (.tail (.tail (.tail (.tail (.tail (.tail (.tail (.tail (.tail (.tail (.tail .head))))))))))))))), fun s S => ?_⟩
    have h0k : 0 + k = k := Nat.zero_add k
    rw [h0k] at S
    have X1 := X.mono le
    have Hd1 := Hd.mono le
    have hnv1 := hnv.mono le
    obtain ⟨wt', hstep, hwt'⟩ := foldlM_step hways (List.getElem?_range hk) hwt
    unfold sizeStep at hstep
    obtain ⟨hs, hhs⟩ : ∃ hs, names[many - k]? = some hs := ⟨_, List.getElem?_eq_getElem (by walk_at "sz")⟩
    have hgd : names.getD (many - k) [] = hs := by rw [List.getD_eq_getElem?_getD, hhs]; rfl
    rw [hgd] at hstep
    have hnvl := hnv1.1
    rw [List.length_map, hnl] at hnvl
    obtain ⟨vk, hvk⟩ : ∃ v, nvs[many - k]? = some v := ⟨_, List.getElem?_eq_getElem (by walk_at "sz")⟩
    obtain ⟨a, o, ws, u, rfl, ha, hlo, hu, hws⟩ := hnv1.2 (many - k) vk hvk
    have hu : u = hs.map T := by rw [List.getElem?_map, hhs] at hu; exact (Option.some.inj hu).symm
    subst hu
    have hwl : ws.length = hs.length := by rw [hws.length]; simp
    walk_at "go"
    refine c_orders (many := k) X1 (by assumption) (ok.le (by walk_at "sz")) (by walk_at "sz") fun s TD tvs htvs S => ?_
    have htvs : StrVs tvs ((toldF k).map T) := by unfold toldF; rw [List.map_map]; exact htvs
    walk_at "go"
    have e2 : (many : Int) - (k : Int) = ((many - k : Nat) : Int) := by omega
    rw [e2]
    refine n_itemList (k := many - k) (by assumption) (.inl (by walk_at "mem")) (by walk_at "sz") hvk ?_ (fun _ _ => rfl) (fun _ _ => rfl)
    walk_at "go"
    refine n_iterList (by assumption) (.std ha hlo) fun it2 s S => ?_
    have I2 := Iter.list (prog := prog) (w := w) (A := A) ok.1 it2 a ws
    have S : St B' O ((it2, ListItO a 0) :: (L, FrO (lawFr script (some (.ref SU)) (some (.int (many : Nat) tm)) text x letter table levels step fresh one parts left kept (some (.ref NM)) (some (.ref H)) (some (.int (k : Nat) tk)) (some (.ref TD)) hg tt lo ls)) :: (hl, ListO wvs) :: (TD, ListO tvs) :: (it, RangeItO ((0 + (k + 1) : Nat) : Int) ((many + 1 - (k + 1) : Nat) : Int) 1) :: (SU, ListO svs) :: (NM, ListO nvs) :: rs) G s :=
      ((((S.front (a := TD) (by walk_at "mem")).front (a := hl) (by walk_at "mem")).front (a := L) (by walk_at "mem")).front (a := it2) (by walk_at "mem")).sub (by walk_at "mem")
    generalize hgr : greatF par k = great at hstep
    refine n_forLoop I2 (fun i (l : List (Str × Option Value)) B2 rs2 G2 => Fix.le B' B2 ∧ G = G2 ∧ ∃ wt2 wvs hg tt lo ls, (hs.take i).foldlM (highStep (toldF k) (lowsF names many k) great (if k = 0 then 1 else 0)) wt = some wt2 ∧ WtOk wt2 ∧ TabVs B2 wvs (wtP wt2) ∧
        l = lawFr script (some (.ref SU)) (some (.int (many : Nat) tm)) text x letter table levels step fresh one parts left kept (some (.ref NM)) (some (.ref H)) (some (.int (k : Nat) tk)) (some (.ref TD)) hg tt lo ls ∧ rs2 = (hl, ListO wvs) :: (TD, ListO tvs) :: (it, RangeItO ((0 + (k + 1) : Nat) : Int) ((many + 1 - (k + 1) : Nat) : Int) 1) :: (SU, ListO svs) :: (NM, ListO nvs) :: rs)
      rfl (by kernel_rfl!) (by rintro _ _ _ _ _ ⟨le2, _⟩; exact .std (le2 _ _ ha) hlo) ?_ ?_ S ⟨.rfl, rfl, wt, wvs, hg, tt, lo, ls, rfl, hwo, hwv, rfl, rfl⟩
    · clear I2 S
      rintro i l B2 rs2 G2 v K2 hK2 hi hv ⟨le2, rfl, wt2, wvs2, hg, tt, lo, ls, hwt2, hwo2, hwv2, rfl, rfl⟩
      obtain ⟨hh, hhh⟩ : ∃ q, hs[i]? = some q := ⟨_, List.getElem?_eq_getElem (by walk_at "sz")⟩
      obtain ⟨t1, hv1⟩ := hws.at (k := i) (x := T hh) (by rw [List.getElem?_map, hhh]; rfl)
      rw [hv1] at hv
      cases hv
      refine ⟨_, .tail (.tail (.tail (.tail (.tail (.tail (.tail (.tail (.tail (.tail (.tail (.tail (.tail (.tail (.tail (.tail (.tail (.tail .head))))))))))))))))), fun s S => ?_⟩
      obtain ⟨wt3, hst3, hwt3⟩ := foldlM_step hstep hhh hwt2
      unfold highStep at hst3
      cases hlow : (lowsF names many k).foldlM (lowStep great hh wt2) (if k = 0 then 1 else 0) with
      | none => rw [hlow] at hst3; cases hst3
      | some total =>
      rw [hlow] at hst3
      dsimp only at hst3
      split at hst3
      case isFalse => cases hst3
      rename_i hcond
      simp only [Bool.and_eq_true, decide_eq_true_eq, beq_iff_eq] at hcond
      obtain ⟨⟨⟨hwok, htot⟩, hcnt⟩, hwlen⟩ := hcond
      have hW := wordIs_of hwok
      have hWl := hW.len
      have hWul := hW.ulen
      have hst3 : putI hh total (putI (upperF hh) 0 wt2) = wt3 := Option.some.inj hst3
      have X2 := X1.mono le2
      have Hd2 := Hd1.mono le2
      have hnv2 := hnv1.mono le2
      refine n_execTo (fun s => ∃ tt, St B2 O ((it2, ListItO a (i + 1)) :: (L, FrO (lawFr script (some (.ref SU)) (some (.int (many : Nat) tm)) text x letter table levels step fresh one parts left kept (some (.ref NM)) (some (.ref H)) (some (.int (k : Nat) tk)) (some (.ref TD)) (some (.str (T hh) t1)) (some (.int (if k = 0 then 1 else 0) tt)) lo ls)) :: (hl, ListO wvs2) :: (TD, ListO tvs) :: (it, RangeItO ((0 + (k + 1) : Nat) : Int) ((many + 1 - (k + 1) : Nat) : Int) 1) :: (SU, ListO svs) :: (NM, ListO nvs) :: rs) G s) ?_ ?_
      · intro K4 hK4
        by_cases hk0 : k = 0
        · rw [if_pos hk0] at hK4
          walk_at "go"
          refine .ofTrue (by simp [hk0]) ?_
          walk_at "go"
          exact hK4 _ ⟨_, by assumption⟩
        · rw [if_neg hk0] at hK4
          walk_at "go"
          refine .ofFalse (by simp; omega) ?_
          walk_at "go"
          exact hK4 _ ⟨_, by assumption⟩
      clear S
      rintro s ⟨tt0, S⟩
      refine n_execTo (fun s => ∃ tt lo ls, St B2 O ((it2, ListItO a (i + 1)) :: (L, FrO (lawFr script (some (.ref SU)) (some (.int (many : Nat) tm)) text x letter table levels step fresh one parts left kept (some (.ref NM)) (some (.ref H)) (some (.int (k : Nat) tk)) (some (.ref TD)) (some (.str (T hh) t1)) (some (.int total tt)) lo ls)) :: (hl, ListO wvs2) :: (TD, ListO tvs) :: (it, RangeItO ((0 + (k + 1) : Nat) : Int) ((many + 1 - (k + 1) : Nat) : Int) 1) :: (SU, ListO svs) :: (NM, ListO nvs) :: rs) G s) ?_ ?_
      · intro K4 hK4
        by_cases hk0 : k = 0
        · have hlow : (1 : Int) = total := by simpa [lowsF, hk0] using hlow
          rw [if_pos hk0] at S
          walk_at "go"
          refine .ofFalse (by simp [hk0]) ?_
          walk_at "go"
          rename_i EL s S
          refine n_iterList S (.inl (by walk_at "mem")) fun it3 s S => ?_
          have I3 := Iter.list (prog := prog) (w := w) (A := A) ok.1 it3 EL []
          have S := (S.front (a := L) (by walk_at "mem")).front (a := it3) (by walk_at "mem")
          refine n_forLoop I3 (fun j (l : List (Str × Option Value)) B3 rs3 G3 => B2 = B3 ∧ G = G3 ∧ l = _ ∧ rs3 = _) rfl (by kernel_rfl!) (by rintro _ _ _ _ _ ⟨_, _, _, rfl⟩; exact .inl (by walk_at "mem")) (fun j _ _ _ _ _ _ _ hj => absurd hj (Nat.not_lt_zero _)) ?_ S ⟨rfl, rfl, rfl, rfl⟩
          rintro l B3 rs3 G3 s ⟨rfl, rfl, rfl, rfl⟩ S
          rw [← hlow] at hK4
          exact hK4 _ ⟨_, _, _, (S.front (a := it2) (by walk_at "mem")).sub (by walk_at "mem")⟩
        · rw [if_neg hk0] at hlow S
          obtain ⟨lows, hlws⟩ : ∃ q, names[many + 1 - k]? = some q := ⟨_, List.getElem?_eq_getElem (by walk_at "sz")⟩
          have hlf : lowsF names many k = lows := by unfold lowsF; rw [if_neg hk0, List.getD_eq_getElem?_getD, hlws]; rfl
          rw [hlf] at hlow
          obtain ⟨vl, hvl⟩ : ∃ v, nvs[many + 1 - k]? = some v := ⟨_, List.getElem?_eq_getElem (by walk_at "sz")⟩
          obtain ⟨a3, o3, ws3, u3, rfl, ha3, hlo3, hu3, hws3⟩ := hnv2.2 (many + 1 - k) vl hvl
          have hu3 : u3 = lows.map T := by rw [List.getElem?_map, hlws] at hu3; exact (Option.some.inj hu3).symm
          subst hu3
          have hwl3 : ws3.length = lows.length := by rw [hws3.length]; simp
          walk_at "go"
          refine .ofTrue (by simp; omega) ?_
          walk_at "go"
          have e3 : (many : Int) - (k : Int) + 1 = ((many + 1 - k : Nat) : Int) := by omega
          rw [e3]
          refine n_itemList (k := many + 1 - k) (by assumption) (.inl (by walk_at "mem")) (by walk_at "sz") hvl ?_ (fun _ _ => rfl) (fun _ _ => rfl)
          walk_at "go"
          refine n_iterList (by assumption) (.std ha3 hlo3) fun it3 s S => ?_
          have I3 := Iter.list (prog := prog) (w := w) (A := A) ok.1 it3 a3 ws3
          have S : St B2 O ((it3, ListItO a3 0) :: (L, FrO (lawFr script (some (.ref SU)) (some (.int (many : Nat) tm)) text x letter table levels step fresh one parts left kept (some (.ref NM)) (some (.ref H)) (some (.int (k : Nat) tk)) (some (.ref TD)) (some (.str (T hh) t1)) (some (.int 0 tt0)) lo ls)) :: (hl, ListO wvs2) :: (it2, ListItO a (i + 1)) :: (TD, ListO tvs) :: (it, RangeItO ((0 + (k + 1) : Nat) : Int) ((many + 1 - (k + 1) : Nat) : Int) 1) :: (SU, ListO svs) :: (NM, ListO nvs) :: rs) G s :=
            (((S.front (a := hl) (by walk_at "mem")).front (a := L) (by walk_at "mem")).front (a := it3) (by walk_at "mem")).sub (by walk_at "mem")
          refine n_forLoop I3 (fun j (l : List (Str × Option Value)) B3 rs3 G3 => B2 = B3 ∧ G = G3 ∧ ∃ tot tt lo ls, (lows.take j).foldlM (lowStep great hh wt2) 0 = some tot ∧
              l = lawFr script (some (.ref SU)) (some (.int (many : Nat) tm)) text x letter table levels step fresh one parts left kept (some (.ref NM)) (some (.ref H)) (some (.int (k : Nat) tk)) (some (.ref TD)) (some (.str (T hh) t1)) (some (.int tot tt)) lo ls ∧ rs3 = (hl, ListO wvs2) :: (it2, ListItO a (i + 1)) :: (TD, ListO tvs) :: (it, RangeItO ((0 + (k + 1) : Nat) : Int) ((many + 1 - (k + 1) : Nat) : Int) 1) :: (SU, ListO svs) :: (NM, ListO nvs) :: rs)
            rfl (by kernel_rfl!) (by rintro _ _ _ _ _ ⟨rfl, _⟩; exact .std ha3 hlo3) ?_ ?_ S ⟨rfl, rfl, 0, _, lo, ls, rfl, rfl, rfl⟩
          · clear I3 S
            rintro j l B3 rs3 G3 v K3 hK3 hj hv ⟨rfl, rfl, tot, tt, lo, ls, htt, rfl, rfl⟩
            obtain ⟨lw, hlw⟩ : ∃ q, lows[j]? = some q := ⟨_, List.getElem?_eq_getElem (by walk_at "sz")⟩
            obtain ⟨t2, hv2⟩ := hws3.at (k := j) (x := T lw) (by rw [List.getElem?_map, hlw]; rfl)
            rw [hv2] at hv
            cases hv
            refine ⟨_, .tail (.tail (.tail (.tail (.tail (.tail (.tail (.tail (.tail (.tail (.tail (.tail (.tail (.tail (.tail (.tail (.tail (.tail (.tail (.tail .head))))))))))))))))))), fun s S => ?_⟩
            obtain ⟨tot', hs4, htt'⟩ := foldlM_step hlow hlw htt
            unfold lowStep at hs4
            split at hs4
            case isFalse => cases hs4
            rename_i hc4
            simp only [Bool.and_eq_true] at hc4
            have hV := wordIs_of hc4.1
            have hVl := hV.len
            have hVul := hV.ulen
            cases hlies : liesF lw hh great with
            | none => rw [hlies] at hs4; cases hs4
            | some b =>
            rw [hlies] at hs4
            walk_at "go"
            refine n_itemList (k := 0) (by assumption) (.inl (by walk_at "mem")) (by walk_at "sz") hs0 ?_ (fun _ _ => rfl) (fun _ _ => rfl)
            walk_at "go"
            refine n_mod (by assumption) (by decide) fun s k2 S => ?_
            walk_at "go"
            have hb : ((x0 + (k : Int)).fmod 2 == 1) = great := by rw [greatF_eq, hpar, hgr]
            rw [hb]
            refine c_lies X2 (by assumption) (ok.le (by walk_at "sz")) (by walk_at "sz") (by walk_at "sz") (by walk_at "sz") fun s S => ?_
            rw [hlies]
            show wpAny _ _ _ _ _ _
            dsimp only [optBool]
            walk_at "go"
            refine .no ?_
            walk_at "go"
            refine .both (fun hb1 => ?_) (fun hb1 => ?_)
            · subst hb1
              have hs4 : tot + getI (upperF lw) wt2 = tot' := Option.some.inj hs4
              walk_at "go"
              rw [upper_T]
              walk_at "go"
              refine c_getD (name := upperF lw) (ps := wtP wt2) X2 Hd2 (St.front (a := hl) (by assumption) (by walk_at "mem")) (ok.le (by walk_at "sz")) hwv2 hV.luplain (by walk_at "sz") (wtP_key hwo2.ok) fun s S => ?_
              rw [getF_wt]
              cases hf : wt2.find? (fun p => lowerF p.1 == lowerF (upperF lw)) with
              | some p =>
                have hgi : getI (upperF lw) wt2 = p.2 := by unfold getI; rw [hf]
                have hp := hwo2.ok p (List.mem_of_find?_eq_some hf)
                intro t5
                walk_at "go"
                refine n_intStr (by assumption) hp.2.1 (by walk_at "sz") fun s k6 S => ?_
                walk_at "go"
                exact hK3 _ _ ⟨_, _, _, _, St.front (a := it3) (St.front (a := L) (by assumption) (by walk_at "mem")) (by walk_at "mem"), rfl, rfl, tot + p.2, _, _, _, by rw [htt', ← hs4, hgi], rfl, rfl⟩
              | none =>
                have hgi : getI (upperF lw) wt2 = 0 := by unfold getI; rw [hf]
                show wpAny _ _ _ _ _ _
                walk_at "go"
                refine n_intZero (by assumption) fun s k6 S => ?_
                walk_at "go"
                exact hK3 _ _ ⟨_, _, _, _, St.front (a := it3) (St.front (a := L) (by assumption) (by walk_at "mem")) (by walk_at "mem"), rfl, rfl, tot + 0, _, _, _, by rw [htt', ← hs4, hgi], rfl, rfl⟩
            · subst hb1
              have hs4 : tot = tot' := Option.some.inj hs4
              walk_at "go"
              exact hK3 _ _ ⟨_, _, _, _, St.front (a := it3) (St.front (a := L) (by assumption) (by walk_at "mem")) (by walk_at "mem"), rfl, rfl, tot, _, _, _, by rw [htt', ← hs4], rfl, rfl⟩
          · clear I3 S
            rintro l B3 rs3 G3 s ⟨rfl, rfl, tot, tt, lo, ls, htt, rfl, rfl⟩ S
            rw [hwl3, List.take_length, hlow] at htt
            cases htt
            exact hK4 _ ⟨_, _, _, S.front (a := it2) (by walk_at "mem")⟩
      clear S
      rintro s ⟨tt1, lo1, ls1, S⟩
      walk_at "go"
      rw [upper_T]
      refine n_setItemHd X2 (by assumption) Hd2 ?_
      have hp1 := WtOk.put (v := 0) hwo2.ok hWul (by decide) (by decide)
      have hp2 := WtOk.put (v := total) hp1.1 hWl htot.1 htot.2
      refine c_setitemS (name := upperF hh) (value := decF 0) (ps := wtP wt2) s0 X2 Hd2 (St.front (a := hl) (by assumption) (by walk_at "mem")) (ok.le (by walk_at "sz")) hwv2 hW.luplain hW.uplain (decF_plain (by decide) (by decide)) (by walk_at "sz") (wtP_key hwo2.ok) (by rw [wtP_len]; omega) fun s B2 wvs3 le3 hwv3 S => ?_
      rw [wtP_put] at hwv3
      have X3 := X2.mono le3
      have Hd3 := Hd2.mono le3
      walk_at "go"
      refine n_strInt (by assumption) htot.1 (by walk_at "sz") fun s k7 S => ?_
      walk_at "go"
      refine n_setItemHd X3 (by assumption) Hd3 ?_
      refine c_setitem (name := hh) (value := decF total) (ps := wtP (putI (upperF hh) 0 wt2)) X3 Hd3 (St.front (a := hl) (by assumption) (by walk_at "mem")) (ok.le (by walk_at "sz")) hwv3 hW.lplain hW.plain (decF_plain htot.1 htot.2) (by walk_at "sz") (wtP_key hp1.1) (by rw [wtP_len]; omega) fun s B4 wvs4 le4 hwv4 S => ?_
      rw [wtP_put, hst3] at hwv4
      have hcc : ((toldF k).map T).countP (· == T hh) = (toldF k).countP (· == hh) := by
        rw [List.countP_map]
        congr 1
        funext q
        exact T_beq _ _
      walk_at "go"
      refine n_methCount (by assumption) (.inl (by walk_at "mem")) ?_
      walk_at "go"
      refine n_count (by assumption) (.inl (by walk_at "mem")) htvs fun s k8 S => ?_
      walk_at "go"
      refine .ofFalse (by rw [hcc, hcnt]; simp) ?_
      walk_at "go"
      have hwo3 : WtOk wt3 := by rw [← hst3]; exact ⟨hp2.1, by omega⟩
      exact hK2 _ _ ⟨_, _, _, _, St.front (a := it2) (St.front (a := L) (by assumption) (by walk_at "mem")) (by walk_at "mem"), le2.trans (le3.trans le4), rfl, wt3, _, _, _, _, _, hwt3, hwo3, hwv4, rfl, rfl⟩
    · clear I2 S
      rintro l B2 rs2 G2 s ⟨le2, rfl, wt2, wvs2, hg, tt, lo, ls, hwt2, hwo2, hwv2, rfl, rfl⟩ S
      rw [hwl, List.take_length, hstep] at hwt2
      cases hwt2
      walk_at "go"
      refine hK _ _ ⟨_, _, _, _, (St.front (a := it) (St.front (a := L) (by assumption) (by walk_at "mem")) (by walk_at "mem")).sub (by walk_at "mem"), le.trans le2, rfl, _, _, _, _, _, _, _, _, hwt', hwo2, hwv2, rfl, rfl⟩
  · rintro l B' rs' G' s ⟨le, rfl, wt, wvs, sz, td, hg, tt, lo, ls, hwt, hwo, hwv, rfl, rfl⟩ S
    exact hK9 _ _ ⟨rfl, _, _, _, le, S⟩
end
-- T18
noncomputable def shapeU (c : Nat) : Nat → Un
  | 0 => [[c]]
  | 1 => [[92, c]]
  | 2 => [[c], [92, 34]]
  | 3 => [[c], [92, 92]]
  | _ => [[92, 40], [c]]
noncomputable def letC (m : Nat) : Nat := [97, 65, 98, 66].getD m 0
noncomputable def blockU (x : Int) : Un := shapeU (letC (x.fmod 4).toNat) ((x.fdiv 4).fmod 5).toNat
noncomputable def textU (xs : List Int) : Un := xs.flatMap blockU
theorem sAL : Str.ofString "aAbB" = T [97, 65, 98, 66] := by decide +kernel
theorem letC_ok (m : Nat) (h : m < 4) : letC m = 97 ∨ letC m = 65 ∨ letC m = 98 ∨ letC m = 66 := by
  match m, h with
  | 0, _ => exact .inl rfl
  | 1, _ => exact .inr (.inl rfl)
  | 2, _ => exact .inr (.inr (.inl rfl))
  | 3, _ => exact .inr (.inr (.inr rfl))
theorem fmod_nat (x : Int) (n : Nat) (hn : 0 < n) : ∃ m : Nat, x.fmod n = m ∧ m < n := by
  rw [Int.fmod_eq_emod_of_nonneg _ (by walk_at "sz")]
  have h1 := Int.emod_nonneg x (b := n) (by walk_at "sz")
  have h2 := Int.emod_lt_of_pos x (b := n) (by walk_at "sz")
  exact ⟨(x % n).toNat, by omega, by omega⟩
section
variable {prog : Program} {w : World} {A : Around} {E : Value → Shared → Prop} {B : Fix} {O : OsState} {rs rs' : List Res} {G : Array GenState} {s : Shared}
set_option pp.deepTerms false
set_option pp.maxSteps 800
theorem n_charAtS {value slice : Expr} {v : Str} {x : List Nat} {t u : Tok} {i : Int} {k : Nat} {c : Nat} {Q : Value → Shared → Prop} (hv : v = T x) (hi : i = (k : Nat)) (S : St B O rs G s) (hk : x[k]? = some c) (hx : x.length ≤ 100000) (h : ∀ s' t', St B O rs G s' → Q (.str (T [c]) t') s')
    (hs : ∀ o i, subscripted slice false o i = operate [o, i] (getItem o i)) (ht : ∀ o r, letTemporaryGo value (.str o t) r = pure ()) :
    wpAny (model prog w) A (subscriptTail value slice (.str v t) (.int i u)) Q E s := by
  subst hv hi
  exact n_charAt S hk hx h hs ht
theorem law_sums {L : Addr} {n : Nat} {NU : Addr} {vs : List Value} {ns : List Int} {script : Option Value} {st : Stmt} (hst : lawSt w.params 1 = st) (X : Base w B) (ok : Ok A 60) (hns : IntsAre vs ns) (hnl : vs.length ≤ 100)
    (S : St B O ((L, FrO (lawFr script none none none none none none none none none none none none none none none none none none none none none)) :: (L + 1, CellO (some (.ref NU))) :: (NU, ListO vs) :: rs) G s) :
    wpAny (model prog w) A (exec st (lawEnv w L)) (fun f s' => f = .next ∧ ∃ SU svs xs, IntsAre svs xs ∧ xs.length = 4 ∧
      St B O ((L, FrO (lawFr script (some (.ref SU)) none none none none none none none none none none none none none none none none none none none none)) :: (SU, ListO svs) :: (L + 1, CellO (some (.ref NU))) :: (NU, ListO vs) :: rs) G s') NoE s := by
  rw [lawSt_eq rfl] at hst
  subst hst
  refine opq fun K9 hK9 => ?_
  refine n_assignComp [("numbers", L + 1)] (by kernel_rfl!) (by kernel_rfl!) (by kernel_rfl!) (fun _ => rfl) ?_
  walk_at "go"
  rename_i _ ta _ _ tb _ _ tc _ _ td _ IL s S
  obtain ⟨items, hitems⟩ : ∃ items, items = [Value.int 4 ta, Value.int 10 tb, Value.int 3 tc, Value.int 1 td] := ⟨_, rfl⟩
  rw [← hitems] at S
  have hil : IntsAre items [4, 10, 3, 1] := by rw [hitems]; exact .cons 4 _ (.cons 10 _ (.cons 3 _ (.cons 1 _ .nil)))
  have hlen : items.length = 4 := by rw [hitems]; rfl
  clear hitems
  refine n_enumList S (.inl (by walk_at "mem")) fun e it s S => ?_
  refine n_iterEnum S (by walk_at "mem") ?_
  have I := PSrc.enumL (prog := prog) (w := w) (A := A) (items := items) G ok.1 e it IL
  refine n_compAt2 (G := G) (rs := (IL, ListO items) :: (L, FrO (lawFr script none none none none none none none none none none none none none none none none none none none none none)) :: (L + 1, CellO (some (.ref NU))) :: (NU, ListO vs) :: rs) (ri := [(e, EnumO it 0), (it, ListItO IL 0)]) I
    (fun k ys B' rs' => B = B' ∧ rs' = (IL, ListO items) :: (L, FrO (lawFr script none none none none none none none none none none none none none none none none none none none none none)) :: (L + 1, CellO (some (.ref NU))) :: (NU, ListO vs) :: rs ∧ k ≤ 4 ∧ ∃ xs, IntsAre ys xs ∧ xs.length = k)
    ok.1 (by kernel_rfl!) rfl (by kernel_rfl!) (by kernel_rfl!) (by decide +kernel) (by rintro _ _ _ _ ⟨rfl, _⟩; exact X) (by rintro _ _ _ _ C D l ⟨rfl, rfl, _⟩; exact .inl (by walk_at "mem")) ?_ ?_ ?_ ⟨rfl, rfl⟩ S ⟨rfl, rfl, Nat.zero_le _, [], .nil, rfl⟩
  · clear S I
    rintro k ys B' rs' ri G' C D v1 v2 K K0 hK hK0 s hk ⟨⟨t1, rfl⟩, hv2⟩ ⟨rfl, rfl, hk4, xs, hxs, hxl⟩ S
    obtain ⟨n2, hn2⟩ : ∃ n2, ([4, 10, 3, 1] : List Int)[k]? = some n2 := ⟨_, List.getElem?_eq_getElem (by rw [hlen] at hk; exact hk)⟩
    obtain ⟨t2, hv⟩ := Mine.IntsAre.at' hil k n2 hn2
    rw [hv] at hv2
    cases hv2
    have S : St _ _ (_ :: _ :: _ :: _ :: _ :: _ :: (_ ++ _)) _ _ := S
    refine wpAny_tests_nil (.yes ?_)
    walk_at "go"
    refine n_cutListStep (by assumption) (.inl (by walk_at "mem")) (.int _ _) .none (.int _ _) (by decide) (by walk_at "sz") (fun D1 s S => ?_) (fun _ _ => rfl) (fun _ _ => rfl)
    walk_at "go"
    refine n_sum ok.1 (by assumption) (.inl (by walk_at "mem")) (hns.pick _ _ _) fun y s t3 S => ?_
    walk_at "go"
    refine n_powk (by assumption) (by decide) (by decide) (by decide) fun s t4 S => ?_
    walk_at "go"
    refine n_mod (by assumption) (by decide) fun s t5 S => ?_
    walk_at "go"
    rename_i s S
    have S' : St B O ((C, FrO [("place", some (.int (k : Nat) t1)), ("base", some (.int n2 t2))]) :: (D, ListO ys) :: (IL, ListO items) :: (L, FrO (lawFr script none none none none none none none none none none none none none none none none none none none none none)) :: (L + 1, CellO (some (.ref NU))) :: (NU, ListO vs) :: (rs ++ ri)) G' s := S.sub (by walk_at "mem")
    exact hK _ _ ⟨_, (IL, ListO items) :: (L, FrO (lawFr script none none none none none none none none none none none none none none none none none none none none none)) :: (L + 1, CellO (some (.ref NU))) :: (NU, ListO vs) :: rs, S', rfl, rfl, by omega, _, Mine.IntsAre.snoc' hxs, by simp [hxl]⟩
  · rintro k ys B' rs' ⟨_, _, hk4, xs, hxs, hxl⟩
    rw [hxs.length, hxl, sizeLine_eq]; omega
  · rintro ys B' rs' G' D ⟨rfl, rfl, _, xs, hxs, hxl⟩ rfl
    intro s C P' S
    walk_at "go"
    refine ⟨_, _, by assumption, fun s S => ?_⟩
    refine hK9 _ _ ⟨rfl, D, ys, xs, hxs, by rw [hxl, hlen], (St.front (a := L) S (by walk_at "mem")).sub (by walk_at "mem")⟩
theorem n_itemListT {value slice : Expr} {d : Addr} {items : List Value} {k : Nat} {t : Tok} {v : Value} {Q : Value → Shared → Prop} (S : St B O rs G s) (hd : Lst B rs d items) (hk : k < 100000) (hv : items[k]? = some v) (h : Q v s)
    (hs : ∀ o i, subscripted slice false o i = operate [o, i] (getItem o i)) :
    wpAny (model prog w) A (subscriptTail value slice (.ref d) (.int (k : Nat) t)) Q E s := by
  have hg : wpAny (model prog w) A (getItem (.ref d) (.int (k : Nat) t)) Q E s := wpAny_getItem_list (S.lst hd) (by walk_at "sz") (by walk_at "sz") (by simpa using hv) h
  unfold subscriptTail
  refine wpAny_bind ?_
  rw [getitemInPython_of_ne (S.lst hd).typeIs.not_modules]
  refine wpAny_bind (wpAny_specialOf (S.lst hd).typeIs list_getitem_lookup ?_)
  have fin : wpAny (model prog w) A (subscripted slice false (.ref d) (.int (k : Nat) t)) (fun r s₃ => wpAny (model prog w) A (letTemporaryGo value (.ref d) r >>= fun _ => pure r) Q E s₃) E s := by
    rw [hs]
    exact wpAny_operating (wpAny_mono hg (fun r s₃ h₃ => wpAny_bind (wpAny_letTemporaryGo (wpAny_pure h₃))) fun _ _ x => x)
  first
    | exact wpAny_pure (wpAny_bind fin)
    | exact wpAny_bind (wpAny_pure (wpAny_bind fin))
    | exact wpAny_bind fin
theorem law_text {L SU : Addr} {many : Nat} {tm ty : Tok} {svs : List Value} {xs : List Int} {script : Option Value} {st : Stmt} (hst : lawSt w.params 4 = st) (X : Base w B) (ok : Ok A 60) (hxs : IntsAre svs xs) (hxl : xs.length = 4) (hm : many ≤ 4)
    (S : St B O ((L, FrO (lawFr script (some (.ref SU)) (some (.int (many : Nat) tm)) (some (.str (Str.ofString "") ty)) none none none none none none none none none none none none none none none none none none)) :: (SU, ListO svs) :: rs) G s) :
    wpAny (model prog w) A (exec st (lawEnv w L)) (fun f s' => f = .next ∧ ∃ ty xv lv, St B O ((L, FrO (lawFr script (some (.ref SU)) (some (.int (many : Nat) tm)) (some (.str (T (textU (xs.take many)).flatten) ty)) xv lv none none none none none none none none none none none none none none none none)) :: (SU, ListO svs) :: rs) G s') NoE s := by
  rw [lawSt_eq rfl] at hst
  subst hst
  refine opq fun K9 hK9 => ?_
  have hsl : svs.length = 4 := by rw [hxs.length]; exact hxl
  walk_at "go"
  refine n_cutList (by assumption) (.inl (by walk_at "mem")) .none (.int _ _) (by walk_at "sz") (fun D s S => ?_) (fun _ _ => rfl) (fun _ _ => rfl)
  rw [cut_to] at S
  refine n_iterList S (.inl (by walk_at "mem")) fun it s S => ?_
  have htk := Mine.IntsAre.take' hxs many
  have htl : (svs.take many).length = many := by rw [List.length_take]; omega
  have I := Iter.list (prog := prog) (w := w) (A := A) ok.1 it D (svs.take many)
  have S : St B O ((it, ListItO D 0) :: (L, FrO (lawFr script (some (.ref SU)) (some (.int (many : Nat) tm)) (some (.str (Str.ofString "") ty)) none none none none none none none none none none none none none none none none none none)) :: (SU, ListO svs) :: (D, ListO (svs.take many)) :: rs) G s :=
    ((S.front (a := SU) (by walk_at "mem")).front (a := L) (by walk_at "mem")).front (a := it) (by walk_at "mem")
  refine n_forLoop I (fun k (l : List (Str × Option Value)) B' rs' G' => B = B' ∧ G = G' ∧ k ≤ many ∧ ∃ y ty xv lv, y = T (textU (xs.take k)).flatten ∧ (textU (xs.take k)).flatten.length ≤ 3 * k ∧
      l = lawFr script (some (.ref SU)) (some (.int (many : Nat) tm)) (some (.str y ty)) xv lv none none none none none none none none none none none none none none none none ∧ rs' = (SU, ListO svs) :: (D, ListO (svs.take many)) :: rs)
    rfl (by kernel_rfl!) (by rintro _ _ _ _ _ ⟨_, _, _, _, _, _, _, _, _, _, rfl⟩; exact .inl (by walk_at "mem")) ?_ ?_ S ⟨rfl, rfl, Nat.zero_le _, _, ty, none, none, ofString_nil, by simp [textU], rfl, rfl⟩
  · clear I S
    rintro k l B' rs' G' v K hK hk hv ⟨rfl, rfl, hkm, y, ty, xv, lv, rfl, hyl, rfl, rfl⟩
    rw [htl] at hk
    obtain ⟨xk, hxk⟩ : ∃ xk, xs[k]? = some xk := ⟨_, List.getElem?_eq_getElem (by walk_at "sz")⟩
    obtain ⟨t1, hv1⟩ := Mine.IntsAre.at' hxs k xk hxk
    have hv2 : (svs.take many)[k]? = some (.int xk t1) := by rw [List.getElem?_take_of_lt hk]; exact hv1
    rw [hv2] at hv
    cases hv
    refine ⟨_, .tail (.tail (.tail (.tail .head))), fun s S => ?_⟩
    have htx : (textU (xs.take (k + 1))).flatten = (textU (xs.take k)).flatten ++ (blockU xk).flatten := by
      unfold textU
      rw [List.take_add_one, hxk, List.flatMap_append, List.flatten_append]; simp
    obtain ⟨m1, hm1, hlt1⟩ : ∃ m : Nat, xk.fmod 4 = (m : Nat) ∧ m < 4 := fmod_nat xk 4 (by decide)
    obtain ⟨m2, hm2, hlt2⟩ : ∃ m : Nat, (xk.fdiv 4).fmod 5 = (m : Nat) ∧ m < 5 := fmod_nat (xk.fdiv 4) 5 (by decide)
    have hbl : blockU xk = shapeU (letC m1) m2 := by unfold blockU; rw [hm1, hm2]; rfl
    rw [hbl] at htx
    have hc : ([97, 65, 98, 66] : List Nat)[m1]? = some (letC m1) := by
      match m1, hlt1 with
      | 0, _ => rfl
      | 1, _ => rfl
      | 2, _ => rfl
      | 3, _ => rfl
    generalize letC m1 = c at hc htx
    generalize (textU (xs.take k)).flatten = yy at hyl htx S
    walk_at "go"
    refine n_mod (by assumption) (by decide) fun s t2 S => ?_
    refine n_charAtS (k := m1) sAL hm1 (by assumption) hc (by simp) (fun s t3 S => ?_) (fun _ _ => rfl) (fun _ _ => rfl)
    walk_at "go"
    refine n_fdiv (a := xk) (b := 4) (by assumption) (by decide) (PyProof.noPylong_of_log2 (by decide +kernel)) fun s t4 S => ?_
    walk_at "go"
    refine n_mod (by assumption) (by decide) fun s t5 S => ?_
    rw [hm2]
    have h5 : m2 = 0 ∨ m2 = 1 ∨ m2 = 2 ∨ m2 = 3 ∨ m2 = 4 := by omega
    clear hm2 hlt2
    rcases h5 with rfl | rfl | rfl | rfl | rfl
    · refine n_itemListT (k := 0) (by assumption) (.inl (by walk_at "mem")) (by walk_at "sz") rfl ?_ (fun _ _ => rfl)
      walk_at "go"
      refine hK _ _ ⟨_, _, _, _, St.sub (St.front (a := it) (St.front (a := L) (by assumption) (by walk_at "mem")) (by walk_at "mem")) (by walk_at "mem"), rfl, rfl, hk, _, _, _, _, ?_, ?_, rfl, rfl⟩
      · rw [htx]; rfl
      · rw [htx]; simp [shapeU]; omega
    · refine n_itemListT (k := 1) (by assumption) (.inl (by walk_at "mem")) (by walk_at "sz") rfl ?_ (fun _ _ => rfl)
      walk_at "go"
      refine hK _ _ ⟨_, _, _, _, St.sub (St.front (a := it) (St.front (a := L) (by assumption) (by walk_at "mem")) (by walk_at "mem")) (by walk_at "mem"), rfl, rfl, hk, _, _, _, _, ?_, ?_, rfl, rfl⟩
      · rw [htx]; rfl
      · rw [htx]; simp [shapeU]; omega
    · refine n_itemListT (k := 2) (by assumption) (.inl (by walk_at "mem")) (by walk_at "sz") rfl ?_ (fun _ _ => rfl)
      walk_at "go"
      refine hK _ _ ⟨_, _, _, _, St.sub (St.front (a := it) (St.front (a := L) (by assumption) (by walk_at "mem")) (by walk_at "mem")) (by walk_at "mem"), rfl, rfl, hk, _, _, _, _, ?_, ?_, rfl, rfl⟩
      · rw [htx]; rfl
      · rw [htx]; simp [shapeU]; omega
    · refine n_itemListT (k := 3) (by assumption) (.inl (by walk_at "mem")) (by walk_at "sz") rfl ?_ (fun _ _ => rfl)
      walk_at "go"
      refine hK _ _ ⟨_, _, _, _, St.sub (St.front (a := it) (St.front (a := L) (by assumption) (by walk_at "mem")) (by walk_at "mem")) (by walk_at "mem"), rfl, rfl, hk, _, _, _, _, ?_, ?_, rfl, rfl⟩
      · rw [htx]; rfl
      · rw [htx]; simp [shapeU]; omega
    · refine n_itemListT (k := 4) (by assumption) (.inl (by walk_at "mem")) (by walk_at "sz") rfl ?_ (fun _ _ => rfl)
      walk_at "go"
      refine hK _ _ ⟨_, _, _, _, St.sub (St.front (a := it) (St.front (a := L) (by assumption) (by walk_at "mem")) (by walk_at "mem")) (by walk_at "mem"), rfl, rfl, hk, _, _, _, _, ?_, ?_, rfl, rfl⟩
      · rw [htx]; rfl
      · rw [htx]; simp [shapeU]; omega
  · rintro l B' rs' G' s ⟨rfl, rfl, _, y, ty, xv, lv, rfl, hyl, rfl, rfl⟩ S
    rw [htl] at S
    exact hK9 _ _ ⟨rfl, _, _, _, S.sub (by walk_at "mem")⟩
end
-- T19
section
variable {prog : Program} {w : World} {A : Around} {E : Value → Shared → Prop} {B : Fix} {O : OsState} {rs rs' : List Res} {G : Array GenState} {s : Shared}
set_option pp.deepTerms false
set_option pp.maxSteps 800
theorem law_keys {L H hl LV : Addr} {many : Nat} {tm : Tok} {script sums text x letter o1 o2 o3 o4 o5 o6 : Option Value} {tvs lvs : List Value} {tab : List Un} {levels : List (List Un)} {st : Stmt} (hst : lawSt w.params 9 = st) (X : Base w B) (ok : Ok A 60) (Hd : HdAt B H hl)
    (htv : TabVs B tvs (tabP tab)) (hlv : LvAt B lvs (levels.map txts)) (htab : tab = levels.flatten) (htl : tab.length ≤ 60) (hll : levels.length ≤ 10) (hgood : ∀ lv ∈ levels, ∀ v ∈ lv, goodU v)
    (S : St B O ((L, FrO (lawFr script sums (some (.int (many : Nat) tm)) text x letter (some (.ref H)) (some (.ref LV)) o1 o2 o3 o4 o5 o6 none none none none none none none none)) :: (hl, ListO tvs) :: (LV, ListO lvs) :: rs) G s) :
    wpAny (model prog w) A (exec st (lawEnv w L)) (fun f s' => f = .next ∧ St B O ((L, FrO (lawFr script sums (some (.int (many : Nat) tm)) text x letter (some (.ref H)) (some (.ref LV)) o1 o2 o3 o4 o5 o6 none none none none none none none none)) :: (hl, ListO tvs) :: (LV, ListO lvs) :: rs) G s') NoE s := by
  rw [lawSt_eq rfl] at hst
  subst hst
  refine opq fun K9 hK9 => ?_
  walk_at "go"
  refine c_keys X Hd (St.front (a := hl) (by assumption) (by walk_at "mem")) (ok.le (by walk_at "sz")) htv (by rw [tabP_len]; omega) fun s D ks hks S => ?_
  walk_at "go"
  refine n_listcomp [] (by kernel_rfl!) (by kernel_rfl!) (fun _ => rfl) ?_
  walk_at "go"
  refine n_iterList S (.inl (by walk_at "mem")) fun it s S => ?_
  have hlvl := hlv.1
  rw [List.length_map] at hlvl
  have I := Iter.list (prog := prog) (w := w) (A := A) ok.1 it LV lvs
  refine n_compAtTwo I (fun k ys B' rs' G' => B = B' ∧ G = G' ∧ k ≤ lvs.length ∧ rs' = (D, ListO ks) :: (hl, ListO tvs) :: (L, FrO (lawFr script sums (some (.int (many : Nat) tm)) text x letter (some (.ref H)) (some (.ref LV)) o1 o2 o3 o4 o5 o6 none none none none none none none none)) :: (LV, ListO lvs) :: rs ∧ StrVs ys ((levels.take k).flatten.map fun v => T (word v)))
    (by kernel_rfl!) rfl (by kernel_rfl!) (by kernel_rfl!) (by decide +kernel) (fun _ _ => rfl) (by rintro _ _ _ _ _ C D' l ⟨rfl, rfl, _, rfl, _⟩; exact .inl (by walk_at "mem")) ?_ ?_ S ⟨rfl, rfl, Nat.zero_le _, rfl, trivial⟩
  · clear S
    rintro k ys B' rs' G' C D' v ov K hK s hk hv ⟨rfl, rfl, hkl, rfl, hys⟩ S
    obtain ⟨a, o, ws, u, rfl, ha, hlo, hu, hws⟩ := hlv.2 k v hv
    obtain ⟨lv, hlvk⟩ : ∃ lv, levels[k]? = some lv := ⟨_, List.getElem?_eq_getElem (by walk_at "sz")⟩
    have hu : u = txts lv := by rw [List.getElem?_map, hlvk] at hu; exact (Option.some.inj hu).symm
    subst hu
    have hwl : ws.length = lv.length := by rw [hws.length]; simp [txts]
    have hgl := hgood lv (List.mem_of_getElem? hlvk)
    walk_at "go"
    refine hK _ _ ?_
    refine n_iterList (by assumption) (.std ha hlo) fun it2 s S => ?_
    refine ⟨it2, ws.length, _, _, _, fun j zs B3 rs3 G3 => B = B3 ∧ G = G3 ∧ j ≤ ws.length ∧ rs3 = (D, ListO ks) :: (hl, ListO tvs) :: (L, FrO (lawFr script sums (some (.int (many : Nat) tm)) text x letter (some (.ref H)) (some (.ref LV)) o1 o2 o3 o4 o5 o6 none none none none none none none none)) :: (LV, ListO lvs) :: rs ∧ StrVs zs (((levels.take k).flatten ++ lv.take j).map fun v => T (word v)),
      B, _, G, ys, ov, rfl, Iter.list ok.1 it2 a ws, S, ⟨rfl, rfl, Nat.zero_le _, rfl, by simpa using hys⟩, (by rintro _ _ _ _ _ _ ⟨rfl, _⟩; exact .std ha hlo), ?_, ?_, ?_⟩
    · clear S
      rintro j zs B3 rs3 G3 v2 K2 hK2 s hj hv2 ⟨rfl, rfl, hjl, rfl, hzs⟩ S
      obtain ⟨q, hq⟩ : ∃ q, lv[j]? = some q := ⟨_, List.getElem?_eq_getElem (by walk_at "sz")⟩
      obtain ⟨t1, hv1⟩ := hws.at (k := j) (x := T q.flatten) (by unfold txts; rw [List.getElem?_map, hq]; rfl)
      rw [hv1] at hv2
      cases hv2
      have hpq := (hgl q (List.mem_of_getElem? hq)).plain
      have hpl := hpq.len
      have S : St B O ((it2, ListItO a (j + 1)) :: (it, ListItO LV (k + 1)) :: (C, FrO [("level", some (.ref a)), ("one", some (.str (T q.flatten) t1))]) :: (D', ListO zs) :: (D, ListO ks) :: (hl, ListO tvs) :: (L, FrO (lawFr script sums (some (.int (many : Nat) tm)) text x letter (some (.ref H)) (some (.ref LV)) o1 o2 o3 o4 o5 o6 none none none none none none none none)) :: (LV, ListO lvs) :: rs) G s := S
      walk_at "go"
      refine c_letters X (by assumption) (ok.d (by walk_at "sz")) ok.1 hpq.lt (by walk_at "sz") fun s t3 S => ?_
      refine hK2 _ _ ⟨_, (D, ListO ks) :: (hl, ListO tvs) :: (L, FrO (lawFr script sums (some (.int (many : Nat) tm)) text x letter (some (.ref H)) (some (.ref LV)) o1 o2 o3 o4 o5 o6 none none none none none none none none)) :: (LV, ListO lvs) :: rs, _, S, rfl, rfl, hj, rfl, ?_⟩
      rw [List.take_add_one, hq, ← List.append_assoc, List.map_append]
      exact hzs.snoc ⟨_, rfl⟩
    · rintro j zs B3 rs3 G3 ⟨_, _, hjl, _, hzs⟩
      have h1 : ((levels.take k).flatten ++ lv.take j).length ≤ 60 + ws.length := by
        have h2 : (levels.take k).flatten.length ≤ levels.flatten.length := by
          conv => rhs; rw [← List.take_append_drop k levels]
          rw [List.flatten_append, List.length_append]; omega
        rw [← htab] at h2
        rw [List.length_append, List.length_take]; omega
      have h3 : lv.length ≤ levels.flatten.length := by
        obtain ⟨p, q, e⟩ := List.append_of_mem (List.mem_of_getElem? hlvk)
        rw [e, List.flatten_append, List.flatten_cons, List.length_append, List.length_append]; omega
      rw [← htab] at h3
      rw [hzs.length, List.length_map, sizeLine_eq]; omega
    · rintro zs B3 rs3 G3 ⟨rfl, rfl, _, rfl, hzs⟩
      refine ⟨rfl, rfl, hk, rfl, ?_⟩
      rw [hwl, List.take_length] at hzs
      have e : (levels.take (k + 1)).flatten = (levels.take k).flatten ++ lv := by rw [List.take_add_one, hlvk, List.flatten_append]; simp
      rw [e]; exact hzs
  · clear S
    rintro ys B' rs' G' D' ⟨rfl, rfl, _, rfl, hys⟩
    rw [hlvl, List.take_length] at hys
    intro s S
    walk_at "go"
    refine n_neStrs ok.u S (.inl (by walk_at "mem")) (.inl (by walk_at "mem")) hks hys ?_
    walk_at "go"
    have e : (tabP tab).map (fun p => T p.1) = levels.flatten.map fun v => T (word v) := by
      unfold tabP; rw [List.map_map, htab]; rfl
    refine .ofFalse (by rw [e]; simp) ?_
    walk_at "go"
    exact hK9 _ _ ⟨rfl, (S.front (a := L) (by walk_at "mem")).sub (by walk_at "mem")⟩
theorem law_names {L H hl LV : Addr} {many : Nat} {tm : Tok} {script sums text x letter o1 o2 o3 o4 o5 o6 : Option Value} {tvs lvs : List Value} {levels : List (List Un)} {st : Stmt} (hst : lawSt w.params 10 = st) (X : Base w B) (ok : Ok A 60)
    (hlv : LvAt B lvs (levels.map txts)) (hll : levels.length ≤ 10) (hgood : ∀ lv ∈ levels, ∀ v ∈ lv, goodU v) (hsz : ∀ lv ∈ levels, lv.length ≤ 60)
    (S : St B O ((L, FrO (lawFr script sums (some (.int (many : Nat) tm)) text x letter (some (.ref H)) (some (.ref LV)) o1 o2 o3 o4 o5 o6 none none none none none none none none)) :: (hl, ListO tvs) :: (LV, ListO lvs) :: rs) G s) :
    wpAny (model prog w) A (exec st (lawEnv w L)) (fun f s' => f = .next ∧ ∃ B' NM nvs, Fix.le B B' ∧ LvAt B' nvs (levels.map fun lv => lv.map fun v => T (low v)) ∧
      St B' O ((L, FrO (lawFr script sums (some (.int (many : Nat) tm)) text x letter (some (.ref H)) (some (.ref LV)) o1 o2 o3 o4 o5 o6 (some (.ref NM)) none none none none none none none)) :: (NM, ListO nvs) :: (hl, ListO tvs) :: (LV, ListO lvs) :: rs) G s') NoE s := by
  rw [lawSt_eq rfl] at hst
  subst hst
  refine opq fun K9 hK9 => ?_
  refine n_assignComp [] (by kernel_rfl!) (by kernel_rfl!) (by kernel_rfl!) (fun _ => rfl) ?_
  walk_at "go"
  refine n_iterList S (.inl (by walk_at "mem")) fun it s S => ?_
  have hlvl := hlv.1
  rw [List.length_map] at hlvl
  have I := Iter.list (prog := prog) (w := w) (A := A) ok.1 it LV lvs
  refine n_compAt I (fun k ys B' rs' G' => Fix.le B B' ∧ G = G' ∧ k ≤ lvs.length ∧ rs' = (L, FrO (lawFr script sums (some (.int (many : Nat) tm)) text x letter (some (.ref H)) (some (.ref LV)) o1 o2 o3 o4 o5 o6 none none none none none none none none)) :: (hl, ListO tvs) :: (LV, ListO lvs) :: rs ∧ LvAt B' ys ((levels.take k).map fun lv => lv.map fun v => T (low v)))
    (by kernel_rfl!) rfl (by kernel_rfl!) (by rintro _ _ _ _ _ C D' ov ⟨_, rfl, _, rfl, _⟩; exact .inl (by walk_at "mem")) ?_ ?_ ?_ S ⟨.rfl, rfl, Nat.zero_le _, rfl, .nil⟩
  · clear S
    rintro k ys B' rs' G' C D v K K0 hK hK0 s hk hv ⟨le, rfl, hkl, rfl, hys⟩ S
    obtain ⟨a, o, ws, u, rfl, ha, hlo, hu, hws⟩ := hlv.2 k v hv
    obtain ⟨lv, hlvk⟩ : ∃ lv, levels[k]? = some lv := ⟨_, List.getElem?_eq_getElem (by walk_at "sz")⟩
    have hu : u = txts lv := by rw [List.getElem?_map, hlvk] at hu; exact (Option.some.inj hu).symm
    subst hu
    have hwl : ws.length = lv.length := by rw [hws.length]; simp [txts]
    have hgl := hgood lv (List.mem_of_getElem? hlvk)
    have hl60 := hsz lv (List.mem_of_getElem? hlvk)
    have X1 := X.mono le
    refine wpAny_tests_nil (.yes ?_)
    refine n_listcomp [] (by kernel_rfl!) (by kernel_rfl!) (fun _ => rfl) ?_
    walk_at "go"
    refine n_iterList S (.std (le _ _ ha) hlo) fun it2 s S => ?_
    have I2 := Iter.list (prog := prog) (w := w) (A := A) ok.1 it2 a ws
    refine n_compAt I2 (fun j us B3 rs3 G3 => B' = B3 ∧ G = G3 ∧ j ≤ ws.length ∧ rs3 = (it, ListItO LV (k + 1)) :: (C, FrO [("level", some (.ref a))]) :: (D, ListO ys) :: (L, FrO (lawFr script sums (some (.int (many : Nat) tm)) text x letter (some (.ref H)) (some (.ref LV)) o1 o2 o3 o4 o5 o6 none none none none none none none none)) :: (hl, ListO tvs) :: (LV, ListO lvs) :: rs ∧ StrVs us ((lv.take j).map fun v => T (low v)))
      (by kernel_rfl!) rfl (by kernel_rfl!) (by rintro _ _ _ _ _ C2 D2 ov ⟨rfl, _⟩; exact .std (le _ _ ha) hlo) ?_ ?_ ?_ S ⟨rfl, rfl, Nat.zero_le _, rfl, trivial⟩
    · clear S
      rintro j us B3 rs3 G3 C2 D2 v2 K2 K02 hK2 hK02 s hj hv2 ⟨rfl, rfl, hjl, rfl, hus⟩ S
      obtain ⟨q, hq⟩ : ∃ q, lv[j]? = some q := ⟨_, List.getElem?_eq_getElem (by walk_at "sz")⟩
      obtain ⟨t1, hv1⟩ := hws.at (k := j) (x := T q.flatten) (by unfold txts; rw [List.getElem?_map, hq]; rfl)
      rw [hv1] at hv2
      cases hv2
      have hpq := (hgl q (List.mem_of_getElem? hq)).plain
      have hpl := hpq.len
      have hpw : (letF q.flatten).length ≤ 16 := hpq.wlen
      refine wpAny_tests_nil (.yes ?_)
      walk_at "go"
      refine c_letters X1 (by assumption) (ok.d (by walk_at "sz")) ok.1 hpq.lt (by walk_at "sz") fun s t3 S => ?_
      walk_at "go"
      refine hK2 _ _ ⟨_, _, _, by assumption, rfl, rfl, hj, rfl, ?_⟩
      rw [List.take_add_one, hq, List.map_append]
      exact hus.snoc (x := T (low q)) ⟨_, congrArg (Value.str · _) (lower_T _)⟩
    · rintro j us B3 rs3 G3 ⟨_, _, hjl, _, hus⟩
      rw [hus.length, List.length_map, List.length_take, sizeLine_eq]; omega
    · rintro us B3 rs3 G3 D2 ⟨rfl, rfl, _, rfl, hus⟩
      rw [hwl, List.take_length] at hus
      intro s S
      obtain ⟨o2, ho2, le2, ha2, S⟩ := S.freeze
      refine hK _ _ ⟨_, _, _, S, le.trans le2, rfl, hk, rfl, ?_⟩
      rw [List.take_add_one, hlvk, List.map_append]
      exact (hys.mono le2).snoc ha2 ho2 hus
  · rintro k ys B' rs' G' ⟨_, _, hkl, _, hys⟩
    rw [hys.1, List.length_map, List.length_take, sizeLine_eq]; omega
  · clear S
    rintro ys B' rs' G' D ⟨le, rfl, _, rfl, hys⟩
    rw [hlvl, List.take_length] at hys
    intro s C P' S
    walk_at "go"
    refine ⟨_, _, by assumption, fun s S => ?_⟩
    exact hK9 _ _ ⟨rfl, _, D, ys, le, hys, S.front (a := L) (by walk_at "mem")⟩
end
-- T20
theorem shape_ok {c : Nat} (h : c = 97 ∨ c = 65 ∨ c = 98 ∨ c = 66) (m : Nat) : (shapeU c m).all unitOk = true ∧ (shapeU c m).length ≤ 2 ∧ low (shapeU c m) = [lo1 c] := by
  match m with
  | 0 => rcases h with rfl | rfl | rfl | rfl <;> exact ⟨by decide, by decide, by decide +kernel⟩
  | 1 => rcases h with rfl | rfl | rfl | rfl <;> exact ⟨by decide, by decide, by decide +kernel⟩
  | 2 => rcases h with rfl | rfl | rfl | rfl <;> exact ⟨by decide, by decide, by decide +kernel⟩
  | 3 => rcases h with rfl | rfl | rfl | rfl <;> exact ⟨by decide, by decide, by decide +kernel⟩
  | m + 4 =>
    have e : shapeU c (m + 4) = shapeU c 4 := rfl
    rw [e]
    rcases h with rfl | rfl | rfl | rfl <;> exact ⟨by decide, by decide, by decide +kernel⟩
theorem block_ok (x : Int) : (blockU x).all unitOk = true ∧ (blockU x).length ≤ 2 ∧ (low (blockU x) = [97] ∨ low (blockU x) = [98]) := by
  obtain ⟨m, hm, hlt⟩ : ∃ m : Nat, x.fmod 4 = (m : Nat) ∧ m < 4 := fmod_nat x 4 (by decide)
  have hc : letC (x.fmod 4).toNat = 97 ∨ letC (x.fmod 4).toNat = 65 ∨ letC (x.fmod 4).toNat = 98 ∨ letC (x.fmod 4).toNat = 66 := letC_ok _ (by rw [hm]; simpa using hlt)
  have h := shape_ok hc ((x.fdiv 4).fmod 5).toNat
  refine ⟨h.1, h.2.1, ?_⟩
  have e : low (blockU x) = [lo1 (letC (x.fmod 4).toNat)] := h.2.2
  rw [e]
  rcases hc with e | e | e | e <;> rw [e] <;> decide
theorem low_append (a b : Un) : low (a ++ b) = low a ++ low b := by
  rw [low_eq, low_eq, low_eq]
  unfold word
  rw [List.flatten_append, letF_append, List.map_append]
theorem text_ok : ∀ xs : List Int, (textU xs).all unitOk = true ∧ (textU xs).length ≤ 2 * xs.length ∧ low (textU xs) ∈ abWords xs.length
  | [] => ⟨rfl, by simp [textU], by decide +kernel⟩
  | x :: r => by
    have h1 := block_ok x
    have h2 := text_ok r
    have e : textU (x :: r) = blockU x ++ textU r := rfl
    refine ⟨by rw [e, List.all_append, h1.1, h2.1]; rfl, by rw [e, List.length_append, List.length_cons]; omega, ?_⟩
    rw [e, low_append, List.length_cons, abWords]
    refine List.mem_flatMap.mpr ⟨_, h2.2.2, ?_⟩
    rcases h1.2.2 with e | e <;> rw [e] <;> simp
theorem abWords_len : ∀ n, ∀ x ∈ abWords n, x.length = n
  | 0, x, h => by rw [List.mem_singleton.mp h]; rfl
  | n + 1, x, h => by
    obtain ⟨y, hy, hx⟩ := List.mem_flatMap.mp h
    have := abWords_len n y hy
    simp at hx
    rcases hx with rfl | rfl <;> simp [this]
theorem sized_of {xs : List Int} {many : Nat} (hl : xs.length = many) (hm : many = 3 ∨ many = 4) : Sized (textU xs) many := by
  have h := text_ok xs
  rw [hl] at h
  refine ⟨⟨h.1, by omega⟩, by omega, abWords_len _ _ h.2.2, ?_, ?_⟩
  · rcases hm with rfl | rfl
    · exact fun k hk => flat3 _ h.2.2 k (by walk_at "sz")
    · exact fun k hk => flat4 _ h.2.2 k (by walk_at "sz")
  · rcases hm with rfl | rfl
    · exact fun k hk => sizes3 _ h.2.2 k (by walk_at "sz")
    · exact fun k hk => sizes4 _ h.2.2 k (by walk_at "sz")
theorem ways_of {xs : List Int} {many : Nat} (hl : xs.length = many) (hm : many = 3 ∨ many = 4) (par : Bool) : (waysF (wlevels (low (textU xs)) many) many par).isSome = true := by
  have h := text_ok xs
  rw [hl] at h
  rcases hm with rfl | rfl
  · exact ways3 _ h.2.2 par
  · exact ways4 _ h.2.2 par
section
variable {prog : Program} {w : World} {A : Around} {E : Value → Shared → Prop} {B : Fix} {O : OsState} {rs rs' : List Res} {G : Array GenState} {s : Shared}
set_option pp.deepTerms false
set_option pp.maxSteps 800
theorem n_thenTo {env : Env} {st : Stmt} {rest : List Stmt} {Q : Flow → Shared → Prop} {R : Shared → Prop} (h : wpAny (model prog w) A (exec st env) (fun f s' => f = .next ∧ R s') NoE s)
    (cont : ∀ s, R s → wpAny (model prog w) A (execs rest env) Q NoE s) : wpAny (model prog w) A (exec st env) (Then (model prog w) A rest env Q NoE) NoE s :=
  wpAny_mono h (fun f s' q => by rw [q.1]; exact n_then (cont _ q.2)) fun _ _ z => z
theorem c_law {SL : Addr} {vs : List Value} {ns : List Int} {P : Value → Shared → Prop} (X : Base w B) (S : St B O rs G s) (hG : BareG G) (ok : Ok A 70) (hsl : Lst B rs SL vs) (hns : IntsAre vs ns) (hnl : vs.length ≤ 63)
    (h : ∀ s' G' rs', BareG G' → St B O rs' G' s' → P (.bool true) s') : wpAny (model prog w) A (call (.ref 243) [.ref SL] []) P NoE s := by
  refine r_callC [("script", .ref SL)] (lawFr (some (.ref SL)) none none none none none none none none none none none none none none none none none none none none none) (fun L => [("numbers", L + 1)]) [("numbers", none)] (fun L => [(L + 1, CellO none)]) X S (ok.d (j := 0) (by walk_at "sz")) (by kernel_rfl!) rfl rfl (by kernel_rfl!) (by kernel_rfl!) (fun _ => by kernel_rfl!) (fun _ _ => by simp [List.lookup_cons]; split <;> simp_all)
    ["script", "sums", "many", "text", "x", "letter", "table", "levels", "step", "fresh", "one", "parts", "left", "kept", "names", "ways", "size", "told", "high", "total", "low", "lies"] rfl (by decide +kernel) (by kernel_rfl!) (by kernel_rfl!) (fun _ => by kernel_rfl!) (fun _ => by kernel_rfl!) (by decide +kernel) ?_
  clear S
  intro s L S
  have S : St B O ((L, FrO (lawFr (some (.ref SL)) none none none none none none none none none none none none none none none none none none none none none)) :: (L + 1, CellO none) :: rs) G s := S
  have okd := ok.down (env := envC w 243 L [("numbers", L + 1)])
  generalize A.deeper (envC w 243 L [("numbers", L + 1)]) = AA at okd ⊢
  have ok60 : Ok AA 60 := okd.le (by walk_at "sz")
  clear ok okd
  -- numbers
  have hsl2 : Lst B ((L, FrO (lawFr (some (.ref SL)) none none none none none none none none none none none none none none none none none none none none none)) :: (L + 1, CellO none) :: rs) SL vs := hsl.cons.cons
  refine n_execs ?_
  walk_at "go"
  refine n_cutList (by assumption) hsl2 .none (.int _ _) (by walk_at "sz") (fun NU s S => ?_) (fun _ _ => rfl) (fun _ _ => rfl)
  rw [show ((60 : Int)) = ((60 : Nat) : Int) from rfl, cut_to] at S
  have hnn := Mine.IntsAre.take' hns 60
  have hnnl : (vs.take 60).length ≤ 60 := List.length_take_le ..
  generalize vs.take 60 = nvs at S hnn hnnl
  refine n_storeCell S .head (by walk_at "mem") (fun s S => ?_) rfl (by kernel_rfl!)
  refine n_then (n_execs ?_)
  refine n_thenTo (law_sums (script := some (.ref SL)) (rs := rs) (n := 0) (lawSt_eq rfl) X ok60 hnn (by walk_at "sz") (((S.front (a := NU) (by walk_at "mem")).front (a := L + 1) (by walk_at "mem")).front (a := L) (by walk_at "mem"))) ?_
  clear S hsl2 hsl
  rintro s ⟨SU, svs, xs, hxs, hxl, S⟩
  have hsvl : svs.length = 4 := by rw [hxs.length]; exact hxl
  refine n_execTo (fun s => ∃ many tm, (many = 3 ∨ many = 4) ∧ St B O ((L, FrO (lawFr (some (.ref SL)) (some (.ref SU)) (some (.int (many : Nat) tm)) none none none none none none none none none none none none none none none none none none none)) :: (SU, ListO svs) :: (L + 1, CellO (some (.ref NU))) :: (NU, ListO nvs) :: rs) G s) ?_ ?_
  · intro K hK
    walk_at "go"
    refine .both (fun _ => ?_) (fun _ => ?_)
    · walk_at "go"
      rename_i S
      exact hK _ ⟨4, _, .inr rfl, S⟩
    · walk_at "go"
      rename_i S
      exact hK _ ⟨3, _, .inl rfl, S⟩
  clear S
  rintro s ⟨many, tm, hm, S⟩
  refine n_execTo (fun s => ∃ ty, St B O ((L, FrO (lawFr (some (.ref SL)) (some (.ref SU)) (some (.int (many : Nat) tm)) (some (.str (Str.ofString "") ty)) none none none none none none none none none none none none none none none none none none)) :: (SU, ListO svs) :: (L + 1, CellO (some (.ref NU))) :: (NU, ListO nvs) :: rs) G s) ?_ ?_
  · intro K hK
    walk_at "go"
    exact hK _ ⟨_, by assumption⟩
  clear S
  rintro s ⟨ty, S⟩
  refine n_execs (n_thenTo (law_text (lawSt_eq rfl) X ok60 hxs hxl (by walk_at "sz") S) ?_)
  clear S
  rintro s ⟨ty, xv, lv, S⟩
  have hxm : (xs.take many).length = many := by rw [List.length_take, hxl]; omega
  have Z := sized_of hxm hm
  have hways := ways_of hxm hm
  obtain ⟨x0, hx0⟩ : ∃ x0, xs[0]? = some x0 := ⟨_, List.getElem?_eq_getElem (by walk_at "sz")⟩
  obtain ⟨t0, hs0⟩ := Mine.IntsAre.at' hxs 0 x0 hx0
  generalize textU (xs.take many) = us at S Z hways
  have hpu := Z.good.plain
  have hpl := hpu.len
  have hpw := hpu.wlen
  -- the table
  refine n_execTo (fun s => ∃ B1 H hl, Fix.le B B1 ∧ HdAt B1 H hl ∧ St B1 O ((L, FrO (lawFr (some (.ref SL)) (some (.ref SU)) (some (.int (many : Nat) tm)) (some (.str (T us.flatten) ty)) xv lv (some (.ref H)) none none none none none none none none none none none none none none none)) :: (hl, ListO []) :: (SU, ListO svs) :: (L + 1, CellO (some (.ref NU))) :: (NU, ListO nvs) :: rs) G s) ?_ ?_
  · intro K hK
    walk_at "go"
    refine c_headers X S (ok60.le (by walk_at "sz")) fun s H hl B1 le1 Hd S => ?_
    walk_at "go"
    exact hK _ ⟨_, _, _, le1, Hd, St.front (a := L) (by assumption) (by walk_at "mem")⟩
  clear S
  rintro s ⟨B1, H, hl, le1, Hd1, S⟩
  have X1 := X.mono le1
  refine n_execTo (fun s => ∃ B2 tvs, Fix.le B1 B2 ∧ TabVs B2 tvs (tabP [us]) ∧ St B2 O ((L, FrO (lawFr (some (.ref SL)) (some (.ref SU)) (some (.int (many : Nat) tm)) (some (.str (T us.flatten) ty)) xv lv (some (.ref H)) none none none none none none none none none none none none none none none)) :: (hl, ListO tvs) :: (SU, ListO svs) :: (L + 1, CellO (some (.ref NU))) :: (NU, ListO nvs) :: rs) G s) ?_ ?_
  · intro K hK
    walk_at "go"
    refine c_letters X1 (by assumption) (ok60.d (by walk_at "sz")) ok60.1 hpu.lt (by walk_at "sz") fun s t3 S => ?_
    walk_at "go"
    refine c_addh (name := word us) (value := us.flatten) (vs := []) (ps := []) X1 Hd1 (St.front (a := hl) (by assumption) (by walk_at "mem")) (ok60.le (by walk_at "sz")) ⟨rfl, fun i v e => by simp at e⟩ hpu.wplain hpu.plain (by walk_at "sz") (by simp) fun s B2 tvs le2 htv S => ?_
    walk_at "go"
    exact hK _ ⟨_, _, le2, htv, St.front (a := L) (by assumption) (by walk_at "mem")⟩
  clear S
  rintro s ⟨B2, tvs, le2, htv, S⟩
  have X2 := X1.mono le2
  have Hd2 := Hd1.mono le2
  refine n_execTo (fun s => ∃ B3 LV lvs, Fix.le B2 B3 ∧ LvAt B3 lvs [txts [us]] ∧ St B3 O ((L, FrO (lawFr (some (.ref SL)) (some (.ref SU)) (some (.int (many : Nat) tm)) (some (.str (T us.flatten) ty)) xv lv (some (.ref H)) (some (.ref LV)) none none none none none none none none none none none none none none)) :: (hl, ListO tvs) :: (LV, ListO lvs) :: (SU, ListO svs) :: (L + 1, CellO (some (.ref NU))) :: (NU, ListO nvs) :: rs) G s) ?_ ?_
  · intro K hK
    walk_at "go"
    rename_i IA _ _ LV _ _ s S
    obtain ⟨oi, hoi, le3, ha3, S⟩ := (S.front (a := IA) (by walk_at "mem")).freeze
    refine hK _ ⟨_, LV, [.ref IA], le3, LvAt.snoc .nil ha3 hoi ?_, ((S.front (a := LV) (by walk_at "mem")).front (a := hl) (by walk_at "mem")).front (a := L) (by walk_at "mem")⟩
    exact ⟨⟨_, rfl⟩, trivial⟩
  clear S
  rintro s ⟨B3, LV, lvs, le3, hlv, S⟩
  have X3 := X2.mono le3
  have Hd3 := Hd2.mono le3
  refine n_execs (n_thenTo (law_levels (lawSt_eq rfl) X3 ok60 Z Hd3 hG S (htv.mono le3) hlv) ?_)
  clear S htv hlv
  rintro s ⟨B4, G', tvs, lvs, o1, o2, o3, o4, o5, o6, le4, hG', htv, hlv, S⟩
  have Lk := Z.levels (Nat.le_refl many)
  have X4 := X3.mono le4
  have Hd4 := Hd3.mono le4
  have hlen5 : (levelsF us many).2.length ≤ 10 := by rw [Lk.len]; omega
  have htl := Z.tabLen (Nat.le_refl many)
  refine n_execs (n_thenTo (law_keys (lawSt_eq rfl) X4 ok60 Hd4 htv hlv Lk.tab htl hlen5 Lk.good S) ?_)
  clear S
  intro s S
  refine n_execs (n_thenTo (law_names (lawSt_eq rfl) X4 ok60 hlv hlen5 Lk.good (fun lv hlv => ?_) S) ?_)
  · have h1 : lv.length ≤ (levelsF us many).2.flatten.length := by
      obtain ⟨p, q, e⟩ := List.append_of_mem hlv
      rw [e, List.flatten_append, List.flatten_cons, List.length_append, List.length_append]; omega
    rw [← Lk.tab] at h1
    omega
  clear S
  rintro s ⟨B5, NM, nms, le5, hnm, S⟩
  have X5 := X4.mono le5
  have hnm : LvAt B5 nms ((wlevels (low us) many).map (List.map T)) := by
    rw [← Lk.words, List.map_map]
    have e : (levelsF us many).2.map (List.map T ∘ List.map low) = (levelsF us many).2.map fun lv => lv.map fun v => T (low v) := List.map_congr_left fun lv _ => by simp [Function.comp_def]
    rw [e]; exact hnm
  have hnlen : (wlevels (low us) many).length = many + 1 := by rw [← Lk.words, List.length_map, Lk.len]
  refine n_execTo (fun s => ∃ B6 H2 hl2, Fix.le B5 B6 ∧ HdAt B6 H2 hl2 ∧ St B6 O ((L, FrO (lawFr (some (.ref SL)) (some (.ref SU)) (some (.int (many : Nat) tm)) (some (.str (T us.flatten) ty)) xv lv (some (.ref H)) (some (.ref LV)) o1 o2 o3 o4 o5 o6 (some (.ref NM)) (some (.ref H2)) none none none none none none)) :: (hl2, ListO []) :: (SU, ListO svs) :: (NM, ListO nms) :: rs) G' s) ?_ ?_
  · intro K hK
    walk_at "go"
    refine c_headers X5 S (ok60.le (by walk_at "sz")) fun s H2 hl2 B6 le6 Hd6 S => ?_
    walk_at "go"
    rename_i s S
    exact hK _ ⟨_, _, _, le6, Hd6, ((((S.front (a := NM) (by walk_at "mem")).front (a := SU) (by walk_at "mem")).front (a := hl2) (by walk_at "mem")).front (a := L) (by walk_at "mem")).sub (by walk_at "mem")⟩
  clear S
  rintro s ⟨B6, H2, hl2, le6, Hd6, S⟩
  have X6 := X5.mono le6
  refine n_execs (n_thenTo (law_ways (x0 := x0) (lawSt_eq rfl) X6 ok60 (by walk_at "sz") (hways _) hnlen Hd6 hs0 (hnm.mono le6) S) ?_)
  clear S
  rintro s ⟨B7, l, rs7, le7, S⟩
  walk_at "go"
  exact h _ _ _ hG' (S.shrink (le1.trans (le2.trans (le3.trans (le4.trans (le5.trans (le6.trans le7)))))))
end
end Mine
theorem PySem.Challenge.cw_rs0209_01_holds : PySem.Challenge.rw_rs0209_01.Holds := by
  refine Mine.hd ?_
  intro w s₀ s₁ mg mb G Y fa o pm cd doc dV kV ho hdata hcd hD hmg hg args vals as hpre hlay hrd hwl hlo
  have KX : (Mine.KF w.params).In s₁.heap := kIn_of Y
  have TT := G.T
  have hlaw : mg (Str.ofString "law") = some (.ref 243) := mg_of KX TT.g (by kernel_rfl!)
  have hfa : fa = 243 := by
    have e : mg (Str.ofString "law") = some (.ref fa) := hmg
    rw [hlaw] at e
    exact (Value.ref.inj (Option.some.inj e)).symm
  subst hfa
  clear G Y hD hcd hdata hmg hlaw ho
  wrow_args hpre hlay hrd hwl hlo
  rename_i ns _ _ _ _ _ _ _ SL vs _ hL _ hW _ hI _ hlen _
  have hW : Well w.params s₁.heap (.ref SL) (.list (ofPys (List.map PyData.int ns))) := hW
  cases hW with
  | list hobj hwa =>
  rename_i vs'
  have hvs : vs'.toArray = vs.toArray := by
    obtain ⟨o, e, _, n, hd⟩ := hL
    rw [hobj] at e
    cases e
    injection hd
  have hvs : vs' = vs := by simpa using hvs
  subst hvs
  have X : Mine.Base w (fun b => s₁.heap.get? b) := ⟨s₁.heap, ⟨KX, ⟨mg, TT.g⟩, ⟨mb, TT.b, TT.builtins⟩, TT.nolimit⟩, fun b o e => e⟩
  have S : Mine.St (fun b => s₁.heap.get? b) s₁.os [] #[] s₁ := ⟨⟨fun b o e => e, fun r hr => (nomatch hr), List.nodup_nil, fun r hr => (nomatch hr)⟩, hg, rfl⟩
  have hlen63 : vs'.length ≤ 63 := by
    rw [hI.length]; omega
  refine Mine.anyE (Mine.c_law X S (fun x hx => by simp at hx) ⟨rfl, by decide +kernel, by decide +kernel⟩ (.inr ⟨_, hobj, 0, rfl⟩) hI hlen63 fun s' G' rs' hG' S' => ?_)
  refine ⟨.inl ⟨.bool true, .bool true, [], rfl, fun _ => rfl, .bool true, ?_, fun _ => ⟨.nil, fun _ hm => (nomatch hm)⟩⟩, .of_keep fun b o e => S'.own.base b o e, S'.os, ?_⟩
  · wrow_post
  · rw [S'.gens]; exact hG'
