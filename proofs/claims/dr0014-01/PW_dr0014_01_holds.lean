import PyProof.Rows.All
import Wide.All
import OpenK.AllK
import Wide.FinOn
import PySem.Challenge.RW_dr0014_01
open PySem PySem.W PyProof.Rows
set_option Elab.async false
set_option linter.all false
set_option maxRecDepth 100000
namespace Mine

abbrev PR : Program := PySem.Challenge.pw_dr0014_01

/-- the constants of one call: the world, the heap at its start, the outside -/
structure Cx where
  w : World
  h : Heap
  os : OsState

abbrev Cx.M (c : Cx) : Model := model PR c.w

abbrev Hp := Addr → Option Obj
def upd (σ : Hp) (a : Addr) (o : Obj) : Hp := fun b => if b = a then some o else σ b
theorem upd_same (σ : Hp) (a : Addr) (o : Obj) : upd σ a o a = some o := if_pos rfl
theorem upd_ne {σ : Hp} {a b : Addr} {o : Obj} (h : b ≠ a) : upd σ a o b = σ b := if_neg h
theorem upd_ext {σ : Hp} {a : Addr} {o : Obj} (h : σ a = none) : ∀ b x, σ b = some x → upd σ a o b = some x := fun b x e => by
  rw [upd_ne]; exact e
  intro q; subst q; rw [h] at e; cases e

/-- room on the stack -/
structure Rm (A : Around) (n : Nat) : Prop where
  hd : A.handled = none
  dp : A.depth + n < 900
  un : A.units + 4 * n < 9000
theorem Rm.in1 {A : Around} {n : Nat} (r : Rm A (n + 1)) : Rm A.in1 n := ⟨r.hd, by have := r.dp; show A.depth + n < 900; omega, by have := r.un; show A.units + 1 + 4 * n < 9000; omega⟩
theorem Rm.deeper {A : Around} {n : Nat} {env : Env} (r : Rm A (n + 1)) : Rm (A.deeper env) n := ⟨r.hd, by have := r.dp; show A.depth + 1 + n < 900; omega, by have := r.un; show A.units + 3 + 4 * n < 9000; omega⟩
theorem Rm.le {A : Around} {n k : Nat} (r : Rm A n) (h : k ≤ n) : Rm A k := ⟨r.hd, by have := r.dp; omega, by have := r.un; omega⟩
theorem Rm.room {A : Around} {n : Nat} (r : Rm A n) : A.depth < recursionLimit := by have := r.dp; show A.depth < 1000; omega
theorem Rm.units {A : Around} {n : Nat} (r : Rm A n) : A.units < cLine := by have := r.un; show A.units < 9900; omega

/-- the two tables of code that the generator expressions fill -/
def tabs : List Addr := [162, 169]

/-- the state: what stood before the call, the frames of the callers (φ), the call's own objects (σ) -/
structure Ok (c : Cx) (φ σ : Hp) (s : Shared) : Prop where
  old : ∀ b o, c.h.get? b = some o → b ∉ tabs → s.heap.get? b = some o
  fr : ∀ b o, φ b = some o → s.heap.get? b = some o
  own : ∀ b o, σ b = some o → s.heap.get? b = some o
  dj : ∀ b o, σ b = some o → φ b = none
  newσ : ∀ b o, σ b = some o → Nat.le 224 b
  newφ : ∀ b o, φ b = some o → Nat.le 224 b
  tab : ∀ P ∈ tabs, ∃ ps, s.heap.get? P = some ({ cls := .none, data := .fields ps } : Obj) ∧ TriplesOk ps.toList
  gens : AllBare s.gens
  os : s.os = c.os

theorem Ok.toks {c : Cx} {φ σ : Hp} {h : Heap} {g d t os} (t' : Nat) (K : Ok c φ σ ⟨h, g, d, t, os⟩) : Ok c φ σ ⟨h, g, d, t', os⟩ :=
  ⟨K.old, K.fr, K.own, K.dj, K.newσ, K.newφ, K.tab, K.gens, K.os⟩

theorem Ok.sub {c : Cx} {φ σ σ' : Hp} {s : Shared} (K : Ok c φ σ s) (e : ∀ b o, σ' b = some o → σ b = some o) : Ok c φ σ' s :=
  ⟨K.old, K.fr, fun b o h => K.own b o (e b o h), fun b o h => K.dj b o (e b o h), fun b o h => K.newσ b o (e b o h), K.newφ, K.tab, K.gens, K.os⟩

/-- a new object -/
theorem Ok.alloc {c : Cx} {φ σ : Hp} {s : Shared} (K : Ok c φ σ s) {o : Obj} (hf : o.isFreed = false) (h225 : 224 ≤ s.heap.objs.size) :
    σ s.heap.objs.size = none ∧ Ok c φ (upd σ s.heap.objs.size o) { s with heap := s.heap.push o } := by
  have nσ : σ s.heap.objs.size = none := by
    cases q : σ s.heap.objs.size with
    | none => rfl
    | some x => exact absurd (Heap.lt_size (K.own _ _ q)) (Nat.lt_irrefl _)
  have nφ : φ s.heap.objs.size = none := by
    cases q : φ s.heap.objs.size with
    | none => rfl
    | some x => exact absurd (Heap.lt_size (K.fr _ _ q)) (Nat.lt_irrefl _)
  refine ⟨nσ, fun b x h n => Heap.get?_push_of_some _ (K.old b x h n), fun b x h => Heap.get?_push_of_some _ (K.fr b x h), fun b x h => ?_, fun b x h => ?_, fun b x h => ?_, K.newφ, fun P hP => ?_, K.gens, K.os⟩
  · unfold upd at h
    split at h
    · rename_i q; cases h; rw [q]; exact Heap.get?_push_size _ hf
    · exact Heap.get?_push_of_some _ (K.own b x h)
  · unfold upd at h
    split at h
    · rename_i q; rw [q]; exact nφ
    · exact K.dj b x h
  · unfold upd at h
    split at h
    · rename_i q; rw [q]; exact h225
    · exact K.newσ b x h
  · obtain ⟨ps, h1, h2⟩ := K.tab P hP
    exact ⟨ps, Heap.get?_push_of_some _ h1, h2⟩

/-- an own object turned -/
theorem Ok.update {c : Cx} {φ σ : Hp} {s : Shared} (K : Ok c φ σ s) {a : Addr} {o : Obj} {f : Obj → Obj} (ha : σ a = some o) (hf : (f o).isFreed = false) (hlt : c.h.objs.size ≤ 224) :
    Ok c φ (upd σ a (f o)) { s with heap := s.heap.update a f } := by
  have g := K.own _ _ ha
  have ne : ∀ b, b ≠ a → (s.heap.update a f).get? b = s.heap.get? b := fun b hb => Heap.get?_update_other _ f (Ne.symm hb)
  have n225 := K.newσ _ _ ha
  refine ⟨fun b x h n => ?_, fun b x h => ?_, fun b x h => ?_, fun b x h => ?_, fun b x h => ?_, K.newφ, fun P hP => ?_, K.gens, K.os⟩
  · have := Nat.lt_of_lt_of_le (Heap.lt_size h) (Nat.le_trans hlt n225)
    exact (ne b (Nat.ne_of_lt this)).trans (K.old b x h n)
  · exact (ne b (fun q => by subst q; have := K.dj _ _ ha; rw [this] at h; cases h)).trans (K.fr b x h)
  · unfold upd at h
    split at h
    · rename_i q; cases h; subst q; exact Heap.get?_update_self f g hf
    · rename_i q; exact (ne b q).trans (K.own b x h)
  · unfold upd at h
    split at h
    · rename_i q; rw [q]; exact K.dj _ _ ha
    · exact K.dj b x h
  · unfold upd at h
    split at h
    · rename_i q; rw [q]; exact n225
    · exact K.newσ b x h
  · obtain ⟨ps, h1, h2⟩ := K.tab P hP
    refine ⟨ps, (ne P ?_).trans h1, h2⟩
    intro q; subst q
    exact absurd n225 (by revert hP; unfold tabs; intro hP; simp only [List.mem_cons, List.not_mem_nil, or_false] at hP; rcases hP with rfl | rfl <;> exact fun (z : (224 : Nat) ≤ _) => absurd z (by decide))

/-- a triple without raising: whatever the frames, from the objects σ the tree ends with a value and objects that P tells -/
def Spec {α : Type} (c : Cx) (A : Around) (σ : Hp) (t : Sem α) (P : α → Hp → Prop) : Prop :=
  ∀ (φ : Hp) (s : Shared) (Q : α → Shared → Prop) (E : Value → Shared → Prop), Ok c φ σ s → (∀ v σ' s', P v σ' → Ok c φ σ' s' → Q v s') → wpAny c.M A t Q E s

theorem Spec.pure {α : Type} {c : Cx} {A : Around} {σ : Hp} {a : α} {P : α → Hp → Prop} (h : P a σ) : Spec c A σ (pure a) P :=
  fun _ _ _ _ K k => wpAny_pure (k _ _ _ h K)
theorem Spec.bind {α β : Type} {c : Cx} {A : Around} {σ : Hp} {t : Sem α} {f : α → Sem β} {P : α → Hp → Prop} {R : β → Hp → Prop} (h : Spec c A σ t P) (k : ∀ v σ', P v σ' → Spec c A σ' (f v) R) : Spec c A σ (t >>= f) R :=
  fun φ s Q E K q => wpAny_bind (h φ s _ E K fun v σ' s' p K' => k v σ' p φ s' Q E K' q)
theorem Spec.mono {α : Type} {c : Cx} {A : Around} {σ : Hp} {t : Sem α} {P R : α → Hp → Prop} (h : Spec c A σ t P) (k : ∀ v σ', P v σ' → R v σ') : Spec c A σ t R :=
  fun φ s Q E K q => h φ s Q E K fun v σ' s' p => q v σ' s' (k v σ' p)
theorem Spec.hold {α : Type} {c : Cx} {A : Around} {σ : Hp} {vs : List Value} {t : Sem α} {P : α → Hp → Prop} (h : Spec c A σ t P) : Spec c A σ (holding vs t) P :=
  fun φ s Q E K q => wpAny_holding (h φ s Q E K q)
theorem Spec.in1 {α : Type} {c : Cx} {A : Around} {σ : Hp} {t : Sem α} {P : α → Hp → Prop} (h : Spec c A.in1 σ t P) : Spec c A σ t P :=
  fun φ s Q E K q => wpAny_of_in1 (h φ s Q E K q)

/-- the local names of a frame -/
def vmap : List Str → List (Option Value) → Str → Option Value
  | n :: ns, v :: vs, x => if x = n then v else vmap ns vs x
  | _, _, _ => none
theorem vmap_get : ∀ {ns : List Str} {vs : List (Option Value)} {i : Nat} {x : Str} {v : Value}, ns.Nodup → ns[i]? = some x → vs[i]? = some (some v) → vmap ns vs x = some v
  | [], _, _, _, _, _, h, _ => by simp at h
  | _ :: _, [], _, _, _, _, _, h => by simp at h
  | n :: ns, u :: vs, 0, x, v, _, h1, h2 => by
    simp only [List.getElem?_cons_zero, Option.some.injEq] at h1 h2
    subst h1 h2
    simp [vmap]
  | n :: ns, u :: vs, i + 1, x, v, nd, h1, h2 => by
    simp only [List.getElem?_cons_succ] at h1 h2
    obtain ⟨nd1, nd2⟩ := List.nodup_cons.mp nd
    have hx : x ≠ n := fun e => nd1 (e ▸ List.mem_of_getElem? h1)
    simp only [vmap, if_neg hx]
    exact vmap_get nd2 h1 h2
theorem vmap_not : ∀ {ns : List Str} {vs : List (Option Value)} {x : Str}, x ∉ ns → vmap ns vs x = none
  | [], _, _, _ => by simp [vmap]
  | _ :: _, [], _, _ => by simp [vmap]
  | n :: ns, u :: vs, x, h => by
    have hx : x ≠ n := fun e => h (e ▸ .head _)
    simp only [vmap, if_neg hx]
    exact vmap_not fun q => h (.tail _ q)
theorem vmap_set : ∀ {ns : List Str} {vs : List (Option Value)} {i : Nat} {x : Str} {v : Value}, ns.Nodup → ns[i]? = some x → i < vs.length → ∀ y, (if y = x then some v else vmap ns vs y) = vmap ns (vs.set i (some v)) y
  | [], _, _, _, _, _, h, _ => by simp at h
  | _ :: _, [], _, _, _, _, _, h => by simp at h
  | n :: ns, u :: vs, 0, x, v, _, h1, _ => by
    intro y
    simp only [List.getElem?_cons_zero, Option.some.injEq] at h1
    subst h1
    by_cases h : y = n <;> simp [vmap, h]
  | n :: ns, u :: vs, i + 1, x, v, nd, h1, h2 => by
    intro y
    simp only [List.getElem?_cons_succ] at h1
    simp only [List.length_cons, Nat.add_lt_add_iff_right] at h2
    obtain ⟨nd1, nd2⟩ := List.nodup_cons.mp nd
    have hx : x ≠ n := fun e => nd1 (e ▸ List.mem_of_getElem? h1)
    have ih := vmap_set (v := v) nd2 h1 h2 y
    simp only [vmap, List.set_cons_succ]
    by_cases h : y = n
    · subst h; rw [if_neg (Ne.symm hx), if_pos rfl, if_pos rfl]
    · rw [if_neg h, if_neg h]; exact ih

/-- a frame: its env and its names -/
structure Fn (env : Env) (L : Addr) (names : List Str) : Prop where
  kind : env.scope.kind = .function
  loc : env.locals = L
  nd : names.Nodup
  lk : ∀ x ∈ names, env.kindOf x = some .local
  gl : env.globals = mainGlobals
  bi : env.builtins = builtinsNs
  db : ("__debug__" : Str) ∉ names

structure Fm (c : Cx) (φ σ : Hp) (L : Addr) (names : List Str) (vals : List (Option Value)) (s : Shared) : Prop where
  ok : Ok c φ σ s
  ns : s.heap.Ns L (vmap names vals)
  outσ : σ L = none
  outφ : φ L = none
  hi : Nat.le 224 L

theorem Ns.at {h h' : Heap} {a : Addr} {m : Str → Option Value} (n : h.Ns a m) (k : ∀ o, h.get? a = some o → h'.get? a = some o) : h'.Ns a m :=
  let ⟨o, es, ep, e, r⟩ := n; ⟨o, es, ep, k _ e, r⟩

theorem Fm.toks {c : Cx} {φ σ : Hp} {L : Addr} {names vals} {h : Heap} {g d t os} (t' : Nat) (F : Fm c φ σ L names vals ⟨h, g, d, t, os⟩) : Fm c φ σ L names vals ⟨h, g, d, t', os⟩ :=
  ⟨F.ok.toks t', F.ns, F.outσ, F.outφ, F.hi⟩

/-- any triple within a frame -/
theorem Spec.run {α : Type} {c : Cx} {A : Around} {φ σ : Hp} {t : Sem α} {P : α → Hp → Prop} {L : Addr} {names : List Str} {vals : List (Option Value)} {s : Shared} {Q : α → Shared → Prop} {E : Value → Shared → Prop}
    (h : Spec c A σ t P) (F : Fm c φ σ L names vals s) (k : ∀ v σ' s', P v σ' → Fm c φ σ' L names vals s' → Q v s') : wpAny c.M A t Q E s := by
  obtain ⟨K, N, o1, o2, o3⟩ := F
  obtain ⟨o, es, ep, ho, hd, hk, hm⟩ := N
  have K' : Ok c (upd φ L o) σ s := by
    refine ⟨K.old, fun b x e => ?_, K.own, fun b x e => ?_, K.newσ, fun b x e => ?_, K.tab, K.gens, K.os⟩
    · unfold upd at e
      split at e
      · rename_i q; cases e; rw [q]; exact ho
      · exact K.fr b x e
    · rw [upd_ne]; exact K.dj b x e
      intro q; rw [q, o1] at e; cases e
    · unfold upd at e
      split at e
      · rename_i q; rw [q]; exact o3
      · exact K.newφ b x e
  refine h (upd φ L o) s Q E K' fun v σ' s' p K₁ => k v σ' s' p ?_
  refine ⟨⟨K₁.old, fun b x e => K₁.fr b x ?_, K₁.own, fun b x e => ?_, K₁.newσ, fun b x e => K₁.newφ b x ?_, K₁.tab, K₁.gens, K₁.os⟩, ⟨o, es, ep, K₁.fr _ _ (upd_same ..), hd, hk, hm⟩, ?_, o2, o3⟩
  · rw [upd_ne]; exact e
    intro q; rw [q, o2] at e; cases e
  · have := K₁.dj b x e
    unfold upd at this
    split at this
    · cases this
    · exact this
  · rw [upd_ne]; exact e
    intro q; rw [q, o2] at e; cases e
  · cases q : σ' L with
    | none => rfl
    | some x => have := K₁.dj _ _ q; rw [upd_same] at this; cases this

/-- a name's load and store -/
theorem r_ld {c : Cx} {A : Around} {φ σ : Hp} {L : Addr} {names : List Str} {vals : List (Option Value)} {s : Shared} {env : Env} {x : Str} {pos : Pos} {v : Value} {Q : Value → Shared → Prop} {E : Value → Shared → Prop}
    (N : Fn env L names) (F : Fm c φ σ L names vals s) (i : Nat) (hx : names[i]? = some x) (hv : vals[i]? = some (some v)) (h : Q v s) : wpAny c.M A (eval (.Name x pos) env) Q E s := by
  have hm := List.mem_of_getElem? hx
  refine wpAny_Name (wpAny_loadName_local N.kind (N.lk x hm) (N.loc ▸ F.ns) (vmap_get N.nd hx hv) h) ?_
  cases q : x == ("__debug__" : Str) with
  | false => rfl
  | true => exact absurd (beq_iff_eq.mp q ▸ hm) N.db
theorem r_st0 {c : Cx} {A : Around} {φ σ : Hp} {L : Addr} {names : List Str} {vals : List (Option Value)} {s : Shared} {env : Env} {x : Str} {v : Value} {Q : Unit → Shared → Prop} {E : Value → Shared → Prop}
    (N : Fn env L names) (F : Fm c φ σ L names vals s) (i : Nat) (hx : names[i]? = some x) (hv : vals[i]?.isSome = true) (hlt : c.h.objs.size ≤ 224) (h : ∀ s', Fm c φ σ L names (vals.set i (some v)) s' → Q () s') : wpAny c.M A (storeName env x v) Q E s := by
  have hm := List.mem_of_getElem? hx
  refine wpAny_storeName_local (N.lk x hm) (N.loc ▸ F.ns) (fun h' hn hs => h _ ?_) (by rw [N.kind]; rfl)
  rw [N.loc] at hn hs
  obtain ⟨K, _, o1, o2, o3⟩ := F
  have hv : i < vals.length := by
    rcases Nat.lt_or_ge i vals.length with h | h
    · exact h
    · rw [List.getElem?_eq_none h] at hv; cases hv
  have e := vmap_set (v := v) N.nd hx hv
  have n225 : ∀ b o, c.h.get? b = some o → b ≠ L := fun b o e => Nat.ne_of_lt (Nat.lt_of_lt_of_le (Heap.lt_size e) (Nat.le_trans hlt o3))
  refine ⟨⟨fun b o a n => (hs.2 b (n225 b o a)).trans (K.old b o a n), fun b o a => (hs.2 b ?_).trans (K.fr b o a), fun b o a => (hs.2 b ?_).trans (K.own b o a), K.dj, K.newσ, K.newφ, fun P hP => ?_, K.gens, K.os⟩, ?_, o1, o2, o3⟩
  · intro q; rw [q, o2] at a; cases a
  · intro q; rw [q, o1] at a; cases a
  · obtain ⟨ps, h1, h2⟩ := K.tab P hP
    refine ⟨ps, (hs.2 P ?_).trans h1, h2⟩
    intro q; subst q
    exact absurd o3 (by revert hP; unfold tabs; intro hP; simp only [List.mem_cons, List.not_mem_nil, or_false] at hP; rcases hP with rfl | rfl <;> exact fun (z : (224 : Nat) ≤ _) => absurd z (by decide))
  · obtain ⟨o, es, ep, a1, a2, a3, a4⟩ := hn
    exact ⟨o, es, ep, a1, a2, a3, fun y => (a4 y).trans (e y)⟩

theorem r_st {c : Cx} {A : Around} {φ σ : Hp} {L : Addr} {names : List Str} {vals vals' : List (Option Value)} {s : Shared} {env : Env} {x : Str} {v : Value} {Q : Unit → Shared → Prop} {E : Value → Shared → Prop}
    (N : Fn env L names) (F : Fm c φ σ L names vals s) (i : Nat) (hx : names[i]? = some x) (hv : vals[i]?.isSome = true) (hlt : c.h.objs.size ≤ 224) (h : ∀ s', Fm c φ σ L names vals' s' → Q () s')
    (e : vals.set i (some v) = vals' := by first | dsimp only [List.set_cons_succ, List.set_cons_zero] | rfl) : wpAny c.M A (storeName env x v) Q E s := by
  subst e
  exact r_st0 N F i hx hv hlt h


/-- the text's statements, by their place -/
def topS (i : Nat) : Stmt := (PR.main.body[i]?).getD (.Pass default)
def bodyS : Stmt → List Stmt
  | .FunctionDef _ _ b _ _ _ _ _ _ _ => b
  | .ClassDef _ _ _ b _ _ _ _ _ _ _ => b
  | _ => []
def scopeS : Stmt → Scope
  | .FunctionDef _ _ _ _ _ _ sc _ _ _ => sc
  | _ => default
def paramsS : Stmt → Arguments
  | .FunctionDef _ a _ _ _ _ _ _ _ _ => a
  | _ => default
def nameS : Stmt → Str
  | .FunctionDef n _ _ _ _ _ _ _ _ _ => n
  | _ => default
def methS (i j : Nat) : Stmt := ((bodyS (topS i))[j]?).getD (.Pass default)
def fdOf (st : Stmt) (q : Str) (cl : List (Str × Addr)) (dV pm cd ct : Value) : FuncData :=
  { name := nameS st, qualname := q, params := paramsS st, body := .stmts (bodyS st), scope := scopeS st, globals := 3, closure := cl, defaults := dV, kwdefaults := .none, pyModule := pm, code := cd, closureTuple := ct, builtins := 0 }
def hashS (P : Params) (x : Str) : Int := if x.cps.isEmpty then 0 else reduceHash (P.strHash x.cps)
def ent (P : Params) (k : Str) (t : Tok) (v : Value) : DictEntry := ⟨hashS P k, .str k t, v⟩

def KM (P : Params) : Frag := [
  (2, { cls := .none, data := .dict #[ent P (⟨#[105, 109, 112, 111, 114, 116, 46, 108, 111, 97, 100, 101, 100, 46, 95, 115, 114, 101]⟩ : Str) 183 (.bool true), ent P (Str.ofString "class._frozen_importlib.BuiltinImporter") 185 (.ref 14), ent P (⟨#[119, 97, 116, 99, 104, 101, 100, 46, 105, 109, 112, 111, 114, 116]⟩ : Str) 206 (.ref 18), ent P (Str.ofString "class._frozen_importlib.ModuleSpec") 216 (.ref 22), ent P (Str.ofString "sys.modules.booked-epoch") 245 (.int 3 0), ent P (⟨#[105, 109, 112, 111, 114, 116, 46, 108, 97, 116, 101, 114, 45, 108, 97, 105, 100, 46, 95, 115, 114, 101]⟩ : Str) 270 (.bool true), ent P (Str.ofString "watched.library") 272 (.ref 27), ent P (Str.ofString "watched.library-objects") 0 (.str (⟨#[12]⟩ : Str) 0), ent P (Str.ofString "watched.library-deep._sre") 273 (.str (⟨#[4, 0, 0, 11, 4, 0, 0, 11, 4, 0, 0, 3, 4, 0, 0, 11, 8, 4, 100, 105, 99, 116, 2]⟩ : Str) 0)] 9 }),
  (3, { cls := .type "dict", data := .dict #[ent P (Str.ofString "__name__") 165 (.str (Str.ofString "law_dr0014_01") 533), ent P (Str.ofString "__doc__") 166 (.none), ent P (Str.ofString "__package__") 167 (.none), ent P (Str.ofString "__loader__") 168 (.builtin "__main__.__loader__#opaque"), ent P (Str.ofString "__spec__") 169 (.none), ent P (Str.ofString "__annotations__") 170 (.ref 6), ent P (Str.ofString "__builtins__") 171 (.ref 4), ent P (Str.ofString "__file__") 173 (.str (Str.ofString "/claim/cut.py") 172), ent P (Str.ofString "__cached__") 174 (.none), ent P (Str.ofString "_sre") 275 (.ref 12), ent P (Str.ofString "_wall") 288 (.ref 38), ent P (Str.ofString "_twin_re_1") 318 (.ref 43), ent P (Str.ofString "NL") 320 (.str (Str.ofString "\n") 319), ent P (Str.ofString "EMPTYSTRING") 322 (.str (Str.ofString "") 321), ent P (Str.ofString "_ValueFormatter") 436 (.ref 116), ent P (Str.ofString "_Accumulator") 532 (.ref 200), ent P (Str.ofString "_law_text") 540 (.ref 209), ent P (Str.ofString "_law_blocks") 552 (.ref 216), ent P (Str.ofString "law") 581 (.ref 223)] 19 }),
  (4, { cls := .type "module", dict := some 0, data := .plain }),
  (42, { cls := .type "tuple", data := .seq #[.int 14 0, .int 4 0, .int 0 0, .int 1 0, .int 4294967295 0, .int 17 0, .int 0 0, .int 24 0, .int 11 0, .int 1 0, .int 4294967295 0, .int 13 0, .int 6 0, .int 16 0, .int 32 0, .int 16 0, .int 9 0, .int 0 0, .int 1 0, .int 17 0, .int 1 0, .int 1 0] 0 }),
  (43, { cls := .type "re.Pattern", data := .fields #[.str (Str.ofString "([ \t]+)") 292, .int 32 317, .int 1 0, .none, .none, .ref 42, .int 0 0] }),
  (56, { cls := .type "code", data := .fields #[.str (Str.ofString "__init__") 335, .str (Str.ofString "_ValueFormatter.__init__") 336, .str (Str.ofString "/claim/cut.py") 337, .int 11 0, .int 5 0, .int 0 0, .int 0 0, .int 3 0, .ref 51, .bool true, .int 276 0, .ref 52, .none, .ref 53, .ref 54, .ref 55, .int 343 0, .int 11 0, .str (Str.ofString "/claim/cut.py") 344] }),
  (57, { cls := .type "function", data := .func (fdOf (methS 6 0) (Str.ofString "_ValueFormatter.__init__") [] (.none) (.str (Str.ofString "cpy313.email.header") 289) (.ref 56) (.none)) }),
  (63, { cls := .type "code", data := .fields #[.str (Str.ofString "_str") 346, .str (Str.ofString "_ValueFormatter._str") 347, .str (Str.ofString "/claim/cut.py") 348, .int 19 0, .int 2 0, .int 0 0, .int 0 0, .int 3 0, .ref 58, .bool true, .int 276 0, .ref 59, .none, .ref 60, .ref 61, .ref 62, .int 351 0, .int 19 0, .str (Str.ofString "/claim/cut.py") 352] }),
  (64, { cls := .type "function", data := .func (fdOf (methS 6 1) (Str.ofString "_ValueFormatter._str") [] (.none) (.str (Str.ofString "cpy313.email.header") 289) (.ref 63) (.none)) }),
  (77, { cls := .type "code", data := .fields #[.str (Str.ofString "newline") 361, .str (Str.ofString "_ValueFormatter.newline") 362, .str (Str.ofString "/claim/cut.py") 363, .int 26 0, .int 1 0, .int 0 0, .int 0 0, .int 3 0, .ref 72, .bool true, .int 276 0, .ref 73, .none, .ref 74, .ref 75, .ref 76, .int 366 0, .int 26 0, .str (Str.ofString "/claim/cut.py") 367] }),
  (78, { cls := .type "function", data := .func (fdOf (methS 6 3) (Str.ofString "_ValueFormatter.newline") [] (.none) (.str (Str.ofString "cpy313.email.header") 289) (.ref 77) (.none)) }),
  (91, { cls := .type "code", data := .fields #[.str (Str.ofString "feed") 376, .str (Str.ofString "_ValueFormatter.feed") 377, .str (Str.ofString "/claim/cut.py") 378, .int 40 0, .int 4 0, .int 0 0, .int 0 0, .int 3 0, .ref 86, .bool true, .int 276 0, .ref 87, .none, .ref 88, .ref 89, .ref 90, .int 387 0, .int 40 0, .str (Str.ofString "/claim/cut.py") 388] }),
  (92, { cls := .type "function", data := .func (fdOf (methS 6 5) (Str.ofString "_ValueFormatter.feed") [] (.none) (.str (Str.ofString "cpy313.email.header") 289) (.ref 91) (.none)) }),
  (105, { cls := .type "code", data := .fields #[.str (Str.ofString "_ascii_split") 397, .str (Str.ofString "_ValueFormatter._ascii_split") 398, .str (Str.ofString "/claim/cut.py") 399, .int 65 0, .int 4 0, .int 0 0, .int 0 0, .int 3 0, .ref 100, .bool true, .int 276 0, .ref 101, .none, .ref 102, .ref 103, .ref 104, .int 406 0, .int 65 0, .str (Str.ofString "/claim/cut.py") 407] }),
  (106, { cls := .type "function", data := .func (fdOf (methS 6 7) (Str.ofString "_ValueFormatter._ascii_split") [] (.none) (.str (Str.ofString "cpy313.email.header") 289) (.ref 105) (.none)) }),
  (112, { cls := .type "code", data := .fields #[.str (Str.ofString "_append_chunk") 409, .str (Str.ofString "_ValueFormatter._append_chunk") 410, .str (Str.ofString "/claim/cut.py") 411, .int 74 0, .int 3 0, .int 0 0, .int 0 0, .int 3 0, .ref 107, .bool true, .int 276 0, .ref 108, .none, .ref 109, .ref 110, .ref 111, .int 420 0, .int 74 0, .str (Str.ofString "/claim/cut.py") 421] }),
  (113, { cls := .type "function", data := .func (fdOf (methS 6 8) (Str.ofString "_ValueFormatter._append_chunk") [] (.none) (.str (Str.ofString "cpy313.email.header") 289) (.ref 112) (.none)) }),
  (115, { cls := .type "dict", data := .dict #[ent P (Str.ofString "__module__") 330 (.str (Str.ofString "cpy313.email.header") 289), ent P (Str.ofString "__firstlineno__") 334 (.int 9 333), ent P (Str.ofString "__init__") 345 (.ref 57), ent P (Str.ofString "_str") 353 (.ref 64), ent P (Str.ofString "__str__") 360 (.ref 71), ent P (Str.ofString "newline") 368 (.ref 78), ent P (Str.ofString "add_transition") 375 (.ref 85), ent P (Str.ofString "feed") 389 (.ref 92), ent P (Str.ofString "_maxlengths") 396 (.ref 99), ent P (Str.ofString "_ascii_split") 408 (.ref 106), ent P (Str.ofString "_append_chunk") 422 (.ref 113), ent P (Str.ofString "__static_attributes__") 429 (.ref 114), ent P (Str.ofString "__dict__") 431 (.ref 117), ent P (Str.ofString "__weakref__") 433 (.ref 118), ent P (Str.ofString "__doc__") 434 (.none)] 4 }),
  (116, { cls := .type "type", data := .cls { name := Str.ofString "_ValueFormatter", bases := [.type "object"], mro := [.ref 116, .type "object"], ns := 115, qualname := Str.ofString "_ValueFormatter", hasDict := true, slotNames := [], subclasses := [], abstract := false, collection := none, hasDel := false }, slots := #[none, none, some (.str (Str.ofString "_ValueFormatter") 323), some (.str (Str.ofString "_ValueFormatter") 331), some (.builtin "object.__new__"), some (.bool true)] }),
  (117, { cls := .type "getset_descriptor", data := .fields #[.str (Str.ofString "__dict__") 430, .ref 116, .builtin "function.__dict__", .builtin "function.__dict__#set"] }),
  (118, { cls := .type "getset_descriptor", data := .fields #[.str (Str.ofString "__weakref__") 432, .ref 116, .builtin "ExceptionGroup.__weakref__", .none] }),
  (124, { cls := .type "cell", data := .cell (some (.ref 200)) }),
  (129, { cls := .type "tuple", data := .seq #[.int 0 449] 0 }),
  (136, { cls := .type "code", data := .fields #[.str (Str.ofString "__init__") 450, .str (Str.ofString "_Accumulator.__init__") 451, .str (Str.ofString "/claim/cut.py") 452, .int 102 0, .int 2 0, .int 0 0, .int 0 0, .int 3 0, .ref 131, .bool true, .int 276 0, .ref 132, .none, .ref 133, .ref 134, .ref 135, .int 456 0, .int 102 0, .str (Str.ofString "/claim/cut.py") 457] }),
  (137, { cls := .type "function", data := .func (fdOf (methS 7 0) (Str.ofString "_Accumulator.__init__") [(Str.ofString "__class__", 124)] (.ref 129) (.str (Str.ofString "cpy313.email.header") 289) (.ref 136) (.ref 130)) }),
  (143, { cls := .type "code", data := .fields #[.str (Str.ofString "push") 459, .str (Str.ofString "_Accumulator.push") 460, .str (Str.ofString "/claim/cut.py") 461, .int 106 0, .int 3 0, .int 0 0, .int 0 0, .int 3 0, .ref 138, .bool true, .int 276 0, .ref 139, .none, .ref 140, .ref 141, .ref 142, .int 465 0, .int 106 0, .str (Str.ofString "/claim/cut.py") 466] }),
  (144, { cls := .type "function", data := .func (fdOf (methS 7 1) (Str.ofString "_Accumulator.push") [] (.none) (.str (Str.ofString "cpy313.email.header") 289) (.ref 143) (.none)) }),
  (145, { cls := .type "tuple", data := .seq #[.int 0 468] 0 }),
  (151, { cls := .type "code", data := .fields #[.str (Str.ofString "pop_from") 469, .str (Str.ofString "_Accumulator.pop_from") 470, .str (Str.ofString "/claim/cut.py") 471, .int 109 0, .int 2 0, .int 0 0, .int 0 0, .int 3 0, .ref 146, .bool true, .int 276 0, .ref 147, .none, .ref 148, .ref 149, .ref 150, .int 475 0, .int 109 0, .str (Str.ofString "/claim/cut.py") 476] }),
  (152, { cls := .type "function", data := .func (fdOf (methS 7 2) (Str.ofString "_Accumulator.pop_from") [] (.ref 145) (.str (Str.ofString "cpy313.email.header") 289) (.ref 151) (.none)) }),
  (159, { cls := .type "code", data := .fields #[.str (Str.ofString "pop") 478, .str (Str.ofString "_Accumulator.pop") 479, .str (Str.ofString "/claim/cut.py") 480, .int 114 0, .int 1 0, .int 0 0, .int 0 0, .int 3 0, .ref 154, .bool true, .int 276 0, .ref 155, .none, .ref 156, .ref 157, .ref 158, .int 483 0, .int 114 0, .str (Str.ofString "/claim/cut.py") 484] }),
  (160, { cls := .type "function", data := .func (fdOf (methS 7 3) (Str.ofString "_Accumulator.pop") [(Str.ofString "__class__", 124)] (.none) (.str (Str.ofString "cpy313.email.header") 289) (.ref 159) (.ref 153)) }),
  (166, { cls := .type "code", data := .fields #[.str (Str.ofString "__len__") 486, .str (Str.ofString "_Accumulator.__len__") 487, .str (Str.ofString "/claim/cut.py") 488, .int 119 0, .int 1 0, .int 0 0, .int 0 0, .int 3 0, .ref 161, .bool true, .int 276 0, .ref 162, .none, .ref 163, .ref 164, .ref 165, .int 490 0, .int 119 0, .str (Str.ofString "/claim/cut.py") 491] }),
  (167, { cls := .type "function", data := .func (fdOf (methS 7 4) (Str.ofString "_Accumulator.__len__") [] (.none) (.str (Str.ofString "cpy313.email.header") 289) (.ref 166) (.none)) }),
  (173, { cls := .type "code", data := .fields #[.str (Str.ofString "__str__") 493, .str (Str.ofString "_Accumulator.__str__") 494, .str (Str.ofString "/claim/cut.py") 495, .int 122 0, .int 1 0, .int 0 0, .int 0 0, .int 3 0, .ref 168, .bool true, .int 276 0, .ref 169, .none, .ref 170, .ref 171, .ref 172, .int 497 0, .int 122 0, .str (Str.ofString "/claim/cut.py") 498] }),
  (174, { cls := .type "function", data := .func (fdOf (methS 7 5) (Str.ofString "_Accumulator.__str__") [] (.none) (.str (Str.ofString "cpy313.email.header") 289) (.ref 173) (.none)) }),
  (175, { cls := .type "tuple", data := .seq #[.none] 0 }),
  (181, { cls := .type "code", data := .fields #[.str (Str.ofString "reset") 500, .str (Str.ofString "_Accumulator.reset") 501, .str (Str.ofString "/claim/cut.py") 502, .int 125 0, .int 2 0, .int 0 0, .int 0 0, .int 3 0, .ref 176, .bool true, .int 276 0, .ref 177, .none, .ref 178, .ref 179, .ref 180, .int 505 0, .int 125 0, .str (Str.ofString "/claim/cut.py") 506] }),
  (182, { cls := .type "function", data := .func (fdOf (methS 7 6) (Str.ofString "_Accumulator.reset") [] (.ref 175) (.str (Str.ofString "cpy313.email.header") 289) (.ref 181) (.none)) }),
  (188, { cls := .type "code", data := .fields #[.str (Str.ofString "is_onlyws") 508, .str (Str.ofString "_Accumulator.is_onlyws") 509, .str (Str.ofString "/claim/cut.py") 510, .int 131 0, .int 1 0, .int 0 0, .int 0 0, .int 3 0, .ref 183, .bool true, .int 276 0, .ref 184, .none, .ref 185, .ref 186, .ref 187, .int 512 0, .int 131 0, .str (Str.ofString "/claim/cut.py") 513] }),
  (189, { cls := .type "function", data := .func (fdOf (methS 7 7) (Str.ofString "_Accumulator.is_onlyws") [] (.none) (.str (Str.ofString "cpy313.email.header") 289) (.ref 188) (.none)) }),
  (196, { cls := .type "code", data := .fields #[.str (Str.ofString "part_count") 515, .str (Str.ofString "_Accumulator.part_count") 516, .str (Str.ofString "/claim/cut.py") 517, .int 134 0, .int 1 0, .int 0 0, .int 0 0, .int 3 0, .ref 191, .bool true, .int 276 0, .ref 192, .none, .ref 193, .ref 194, .ref 195, .int 520 0, .int 134 0, .str (Str.ofString "/claim/cut.py") 521] }),
  (197, { cls := .type "function", data := .func (fdOf (methS 7 8) (Str.ofString "_Accumulator.part_count") [(Str.ofString "__class__", 124)] (.none) (.str (Str.ofString "cpy313.email.header") 289) (.ref 196) (.ref 190)) }),
  (199, { cls := .type "dict", data := .dict #[ent P (Str.ofString "__module__") 444 (.str (Str.ofString "cpy313.email.header") 289), ent P (Str.ofString "__firstlineno__") 448 (.int 100 447), ent P (Str.ofString "__init__") 458 (.ref 137), ent P (Str.ofString "push") 467 (.ref 144), ent P (Str.ofString "pop_from") 477 (.ref 152), ent P (Str.ofString "pop") 485 (.ref 160), ent P (Str.ofString "__len__") 492 (.ref 167), ent P (Str.ofString "__str__") 499 (.ref 174), ent P (Str.ofString "reset") 507 (.ref 182), ent P (Str.ofString "is_onlyws") 514 (.ref 189), ent P (Str.ofString "part_count") 522 (.ref 197), ent P (Str.ofString "__static_attributes__") 524 (.ref 198), ent P (Str.ofString "__dict__") 527 (.ref 201), ent P (Str.ofString "__weakref__") 529 (.ref 202), ent P (Str.ofString "__doc__") 530 (.none)] 5 }),
  (200, { cls := .type "type", data := .cls { name := Str.ofString "_Accumulator", bases := [.type "list"], mro := [.ref 200, .type "list", .type "object"], ns := 199, qualname := Str.ofString "_Accumulator", hasDict := true, slotNames := [], subclasses := [], abstract := false, collection := none, hasDel := false }, slots := #[some (.ref 121), none, some (.str (Str.ofString "_Accumulator") 437), some (.str (Str.ofString "_Accumulator") 445), some (.builtin "list.__new__"), some (.bool true)] }),
  (201, { cls := .type "getset_descriptor", data := .fields #[.str (Str.ofString "__dict__") 526, .ref 200, .builtin "function.__dict__", .builtin "function.__dict__#set"] }),
  (202, { cls := .type "getset_descriptor", data := .fields #[.str (Str.ofString "__weakref__") 528, .ref 200, .builtin "ExceptionGroup.__weakref__", .none] }),
  (208, { cls := .type "code", data := .fields #[.str (Str.ofString "_law_text") 535, .str (Str.ofString "_law_text") 536, .str (Str.ofString "/claim/cut.py") 537, .int 137 0, .int 1 0, .int 0 0, .int 0 0, .int 3 0, .ref 205, .bool true, .int 276 0, .ref 206, .none, .none, .none, .ref 207, .int 538 0, .int 137 0, .str (Str.ofString "/claim/cut.py") 539] }),
  (209, { cls := .type "function", data := .func (fdOf (topS 9) (Str.ofString "_law_text") [] (.none) (.str (Str.ofString "law_dr0014_01") 533) (.ref 208) (.none)) }),
  (215, { cls := .type "code", data := .fields #[.str (Str.ofString "_law_blocks") 541, .str (Str.ofString "_law_blocks") 542, .str (Str.ofString "/claim/cut.py") 543, .int 139 0, .int 2 0, .int 0 0, .int 0 0, .int 3 0, .ref 210, .bool true, .int 276 0, .ref 211, .none, .ref 212, .ref 213, .ref 214, .int 550 0, .int 139 0, .str (Str.ofString "/claim/cut.py") 551] }),
  (216, { cls := .type "function", data := .func (fdOf (topS 10) (Str.ofString "_law_blocks") [] (.none) (.str (Str.ofString "law_dr0014_01") 533) (.ref 215) (.none)) }),
  (222, { cls := .type "code", data := .fields #[.str (Str.ofString "law") 553, .str (Str.ofString "law") 554, .str (Str.ofString "/claim/cut.py") 555, .int 148 0, .int 1 0, .int 0 0, .int 0 0, .int 3 0, .ref 217, .bool true, .int 276 0, .ref 218, .none, .ref 219, .ref 220, .ref 221, .int 579 0, .int 148 0, .str (Str.ofString "/claim/cut.py") 580] }),
  (223, { cls := .type "function", data := .func (fdOf (topS 11) (Str.ofString "law") [] (.none) (.str (Str.ofString "law_dr0014_01") 533) (.ref 222) (.none)) })]


section
open PySem.F

/-- what the heap at the call's start is known to hold -/
structure Bs (c : Cx) : Prop where
  kx : (KM c.w.params).In c.h
  sz : c.h.objs.size ≤ 224
  last : ∃ o, c.h.get? 223 = some o
  bi : ∃ mb, c.h.Ns builtinsNs mb ∧ ∀ x : Str, x ≠ "__name__" → mb x = bootBuiltins x
  nl : c.h.NoLimit

theorem km162 (P : Params) : (KM P).lookup 162 = none := by kernel_rfl
theorem km169 (P : Params) : (KM P).lookup 169 = none := by kernel_rfl
theorem Ok.kx {c : Cx} {φ σ : Hp} {s : Shared} (B : Bs c) (K : Ok c φ σ s) : (KM c.w.params).In s.heap := fun a o e => by
  refine K.old a o (B.kx a o e) fun hP => ?_
  unfold tabs at hP
  simp only [List.mem_cons, List.not_mem_nil, or_false] at hP
  rcases hP with rfl | rfl
  · rw [km162] at e; cases e
  · rw [km169] at e; cases e
theorem notTab {a : Addr} (h : a ≠ 162) (h' : a ≠ 169) : a ∉ tabs := by simp [tabs, h, h']
theorem Ok.ge {c : Cx} {φ σ : Hp} {s : Shared} (B : Bs c) (K : Ok c φ σ s) : 224 ≤ s.heap.objs.size := by
  obtain ⟨o, h⟩ := B.last
  exact Heap.lt_size (K.old 223 o h (notTab (by decide) (by decide)))
theorem Ok.nl {c : Cx} {φ σ : Hp} {s : Shared} (B : Bs c) (K : Ok c φ σ s) : s.heap.NoLimit := by
  obtain ⟨mc, n, e⟩ := B.nl
  exact ⟨mc, Ns.at n fun o h => K.old _ o h (notTab (by decide) (by decide)), e⟩
theorem Ok.bi {c : Cx} {φ σ : Hp} {s : Shared} (B : Bs c) (K : Ok c φ σ s) : ∃ mb, s.heap.Ns builtinsNs mb ∧ ∀ x : Str, x ≠ "__name__" → mb x = bootBuiltins x := by
  obtain ⟨mb, n, e⟩ := B.bi
  exact ⟨mb, Ns.at n fun o h => K.old _ o h (notTab (by decide) (by decide)), e⟩

/-- a look -/
theorem Spec.look {α : Type} {c : Cx} {A : Around} {σ : Hp} {t : Sem α} {r : α} (h : ∀ φ s, Ok c φ σ s → Looks c.M s.heap t r) : Spec c A σ t (fun v σ' => r = v ∧ σ = σ') :=
  fun φ s _ _ K k => (h φ s K).here (k _ _ _ ⟨rfl, rfl⟩ K)
theorem Spec.lookK {α : Type} {c : Cx} (B : Bs c) {A : Around} {σ : Hp} {t : Sem α} {r : α} (h : ∀ h, (KM c.w.params).In h → Looks c.M h t r) : Spec c A σ t (fun v σ' => r = v ∧ σ = σ') :=
  Spec.look fun _ _ K => h _ (K.kx B)

/-- a new object of a built-in class -/
theorem Ok.new {c : Cx} (B : Bs c) {φ σ : Hp} {s : Shared} (K : Ok c φ σ s) {o : Obj} (hf : o.isFreed = false) : σ s.heap.objs.size = none ∧ Ok c φ (upd σ s.heap.objs.size o) { s with heap := s.heap.push o } := K.alloc hf (K.ge B)

theorem spec_alloc {c : Cx} (B : Bs c) {A : Around} {σ : Hp} {o : Obj} (hf : o.isFreed = false := by rfl) : Spec c A σ (alloc o) (fun a σ' => σ a = none ∧ σ' = upd σ a o) :=
  fun _ _ _ _ K k => wpAny_alloc (k _ _ _ ⟨(K.new B hf).1, rfl⟩ (K.new B hf).2)
theorem spec_newObj {c : Cx} (B : Bs c) {A : Around} {σ : Hp} {n : String} {xs : Array Value} (hz : xs.size ≤ sizeLine) : Spec c A σ (newObj (.type n) (.seq xs)) (fun v σ' => ∃ a, v = .ref a ∧ σ a = none ∧ σ' = upd σ a { cls := .type n, data := .seq xs }) :=
  fun _ _ _ _ K k => wpAny_newObj_type (k _ _ _ ⟨_, rfl, (K.new B (o := { cls := .type n, data := .seq xs }) rfl).1, rfl⟩ (K.new B (o := { cls := .type n, data := .seq xs }) rfl).2) hz
abbrev lObj (xs : List Value) (n : Nat := 0) : Obj := { cls := .type "list", data := .seq xs.toArray n }
abbrev tObj (xs : List Value) : Obj := { cls := .type "tuple", data := .seq xs.toArray }
theorem spec_newList {c : Cx} (B : Bs c) {A : Around} {σ : Hp} {xs : List Value} (hz : xs.length ≤ sizeLine) : Spec c A σ (newList xs) (fun v σ' => ∃ a, v = .ref a ∧ σ a = none ∧ σ' = upd σ a (lObj xs)) :=
  spec_newObj B (by simpa using hz)
theorem spec_newTuple {c : Cx} (B : Bs c) {A : Around} {σ : Hp} {xs : List Value} (hz : xs.length ≤ sizeLine) : Spec c A σ (newTuple xs) (fun v σ' => ∃ a, v = .ref a ∧ σ a = none ∧ σ' = upd σ a (tObj xs)) :=
  spec_newObj B (by simpa using hz)

/-- a dict of names -/
def DNs (σ : Hp) (d : Addr) (m : Str → Option Value) (k : Nat) : Prop :=
  ∃ es ep, σ d = some ({ cls := .type "dict", data := .dict es ep } : Obj) ∧ StrKeys es ∧ (∀ n, nsFind es n = m n) ∧ es.size ≤ k
/-- an instance of a class of the text's -/
structure Inst (σ : Hp) (x C d : Addr) (dat : Data) (m : Str → Option Value) (k : Nat) : Prop where
  at_ : σ x = some ({ cls := .ref C, dict := some d, data := dat } : Obj)
  ns : DNs σ d m k
  no : notCls { cls := .ref C, dict := some d, data := dat } = true

theorem Inst.of {c : Cx} {φ σ : Hp} {s : Shared} {x C d : Addr} {dat : Data} {m : Str → Option Value} {k : Nat} (I : Inst σ x C d dat m k) (K : Ok c φ σ s) :
    ∃ es ep, σ d = some ({ cls := .type "dict", data := .dict es ep } : Obj) ∧ StrKeys es ∧ (∀ n, nsFind es n = m n) ∧ es.size ≤ k ∧ InstAt s.heap x { cls := .ref C, dict := some d, data := dat } C (some { cls := .type "dict", data := .dict es ep }) := by
  obtain ⟨es, ep, h1, h2, h3, h4⟩ := I.ns
  exact ⟨es, ep, h1, h2, h3, h4, K.own _ _ I.at_, rfl, I.no, K.own _ _ h1⟩

theorem lookIn_ns {es : Array DictEntry} {ep : Nat} {name : Str} (hk : StrKeys es) : lookIn name ({ cls := .type "dict", data := .dict es ep } : Obj) = some (nsFind es name) := by
  unfold lookIn nsFind findBy
  dsimp only
  rw [← Array.find?_toList]
  cases q : es.toList.find? (·.key.isStr name) with
  | some e => simp
  | none =>
    have : es.toList.any (·.refKey) = false := by
      rw [Array.any_toList, Array.any_eq_false']; intro e he; obtain ⟨n, t, h⟩ := hk e he; simp [DictEntry.refKey, h]
    simp [this]

/-- a class of the text's: what an attribute's look needs -/
structure Cls (P : Params) (C : Addr) : Prop where
  cd : (clsIn (KM P) C).any (·.hasDict) = true
  ga : ∃ ga, findIn (KM P) (.ref C) "__getattribute__" = some (some (.builtin ga)) ∧ (ga = "object.__getattribute__" ∨ (ga = "list.__getattribute__" ∧ mroIn (KM P) C (.type "list") = some true))
  gn : findIn (KM P) (.ref C) "__getattr__" = some none
  sa : findIn (KM P) (.ref C) "__setattr__" = some (some (.builtin "object.__setattr__"))
theorem cls116 (P : Params) : Cls P 116 := ⟨by kernel_rfl, ⟨_, by kernel_rfl, .inl rfl⟩, by kernel_rfl, by kernel_rfl⟩
theorem cls200 (P : Params) : Cls P 200 := ⟨by kernel_rfl, ⟨_, by kernel_rfl, .inr ⟨rfl, by kernel_rfl⟩⟩, by kernel_rfl, by kernel_rfl⟩

theorem entry_lga : entryFor table "list.__getattribute__" = some Builtin.«object.__getattribute__» :=
  entryFor_alias (by rw [fastTable_eq_tree]; kernel_rfl) (by decide +kernel) (id' := "object.__getattribute__") (by decide +kernel) (by rw [fastTable_eq_tree]; kernel_rfl)
theorem lga_kind : builtinKind "list.__getattribute__" = some .slot := by decide +kernel
theorem lga_split : splitId "list.__getattribute__" = some ("list", "__getattribute__") := by decide +kernel
theorem canon_lga : (Manifest.canonical "list.__getattribute__" != "object.__getattribute__") = false := by decide +kernel

/-- an attribute that the instance's own dict holds -/
theorem spec_getattr {c : Cx} (B : Bs c) {A : Around} {σ : Hp} {x C d : Addr} {dat : Data} {m : Str → Option Value} {k : Nat} {name : Str} {v : Value} {ex : Bool} (I : Inst σ x C d dat m k) (T : Cls c.w.params C)
    (hn : findIn (KM c.w.params) (.ref C) name = some none) (hv : m name = some v) (hh : handedIn v = true) : Spec c A σ (getAttr (.ref x) name ex) (fun r σ' => v = r ∧ σ = σ') := by
  intro φ s Q E K q
  obtain ⟨es, ep, h1, h2, h3, h4, I'⟩ := I.of K
  obtain ⟨cd, hc, hd⟩ := any_some T.cd
  have X := K.kx B
  have hf : findObj (KM c.w.params) C (some { cls := .type "dict", data := .dict es ep }) name = some (.value v) := by
    unfold findObj
    rw [hc, Option.bind_some, hn, Option.bind_some, Option.bind_some, Option.bind_some]
    dsimp only
    unfold W.ownOf
    rw [if_pos hd]
    dsimp only
    rw [lookIn_ns h2, h3, hv, Option.bind_some]
  obtain ⟨ga, hg, rfl | ⟨rfl, hl⟩⟩ := T.ga
  · exact get_value X I' hg hf hh (q _ _ _ ⟨rfl, rfl⟩ (K.toks _))
  · unfold getAttr getAttrBy
    have K' := K.toks (s.toks + 1)
    obtain ⟨hp, g, dd, t, os⟩ := s
    have L0 := I'.type (M := c.M)
    have L1 := looks_findIn (M := c.M) X hg
    have L2 := looks_findIn (M := c.M) X T.gn
    have L3 := looks_find (M := c.M) X I' hf
    have L4 : Looks c.M hp (isInstance (.ref x) (.type "list")) true := L0.andThen (looks_mroIn X hl)
    refine wpAny_bind (wpAny_mkText (wpAny_holding (wpAny_bind (L0.at (wpAny_bind (L1.at ?_))))))
    show wpAny _ _ (getAttrByItsOwn _ _ _ _ _ _) _ _ _
    unfold getAttrByItsOwn hookBefore
    refine wpAny_bind (L2.at ?_)
    refine wpAny_bind (wpAny_attempt (wpAny_holding ?_))
    unfold callGetattribute
    rw [show (ex && onTheHeap (Value.builtin "list.__getattribute__")) = false by cases ex <;> rfl]
    simp only [Bool.false_eq_true, if_false]
    unfold boundAndCalled
    rw [slot_list_getattribute.bind]
    refine wpAny_bind (wpAny_pure ?_)
    refine wpAny_call ?_
    show codeAny c.M A (.call (.builtin "list.__getattribute__") ⟨[.ref x, .str name t], []⟩) _ _
    refine codeAny_call_builtin (id := "list.__getattribute__") (args := ⟨[.ref x, .str name t], []⟩) (b := Builtin.«object.__getattribute__») slot_list_getattribute.plain entry_lga ?_
    refine check_slot (i := "list.__getattribute__") (self := .ref x) (rest := [.str name t]) (kw := []) lga_kind lga_split L4 (args_list_getattribute_2 _ _) ?_
    show wpAny _ _ (Builtin.«object.__getattribute__» ⟨[.ref x, .str name t], []⟩) _ _ _
    refine wpAny_bind (wpAny_pure (wpAny_bind (wpAny_pure (wpAny_bind (L0.at (wpAny_bind (L3.at ?_)))))))
    refine wpAny_pure ?_
    dsimp only
    rw [handedOut_of hh]
    exact wpAny_pure (q _ _ _ ⟨rfl, rfl⟩ K')

theorem method_L {c : Cx} {A : Around} {E : Value → Shared → Prop} {s : Shared} {x C : Addr} {ox : Obj} {od : Option Obj} {name : Str} {pl : Sem Bool} {Q : Value × List Value → Shared → Prop} {f tf : Value} {ga : String} {K : Frag} (X : K.In s.heap) (I : InstAt s.heap x ox C od) (hga : findIn K (.ref C) "__getattribute__" = some (some (.builtin ga))) (hcan : (Manifest.canonical ga != "object.__getattribute__") = false) (hk : findIn K (.ref C) "__getattr__" = some none)
    (hf : findIn K (.ref C) name = some (some f)) (ht : Looks c.M s.heap (typeOf f) tf) (htf : (tf != .type "function" && tf != .type "method_descriptor" && tf != .type "wrapper_descriptor") = false) (hs : shadowIn od name = some false) (h : Q (f, [.ref x]) s) :
    wpAny c.M A (getMethod (.ref x) name pl) Q E s := by
  unfold getMethod specialOf
  refine wpAny_bind (wpAny_bind (I.type.here ((looks_findIn X hga).here ?_)))
  dsimp only
  rw [hcan, if_neg (by decide)]
  refine wpAny_bind (wpAny_bind (I.type.here ((looks_findIn X hk).here ?_)))
  refine wpAny_bind (wpAny_bind (I.type.here ((looks_findIn X hf).here (wpAny_bind (ht.here ?_)))))
  rw [htf, if_neg (by decide)]
  refine wpAny_bind (wpAny_loadPart I.at_ ?_)
  have hd := I.dict
  cases e : ox.dict with
  | none => exact wpAny_bind (wpAny_rule (wpAny_pure h))
  | some dx =>
    cases od with
    | none => rw [e] at hd; exact hd.elim
    | some o =>
      rw [e] at hd
      obtain ⟨r, a, b⟩ := Option.map_eq_some_iff.mp hs
      refine wpAny_bind (wpAny_bind (wpAny_loadPart hd ?_))
      rw [nsLook_of a]
      refine wpAny_pure ?_
      rw [b]
      exact wpAny_bind (wpAny_rule (wpAny_pure h))

/-- a method that the class holds as a function -/
theorem spec_method {c : Cx} (B : Bs c) {A : Around} {σ : Hp} {x C d : Addr} {dat : Data} {m : Str → Option Value} {k : Nat} {name : Str} {f : Addr} {pl : Sem Bool} (I : Inst σ x C d dat m k) (T : Cls c.w.params C)
    (hn : findIn (KM c.w.params) (.ref C) name = some (some (.ref f))) (ht : typeIn (KM c.w.params) (.ref f) = some (.type "function")) (hv : m name = none) : Spec c A σ (getMethod (.ref x) name pl) (fun r σ' => (.ref f, [.ref x]) = r ∧ σ = σ') := by
  intro φ s Q E K q
  obtain ⟨es, ep, h1, h2, h3, h4, I'⟩ := I.of K
  have X := K.kx B
  have hs : shadowIn (some { cls := .type "dict", data := .dict es ep }) name = some false := by
    unfold shadowIn
    dsimp only
    rw [lookIn_ns h2, h3, hv]
    rfl
  obtain ⟨ga, hg, rfl | ⟨rfl, hl⟩⟩ := T.ga
  · exact method_fn X I' hg T.gn hn ht hs (q _ _ _ ⟨rfl, rfl⟩ K)
  · exact method_L X I' hg canon_lga T.gn hn (looks_typeIn X ht) (by decide +kernel) hs (q _ _ _ ⟨rfl, rfl⟩ K)

end

section
open PySem.F

theorem size_of_mod {es : Array DictEntry} {i : Nat} {f : DictEntry → DictEntry} : (es.modify i f).size = es.size := by simp

/-- what a store makes of a dict of names -/
theorem put_ns {es : Array DictEntry} {ep : Nat} {name : Str} {h : Int} {t : Tok} {v : Value} {m : Str → Option Value} (hk : StrKeys es) (hm : ∀ n, nsFind es n = m n) :
    ∃ es' ep', Obj.putName name h (.str name t) v { cls := .type "dict", data := .dict es ep } = ({ cls := .type "dict", data := .dict es' ep' } : Obj) ∧ StrKeys es' ∧ (∀ n, nsFind es' n = if n = name then some v else m n) ∧
      es'.size ≤ es.size + 1 ∧ ((m name).isSome = true → es'.size = es.size) := by
  simp only [Obj.putName_eq, Obj.putNameByArray]
  cases hi : es.findIdx? (·.key.isStr name) with
  | some i =>
    refine ⟨_, ep, rfl, hk.modify _ _, fun x => ?_, by rw [size_of_mod]; exact Nat.le_succ _, fun _ => size_of_mod⟩
    rw [← hm]; exact findBy_modify (fun n v => v.isStr n) Value.isStr_inj es name x v i hi
  | none =>
    refine ⟨_, ep + 1, rfl, hk.push _ _ _ _, fun x => ?_, by simp, fun q => ?_⟩
    · rw [← hm]
      exact findBy_push (fun n v => v.isStr n) es name x _ _ v (fun y => by
        show (name == y) = decide (y = name)
        by_cases h : y = name
        · subst h; simp
        · have : ¬ name = y := fun e => h e.symm
          simp [h, this]) hi
    · exfalso
      rw [← hm] at q
      unfold nsFind findBy at q
      have : es.find? (·.key.isStr name) = none := by
        rw [Array.find?_eq_none]
        intro e he
        have := Array.findIdx?_eq_none_iff.mp hi e he
        simpa using this
      rw [this] at q
      cases q

theorem refuse_list (self : Value) : refuseLoop self "__setattr__" [.ref 200, .type "list", .type "object"] = pure () := by
  rw [refuseLoop_ref]
  kernel_rfl

theorem of_map {P : Params} {C : Addr} {l : List Value} (e : (clsIn (KM P) C).map (fun cd => (cd.hasDict, cd.mro)) = some (true, l)) : ∃ cd, clsIn (KM P) C = some cd ∧ cd.hasDict = true ∧ cd.mro = l := by
  obtain ⟨cd, h1, h2⟩ := Option.map_eq_some_iff.mp e
  simp only [Prod.mk.injEq] at h2
  exact ⟨cd, h1, h2.1, h2.2⟩
theorem mro116 (P : Params) : ∃ cd, clsIn (KM P) 116 = some cd ∧ cd.hasDict = true ∧ cd.mro = [.ref 116, .type "object"] := of_map (by kernel_rfl)
theorem mro200 (P : Params) : ∃ cd, clsIn (KM P) 200 = some cd ∧ cd.hasDict = true ∧ cd.mro = [.ref 200, .type "list", .type "object"] := of_map (by kernel_rfl)
/-- a class whose instances take stores as object's do -/
def Stores (P : Params) (C : Addr) : Prop := ∃ cd, clsIn (KM P) C = some cd ∧ cd.hasDict = true ∧ cd.mro.isEmpty = false ∧ cd.mro.contains (.type "object") = true ∧ ∀ self, refuseLoop self "__setattr__" cd.mro = pure ()
theorem st116 (P : Params) : Stores P 116 := by
  obtain ⟨cd, h1, h2, h3⟩ := mro116 P
  exact ⟨cd, h1, h2, by rw [h3]; rfl, by rw [h3]; rfl, fun self => by rw [h3]; exact refuse_only self rfl⟩
theorem st200 (P : Params) : Stores P 200 := by
  obtain ⟨cd, h1, h2, h3⟩ := mro200 P
  exact ⟨cd, h1, h2, by rw [h3]; rfl, by rw [h3]; rfl, fun self => by rw [h3]; exact refuse_list self⟩

theorem spec_setattr {c : Cx} (B : Bs c) {A : Around} {σ : Hp} {x C d : Addr} {dat : Data} {m : Str → Option Value} {k : Nat} {name : Str} {v : Value} (I : Inst σ x C d dat m k) (T : Cls c.w.params C) (S : Stores c.w.params C)
    (hn : findIn (KM c.w.params) (.ref C) name = some none) (hxd : x ≠ d) (hk : k ≤ 1000) :
    Spec c A σ (setAttr (.ref x) name v) (fun _ σ' => ∃ o, σ' = upd σ d o ∧ Inst σ' x C d dat (fun n => if n = name then some v else m n) (if (m name).isSome then k else k + 1)) := by
  intro φ s Q E K q
  obtain ⟨es, ep, h1, h2, h3, h4, I'⟩ := I.of K
  have X := K.kx B
  refine set_plain X I' T.sa ?_
  obtain ⟨cd, hc, hd, hne, hob, hrf⟩ := S
  have SF := PySem.F.store_object
  have K1 := K.toks (s.toks + 1)
  have K2 := K.toks (s.toks + 1 + 1)
  obtain ⟨hp, g, dd, t, os⟩ := s
  dsimp only at K1 K2 X I' ⊢
  have sub : Looks c.M hp (isInstance (.ref x) (.type "object")) true := I'.type.andThen (looks_mroIn X (by unfold mroIn; rw [hc, Option.bind_some, if_neg (by rw [hne]; decide), hob]))
  refine codeAny_call_builtin SF.slot.plain SF.entry (@check_slot c.M _ _ _ "object.__setattr__" "object" "__setattr__" (.ref x) [.str name t, v] [] _ SF.kind SF.split sub (SF.args (.ref x) (.str name t) v) ?_)
  have hm : Looks c.M hp (mroOf (.ref C)) cd.mro := (looks_clsIn X hc).andThen .now
  rw [osa_eq, refuse_eq]
  refine wpAny_bind (wpAny_bind (I'.type.here (wpAny_bind (hm.here ?_))))
  rw [hrf]
  refine wpAny_pure (wpAny_bind (I'.type.here (wpAny_bind ((looks_findIn X hn).here (wpAny_bind (wpAny_pure (a := none) ?_))))))
  obtain ⟨es', ep', e1, e2, e3, e4, e5⟩ := put_ns (name := name) (h := PyData.keyHash c.w.params name) (t := t + 1) (v := v) (ep := ep) h2 h3
  have D : hp.get? d = some ({ cls := .type "dict", data := .dict es ep } : Obj) := K.own _ _ h1
  have KU := K2.update (f := Obj.putName name (PyData.keyHash c.w.params name) (.str name (t + 1)) v) h1 (by rw [e1]; rfl) B.sz
  rw [e1] at KU
  have D' : (hp.update d (Obj.putName name (PyData.keyHash c.w.params name) (.str name (t + 1)) v)).get? d = some ({ cls := .type "dict", data := .dict es' ep' } : Obj) := KU.own _ _ (upd_same ..)
  refine wpAny_bind (wpAny_pure (wpAny_bind (wpAny_bind (wpAny_loadPart I'.at_ (wpAny_bind ((looks_clsIn X hc).here ?_))))))
  rw [hd]
  refine wpAny_pure (a := some d) (wpAny_bind (wpAny_pure (wpAny_bind ?_)))
  unfold nsSet
  refine wpAny_bind (wpAny_bind (wpAny_askSetting (wpAny_pure (wpAny_bind (wpAny_mkText (wpAny_bind (wpAny_loadPart D ?_)))))))
  dsimp only
  have cc : (!es.any (·.key.isStr name) && es.any (·.refKey)) = false := by
    have : es.any (·.refKey) = false := by
      rw [Array.any_eq_false']; intro e he; obtain ⟨n, t, h⟩ := h2 e he; simp [DictEntry.refKey, h]
    rw [this, Bool.and_false]
  rw [aRefKeyMayBeTheName_at, cc]
  refine wpAny_updatePart D ?_
  refine wpAny_bind (wpAny_lookBehind D' (pastItsLine_dict (by rw [sizeLine_eq]; omega)) ?_)
  refine wpAny_pure ?_
  refine q _ _ _ ⟨_, rfl, ?_, ?_, I.no⟩ KU
  · rw [upd_ne hxd]; exact I.at_
  · refine ⟨es', ep', upd_same .., e2, e3, ?_⟩
    split
    · rename_i z; rw [e5 z]; exact h4
    · omega

end

section
open PySem.F

/-- a triple of a code -/
def CSpec (c : Cx) (A : Around) (σ : Hp) (cd : Code) (P : Value → Hp → Prop) : Prop :=
  ∀ (φ : Hp) (s : Shared) (R : Result → Shared → Prop), Ok c φ σ s → (∀ v σ' s', P v σ' → Ok c φ σ' s' → R (.ok (.ret v)) s') → codeAny c.M A cd R s
/-- how a built-in's tree ends -/
def FinOk (c : Cx) (A : Around) (P : Value → Hp → Prop) (fin : Fin) (σ : Hp) : Prop := match fin with
  | .done (.ret v) => P v σ
  | .again cd => cd.quiet = true ∧ CSpec c A σ cd P
  | _ => False
theorem spec_call {c : Cx} {A : Around} {σ : Hp} {f : Value} {pos : List Value} {P : Value → Hp → Prop} (h : CSpec c A σ (.call f ⟨pos, []⟩) P) : Spec c A σ (call f pos) P :=
  fun φ s _ _ K q => wpAny_call (h φ s _ K fun v σ' s' p K' => q v σ' s' p K')
theorem spec_runValue {c : Cx} {A : Around} {σ : Hp} {cd : Code} {P : Value → Hp → Prop} (h : CSpec c A σ cd P) : Spec c A σ (runValue cd) P :=
  fun φ s _ _ K q => wpAny_runValue (h φ s _ K fun v σ' s' p K' => q v σ' s' p K')
theorem finok {c : Cx} {A : Around} {σ : Hp} {P : Value → Hp → Prop} {φ : Hp} {s : Shared} {R : Result → Shared → Prop} {fin : Fin} (K : Ok c φ σ s) (q : ∀ v σ' s', P v σ' → Ok c φ σ' s' → R (.ok (.ret v)) s') : FinOk c A P fin σ →
    (match fin with | .done f => R (.ok f) s | .again c' => c'.quiet = true ∧ codeAny c.M A c' R s) := by
  intro f
  rcases fin with (_ | _ | _ | v) | cd
  · exact f.elim
  · exact f.elim
  · exact f.elim
  · exact q v σ s f K
  · exact ⟨f.1, f.2 φ s R K q⟩
theorem cspec_builtin {c : Cx} {A : Around} {σ : Hp} {id : String} {args : Args} {b : Builtin} {P : Value → Hp → Prop} (hp : plainId id = true) (he : entryFor table id = some b) (h : Spec c A.in1 σ (b args) (FinOk c A P)) :
    CSpec c A σ (.builtin id args) P := fun φ s R K q => by
  refine codeAny_builtin he ?_
  rw [Around.under_plainId hp]
  exact h φ s _ _ K fun fin σ' s' f K' => finok K' q f
theorem cspec_callB {c : Cx} {A : Around} {σ : Hp} {id : String} {args : Args} {b : Builtin} {P : Value → Hp → Prop} (hp : plainId id = true) (he : entryFor table id = some b)
    (hc : Spec c A.in1 σ (checkBuiltinCall id args) (fun _ σ' => σ' = σ)) (h : Spec c A.in1 σ (b args) (FinOk c A P)) : CSpec c A σ (.call (.builtin id) args) P := fun φ s R K q => by
  refine codeAny_call_builtin hp he (hc φ s _ _ K fun _ σ' s' e K' => ?_)
  subst e
  exact h φ s' _ _ K' fun fin σ'' s'' f K'' => finok K'' q f

/-- the list's own slots and methods, upon a list or an accumulator -/
structure LB (id : String) (b : Builtin) (n : String) : Prop where
  plain : plainId id = true
  entry : entryFor table id = some b
  split : splitId id = some ("list", n)
  kind : builtinKind id = some .slot ∨ builtinKind id = some .method

inductive LCls : Value → Option Addr → Prop
  | list : LCls (.type "list") none
  | acc (d : Addr) : LCls (.ref 200) (some d)
/-- a sequence object: a list or an accumulator -/
structure Sq (σ : Hp) (a : Addr) (cl : Value) (d : Option Addr) (xs : List Value) (n : Nat) : Prop where
  at_ : σ a = some ({ cls := cl, dict := d, data := .seq xs.toArray n } : Obj)
  lc : LCls cl d
theorem mro200_list (P : Params) : mroIn (KM P) 200 (.type "list") = some true := by kernel_rfl
theorem Sq.isList {c : Cx} (B : Bs c) {φ σ : Hp} {s : Shared} {a : Addr} {cl : Value} {d : Option Addr} {xs : List Value} {n : Nat} (L : Sq σ a cl d xs n) (K : Ok c φ σ s) : Looks c.M s.heap (isInstance (.ref a) (.type "list")) true := by
  have g := K.own _ _ L.at_
  have T : Looks c.M s.heap (typeOf (.ref a)) cl := (Looks.ld g).andThen .now
  cases L.lc with
  | list => exact T.andThen (Looks.of_pure (by rw [isSubtype_type]; kernel_rfl))
  | acc d => exact T.andThen (looks_mroIn (K.kx B) (mro200_list _))

theorem check_of {M : Model} {A : Around} {E : Value → Shared → Prop} {s : Shared} {i owner n : String} {self : Value} {rest : List Value} {kw : List (Str × Value)} {Q : Unit → Shared → Prop}
    (hk : builtinKind i = some .slot ∨ builtinKind i = some .method) (hs : splitId i = some (owner, n)) (hi : Looks M s.heap (isInstance self (.type owner)) true) (ha : argsOk i ⟨self :: rest, kw⟩) (q : Q () s) :
    wpAny M A (checkBuiltinCall i ⟨self :: rest, kw⟩) Q E s := by
  rcases hk with hk | hk
  · exact check_slot hk hs hi ha q
  · simp only [checkBuiltinCall, hk, hs]
    refine wpAny_bind (hi.here ?_)
    simp only [Bool.not_true, Bool.false_eq_true, if_false]
    cases hsig : Manifest.signature? i with
    | none => exact wpAny_pure q
    | some sig =>
      simp only [argsOk, hsig] at ha
      have h2 : Bind.checkArgs i sig ⟨self :: rest, kw⟩ = pure () := ha
      show wpAny M A (Bind.checkArgs i sig ⟨self :: rest, kw⟩) Q E s
      rw [h2]; exact wpAny_pure q
theorem cspec_lb {c : Cx} (B : Bs c) {A : Around} {σ : Hp} {id nn : String} {b : Builtin} {P : Value → Hp → Prop} (L : LB id b nn) {a : Addr} {cl : Value} {d : Option Addr} {xs : List Value} {n : Nat} (S : Sq σ a cl d xs n) {rest : List Value}
    (ha : argsOk id ⟨.ref a :: rest, []⟩) (h : Spec c A.in1 σ (b ⟨.ref a :: rest, []⟩) (FinOk c A P)) : CSpec c A σ (.call (.builtin id) ⟨.ref a :: rest, []⟩) P :=
  cspec_callB L.plain L.entry (fun _ _ _ _ K q => check_of L.kind L.split (S.isList B K) ha (q _ _ _ rfl K)) h
theorem spec_lb {c : Cx} (B : Bs c) {A : Around} {σ : Hp} {id nn : String} {b : Builtin} {P : Value → Hp → Prop} (L : LB id b nn) {a : Addr} {cl : Value} {d : Option Addr} {xs : List Value} {n : Nat} (S : Sq σ a cl d xs n) {rest : List Value}
    (ha : argsOk id ⟨.ref a :: rest, []⟩) (h : Spec c A.in1 σ (b ⟨.ref a :: rest, []⟩) (FinOk c A P)) : Spec c A σ (call (.builtin id) (.ref a :: rest)) P := spec_call (cspec_lb B L S ha h)

theorem lb_append : LB "list.append" Builtin.«list.append» "append" := ⟨by decide +kernel, F.entry_list_append, by decide +kernel, .inr (by decide +kernel)⟩
theorem lb_pop : LB "list.pop" Builtin.«list.pop» "pop" := ⟨by decide +kernel, F.entry_list_pop, by decide +kernel, .inr (by decide +kernel)⟩
theorem lb_getitem : LB "list.__getitem__" Builtin.«list.__getitem__» "__getitem__" := ⟨by decide +kernel, F.entry_list_getitem, by decide +kernel, .inr (by decide +kernel)⟩
theorem lb_setitem : LB "list.__setitem__" Builtin.«list.__setitem__» "__setitem__" := ⟨by decide +kernel, F.entry_list_setitem, by decide +kernel, .inl (by decide +kernel)⟩
theorem lb_iter : LB "list.__iter__" Builtin.«list.__iter__» "__iter__" := ⟨by decide +kernel, F.entry_list_iter, by decide +kernel, .inl (by decide +kernel)⟩
theorem lb_len : LB "list.__len__" Builtin.«list.__len__» "__len__" := ⟨by decide +kernel, F.entry_list_len, by decide +kernel, .inl (by decide +kernel)⟩
theorem lb_init : LB "list.__init__" Builtin.«list.__init__» "__init__" := ⟨by decide +kernel, F.entry_list_init, by decide +kernel, .inl (by decide +kernel)⟩
theorem lb_add : LB "list.__add__" Builtin.«list.__add__» "__add__" := ⟨by decide +kernel, F.entry_list_add, by decide +kernel, .inl (by decide +kernel)⟩
theorem lb_mul : LB "list.__mul__" Builtin.«list.__mul__» "__mul__" := ⟨by decide +kernel, F.entry_list_mul, by decide +kernel, .inl (by decide +kernel)⟩
theorem lb_eq : LB "list.__eq__" Builtin.«list.__eq__» "__eq__" := ⟨by decide +kernel, F.entry_list_eq, by decide +kernel, .inl (by decide +kernel)⟩
theorem lb_ne : LB "list.__ne__" Builtin.«list.__ne__» "__ne__" := ⟨by decide +kernel, F.entry_list_ne, by decide +kernel, .inl (by decide +kernel)⟩

/-- the sequence's items turned -/
def sqSet (cl : Value) (d : Option Addr) (xs : List Value) (n : Nat) : Obj := { cls := cl, dict := d, data := .seq xs.toArray n }
theorem spec_updateSeq {c : Cx} (B : Bs c) {A : Around} {σ : Hp} {a : Addr} {cl : Value} {d : Option Addr} {xs ys : List Value} {n : Nat} {f : Array Value → Array Value} (S : Sq σ a cl d xs n) (hf : f xs.toArray = ys.toArray) (hz : ys.length ≤ sizeLine) :
    Spec c A σ (updateSeq a f) (fun _ σ' => ∃ n', σ' = upd σ a (sqSet cl d ys n') ∧ Sq σ' a cl d ys n') := by
  intro φ s Q E K q
  have g := K.own _ _ S.at_
  have e : Obj.mapSeq f { cls := cl, dict := d, data := .seq xs.toArray n } = sqSet cl d ys (if ys.toArray.size == xs.toArray.size then n else n + 1) := by
    simp only [Obj.mapSeq, hf, sqSet]
  have KU := K.update (f := Obj.mapSeq f) S.at_ (by rw [e]; rfl) B.sz
  rw [e] at KU
  unfold updateSeq
  refine wpAny_bind (wpAny_load g ?_)
  dsimp only
  refine wpAny_bind (wpAny_update g ?_)
  refine wpAny_lookBehind (KU.own _ _ (upd_same ..)) ?_ (q _ _ _ ⟨_, rfl, upd_same .., S.lc⟩ KU)
  show Data.pastItsLine (.seq ys.toArray _) = none
  unfold Data.pastItsLine
  dsimp only
  rw [List.size_toArray, if_neg (by omega)]
theorem spec_listItems {c : Cx} {A : Around} {σ : Hp} {a : Addr} {cl : Value} {d : Option Addr} {xs : List Value} {n : Nat} (S : Sq σ a cl d xs n) : Spec c A σ (Builtin.List.listItems (.ref a)) (fun r σ' => xs.toArray = r ∧ σ = σ') := by
  refine Spec.look fun φ s K => ?_
  exact ((Looks.ld (part := none) (K.own _ _ S.at_)).andThen .now).andThen .now

theorem spec_append {c : Cx} (B : Bs c) {A : Around} {σ : Hp} {a : Addr} {cl : Value} {d : Option Addr} {xs : List Value} {n : Nat} {x : Value} (S : Sq σ a cl d xs n) (hz : xs.length + 1 ≤ sizeLine) :
    Spec c A σ (call (.builtin "list.append") [.ref a, x]) (fun v σ' => v = .none ∧ ∃ n', σ' = upd σ a (sqSet cl d (xs ++ [x]) n') ∧ Sq σ' a cl d (xs ++ [x]) n') := by
  refine spec_lb B lb_append S (args_list_append_2 _ _) ?_
  show Spec c A.in1 σ (do Builtin.List.listUpdate (.ref a) (·.push x); ret .none) _
  refine Spec.bind (spec_updateSeq (ys := xs ++ [x]) B S (by simp) (by simpa using hz)) fun _ σ' h => ?_
  exact Spec.pure ⟨rfl, h⟩

/-- a method of list's -/
theorem spec_lmethod {c : Cx} {A : Around} {σ : Hp} {a : Addr} {xs : List Value} {n : Nat} {name : Str} {id : String} {pl : Sem Bool} (S : Sq σ a (.type "list") none xs n) (hl : typeLookup (.type "list") name = pure (some (.builtin id)))
    (ht : typeOf (.builtin id) = pure (.type "method_descriptor")) : Spec c A σ (getMethod (.ref a) name pl) (fun r σ' => (.builtin id, [.ref a]) = r ∧ σ = σ') := by
  refine Spec.look fun φ s K => ?_
  have g := K.own _ _ S.at_
  have T : Looks c.M s.heap (typeOf (.ref a)) (.type "list") := (Looks.ld g).andThen .now
  unfold getMethod specialOf
  refine (T.andThen (Looks.of_pure slot_list_getattribute.lookup)).andThen ?_
  dsimp only
  rw [canon_lga, if_neg (by decide)]
  refine (T.andThen (Looks.of_pure (r := none) (by rw [typeLookup_type, builtinLookup_eq_fast]; kernel_rfl))).andThen ?_
  refine (T.andThen (Looks.of_pure hl)).andThen ?_
  refine (Looks.of_pure ht).andThen ?_
  rw [if_neg (by decide +kernel)]
  exact (Looks.ld g).andThen (Looks.tag .now)
theorem spec_amethod {c : Cx} (B : Bs c) {A : Around} {σ : Hp} {x d : Addr} {dat : Data} {m : Str → Option Value} {k : Nat} {name : Str} {id : String} {pl : Sem Bool} (I : Inst σ x 200 d dat m k)
    (hn : findIn (KM c.w.params) (.ref 200) name = some (some (.builtin id))) (ht : typeOf (.builtin id) = pure (.type "method_descriptor")) (hv : m name = none) : Spec c A σ (getMethod (.ref x) name pl) (fun r σ' => (.builtin id, [.ref x]) = r ∧ σ = σ') := by
  intro φ s Q E K q
  obtain ⟨es, ep, h1, h2, h3, h4, I'⟩ := I.of K
  have X := K.kx B
  have hs : shadowIn (some { cls := .type "dict", data := .dict es ep }) name = some false := by
    unfold shadowIn
    dsimp only
    rw [lookIn_ns h2, h3, hv]
    rfl
  exact method_L X I' (show findIn (KM c.w.params) (.ref 200) "__getattribute__" = some (some (.builtin "list.__getattribute__")) by kernel_rfl) canon_lga (cls200 _).gn hn (Looks.of_pure ht) (by decide +kernel) hs (q _ _ _ ⟨rfl, rfl⟩ K)

end

section
open PySem.F

theorem lookup_vmap {rest : List Str} : ∀ {ps : List (Str × Value)}, (ps.map (·.1)).Nodup → ∀ y, ps.lookup y = vmap (ps.map (·.1) ++ rest) (ps.map (fun p => some p.2) ++ rest.map fun _ => none) y
  | [], _, y => by
    simp only [List.map_nil, List.nil_append, List.lookup_nil]
    induction rest with
    | nil => rfl
    | cons n r ih => simp only [List.map_cons, vmap]; split; rfl; exact ih
  | (n, v) :: ps, nd, y => by
    simp only [List.map_cons, List.nodup_cons] at nd
    simp only [List.map_cons, List.cons_append, vmap, List.lookup_cons]
    by_cases h : y = n
    · subst h; simp
    · have : (y == n) = false := by simpa using h
      rw [this, if_neg h]; exact lookup_vmap nd.2 y
theorem lookup_nodup {ps : List (Str × Value)} (nd : (ps.map (·.1)).Nodup) (y : Str) : ps.reverse.lookup y = ps.lookup y := by
  induction ps with
  | nil => rfl
  | cons p ps ih =>
    simp only [List.map_cons, List.nodup_cons] at nd
    rw [List.reverse_cons, List.lookup_append, ih nd.2]
    obtain ⟨n, v⟩ := p
    simp only [List.lookup_cons, List.lookup_nil]
    by_cases h : y = n
    · subst h
      have : ps.lookup y = none := by
        rw [List.lookup_eq_none_iff]
        intro q hq
        simp only [bne_iff_ne, ne_eq]
        intro e
        exact nd.1 (List.mem_map.mpr ⟨q, hq, e.symm⟩)
      simp [this]
    · have : (y == n) = false := by simpa using h
      rw [this]; simp

theorem zip_vmap {rest : List Str} : ∀ {ns : List Str} {vs : List Value}, ns.length = vs.length → (ns ++ rest).Nodup → ∀ y, (ns.zip vs).reverse.lookup y = vmap (ns ++ rest) (vs.map some ++ rest.map fun _ => none) y := by
  intro ns vs hl nd y
  have e1 : (ns.zip vs).map (·.1) = ns := List.map_fst_zip (Nat.le_of_eq hl)
  have e2 : (ns.zip vs).map (fun p => some p.2) = vs.map some := by
    rw [show (fun p : Str × Value => some p.2) = some ∘ Prod.snd from rfl, ← List.map_map, List.map_snd_zip (Nat.le_of_eq hl.symm)]
  have nd' : ((ns.zip vs).map (·.1)).Nodup := by rw [e1]; exact (List.nodup_append.mp nd).1
  rw [lookup_nodup nd', lookup_vmap (rest := rest) nd', e1, e2]

/-- a call of a def of the text's -/
theorem cspec_fn {c : Cx} (B : Bs c) {A : Around} {n : Nat} (R : Rm A n) {σ : Hp} {f : Addr} {fd : FuncData} {body : List Stmt} {args : Args} {P : Value → Hp → Prop} (ns : List Str) (vs : List Value) (rest : List Str) {names : List Str} {vals : List (Option Value)}
    (hf : (KM c.w.params).lookup f = some ({ cls := .type "function", data := .func fd } : Obj)) (hcd : codeIn (KM c.w.params) fd.code fd.qualname = true) (hb : fd.body = .stmts body)
    (hbind : ∀ φ s, Ok c φ σ s → BindsTo s fd args (ns.zip vs)) (hcell : (fd.scope.names.all fun x => x.2 != .cell) = true) (hloc : (ns.all fun x => fd.scope.names.lookup x == some .local) = true)
    (nd : decide names.Nodup = true)
    (h : ∀ φ L s Q E, Fm c φ σ L names vals s → (∀ fl σ' s', P (match fl with | .ret v => v | _ => .none) σ' → Ok c φ σ' s' → Q fl s') →
      wpAny c.M (A.deeper (callEnv fd L f)) (execs body (callEnv fd L f)) Q E s)
    (hn : ns ++ rest = names := by rfl) (hv : vs.map some ++ rest.map (fun _ => none) = vals := by rfl) (hlen : ns.length = vs.length := by rfl)
    (hco : fd.scope.isCoroutine = false := by rfl) (hgen : fd.scope.isGenerator = false := by rfl) (hk : fd.scope.kind = .function := by rfl) : CSpec c A σ (.call (.ref f) args) P := by
  intro φ s R' K q
  have X := K.kx B
  have hloc' : ∀ x ∈ ns.zip vs, fd.scope.names.lookup x.1 = some .local := fun x hx => by
    have := List.all_eq_true.mp hloc x.1 (List.of_mem_zip (a := x.1) (b := x.2) hx).1
    exact beq_iff_eq.mp this
  refine codeAny_call_def (fd := fd) (body := body) (binds := ns.zip vs) R.room (X _ _ hf) rfl (K.nl B) (codeRec_of X hcd) hb (hbind φ s K) (fun x hx => by simpa using List.all_eq_true.mp hcell x hx) hloc' (fun h₀ hns hkp => ?_) hco hgen hk
  refine h φ s.heap.objs.size _ _ _ ?_ fun fl σ' s' p K' => q _ σ' s' p K'
  have nσ : σ s.heap.objs.size = none := by
    cases z : σ s.heap.objs.size with
    | none => rfl
    | some x => exact absurd (Heap.lt_size (K.own _ _ z)) (Nat.lt_irrefl _)
  have nφ : φ s.heap.objs.size = none := by
    cases z : φ s.heap.objs.size with
    | none => rfl
    | some x => exact absurd (Heap.lt_size (K.fr _ _ z)) (Nat.lt_irrefl _)
  refine ⟨⟨fun b o e n => hkp _ _ (K.old b o e n), fun b o e => hkp _ _ (K.fr b o e), fun b o e => hkp _ _ (K.own b o e), K.dj, K.newσ, K.newφ, fun P hP => ?_, K.gens, K.os⟩, ?_, nσ, nφ, K.ge B⟩
  · obtain ⟨ps, a, b⟩ := K.tab P hP
    exact ⟨ps, hkp _ _ a, b⟩
  · obtain ⟨o, es, ep, a1, a2, a3, a4⟩ := hns
    subst hn hv
    exact ⟨o, es, ep, a1, a2, a3, fun y => (a4 y).trans (zip_vmap hlen (of_decide_eq_true nd) y)⟩

theorem fn_of {fd : FuncData} {f L : Addr} {names : List Str} (hk : fd.scope.kind = .function) (nd : decide names.Nodup = true) (hl : (names.all fun x => fd.scope.names.lookup x == some .local) = true) (hg : fd.globals = mainGlobals) (hb : fd.builtins = builtinsNs)
    (hd : names.contains ("__debug__" : Str) = false) : Fn (callEnv fd L f) L names :=
  ⟨hk, rfl, of_decide_eq_true nd, fun x hx => beq_iff_eq.mp (List.all_eq_true.mp hl x hx), hg, hb, fun h => by rw [List.contains_iff_mem.mpr h] at hd; cases hd⟩

section
variable {c : Cx} {A : Around} {E : Value → Shared → Prop} {s : Shared} {env : Env}

theorem r_seq {st : Stmt} {rest : List Stmt} {Q : Flow → Shared → Prop} (h : wpAny c.M A (exec st env) (fun fl s' => fl = .next ∧ wpAny c.M A (execs rest env) Q E s') E s) : wpAny c.M A (execs (st :: rest) env) Q E s := by
  refine wpAny_execs_cons (wpAny_mono h (fun fl s' z => ?_) fun _ _ z => z)
  obtain ⟨rfl, z⟩ := z
  exact z
theorem r_nil {Q : Flow → Shared → Prop} (h : Q .next s) : wpAny c.M A (execs [] env) Q E s := wpAny_execs_nil h

/-- the callee is known to the machine -/
def Kpr (c : Cx) (f : Value) : Prop := ∀ h, (KM c.w.params).In h → ∃ k, (k = Keeper.frame ∨ k = Keeper.machine ∨ k = Keeper.boundFrame) ∧ Looks c.M h (keeperOf f) k
theorem kpr_builtin (id : String) : Kpr c (.builtin id) := fun _ _ => ⟨.machine, .inr (.inl rfl), Looks.of_pure rfl⟩
theorem kpr_type (id : String) : Kpr c (.type id) := fun _ _ => ⟨.machine, .inr (.inl rfl), Looks.of_pure rfl⟩
theorem kpr_ref {f : Value} (h : keepIn (KM c.w.params) f = true) : Kpr c f := fun hp X => keeps_K h hp X

theorem r_callW0 {pos : Pos} {f : Value} {first : List Value} {Q : Value → Shared → Prop} (k : Kpr c f) (X : (KM c.w.params).In s.heap) (h : wpAny c.M A (call f first) Q E s) : wpAny c.M A (callWith pos f first (backTo pos (starEach [] env)) []) Q E s :=
  callWith_of rfl k (evalArgs_nil3 ⟨X, by rw [List.append_nil]; exact h⟩)
theorem r_callW {pos : Pos} {f : Value} {first : List Value} {e : Expr} {args : List Expr} {Q : Value → Shared → Prop} (k : Kpr c f) (h : wpAny c.M A (spliced (backTo pos (starEach (e :: args) env))) (fun vs s₁ => (KM c.w.params).In s₁.heap ∧ wpAny c.M A (call f (first ++ vs)) Q E s₁) E s)
    (he : starEach (e :: args) env = (false, eval e env) :: starEach args env := by rfl) (hp : (backTo pos (starEach args env)).any (·.1) = false := by rfl) : wpAny c.M A (callWith pos f first (backTo pos (starEach (e :: args) env)) []) Q E s := by
  rw [he] at h ⊢
  exact callWith_of (by show ((false || (backTo pos (starEach args env)).any (·.1)) || false) = false; rw [hp]; rfl) k (Calls.evalArgs_plain h)
theorem r_args0 {pos : Pos} {Q : List Value → Shared → Prop} (h : Q [] s) : wpAny c.M A (spliced (backTo pos (starEach [] env))) Q E s := wpAny_pure h
theorem r_arg {pos : Pos} {e : Expr} {rest : List Expr} {Q : List Value → Shared → Prop} (h : wpAny c.M A (eval e env) (fun v s₁ => wpAny c.M A (spliced (backTo pos (starEach rest env))) (fun vs s₂ => Q (v :: vs) s₂) E s₁) E s)
    (he : starEach (e :: rest) env = (false, eval e env) :: starEach rest env := by rfl) : wpAny c.M A (spliced (backTo pos (starEach (e :: rest) env))) Q E s := by
  rw [he]
  show wpAny c.M A (spliced ((false, eval e env) :: backTo pos (starEach rest env))) Q E s
  rw [spliced]
  refine wpAny_bind (wpAny_mono h (fun v s₁ h₁ => ?_) fun _ _ z => z)
  refine wpAny_bind (wpAny_pure ?_)
  exact wpAny_bind (wpAny_holding (wpAny_mono h₁ (fun vs s₂ z => wpAny_pure z) fun _ _ z => z))
theorem r_method {o : Expr} {name : Str} {apos pos : Pos} {args : List Expr} {Q : Value → Shared → Prop}
    (h : wpAny c.M A (eval o env) (fun ov s₁ => ∀ pl, wpAny c.M A (getMethod ov name pl) (fun r s₂ => wpAny c.M A (callWith pos r.1 r.2 (backTo pos (starEach args env)) []) Q E s₂) E s₁) E s)
    (hbase : attributeBase o name env (eval o env) = eval o env := by rfl)
    (hfew : methodCallForm (args.length + 0) (backTo pos (starEach args env)) (backToKw pos (keywordEach [] env)) = true := by rfl)
    (hline : (apos.endLine == pos.line) = true := by rfl) :
    wpAny c.M A (eval (.Call (.Attribute o name apos) args [] pos) env) Q E s := by
  rw [arm_eval_Call, hbase]
  refine wpAny_bind (wpAny_mono h (fun ov s₁ h₁ => ?_) fun _ _ e => e)
  refine wpAny_bind (wpAny_standAt ?_)
  show wpAny c.M A (methodCall o name apos pos env ov (args.length + 0) (backTo pos (starEach args env)) (backToKw pos (keywordEach [] env))) Q E s₁
  unfold methodCall calleeOf methodCallPos
  rw [hfew, hline]
  refine wpAny_bind (wpAny_holding (wpAny_mono (h₁ _) (fun r s₂ h₂ => ?_) fun _ _ e => e))
  obtain ⟨f, first⟩ := r
  exact wpAny_bind (wpAny_pure h₂)
end

end

section
open PySem.F

def Mod (M : List Addr) (σ σ' : Hp) : Prop := ∀ b o, b ∉ M → σ b = some o → σ' b = some o
theorem Mod.refl {M : List Addr} {σ : Hp} : Mod M σ σ := fun _ _ _ h => h
theorem Mod.trans {M : List Addr} {σ σ' σ'' : Hp} (x : Mod M σ σ') (y : Mod M σ' σ'') : Mod M σ σ'' := fun b o n h => y b o n (x b o n h)
theorem Mod.upd {M : List Addr} {σ : Hp} {a : Addr} {o : Obj} (h : a ∈ M) : Mod M σ (upd σ a o) := fun b x n e => by rw [upd_ne]; exact e; intro q; exact n (q ▸ h)
theorem Mod.new {M : List Addr} {σ : Hp} {a : Addr} {o : Obj} (h : σ a = none) : Mod M σ (Mine.upd σ a o) := fun b x _ e => upd_ext h b x e
theorem Mod.sub {M M' : List Addr} {σ σ' : Hp} (x : Mod M σ σ') (h : ∀ a ∈ M, a ∈ M') : Mod M' σ σ' := fun b o n e => x b o (fun q => n (h _ q)) e

/-- a pair of texts -/
def TupAt (σ : Hp) (v : Value) (p : Str × Str) : Prop := ∃ b t1 t2, v = .ref b ∧ σ b = some (tObj [.str p.1 t1, .str p.2 t2])
theorem TupAt.mod {M : List Addr} {σ σ' : Hp} {v : Value} {p : Str × Str} (x : TupAt σ v p) (h : Mod M σ σ') (hM : ∀ a ∈ M, ∀ ts, σ a ≠ some (tObj ts)) : TupAt σ' v p := by
  obtain ⟨b, t1, t2, e, g⟩ := x
  exact ⟨b, t1, t2, e, h b _ (fun q => hM b q _ g) g⟩
def Items (σ : Hp) : List Value → List (Str × Str) → Prop
  | [], [] => True
  | v :: vs, p :: ps => TupAt σ v p ∧ Items σ vs ps
  | _, _ => False
theorem Items.mod {M : List Addr} {σ σ' : Hp} (h : Mod M σ σ') (hM : ∀ a ∈ M, ∀ ts, σ a ≠ some (tObj ts)) : ∀ {vs : List Value} {ps : List (Str × Str)}, Items σ vs ps → Items σ' vs ps
  | [], [], _ => trivial
  | _ :: _, _ :: _, x => ⟨x.1.mod h hM, Items.mod h hM x.2⟩
  | [], _ :: _, x => x.elim
  | _ :: _, [], x => x.elim
theorem Items.append {σ : Hp} : ∀ {vs ws : List Value} {ps qs : List (Str × Str)}, Items σ vs ps → Items σ ws qs → Items σ (vs ++ ws) (ps ++ qs)
  | [], _, [], _, _, y => y
  | _ :: _, _, _ :: _, _, x, y => ⟨x.1, Items.append x.2 y⟩
  | [], _, _ :: _, _, x, _ => x.elim
  | _ :: _, _, [], _, x, _ => x.elim
theorem Items.len {σ : Hp} : ∀ {vs : List Value} {ps : List (Str × Str)}, Items σ vs ps → vs.length = ps.length
  | [], [], _ => rfl
  | _ :: _, _ :: _, x => by simp [Items.len x.2]
  | [], _ :: _, x => x.elim
  | _ :: _, [], x => x.elim

/-- an accumulator: its first size, its pairs -/
structure Acc (σ : Hp) (a d : Addr) (init : Int) (ps : List (Str × Str)) : Prop where
  ex : ∃ xs n t, Sq σ a (.ref 200) (some d) xs n ∧ Items σ xs ps ∧ DNs σ d (vmap ["_initial_size"] [some (.int init t)]) 1
theorem Acc.ne {σ : Hp} {a d : Addr} {init : Int} {ps : List (Str × Str)} (x : Acc σ a d init ps) : a ≠ d := by
  obtain ⟨xs, n, t, h1, h2, es, ep, h3, _⟩ := x.ex
  intro e
  have := h1.at_
  rw [e, h3] at this
  cases this
theorem inst_of {σ : Hp} {a d : Addr} {xs : List Value} {n : Nat} {m : Str → Option Value} {k : Nat} (S : Sq σ a (.ref 200) (some d) xs n) (D : DNs σ d m k) : Inst σ a 200 d (.seq xs.toArray n) m k := ⟨S.at_, D, rfl⟩

def hdrMod : Value := .str (Str.ofString "cpy313.email.header") 289
abbrev fdM (i j : Nat) (q : Str) (cl : List (Str × Addr)) (dV : Value) (cd : Addr) (ct : Value) : FuncData := fdOf (methS i j) q cl dV hdrMod (.ref cd) ct

abbrev pushFd : FuncData := fdM 7 1 (Str.ofString "_Accumulator.push") [] .none 143 .none
def pushNames : List Str := ["self", "fws", "string"]
theorem push_fn (L : Addr) : Fn (callEnv pushFd L 144) L pushNames := fn_of rfl (by decide +kernel) (by kernel_rfl) rfl rfl (by decide +kernel)
theorem r_tuple {c : Cx} {A : Around} {E : Value → Shared → Prop} {s : Shared} {env : Env} {elts : List Expr} {k : Nat} {pos : Pos} {Q : Value → Shared → Prop}
    (h : wpAny c.M A (spliced (backTo pos (starEach elts env))) (fun vs s₁ => wpAny c.M A (newTuple vs) Q E s₁) E s) : wpAny c.M A (eval (.Tuple elts k pos) env) Q E s := Tuple_ h

theorem push_cspec {c : Cx} (B : Bs c) {A : Around} {σ : Hp} {a d : Addr} {init : Int} {ps : List (Str × Str)} {f p : Str} {t1 t2 : Tok} (R : Rm A 10) (H : Acc σ a d init ps) (hz : ps.length + 1 ≤ sizeLine) :
    CSpec c A σ (.call (.ref 144) ⟨[.ref a, .str f t1, .str p t2], []⟩) (fun v σ' => v = .none ∧ Acc σ' a d init (ps ++ [(f, p)]) ∧ Mod [a] σ σ') := by
  have had := H.ne
  obtain ⟨xs, n, t, S, I, D⟩ := H.ex
  refine cspec_fn B R ["self", "fws", "string"] [.ref a, .str f t1, .str p t2] [] (names := pushNames) (fd := pushFd) (body := bodyS (methS 7 1)) (by kernel_rfl) (by kernel_rfl) rfl (fun _ _ _ => BindsTo.of_eq (by kernel_rfl)) (by kernel_rfl) (by kernel_rfl) (by decide +kernel) ?_
  intro φ L s Q E F k
  have N := push_fn L
  refine r_seq ?_
  refine wpAny_Expr_any ?_
  refine r_method ?_
  refine r_ld N F 0 rfl rfl ?_
  intro pl
  refine (spec_amethod B (inst_of S D) (by kernel_rfl) PySem.F.type_list_append rfl).run F ?_
  rintro _ _ s ⟨rfl, rfl⟩ F
  refine r_callW (kpr_builtin _) ?_
  refine r_arg ?_
  refine r_tuple ?_
  refine r_arg ?_
  refine r_ld N F 1 rfl rfl ?_
  refine r_arg ?_
  refine r_ld N F 2 rfl rfl ?_
  refine r_args0 ?_
  refine (spec_newTuple B (by size_fits)).run F ?_
  rintro _ _ s ⟨b, rfl, hb, rfl⟩ F
  refine r_args0 ?_
  refine ⟨F.ok.kx B, ?_⟩
  have S1 : Sq (upd σ b (tObj [.str f t1, .str p t2])) a (.ref 200) (some d) xs n := ⟨upd_ext hb _ _ S.at_, S.lc⟩
  refine (spec_append B S1 (by rw [I.len]; exact hz)).run F ?_
  rintro _ _ s ⟨rfl, n', rfl, S2⟩ F
  refine ⟨rfl, r_nil ?_⟩
  have M : Mod [a] σ (upd (upd σ b (tObj [.str f t1, .str p t2])) a (sqSet (.ref 200) (some d) (xs ++ [.ref b]) n')) := (Mod.new hb).trans (Mod.upd (.head _))
  refine k _ _ _ ⟨rfl, ⟨⟨_, _, t, S2, ?_, ?_⟩⟩, M⟩ F.ok
  · refine Items.append (Items.mod M ?_ I) ⟨⟨b, t1, t2, rfl, ?_⟩, trivial⟩
    · intro x hx ts
      simp only [List.mem_singleton] at hx
      subst hx
      rw [S.at_]
      intro q
      cases q
    · rw [upd_ne, upd_same]
      intro q; subst q; have := S.at_; rw [hb] at this; cases this
  · obtain ⟨es, ep, h1, h2⟩ := D
    exact ⟨es, ep, M _ _ (by simpa using Ne.symm had) h1, h2⟩
theorem push_spec {c : Cx} (B : Bs c) {A : Around} {σ : Hp} {a d : Addr} {init : Int} {ps : List (Str × Str)} {f p : Str} {t1 t2 : Tok} (R : Rm A 10) (H : Acc σ a d init ps) (hz : ps.length + 1 ≤ sizeLine) :
    Spec c A σ (call (.ref 144) [.ref a, .str f t1, .str p t2]) (fun v σ' => v = .none ∧ Acc σ' a d init (ps ++ [(f, p)]) ∧ Mod [a] σ σ') := spec_call (push_cspec B R H hz)

end

section
open PySem.F

section
variable {c : Cx} {A : Around} {E : Value → Shared → Prop} {s : Shared} {env : Env} {φ σ : Hp} {L : Addr} {names : List Str} {vals : List (Option Value)}

theorem ok_glob {x : Str} {v : Value} {Q : Value → Shared → Prop} (B : Bs c) (K : Ok c φ σ s) (hg : env.globals = mainGlobals) (e : nsIn (KM c.w.params) mainGlobals x = some (some v)) (h : Q v s) : wpAny c.M A (loadGlobal env x) Q E s := by
  unfold loadGlobal
  rw [hg]
  exact wpAny_bind ((looks_nsIn (K.kx B) e).here (wpAny_pure h))
theorem ok_bi {x : Str} {v : Value} {Q : Value → Shared → Prop} (B : Bs c) (K : Ok c φ σ s) (hg : env.globals = mainGlobals) (hb : env.builtins = builtinsNs) (e : nsIn (KM c.w.params) mainGlobals x = some none) (eb : bootBuiltins x = some v) (hx : x ≠ "__name__") (h : Q v s) : wpAny c.M A (loadGlobal env x) Q E s := by
  obtain ⟨mb, n, eq⟩ := K.bi B
  unfold loadGlobal
  rw [hg, hb]
  refine wpAny_bind ((looks_nsIn (K.kx B) e).here ?_)
  refine wpAny_bind (wpAny_nsGet n ?_)
  rw [eq x hx, eb]
  exact wpAny_pure h
/-- a global of the text's; a built-in's name -/
theorem r_glob {x : Str} {pos : Pos} {v : Value} {Q : Value → Shared → Prop} (B : Bs c) (N : Fn env L names) (F : Fm c φ σ L names vals s) (e : nsIn (KM c.w.params) mainGlobals x = some (some v)) (h : Q v s) (hk : env.kindOf x = some .globalImplicit := by kernel_rfl)
    (hd : (x == ("__debug__" : Str)) = false := by decide +kernel) : wpAny c.M A (eval (.Name x pos) env) Q E s := wpAny_Name (ks_loadName_global N.kind hk (ok_glob B F.ok N.gl e h)) hd
theorem r_bi {x : Str} {pos : Pos} {v : Value} {Q : Value → Shared → Prop} (B : Bs c) (N : Fn env L names) (F : Fm c φ σ L names vals s) (e : nsIn (KM c.w.params) mainGlobals x = some none) (eb : bootBuiltins x = some v) (h : Q v s) (hk : env.kindOf x = some .globalImplicit := by kernel_rfl)
    (hx : (x == ("__name__" : Str)) = false := by decide +kernel) (hd : (x == ("__debug__" : Str)) = false := by decide +kernel) : wpAny c.M A (eval (.Name x pos) env) Q E s :=
  wpAny_Name (ks_loadName_global N.kind hk (ok_bi B F.ok N.gl N.bi e eb (fun q => by rw [beq_iff_eq.mpr q] at hx; cases hx) h)) hd
end

/-- a call of a def whose body is known to be the one that runs -/
theorem cspec_fnAt {c : Cx} (B : Bs c) {A : Around} {n : Nat} (R : Rm A n) {σ : Hp} {f : Addr} {fd : FuncData} {body : List Stmt} {args : Args} {P : Value → Hp → Prop} (ns : List Str) (vs : List Value) (rest : List Str) {names : List Str} {vals : List (Option Value)}
    (hf : (KM c.w.params).lookup f = some ({ cls := .type "function", data := .func fd } : Obj)) (hcd : codeIn (KM c.w.params) fd.code fd.qualname = true) (hb : fd.body = .stmts body)
    (hbind : ∀ φ s, Ok c φ σ s → BindsTo s fd args (ns.zip vs)) (hcell : (fd.scope.names.all fun x => x.2 != .cell) = true) (hloc : (ns.all fun x => fd.scope.names.lookup x == some .local) = true)
    (nd : decide names.Nodup = true)
    (h : ∀ φ L s Q E, Fm c φ σ L names vals s → (∀ fl σ' s', P (match fl with | .ret v => v | _ => .none) σ' → Ok c φ σ' s' → Q fl s') →
      _root_.PySem.wpAt c.M (A.deeper (callEnv fd L f)) (.func body (callEnv fd L f)) (execs body (callEnv fd L f)) Q E s)
    (hn : ns ++ rest = names := by rfl) (hv : vs.map some ++ rest.map (fun _ => none) = vals := by rfl) (hlen : ns.length = vs.length := by rfl)
    (hco : fd.scope.isCoroutine = false := by rfl) (hgen : fd.scope.isGenerator = false := by rfl) (hk : fd.scope.kind = .function := by rfl) : CSpec c A σ (.call (.ref f) args) P := by
  intro φ s R' K q
  have X := K.kx B
  have hloc' : ∀ x ∈ ns.zip vs, fd.scope.names.lookup x.1 = some .local := fun x hx => by
    have := List.all_eq_true.mp hloc x.1 (List.of_mem_zip (a := x.1) (b := x.2) hx).1
    exact beq_iff_eq.mp this
  refine ks_codeAny_call_defAt (fd := fd) (body := body) (binds := ns.zip vs) R.room (X _ _ hf) rfl (K.nl B) (codeRec_of X hcd) hb (hbind φ s K) (fun x hx => by simpa using List.all_eq_true.mp hcell x hx) hloc' (fun h₀ hns hkp => ?_) hco hgen hk
  refine h φ s.heap.objs.size _ _ _ ?_ fun fl σ' s' p K' => q _ σ' s' p K'
  have nσ : σ s.heap.objs.size = none := by
    cases z : σ s.heap.objs.size with
    | none => rfl
    | some x => exact absurd (Heap.lt_size (K.own _ _ z)) (Nat.lt_irrefl _)
  have nφ : φ s.heap.objs.size = none := by
    cases z : φ s.heap.objs.size with
    | none => rfl
    | some x => exact absurd (Heap.lt_size (K.fr _ _ z)) (Nat.lt_irrefl _)
  refine ⟨⟨fun b o e n => hkp _ _ (K.old b o e n), fun b o e => hkp _ _ (K.fr b o e), fun b o e => hkp _ _ (K.own b o e), K.dj, K.newσ, K.newφ, fun P hP => ?_, K.gens, K.os⟩, ?_, nσ, nφ, K.ge B⟩
  · obtain ⟨ps, a, b⟩ := K.tab P hP
    exact ⟨ps, hkp _ _ a, b⟩
  · obtain ⟨o, es, ep, a1, a2, a3, a4⟩ := hns
    subst hn hv
    exact ⟨o, es, ep, a1, a2, a3, fun y => (a4 y).trans (zip_vmap hlen (of_decide_eq_true nd) y)⟩

abbrev supObj (x : Addr) : Obj := { cls := .type "super", data := .fields #[.ref 200, .ref x, .ref 200] }
abbrev bndObj (ty id : String) (x : Addr) : Obj := { cls := .type ty, data := .fields #[.builtin id, .ref x] }

theorem get_slot_md : Slot "method_descriptor" "__get__" "method_descriptor.__get__" := .of (owner := "method_descriptor") (n := "__get__") (by rw [typeLookup_type, builtinLookup_eq_fast]; kernel_rfl) (by decide +kernel) (by decide +kernel) (by decide +kernel)
  (by first | exact .inl (by decide +kernel) | exact .inr (by decide +kernel)) (by rw [isSubtype_type]; kernel_rfl)
theorem get_slot_wd : Slot "wrapper_descriptor" "__get__" "wrapper_descriptor.__get__" := .of (owner := "wrapper_descriptor") (n := "__get__") (by rw [typeLookup_type, builtinLookup_eq_fast]; kernel_rfl) (by decide +kernel) (by decide +kernel) (by decide +kernel)
  (by first | exact .inl (by decide +kernel) | exact .inr (by decide +kernel)) (by rw [isSubtype_type]; kernel_rfl)
theorem get_entry_md : entryFor table "method_descriptor.__get__" = some Builtin.«method_descriptor.__get__» := entryFor_of_tree (by kernel_rfl)
theorem get_entry_wd : entryFor table "wrapper_descriptor.__get__" = some Builtin.«wrapper_descriptor.__get__» := entryFor_of_tree (by kernel_rfl)
theorem get_args_md (a b c : Value) : argsOk "method_descriptor.__get__" ⟨[a, b, c], []⟩ := by unfold argsOk; kernel_rfl
theorem get_args_wd (a b c : Value) : argsOk "wrapper_descriptor.__get__" ⟨[a, b, c], []⟩ := by unfold argsOk; kernel_rfl

/-- the check of the instance; what follows where it fails is left open -/
def chkT (bad : Sem Unit) (x : Addr) : Sem Unit := do
  if !(← isInstance (.ref x) (.type "list")) then bad
set_option maxHeartbeats 1000000 in
theorem run_pop (x C : Addr) : ∃ bad : Sem Unit, Builtin.«method_descriptor.__get__» ⟨[.builtin "list.pop", .ref x, .ref C], []⟩ = (do chkT bad x; ret (← newFields "builtin_function_or_method" [.builtin "list.pop", .ref x])) := ⟨_, by with_unfolding_all rfl⟩
set_option maxHeartbeats 1000000 in
theorem run_len (x C : Addr) : ∃ bad : Sem Unit, Builtin.«wrapper_descriptor.__get__» ⟨[.builtin "list.__len__", .ref x, .ref C], []⟩ = (do chkT bad x; ret (← newFields "method-wrapper" [.builtin "list.__len__", .ref x])) := ⟨_, by with_unfolding_all rfl⟩
set_option maxHeartbeats 1000000 in
theorem run_init (x C : Addr) : ∃ bad : Sem Unit, Builtin.«wrapper_descriptor.__get__» ⟨[.builtin "list.__init__", .ref x, .ref C], []⟩ = (do chkT bad x; ret (← newFields "method-wrapper" [.builtin "list.__init__", .ref x])) := ⟨_, by with_unfolding_all rfl⟩
theorem chk_ok {M : Model} {A : Around} {E : Value → Shared → Prop} {s : Shared} {bad : Sem Unit} {x : Addr} {Q : Unit → Shared → Prop} (h : Looks M s.heap (isInstance (.ref x) (.type "list")) true) (q : Q () s) : wpAny M A (chkT bad x) Q E s := by
  unfold chkT
  refine wpAny_bind (h.here ?_)
  exact wpAny_pure q

section
variable {c : Cx} {A : Around} {E : Value → Shared → Prop} {h : Heap} {g : Array GenState} {d : Drawn} {t : Nat} {os : OsState}
theorem super_ga {so x : Addr} {name : Str} {tk : Tok} {id T gid : String} {Q : Fin → Shared → Prop} (X : (KM c.w.params).In h)
    (hso : h.get? so = some (supObj x)) (hx : x ≠ 200) (hf : alongIn (KM c.w.params) name [.type "list", .type "object"] = some (some (.builtin id))) (hn : (name == ("__class__" : Str)) = false)
    (hT : typeOf (.builtin id) = pure (.type T)) (hg : typeLookup (.type T) "__get__" = pure (some (.builtin gid)))
    (hq : wpAny c.M A (call (.builtin gid) [.builtin id, .ref x, .ref 200]) (fun v s' => Q (.done (.ret v)) s') E ⟨h, g, d, t, os⟩) :
    wpAny c.M A (Builtin.«super.__getattribute__» ⟨[.ref so, .str name tk], []⟩) Q E ⟨h, g, d, t, os⟩ := by
  have hne : (Value.ref x == Value.ref 200) = false := by simpa using hx
  have hdt : (supObj x).data = .fields #[.ref 200, .ref x, .ref 200] := rfl
  have f0 : (#[.ref 200, .ref x, .ref 200] : Array Value)[0]? = some (.ref 200) := rfl
  have f1 : (#[.ref 200, .ref x, .ref 200] : Array Value)[1]? = some (.ref x) := rfl
  have f2 : (#[.ref 200, .ref x, .ref 200] : Array Value)[2]? = some (.ref 200) := rfl
  have hno : Looks c.M h (opaqueClassAbove (.ref 200)) none := looks_opaque X (by kernel_rfl)
  obtain ⟨cd, hcd, _, hm⟩ := mro200 c.w.params
  have hC : Looks c.M h (mroOf (.ref 200)) [.ref 200, .type "list", .type "object"] := hm ▸ (looks_clsIn X hcd).andThen .now
  have hl : (([.ref 200, .type "list", .type "object"] : List Value).dropWhile (· != .ref 200)).drop 1 = [.type "list", .type "object"] := by decide +kernel
  unfold Builtin.«super.__getattribute__»
  refine wpAny_bind (wpAny_pure ?_)
  dsimp only
  rw [if_neg (by simp)]
  refine wpAny_bind (wpAny_pure ?_)
  dsimp only
  refine wpAny_bind (wpAny_field hso hdt f0 (wpAny_bind (wpAny_field hso hdt f1 (wpAny_bind (wpAny_field hso hdt f2 ?_)))))
  have hc : (Value.ref 200 == Value.none || name == Str.ofString "__class__") = false := by rw [hn]; rfl
  rw [hc, if_neg (by decide)]
  refine wpAny_bind (ks_wpAny_notOpaque hno ?_)
  rw [if_neg (by decide)]
  refine wpAny_bind (Looks.at hC ?_)
  rw [hl]
  refine wpAny_bind (ks_forIn_along X (fun _ _ => rfl) rfl ?_ hf)
  dsimp only
  refine wpAny_bind (wpAny_of_eq hT (wpAny_bind (wpAny_of_eq hg ?_)))
  dsimp only
  rw [hne, if_neg (by decide)]
  refine wpAny_bind (wpAny_holding (wpAny_mono hq (fun v s' z => ?_) fun _ _ z => z))
  exact wpAny_bind (wpAny_pure (wpAny_pure (wpAny_pure z)))

/-- super().name, a built-in's: the bound thing -/
theorem super_method {so x : Addr} {name : Str} {id T gid ty : String} {bg : Builtin} {pl : Sem Bool} {Q : Value × List Value → Shared → Prop} (X : (KM c.w.params).In h)
    (hso : h.get? so = some (supObj x)) (hx : x ≠ 200) (hxl : Looks c.M h (isInstance (.ref x) (.type "list")) true) (hf : alongIn (KM c.w.params) name [.type "list", .type "object"] = some (some (.builtin id))) (hn : (name == ("__class__" : Str)) = false)
    (hT : typeOf (.builtin id) = pure (.type T)) (S : Slot T "__get__" gid) (he : entryFor table gid = some bg) (ha : argsOk gid ⟨[.builtin id, .ref x, .ref 200], []⟩) (hty : (⟨h, g, d, t + 1, os⟩ : Shared).TypeIs (.builtin id) T)
    (hb : ∃ bad : Sem Unit, bg ⟨[.builtin id, .ref x, .ref 200], []⟩ = (do chkT bad x; ret (← newFields ty [.builtin id, .ref x])))
    (hq : Q (.ref h.objs.size, []) ⟨h.push (bndObj ty id x), g, d, t + 1, os⟩) :
    wpAny c.M A (getMethod (.ref so) name pl) Q E ⟨h, g, d, t, os⟩ := by
  obtain ⟨bad, hb⟩ := hb
  have hlk := F.ks_slot_super_ga.lookup
  have hcan := F.ks_canon_super_ga
  have hTs : ∀ t', (⟨h, g, d, t', os⟩ : Shared).TypeIs (.ref so) "super" := fun _ => ⟨_, hso, rfl⟩
  unfold getMethod
  refine wpAny_bind (wpAny_specialOf (hTs _) hlk ?_)
  show wpAny _ _ (if (Manifest.canonical "super.__getattribute__" != "object.__getattribute__") = true then _ else _) _ _ _
  rw [if_pos hcan]
  unfold getAttr getAttrBy
  refine wpAny_bind (wpAny_bind (wpAny_mkText (wpAny_holding (wpAny_bind (wpAny_typeOf (hTs _) (wpAny_bind (wpAny_of_eq hlk ?_)))))))
  show wpAny _ _ (getAttrByItsOwn (.ref so) (.str name t) (.type "super") (.builtin "super.__getattribute__") true false) _ _ _
  unfold getAttrByItsOwn hookBefore callGetattribute boundAndCalled
  refine wpAny_bind (wpAny_of_eq (show (if onTheHeap (.type "super") then typeLookup (.type "super") "__getattr__" else pure none) = pure none from rfl) ?_)
  refine wpAny_bind (wpAny_attempt (wpAny_holding ?_))
  show wpAny _ _ (bindSpecial (.builtin "super.__getattribute__") (.ref so) >>= _) _ _ _
  refine wpAny_bind (wpAny_of_eq (F.ks_slot_super_ga.bind _) ?_)
  refine wpAny_mono (Q := fun v s' => v = .ref h.objs.size ∧ s' = ⟨h.push (bndObj ty id x), g, d, t + 1, os⟩) (E := fun _ _ => False)
    (wpAny_call_entry F.ks_slot_super_ga (hTs _) F.ks_entry_super_ga (super_ga X hso hx hf hn hT S.lookup ?_) (F.ks_gaArgs_super _ _)) (fun v s' hv => ?_) fun _ _ z => z.elim
  · refine wpAny_call_entry S hty he ?_ ha
    rw [hb]
    refine wpAny_bind (chk_ok hxl (wpAny_bind (wpAny_newObj_type ?_ (by size_fits))))
    exact wpAny_pure ⟨_, rfl, _, rfl, rfl, rfl⟩
  · obtain ⟨rfl, rfl⟩ := hv
    exact wpAny_pure (wpAny_pure hq)
end

end

section
open PySem.F

theorem Ok.grow {c : Cx} {φ σ : Hp} {s s' : Shared} (K : Ok c φ σ s) (k : ∀ b o, s.heap.get? b = some o → s'.heap.get? b = some o) (hg : s'.gens = s.gens) (ho : s'.os = s.os) : Ok c φ σ s' :=
  ⟨fun b o e n => k _ _ (K.old b o e n), fun b o e => k _ _ (K.fr b o e), fun b o e => k _ _ (K.own b o e), K.dj, K.newσ, K.newφ, fun P hP => let ⟨ps, a, b⟩ := K.tab P hP; ⟨ps, k _ _ a, b⟩, hg ▸ K.gens, ho.trans K.os⟩
theorem Ok.grow1 {c : Cx} (B : Bs c) {φ σ : Hp} {s s' : Shared} {a : Addr} {o : Obj} (K : Ok c φ σ s) (ha : a = s.heap.objs.size) (hao : s'.heap.get? a = some o) (k : ∀ b o, s.heap.get? b = some o → s'.heap.get? b = some o) (hg : s'.gens = s.gens) (ho : s'.os = s.os) :
    σ a = none ∧ Ok c φ (upd σ a o) s' := by
  subst ha
  have nσ : σ s.heap.objs.size = none := by
    cases z : σ s.heap.objs.size with
    | none => rfl
    | some x => exact absurd (Heap.lt_size (K.own _ _ z)) (Nat.lt_irrefl _)
  have nφ : φ s.heap.objs.size = none := by
    cases z : φ s.heap.objs.size with
    | none => rfl
    | some x => exact absurd (Heap.lt_size (K.fr _ _ z)) (Nat.lt_irrefl _)
  have G := K.grow k hg ho
  refine ⟨nσ, G.old, G.fr, fun b x e => ?_, fun b x e => ?_, fun b x e => ?_, G.newφ, G.tab, G.gens, G.os⟩
  · unfold upd at e
    split at e
    · rename_i q; cases e; rw [q]; exact hao
    · exact G.own b x e
  · unfold upd at e
    split at e
    · rename_i q; rw [q]; exact nφ
    · exact K.dj b x e
  · unfold upd at e
    split at e
    · rename_i q; rw [q]; exact K.ge B
    · exact K.newσ b x e
theorem Fm.spec {c : Cx} {A : Around} {φ σ : Hp} {α : Type} {t : Sem α} {P : α → Hp → Prop} {L : Addr} {names : List Str} {vals : List (Option Value)} {s : Shared} {Q : α → Shared → Prop} {E : Value → Shared → Prop}
    (F : Fm c φ σ L names vals s) (h : Spec c A σ t P) (k : ∀ v σ' s', P v σ' → Fm c φ σ' L names vals s' → Q v s') : wpAny c.M A t Q E s := h.run F k

/-- the same, by the kind of what is handed on -/
theorem Fm.specT {c : Cx} {A : Around} {φ σ : Hp} {t : Sem Value} {L : Addr} {names : List Str} {vals : List (Option Value)} {s : Shared} {Q : Value → Shared → Prop} {E : Value → Shared → Prop} (F : Fm c φ σ L names vals s) {f : Tok → Value} (h : Spec c A σ t (fun v σ' => (∃ u, v = f u) ∧ σ = σ')) (k : ∀ u s', Fm c φ σ L names vals s' → Q (f u) s') : wpAny c.M A t Q E s :=
  F.spec h (by rintro _ _ s ⟨⟨u, rfl⟩, rfl⟩ F; exact k u s F)
theorem Fm.specE {c : Cx} {A : Around} {φ σ : Hp} {α : Type} {t : Sem α} {L : Addr} {names : List Str} {vals : List (Option Value)} {s : Shared} {Q : α → Shared → Prop} {E : Value → Shared → Prop} (F : Fm c φ σ L names vals s) {x : α} (h : Spec c A σ t (fun v σ' => x = v ∧ σ = σ')) (k : ∀ s', Fm c φ σ L names vals s' → Q x s') : wpAny c.M A t Q E s :=
  F.spec h (by rintro _ _ s ⟨rfl, rfl⟩ F; exact k s F)
theorem Fm.specV {c : Cx} {A : Around} {φ σ : Hp} {α : Type} {t : Sem α} {L : Addr} {names : List Str} {vals : List (Option Value)} {s : Shared} {Q : α → Shared → Prop} {E : Value → Shared → Prop} (F : Fm c φ σ L names vals s) {x : α} (h : Spec c A σ t (fun v σ' => v = x ∧ σ = σ')) (k : ∀ s', Fm c φ σ L names vals s' → Q x s') : wpAny c.M A t Q E s :=
  F.spec h (by rintro _ _ s ⟨rfl, rfl⟩ F; exact k s F)
theorem Fm.specA {c : Cx} {A : Around} {φ σ : Hp} {t : Sem Value} {L : Addr} {names : List Str} {vals : List (Option Value)} {s : Shared} {Q : Value → Shared → Prop} {E : Value → Shared → Prop} (F : Fm c φ σ L names vals s) {G : Addr → Hp → Prop} (h : Spec c A σ t (fun v σ' => ∃ r, v = .ref r ∧ G r σ')) (k : ∀ r σ' s', G r σ' → Fm c φ σ' L names vals s' → Q (.ref r) s') : wpAny c.M A t Q E s :=
  F.spec h (by rintro _ σ' s ⟨r, rfl, g⟩ F; exact k r σ' s g F)
theorem Fm.specG {c : Cx} {A : Around} {φ σ : Hp} {t : Sem Value} {L : Addr} {names : List Str} {vals : List (Option Value)} {s : Shared} {Q : Value → Shared → Prop} {E : Value → Shared → Prop} (F : Fm c φ σ L names vals s) {x : Value} {G : Hp → Prop} (h : Spec c A σ t (fun v σ' => v = x ∧ G σ')) (k : ∀ σ' s', G σ' → Fm c φ σ' L names vals s' → Q x s') : wpAny c.M A t Q E s :=
  F.spec h (by rintro _ σ' s ⟨rfl, g⟩ F; exact k σ' s g F)
theorem Fm.specU {c : Cx} {A : Around} {φ σ : Hp} {α : Type} {t : Sem α} {L : Addr} {names : List Str} {vals : List (Option Value)} {s : Shared} {Q : α → Shared → Prop} {E : Value → Shared → Prop} (F : Fm c φ σ L names vals s) {G : Nat → Hp → Prop} (h : Spec c A σ t (fun _ σ' => ∃ n, G n σ')) (k : ∀ v n σ' s', G n σ' → Fm c φ σ' L names vals s' → Q v s') : wpAny c.M A t Q E s :=
  F.spec h (by rintro v σ' s ⟨n, g⟩ F; exact k v n σ' s g F)
theorem Fm.specTup {c : Cx} {A : Around} {φ σ : Hp} {t : Sem Value} {L : Addr} {names : List Str} {vals : List (Option Value)} {s : Shared} {Q : Value → Shared → Prop} {E : Value → Shared → Prop} (F : Fm c φ σ L names vals s) {p : Str × Str} (h : Spec c A σ t (fun v σ' => TupAt σ v p ∧ σ = σ')) (k : ∀ b u1 u2 s', σ b = some (tObj [.str p.1 u1, .str p.2 u2]) → Fm c φ σ L names vals s' → Q (.ref b) s') : wpAny c.M A t Q E s :=
  F.spec h (by rintro _ _ s ⟨⟨b, u1, u2, rfl, hb⟩, rfl⟩ F; exact k b u1 u2 s hb F)
theorem Fm.specPop {c : Cx} {A : Around} {φ σ : Hp} {t : Sem Value} {L : Addr} {names : List Str} {vals : List (Option Value)} {s : Shared} {Q : Value → Shared → Prop} {E : Value → Shared → Prop} (F : Fm c φ σ L names vals s) {G : Str × Str → List (Str × Str) → Hp → Prop} (h : Spec c A σ t (fun v σ' => ∃ p ps', TupAt σ' v p ∧ G p ps' σ')) (k : ∀ p ps' b t1 t2 σ' s', σ' b = some (tObj [.str p.1 t1, .str p.2 t2]) → G p ps' σ' → Fm c φ σ' L names vals s' → Q (.ref b) s') : wpAny c.M A t Q E s :=
  F.spec h (by rintro _ σ' s ⟨p, ps', ⟨b, t1, t2, rfl, hb⟩, g⟩ F; exact k p ps' b t1 t2 σ' s hb g F)
theorem Fm.specR3 {c : Cx} {A : Around} {φ σ : Hp} {t : Sem Value} {L : Addr} {names : List Str} {vals : List (Option Value)} {s : Shared} {Q : Value → Shared → Prop} {E : Value → Shared → Prop} (F : Fm c φ σ L names vals s) {G : Addr → Addr → Addr → Hp → Prop} (h : Spec c A σ t (fun v σ' => ∃ x y z, v = .ref x ∧ G x y z σ')) (k : ∀ x y z σ' s', G x y z σ' → Fm c φ σ' L names vals s' → Q (.ref x) s') : wpAny c.M A t Q E s :=
  F.spec h (by rintro _ σ' s ⟨x, y, z, rfl, g⟩ F; exact k x y z σ' s g F)
theorem Fm.specR4 {c : Cx} {A : Around} {φ σ : Hp} {t : Sem Value} {L : Addr} {names : List Str} {vals : List (Option Value)} {s : Shared} {Q : Value → Shared → Prop} {E : Value → Shared → Prop} (F : Fm c φ σ L names vals s) {G : Addr → Tok → Tok → Tok → Hp → Prop} (h : Spec c A σ t (fun v σ' => ∃ x t u w, v = .ref x ∧ G x t u w σ')) (k : ∀ x t u w σ' s', G x t u w σ' → Fm c φ σ' L names vals s' → Q (.ref x) s') : wpAny c.M A t Q E s :=
  F.spec h (by rintro _ σ' s ⟨x, t, u, w, rfl, g⟩ F; exact k x t u w σ' s g F)
theorem Fm.specR5 {c : Cx} {A : Around} {φ σ : Hp} {t : Sem Value} {L : Addr} {names : List Str} {vals : List (Option Value)} {s : Shared} {Q : Value → Shared → Prop} {E : Value → Shared → Prop} (F : Fm c φ σ L names vals s) {G : Addr → Addr → Addr → Addr → Addr → Hp → Prop} (h : Spec c A σ t (fun v σ' => ∃ f df l a d, v = .ref f ∧ G f df l a d σ')) (k : ∀ f df l a d σ' s', G f df l a d σ' → Fm c φ σ' L names vals s' → Q (.ref f) s') : wpAny c.M A t Q E s :=
  F.spec h (by rintro _ σ' s ⟨f, df, l, a, d, rfl, g⟩ F; exact k f df l a d σ' s g F)
theorem Fm.specN {c : Cx} {A : Around} {φ σ : Hp} {t : Sem Value} {L : Addr} {names : List Str} {vals : List (Option Value)} {s : Shared} {Q : Value → Shared → Prop} {E : Value → Shared → Prop} (F : Fm c φ σ L names vals s) {x : Value} {G : Nat → Hp → Prop} (h : Spec c A σ t (fun v σ' => v = x ∧ ∃ n, G n σ')) (k : ∀ n σ' s', G n σ' → Fm c φ σ' L names vals s' → Q x s') : wpAny c.M A t Q E s :=
  F.spec h (by rintro _ σ' s ⟨rfl, n, g⟩ F; exact k n σ' s g F)
theorem Fm.specTM {c : Cx} {A : Around} {φ σ : Hp} {t : Sem Value} {L : Addr} {names : List Str} {vals : List (Option Value)} {s : Shared} {Q : Value → Shared → Prop} {E : Value → Shared → Prop} (F : Fm c φ σ L names vals s) {f : Tok → Value} {G : Hp → Prop} (h : Spec c A σ t (fun v σ' => (∃ u, v = f u) ∧ G σ')) (k : ∀ u σ' s', G σ' → Fm c φ σ' L names vals s' → Q (f u) s') : wpAny c.M A t Q E s :=
  F.spec h (by rintro _ σ' s ⟨⟨u, rfl⟩, g⟩ F; exact k u σ' s g F)
/-- what the class's own super() finds -/
structure SupAttr (c : Cx) (name : Str) (id ty : String) : Prop where
  find : alongIn (KM c.w.params) name [.type "list", .type "object"] = some (some (.builtin id))
  nc : (name == ("__class__" : Str)) = false
  bind : ∃ T gid bg, typeOf (.builtin id) = pure (.type T) ∧ Slot T "__get__" gid ∧ entryFor table gid = some bg ∧ (∀ x : Addr, argsOk gid ⟨[.builtin id, .ref x, .ref 200], []⟩) ∧ (∀ s : Shared, s.TypeIs (.builtin id) T) ∧
    ∀ x : Addr, ∃ bad : Sem Unit, bg ⟨[.builtin id, .ref x, .ref 200], []⟩ = (do chkT bad x; ret (← newFields ty [.builtin id, .ref x]))
  ty : ty = "builtin_function_or_method" ∨ ty = "method-wrapper"
  chk : ∀ (h : Heap) (x : Addr) (o : Obj), (KM c.w.params).In h → h.get? x = some o → o.cls = .ref 200 → notCls o = true → Looks c.M h (checkBoundCall id ⟨[.ref x], []⟩) ()
  pl : plainId id = true

theorem typeIs_builtin {id T : String} (h : typeOf (.builtin id) = pure (.type T)) (s : Shared) : s.TypeIs (.builtin id) T := h

theorem sig_len (x : Addr) : (Manifest.signature? "list.__len__").map (fun sig => Bind.checkArgs "list.__len__" sig ⟨[.ref x], []⟩) = some (pure ()) := by kernel_rfl
theorem sig_init (x : Addr) : (Manifest.signature? "list.__init__").map (fun sig => Bind.checkArgs "list.__init__" sig ⟨[.ref x], []⟩) = some (pure ()) := by kernel_rfl
theorem sig_pop (x : Addr) : (Manifest.signature? "list.pop").map (fun sig => Bind.checkArgs "list.pop" { sig with full := s!"{"_Accumulator"}.{Bind.lastOf "list.pop"}" } ⟨[.ref x], []⟩) = some (pure ()) := by kernel_rfl
theorem type_len : typeOf (.builtin "list.__len__") = pure (.type "wrapper_descriptor") := by show builtinType _ = _; rw [builtinType_eq_fast]; kernel_rfl
theorem type_init : typeOf (.builtin "list.__init__") = pure (.type "wrapper_descriptor") := by show builtinType _ = _; rw [builtinType_eq_fast]; kernel_rfl

theorem bound_slot {c : Cx} {id : String} {x : Addr} {h : Heap} (h1 : (Manifest.signature? id).map (fun sig => Bind.checkArgs id sig ⟨[.ref x], []⟩) = some (pure ())) (h2 : builtinKind id = some .slot) : Looks c.M h (checkBoundCall id ⟨[.ref x], []⟩) () := by
  obtain ⟨sig, h1, h3⟩ := Option.map_eq_some_iff.mp h1
  refine Looks.of_pure ?_
  unfold checkBoundCall
  rw [h1, h2]
  exact h3
theorem kd_len : builtinKind "list.__len__" = some .slot := by decide +kernel
theorem kd_init : builtinKind "list.__init__" = some .slot := by decide +kernel
theorem bd_len (c : Cx) (h : Heap) (x : Addr) : Looks c.M h (checkBoundCall "list.__len__" ⟨[.ref x], []⟩) () := @bound_slot c "list.__len__" x h (sig_len x) kd_len
theorem bd_init (c : Cx) (h : Heap) (x : Addr) : Looks c.M h (checkBoundCall "list.__init__" ⟨[.ref x], []⟩) () := @bound_slot c "list.__init__" x h (sig_init x) kd_init
theorem pl_len : plainId "list.__len__" = true := by decide +kernel
theorem pl_init : plainId "list.__init__" = true := by decide +kernel
theorem pl_pop : plainId "list.pop" = true := by decide +kernel
theorem sup_len (c : Cx) : SupAttr c "__len__" "list.__len__" "method-wrapper" :=
  ⟨by kernel_rfl, by decide +kernel, ⟨"wrapper_descriptor", "wrapper_descriptor.__get__", Builtin.«wrapper_descriptor.__get__», type_len, get_slot_wd, get_entry_wd, fun x => get_args_wd (.builtin "list.__len__") (.ref x) (.ref 200), typeIs_builtin type_len, fun x => run_len x 200⟩, .inr rfl, fun h x _ _ _ _ _ => bd_len c h x, pl_len⟩
theorem sup_init (c : Cx) : SupAttr c "__init__" "list.__init__" "method-wrapper" :=
  ⟨by kernel_rfl, by decide +kernel, ⟨"wrapper_descriptor", "wrapper_descriptor.__get__", Builtin.«wrapper_descriptor.__get__», type_init, get_slot_wd, get_entry_wd, fun x => get_args_wd (.builtin "list.__init__") (.ref x) (.ref 200), typeIs_builtin type_init, fun x => run_init x 200⟩, .inr rfl, fun h x _ _ _ _ _ => bd_init c h x, pl_init⟩
theorem type_200 (P : Params) : typeIn (KM P) (.ref 200) = some (.type "type") := by kernel_rfl
theorem qual_200 (P : Params) : (clsIn (KM P) 200).map (·.qualname.toString) = some "_Accumulator" := by kernel_rfl
theorem sup_pop (c : Cx) : SupAttr c "pop" "list.pop" "builtin_function_or_method" := by
  refine ⟨by kernel_rfl, by decide +kernel, ⟨"method_descriptor", "method_descriptor.__get__", Builtin.«method_descriptor.__get__», PySem.F.type_list_pop, get_slot_md, get_entry_md, fun x => get_args_md (.builtin "list.pop") (.ref x) (.ref 200), typeIs_builtin PySem.F.type_list_pop, fun x => run_pop x 200⟩, .inl rfl, fun h x o X ho hc hn => ?_, pl_pop⟩
  have T : Looks c.M h (typeOf (.ref x)) (.ref 200) := hc ▸ (Looks.ld ho).andThen .now
  obtain ⟨cd, hcd, hq⟩ := Option.map_eq_some_iff.mp (qual_200 c.w.params)
  unfold checkBoundCall
  obtain ⟨sig, h1, h3⟩ := Option.map_eq_some_iff.mp (sig_pop x)
  rw [h1, show builtinKind "list.pop" = some .method by decide +kernel]
  dsimp only
  rw [if_neg (by decide +kernel)]
  refine (show Looks c.M h (isInstance (.ref x) (.type "module")) false from T.andThen (looks_mroIn X (by kernel_rfl))).andThen ?_
  rw [if_neg (by decide +kernel)]
  have it : Looks c.M h (isType (.ref x)) false := by
    refine (Looks.ld ho).andThen ?_
    obtain ⟨oc, od, dt, sl⟩ := o
    cases dt <;> first | exact .now | cases hn
  refine it.andThen ?_
  rw [if_neg (by decide)]
  refine T.andThen ?_
  dsimp only
  refine (looks_clsIn X hcd).andThen ?_
  refine (looks_typeIn X (type_200 _)).andThen ?_
  rw [if_pos (by decide), hq]
  exact Looks.of_pure h3

section
variable {c : Cx} {A : Around} {E : Value → Shared → Prop} {s : Shared} {φ σ : Hp} {L : Addr} {names : List Str} {vals : List (Option Value)}
/-- the call of the bound thing -/
theorem spec_bound (B : Bs c) {id ty : String} {name : Str} {x d b : Addr} {xs : List Value} {n : Nat} {P : Value → Hp → Prop} (U : SupAttr c name id ty) (S : Sq σ x (.ref 200) (some d) xs n) (hb : σ b = some (bndObj ty id x)) (h : CSpec c A σ (.builtin id ⟨[.ref x], []⟩) P) : Spec c A σ (call (.ref b) []) P := by
  refine spec_call fun φ s R K q => ?_
  refine codeAny_of_tree ?_
  show wpAny _ A.in1 (callAny (.ref b) ⟨[], []⟩) _ _ s
  unfold callAny
  refine wpAny_bind (wpAny_load (K.own _ _ hb) ?_)
  have e : ((bndObj ty id x).cls == Value.type "method" || (bndObj ty id x).cls == Value.type "builtin_function_or_method" || (bndObj ty id x).cls == Value.type "method-wrapper") = true := by rcases U.ty with rfl | rfl <;> rfl
  have e' : ((bndObj ty id x).cls != Value.type "method") = true := by rcases U.ty with rfl | rfl <;> rfl
  dsimp only at e e' ⊢
  rw [e, if_pos rfl]
  show wpAny _ _ (if (Value.type ty != Value.type "method") = true then _ else _) _ _ _
  rw [e', if_pos rfl]
  refine wpAny_bind ((U.chk _ _ _ (K.kx B) (K.own _ _ S.at_) rfl rfl).here ?_)
  exact wpAny_pure ⟨plainId_quiet U.pl _, h φ s R K q⟩

theorem keeper_bound {id ty : String} {x b : Addr} {h : Heap} (hty : ty = "builtin_function_or_method" ∨ ty = "method-wrapper") (hb : h.get? b = some (bndObj ty id x)) : ∃ k, (k = Keeper.frame ∨ k = Keeper.machine ∨ k = Keeper.boundFrame) ∧ Looks c.M h (keeperOf (.ref b)) k := by
  refine ⟨.machine, .inr (.inl rfl), (Looks.ld (part := none) hb).andThen ?_⟩
  rcases hty with rfl | rfl <;> exact .now
end

end

section
open PySem.F

theorem super_file : ((PR.main.file : Str) == (Str.ofString "/claim/cut.py")) = true := by kernel_rfl
theorem super_top : (PR.main.scope.names.lookup ("super" : Str)).isSome = false := by kernel_rfl
theorem super_glob (P : Params) : nsIn (KM P) mainGlobals "super" = some none := by kernel_rfl
theorem super_boot : bootBuiltins "super" = some (.type "super") := by decide +kernel
theorem cell124 (P : Params) : (KM P).lookup 124 = some ({ cls := .type "cell", data := .cell (some (.ref 200)) } : Obj) := by kernel_rfl
theorem cls200_at (P : Params) : ((KM P).lookup 200).isSome = true := by kernel_rfl

/-- a def that calls super() -/
structure SupFn (c : Cx) (fd : FuncData) (f cd : Addr) : Prop where
  at_ : (KM c.w.params).lookup f = some ({ cls := .type "function", data := .func fd } : Obj)
  ks : fd.scope.names.lookup ("super" : Str) = some .globalImplicit
  kc : fd.scope.names.lookup ("__class__" : Str) = some .free
  ar : ((fd.params.posonlyargs ++ fd.params.args).head?).map (·.arg) = some ("self" : Str)
  code : fd.code = .ref cd
  cdo : ∃ o vs t, (KM c.w.params).lookup cd = some o ∧ o.data = .fields vs ∧ vs[2]? = some (.str (Str.ofString "/claim/cut.py") t)
  cl : fd.closure.lookup ("__class__" : Str) = some 124

section
variable {c : Cx} {A : Around} {E : Value → Shared → Prop} {s : Shared} {φ σ : Hp} {L : Addr} {names : List Str} {vals : List (Option Value)}
theorem r_super {body : List Stmt} {p0 p1 apos pos : Pos} {fd : FuncData} {f cd x d : Addr} {name : Str} {id ty : String} {xs : List Value} {n : Nat} {P : Value → Hp → Prop} {Q : Value → Shared → Prop} (B : Bs c) (N : Fn (callEnv fd L f) L names) (F : Fm c φ σ L names vals s)
    (U : SupAttr c name id ty) (V : SupFn c fd f cd) (h0 : names[0]? = some ("self" : Str)) (hv : vals[0]? = some (some (.ref x))) (S : Sq σ x (.ref 200) (some d) xs n)
    (h : ∀ σ', (∀ b o, σ b = some o → σ' b = some o) → CSpec c A σ' (.builtin id ⟨[.ref x], []⟩) (fun v σ'' => ∃ σ₀, P v σ₀ ∧ ∀ b o, σ₀ b = some o → σ'' b = some o))
    (k : ∀ v σ' s', P v σ' → Fm c φ σ' L names vals s' → Q v s')
    (he : ∃ pl, eval (.Call (.Attribute (.Call (.Name "super" p0) [] [] p1) name apos) [] [] pos) (callEnv fd L f) = (do
      let ov ← attributeBase (.Call (.Name "super" p0) [] [] p1) name (callEnv fd L f) (eval (.Call (.Name "super" p0) [] [] p1) (callEnv fd L f))
      standAt apos.atName
      let (ff, first) ← holding [ov] (getMethod ov name pl)
      callWith pos ff first (backTo pos (starEach [] (callEnv fd L f))) [])) :
    _root_.PySem.wpAt c.M A (.func body (callEnv fd L f)) (eval (.Call (.Attribute (.Call (.Name "super" p0) [] [] p1) name apos) [] [] pos) (callEnv fd L f)) Q E s := by
  obtain ⟨pl, he⟩ := he
  refine ks_wpAt_MethodCall (pl := pl) ?_ he
  have X := F.ok.kx B
  obtain ⟨ar, hp, har⟩ := Option.map_eq_some_iff.mp V.ar
  obtain ⟨oc, vs, tf, hoc, hod, hov⟩ := V.cdo
  refine ks_wpAt_super_base (ar := ar) (cc := cd) V.ks V.kc U.nc rfl (X _ _ V.at_) rfl hp V.code (X _ _ hoc) hod hov super_file super_top ?_
  refine ks_loadName_global N.kind V.ks (ok_bi B F.ok N.gl N.bi (super_glob _) super_boot (by decide +kernel) ⟨rfl, ?_⟩)
  refine wpAny_loadName_free N.kind V.kc V.cl ⟨_, X _ _ (cell124 _), rfl⟩ ?_
  rw [har]
  refine wpAny_loadName_local N.kind (N.lk _ (List.mem_of_getElem? h0)) (N.loc ▸ F.ns) (vmap_get N.nd h0 hv) ?_
  obtain ⟨cdc, hcd, hhd, hmro⟩ := mro200 c.w.params
  obtain ⟨oD, hD1, hD2⟩ : ∃ oD, s.heap.get? 200 = some oD ∧ oD.data = .cls cdc := by
    unfold clsIn at hcd
    split at hcd
    · rename_i ho
      cases hcd
      exact ⟨_, X _ _ ho, rfl⟩
    · cases hcd
  have hx : x ≠ 200 := fun e => absurd (show (224 : Nat) ≤ 200 from e ▸ F.ok.newσ _ _ S.at_) (by decide)
  have hxo := F.ok.own _ _ S.at_
  have K := F.ok
  have Ns := F.ns
  have o1 := F.outσ
  have o2 := F.outφ
  have o3 := F.hi
  obtain ⟨hh, g, dd, t, os⟩ := s
  refine ks_wpAny_isType_cls hD1 hD2 ⟨rfl, ?_⟩
  refine ks_wpAny_call_super hD1 hD2 hxo rfl (fun _ e => by cases e) (looks_mroIn X (by kernel_rfl)) (fun h' e kp => ?_)
  obtain ⟨n1, K1⟩ := Ok.grow1 (s' := ⟨h', g, dd, t, os⟩) B K rfl e kp rfl rfl
  have S1 : Sq (upd σ hh.objs.size (supObj x)) x (.ref 200) (some d) xs n := ⟨upd_ext n1 _ _ S.at_, S.lc⟩
  have X1 := K1.kx B
  have N1 : h'.Ns L (vmap names vals) := Ns.keeps kp
  have L1 : L < hh.objs.size := Ns.lt
  obtain ⟨T, gid, bg, b1, b2, b3, b4, b5, b6⟩ := U.bind
  refine super_method (so := hh.objs.size) X1 e hx (S1.isList B K1) U.find U.nc b1 b2 b3 (b4 x) (b5 _) (b6 x) ?_
  have K1' := K1.toks (t + 1)
  obtain ⟨n2, K2⟩ := Ok.grow1 (s' := ⟨h'.push (bndObj ty id x), g, dd, t + 1, os⟩) (o := bndObj ty id x) B K1' rfl (Heap.get?_push_size _ rfl) (fun b o z => Heap.get?_push_of_some _ z) rfl rfl
  have F2 : Fm c φ (upd (upd σ hh.objs.size (supObj x)) h'.objs.size (bndObj ty id x)) L names vals ⟨h'.push (bndObj ty id x), g, dd, t + 1, os⟩ := by
    refine ⟨K2, N1.push _, ?_, o2, o3⟩
    rw [upd_ne, upd_ne]; exact o1
    · exact Nat.ne_of_lt L1
    · exact Nat.ne_of_lt N1.lt
  have hb : (upd (upd σ hh.objs.size (supObj x)) h'.objs.size (bndObj ty id x)) h'.objs.size = some (bndObj ty id x) := upd_same ..
  have S2 : Sq (upd (upd σ hh.objs.size (supObj x)) h'.objs.size (bndObj ty id x)) x (.ref 200) (some d) xs n := ⟨upd_ext n2 _ _ S1.at_, S.lc⟩
  refine callWith_of (P := fun h => h.get? h'.objs.size = some (bndObj ty id x)) rfl (fun _ z => keeper_bound U.ty z) (evalArgs_nil3 ⟨Heap.get?_push_size _ rfl, ?_⟩)
  show wpAny c.M A (call (.ref h'.objs.size) []) Q E _
  refine F2.spec (spec_bound B U S2 hb (h _ fun b o z => upd_ext n2 _ _ (upd_ext n1 _ _ z))) ?_
  rintro v σ'' s' ⟨σ₀, p, sub⟩ F3
  refine k v σ₀ s' p ⟨F3.ok.sub sub, F3.ns, ?_, F3.outφ, F3.hi⟩
  cases z : σ₀ L with
  | none => rfl
  | some y => have := sub _ _ z; rw [F3.outσ] at this; cases this
end

end

/-- a value that is an int, a text -/
def IsI (v : Value) (i : Int) : Prop := ∃ t, v = .int i t
def IsS (v : Value) (x : Str) : Prop := ∃ t, v = .str x t

section
variable {c : Cx} {A : Around} {σ : Hp} {a b : Int} {t u : Tok} {x y : Str}
theorem spec_add_int : Spec c A σ (binaryOp .Add (.int a t) (.int b u)) (fun v σ' => IsI v (a + b) ∧ σ = σ') := by intro _ _ _ _ K q; (with_reducible refine P.add_int ?k0); (case k0 => exact (q _ _ _ ⟨⟨_, rfl⟩, rfl⟩ (K.toks _)))
theorem spec_iadd_int : Spec c A σ (inplaceOp .Add (.int a t) (.int b u)) (fun v σ' => IsI v (a + b) ∧ σ = σ') := by intro _ _ _ _ K q; (with_reducible refine P.iadd_int ?k0); (case k0 => exact (q _ _ _ ⟨⟨_, rfl⟩, rfl⟩ (K.toks _)))
theorem spec_sub_int : Spec c A σ (binaryOp .Sub (.int a t) (.int b u)) (fun v σ' => IsI v (a - b) ∧ σ = σ') := by intro _ _ _ _ K q; (with_reducible refine P.sub_int ?k0); (case k0 => exact (q _ _ _ ⟨⟨_, rfl⟩, rfl⟩ (K.toks _)))
theorem spec_mul_int (h : IntMulOk a b) : Spec c A σ (binaryOp .Mult (.int a t) (.int b u)) (fun v σ' => IsI v (a * b) ∧ σ = σ') := by intro _ _ _ _ K q; (with_reducible refine P.mul_int ?k0 ?k2); (case k0 => exact (q _ _ _ ⟨⟨_, rfl⟩, rfl⟩ (K.toks _))); (case k2 => exact h)
theorem spec_mod_int (hb : b ≠ 0) : Spec c A σ (binaryOp .Mod (.int a t) (.int b u)) (fun v σ' => IsI v (a.fmod b) ∧ σ = σ') := by intro _ _ _ _ K q; (with_reducible refine mod_int' hb ?k0); (case k0 => exact (q _ _ _ ⟨⟨_, rfl⟩, rfl⟩ (K.toks _)))
theorem spec_div_int (hb : b ≠ 0) (hl : b.natAbs.log2 < 9000) : Spec c A σ (binaryOp .FloorDiv (.int a t) (.int b u)) (fun v σ' => IsI v (a.fdiv b) ∧ σ = σ') := by intro _ _ _ _ K q; (with_reducible refine floordiv_int hb ?k0 ?k2); (case k0 => exact (q _ _ _ ⟨⟨_, rfl⟩, rfl⟩ (K.toks _))); (case k2 => exact (.inl (PyProof.noPylong_of_log2 hl)))
theorem spec_neg_int : Spec c A σ (unaryOp .USub (.int a t)) (fun v σ' => IsI v (-a) ∧ σ = σ') := by intro _ _ _ _ K q; (with_reducible refine P.neg_int ?k0); (case k0 => exact (q _ _ _ ⟨⟨_, rfl⟩, rfl⟩ (K.toks _)))
theorem spec_eq_int : Spec c A σ (compareOp .Eq (.int a t) (.int b u)) (fun v σ' => v = .bool (decide (a = b)) ∧ σ = σ') := by intro _ _ _ _ K q; (with_reducible refine P.eq_int ?k0); (case k0 => exact (q _ _ _ ⟨by by_cases h : a = b <;> simp [h], rfl⟩ K))
theorem spec_ne_int : Spec c A σ (compareOp .NotEq (.int a t) (.int b u)) (fun v σ' => v = .bool (decide (a ≠ b)) ∧ σ = σ') := by intro _ _ _ _ K q; (with_reducible refine P.ne_int ?k0); (case k0 => exact (q _ _ _ ⟨by by_cases h : a = b <;> simp [h], rfl⟩ K))
theorem spec_lt_int : Spec c A σ (compareOp .Lt (.int a t) (.int b u)) (fun v σ' => v = .bool (decide (a < b)) ∧ σ = σ') := by intro _ _ _ _ K q; (with_reducible refine P.lt_int ?k0); (case k0 => exact (q _ _ _ ⟨rfl, rfl⟩ K))
theorem spec_le_int : Spec c A σ (compareOp .LtE (.int a t) (.int b u)) (fun v σ' => v = .bool (decide (a ≤ b)) ∧ σ = σ') := by intro _ _ _ _ K q; (with_reducible refine P.le_int ?k0); (case k0 => exact (q _ _ _ ⟨rfl, rfl⟩ K))
theorem spec_gt_int : Spec c A σ (compareOp .Gt (.int a t) (.int b u)) (fun v σ' => v = .bool (decide (a > b)) ∧ σ = σ') := by intro _ _ _ _ K q; (with_reducible refine P.gt_int ?k0); (case k0 => exact (q _ _ _ ⟨rfl, rfl⟩ K))
theorem str_beq : (x.cps.toList == y.cps.toList) = decide (x = y) := by
  by_cases h : x = y
  · subst h; simp
  · have : x.cps.toList ≠ y.cps.toList := fun e => h (by cases x; cases y; simp only [Str.mk.injEq]; exact Array.ext' e)
    rw [decide_eq_false h]
    exact beq_eq_false_iff_ne.mpr this
theorem spec_eq_str : Spec c A σ (compareOp .Eq (.str x t) (.str y u)) (fun v σ' => v = .bool (decide (x = y)) ∧ σ = σ') := by intro _ _ _ _ K q; (with_reducible refine P.eq_str ?k0); (case k0 => exact (q _ _ _ ⟨by rw [str_beq], rfl⟩ K))
theorem spec_ne_str : Spec c A σ (compareOp .NotEq (.str x t) (.str y u)) (fun v σ' => v = .bool (decide (x ≠ y)) ∧ σ = σ') := by intro _ _ _ _ K q; (with_reducible refine P.ne_str ?k0); (case k0 => exact (q _ _ _ ⟨by rw [bne, str_beq]; simp, rfl⟩ K))
theorem spec_len_str (h : x.length ≤ sizeLine) : Spec c A σ (call (.builtin "len") [.str x t]) (fun v σ' => IsI v x.length ∧ σ = σ') := by intro _ _ _ _ K q; (with_reducible refine P.len_str ?k1 ?k0); (case k1 => exact (by rw [sizeLine_eq] at h; omega)); (case k0 => exact (q _ _ _ ⟨⟨_, rfl⟩, rfl⟩ (K.toks _)))
theorem spec_truthy_str (h : x.length ≤ sizeLine) : Spec c A σ (truthy (.str x t)) (fun v σ' => v = (decide (x.length ≠ 0)) ∧ σ = σ') := by intro _ _ _ _ K q; (with_reducible refine P.truthy_str ?k1 ?k0); (case k1 => exact (by rw [sizeLine_eq] at h; omega)); (case k0 => exact (q _ _ _ ⟨by simp [bne]; by_cases h : x.length = 0 <;> simp [h], rfl⟩ (K.toks _)))
theorem spec_truthy_bool {b : Bool} : Spec c A σ (truthy (.bool b)) (fun v σ' => v = b ∧ σ = σ') := by intro _ _ _ _ K q; (with_reducible refine wpAny_truthy_bool ?k0); (case k0 => exact (q _ _ _ ⟨rfl, rfl⟩ K))
theorem spec_add_str (h : x.length + y.length ≤ sizeLine) : Spec c A σ (binaryOp .Add (.str x t) (.str y u)) (fun v σ' => IsS v (x ++ y) ∧ σ = σ') := by
  intro φ s Q E K q
  with_reducible refine P.add_str ?_
  by_cases h1 : x.length = 0
  · rw [if_pos (by simpa using h1)]
    refine q _ _ _ ⟨⟨u, ?_⟩, rfl⟩ K
    have : x = Str.empty := by cases x; rename_i c; have : c = #[] := Array.eq_empty_of_size_eq_zero h1; subst this; rfl
    rw [this, Str.empty_append]
  · rw [if_neg (by simpa using h1)]
    by_cases h2 : y.length = 0
    · rw [if_pos (by simpa using h2)]
      refine q _ _ _ ⟨⟨t, ?_⟩, rfl⟩ K
      have : y = Str.empty := by cases y; rename_i c; have : c = #[] := Array.eq_empty_of_size_eq_zero h2; subst this; rfl
      rw [this, Str.append_empty]
    · rw [if_neg (by simpa using h2)]
      exact ⟨by rw [Str.length_append]; exact h, q _ _ _ ⟨⟨_, rfl⟩, rfl⟩ (K.toks _)⟩
theorem spec_isspace : Spec c A σ (call (.builtin "str.isspace") [.str x t]) (fun v σ' => v = .bool (Txt.isspace x) ∧ σ = σ') := by intro _ _ _ _ K q; (with_reducible refine SC.isspace ?k0); (case k0 => exact (q _ _ _ ⟨rfl, rfl⟩ K))
theorem spec_getItem_str {i : Int} {k : Nat} (hr : -(2 ^ 63) ≤ i ∧ i < 2 ^ 63) (hc : (seqIndex? i x.length).bind (x.cps[·]?) = some k) : Spec c A σ (getItem (.str x t) (.int i u)) (fun v σ' => IsS v ⟨#[k]⟩ ∧ σ = σ') := by
  intro _ _ _ _ K q
  with_reducible refine P.getItem_str ?k1 hc ?k2
  (case k1 => rw [decide_eq_false (by omega), decide_eq_false (by omega)]; rfl)
  exact q _ _ _ ⟨⟨_, rfl⟩, rfl⟩ (K.toks _)
theorem spec_const_int {i : Int} {k : Nat} {pos : Pos} {env : Env} : Spec c A σ (eval (.Constant (.int i) k pos) env) (fun v σ' => IsI v i ∧ σ = σ') := by intro _ _ _ _ K q; (with_reducible refine wpAny_Constant_int ?k0); (case k0 => exact (q _ _ _ ⟨⟨_, rfl⟩, rfl⟩ (K.toks _)))
theorem spec_const_str {x : Str} {k : Nat} {pos : Pos} {env : Env} : Spec c A σ (eval (.Constant (.str x) k pos) env) (fun v σ' => IsS v x ∧ σ = σ') := by intro _ _ _ _ K q; (with_reducible refine wpAny_Constant_str ?k0); (case k0 => exact (q _ _ _ ⟨⟨_, rfl⟩, rfl⟩ (K.toks _)))
end


/-- a special method that list and the accumulator share -/
structure LS (name : Str) (id : String) : Prop where
  list : typeLookup (.type "list") name = pure (some (.builtin id))
  acc : ∀ P, findIn (KM P) (.ref 200) name = some (some (.builtin id))
  bind : ∀ self, bindSpecial (.builtin id) self = pure (.builtin id, [self])
theorem ls_getitem : LS "__getitem__" "list.__getitem__" := ⟨F.slot_list_getitem.lookup, fun _ => by kernel_rfl, F.slot_list_getitem.bind⟩
theorem ls_setitem : LS "__setitem__" "list.__setitem__" := ⟨F.slot_list_setitem.lookup, fun _ => by kernel_rfl, F.slot_list_setitem.bind⟩
theorem ls_iter : LS "__iter__" "list.__iter__" := ⟨F.slot_list_iter.lookup, fun _ => by kernel_rfl, F.slot_list_iter.bind⟩

section
variable {c : Cx} {A : Around} {σ : Hp} {a : Addr} {cl : Value} {d : Option Addr} {xs : List Value} {n : Nat}

theorem Sq.type {φ : Hp} {s : Shared} (S : Sq σ a cl d xs n) (K : Ok c φ σ s) : Looks c.M s.heap (typeOf (.ref a)) cl := (Looks.ld (K.own _ _ S.at_)).andThen .now
theorem Sq.special (B : Bs c) {φ : Hp} {s : Shared} {name : Str} {id : String} (S : Sq σ a cl d xs n) (K : Ok c φ σ s) (L : LS name id) : Looks c.M s.heap (specialOf (.ref a) name) (some (.builtin id)) := by
  refine (S.type K).andThen ?_
  cases S.lc with
  | list => exact Looks.of_pure L.list
  | acc => exact looks_findIn (K.kx B) (L.acc _)
theorem spec_callSpecial (B : Bs c) {name : Str} {id : String} {args : List Value} {P : Value → Hp → Prop} (S : Sq σ a cl d xs n) (L : LS name id) (h : Spec c A σ (call (.builtin id) (.ref a :: args)) P) : Spec c A σ (callSpecial? (.ref a) name args) (fun r σ' => ∃ v, r = some v ∧ P v σ') := by
  intro φ s Q E K q
  unfold callSpecial?
  refine wpAny_bind ((S.special B K L).here (wpAny_holding ?_))
  rw [L.bind]
  refine wpAny_bind (wpAny_pure ?_)
  exact wpAny_bind (h φ s _ E K fun v σ' s' p K' => wpAny_pure (q _ _ _ ⟨v, rfl, p⟩ K'))
theorem anyM_deque (B : Bs c) {φ : Hp} {s : Shared} (K : Ok c φ σ s) : Looks c.M s.heap (seqItemTypes.anyM fun n => isSubtype (.ref 200) (.type n)) false := anyM_none (K.kx B) (by kernel_rfl)
theorem Sq.key (B : Bs c) {φ : Hp} {s : Shared} {k : Value} {name : Str} (S : Sq σ a cl d xs n) (K : Ok c φ σ s) : Looks c.M s.heap (sequenceKey (.ref a) k name) k := by
  unfold sequenceKey
  refine (S.type K).andThen ?_
  cases S.lc with
  | list => dsimp only; rw [if_pos (by decide +kernel)]; exact .now
  | acc =>
    dsimp only
    refine (anyM_deque B K).andThen ?_
    rw [if_pos (by decide)]; exact .now
theorem spec_getItem (B : Bs c) {i : Value} {P : Value → Hp → Prop} (S : Sq σ a cl d xs n) (h : Spec c A σ (call (.builtin "list.__getitem__") [.ref a, i]) P) : Spec c A σ (getItem (.ref a) i) P := by
  intro φ s Q E K q
  unfold getItem
  refine wpAny_holding (wpAny_bind ((S.key B K).here (wpAny_bind (spec_callSpecial B S ls_getitem h φ s _ E K ?_))))
  rintro _ σ' s' ⟨v, rfl, p⟩ K'
  exact wpAny_pure (q _ _ _ p K')
theorem spec_setItem (B : Bs c) {i v : Value} {P : Value → Hp → Prop} (S : Sq σ a cl d xs n) (h : Spec c A σ (call (.builtin "list.__setitem__") [.ref a, i, v]) P) : Spec c A σ (setItem (.ref a) i v) (fun _ σ' => ∃ r, P r σ') := by
  intro φ s Q E K q
  unfold setItem
  refine wpAny_holding (wpAny_bind ((S.key B K).here (wpAny_bind (spec_callSpecial B S ls_setitem h φ s _ E K ?_))))
  rintro _ σ' s' ⟨v, rfl, p⟩ K'
  exact wpAny_pure (q _ _ _ ⟨_, p⟩ K')

theorem look_subscript {h : Heap} {k : Int} {u : Tok} (hk : Builtin.List.listFitsIndex k = true) : Looks c.M h (Builtin.List.listSubscript? (.int k u)) (some k) := by
  unfold Builtin.List.listSubscript?
  refine (show Looks c.M h (specialOf (.int k u) "__index__") (some (.builtin "int.__index__")) from Looks.of_pure F.slot_int_index.lookup).andThen ?_
  rw [if_neg (by decide)]
  refine (show Looks c.M h (asIndex (.int k u)) k from Looks.of_pure rfl).andThen ?_
  rw [hk]
  exact .now
theorem seqIndex_last {n : Nat} (h : 0 < n) : seqIndex? (-1) n = some (n - 1) := by
  unfold seqIndex?
  have e : (if (-1 : Int) < 0 then (-1 : Int) + (n : Int) else -1) = (n : Int) - 1 := by rw [if_pos (by decide)]; omega
  simp only [e]
  rw [if_pos (by simp; omega)]
  congr 1; omega
theorem fits_nat {k : Nat} (h : k ≤ 16777216) : Builtin.List.listFitsIndex (Int.ofNat k) = true := by
  unfold Builtin.List.listFitsIndex
  rw [Bool.and_eq_true]
  have : Int.ofNat k = (k : Int) := rfl
  exact ⟨decide_eq_true (by rw [this]; omega), decide_eq_true (by rw [this]; omega)⟩
theorem fin_ret {P : Value → Hp → Prop} {v : Value} (h : P v σ) : FinOk c A P (.done (.ret v)) σ := h
/-- an item by its place, a place behind the first or minus one -/
theorem spec_item (B : Bs c) {i : Int} {k : Nat} {u : Tok} {v : Value} (S : Sq σ a cl d xs n) (hi : i = Int.ofNat k) (hk : xs[k]? = some v) (hz : xs.length ≤ sizeLine) : Spec c A σ (call (.builtin "list.__getitem__") [.ref a, .int i u]) (fun r σ' => v = r ∧ σ = σ') := by
  have hlt : k < xs.length := (List.getElem?_eq_some_iff.mp hk).1
  rw [sizeLine_eq] at hz
  refine spec_lb B lb_getitem S (F.args_list_getitem_2 _ _) ?_
  intro φ s Q E K q
  unfold Builtin.«list.__getitem__»
  refine wpAny_bind (wpAny_pure ?_)
  dsimp only
  have fk : Builtin.List.listFitsIndex i = true := by rw [hi]; exact fits_nat (by omega)
  have L := look_subscript (c := c) (h := s.heap) (u := u) fk
  refine wpAny_bind (L.here ?_)
  dsimp only
  subst hi
  refine wpAny_bind (m := do return (← seqItemAt a k).map (k, ·)) (wpAny_bind (wpAny_bind (wpAny_loadPart (K.own _ _ S.at_) ?_)))
  dsimp only
  refine wpAny_pure (wpAny_pure ?_)
  rw [List.getElem?_toArray, hk]
  exact wpAny_pure (q _ σ _ (fin_ret ⟨rfl, rfl⟩) K)
theorem spec_last (B : Bs c) {u : Tok} {v : Value} (S : Sq σ a cl d xs n) (hk : xs.getLast? = some v) (hz : xs.length ≤ sizeLine) : Spec c A σ (call (.builtin "list.__getitem__") [.ref a, .int (-1) u]) (fun r σ' => v = r ∧ σ = σ') := by
  rw [sizeLine_eq] at hz
  refine spec_lb B lb_getitem S (F.args_list_getitem_2 _ _) ?_
  intro φ s Q E K q
  unfold Builtin.«list.__getitem__»
  refine wpAny_bind (wpAny_pure ?_)
  dsimp only
  refine wpAny_bind ((look_subscript (k := -1) (by decide)).here ?_)
  dsimp only
  refine wpAny_bind (m := do let xs ← Builtin.List.listItems (.ref a); return (seqIndex? (-1) xs.size).bind fun j => xs[j]?.map (j, ·)) (wpAny_bind (spec_listItems S φ s _ E K ?_))
  rintro _ _ s ⟨rfl, rfl⟩ K
  refine wpAny_pure ?_
  have hne : xs ≠ [] := by intro e; subst e; cases hk
  have hl : 0 < xs.length := List.length_pos_iff.mpr hne
  have e1 : seqIndex? (-1) xs.toArray.size = some (xs.length - 1) := by rw [List.size_toArray]; exact seqIndex_last hl
  rw [e1, Option.bind_some, List.getElem?_toArray, show xs[xs.length - 1]? = some v from by rw [← List.getLast?_eq_getElem?]; exact hk]
  exact wpAny_pure (q _ σ _ (fin_ret ⟨rfl, rfl⟩) K)

/-- the built-in list.__len__, list.pop, list.__init__ upon a sequence -/
theorem cspec_len {b : Addr} (S : Sq σ b cl d xs n) : CSpec c A σ (.builtin "list.__len__" ⟨[.ref b], []⟩) (fun v σ' => IsI v xs.length ∧ σ = σ') := by
  refine cspec_builtin pl_len F.entry_list_len ?_
  intro φ s Q E K q
  unfold Builtin.«list.__len__»
  refine wpAny_bind (wpAny_pure ?_)
  dsimp only
  refine wpAny_bind (wpAny_bind (wpAny_loadPart (K.own _ _ S.at_) (wpAny_pure ?_)))
  refine wpAny_bind (wpAny_mkInt ?_)
  exact wpAny_pure (q _ σ _ ⟨⟨_, by rw [List.size_toArray]⟩, rfl⟩ (K.toks _))
theorem cspec_init (B : Bs c) {b : Addr} (S : Sq σ b cl d xs n) : CSpec c A σ (.builtin "list.__init__" ⟨[.ref b], []⟩) (fun v σ' => v = .none ∧ ∃ n', σ' = upd σ b (sqSet cl d [] n') ∧ Sq σ' b cl d [] n') := by
  refine cspec_builtin pl_init F.entry_list_init ?_
  intro φ s Q E K q
  unfold Builtin.«list.__init__»
  dsimp only
  rw [if_neg (by decide)]
  rw [if_neg (by decide)]
  refine wpAny_bind (spec_listItems S φ s _ E K ?_)
  rintro _ _ s ⟨rfl, rfl⟩ K
  refine wpAny_bind (spec_updateSeq B S (ys := []) (f := fun _ => #[]) rfl (by decide) φ s _ E K ?_)
  rintro _ _ s ⟨n', rfl, S'⟩ K
  refine wpAny_bind (wpAny_letGo ?_)
  exact wpAny_pure (q _ _ _ ⟨rfl, n', rfl, S'⟩ K)
theorem cspec_pop (B : Bs c) {b : Addr} {ys : List Value} {y : Value} (S : Sq σ b cl d (ys ++ [y]) n) (hz : ys.length ≤ sizeLine) : CSpec c A σ (.builtin "list.pop" ⟨[.ref b], []⟩) (fun v σ' => y = v ∧ ∃ n', σ' = upd σ b (sqSet cl d ys n') ∧ Sq σ' b cl d ys n') := by
  refine cspec_builtin pl_pop F.entry_list_pop ?_
  intro φ s Q E K q
  unfold Builtin.«list.pop»
  refine wpAny_bind (wpAny_pure ?_)
  dsimp only
  refine wpAny_bind (wpAny_pure ?_)
  rw [if_neg (by decide)]
  refine wpAny_bind (spec_listItems S φ s _ E K ?_)
  rintro _ _ s ⟨rfl, rfl⟩ K
  rw [if_neg (by simp)]
  have e1 : seqIndex? (-1) (ys ++ [y]).toArray.size = some ys.length := by rw [List.size_toArray, seqIndex_last (by simp)]; simp
  rw [e1, Option.bind_some, List.getElem?_toArray, show (ys ++ [y])[ys.length]? = some y by simp]
  refine wpAny_bind (spec_updateSeq B S (ys := ys) (f := fun l => l.eraseIdxIfInBounds ys.length) ?_ hz φ s _ E K ?_)
  · rw [Array.eraseIdxIfInBounds, dif_pos (by simp)]
    apply Array.ext'
    simp [List.eraseIdx_append_of_length_le]
  rintro _ _ s ⟨n', rfl, S'⟩ K
  exact wpAny_pure (q _ _ _ ⟨rfl, n', rfl, S'⟩ K)
end


abbrev pcFd : FuncData := fdM 7 8 (Str.ofString "_Accumulator.part_count") [(Str.ofString "__class__", 124)] .none 196 (.ref 190)
theorem pc_fn (L : Addr) : Fn (callEnv pcFd L 197) L ["self"] := fn_of rfl (by decide +kernel) (by kernel_rfl) rfl rfl (by decide +kernel)
theorem pc_sup (c : Cx) : SupFn c pcFd 197 196 := ⟨by kernel_rfl, by kernel_rfl, by kernel_rfl, by kernel_rfl, rfl, ⟨_, _, _, rfl, rfl, rfl⟩, by kernel_rfl⟩

theorem pc_spec {c : Cx} (B : Bs c) {A : Around} {σ : Hp} {a d : Addr} {init : Int} {ps : List (Str × Str)} (R : Rm A 10) (H : Acc σ a d init ps) :
    Spec c A σ (call (.ref 197) [.ref a]) (fun v σ' => IsI v ps.length ∧ σ = σ') := by
  obtain ⟨xs, n, t, S, I, D⟩ := H.ex
  refine spec_call (cspec_fnAt B R ["self"] [.ref a] [] (names := ["self"]) (fd := pcFd) (body := bodyS (methS 7 8)) (by kernel_rfl) (by kernel_rfl) rfl (fun _ _ _ => BindsTo.of_eq (by kernel_rfl)) (by kernel_rfl) (by kernel_rfl) (by decide +kernel) ?_)
  intro φ L s Q E F k
  refine ks_wpAt_execs_cons ?_
  refine ks_wpAt_Return_some ?_
  refine r_super (P := fun v σ' => IsI v ps.length ∧ σ = σ') B (pc_fn L) F (sup_len c) (pc_sup c) rfl rfl S ?_ ?_ ⟨_, rfl⟩
  · intro σ' sub
    have S' : Sq σ' a (.ref 200) (some d) xs n := ⟨sub _ _ S.at_, S.lc⟩
    intro φ s R K q
    refine cspec_len S' φ s R K ?_
    rintro v _ s' ⟨h, rfl⟩ K'
    exact q v _ s' ⟨σ, ⟨by rw [← I.len]; exact h, rfl⟩, sub⟩ K'
  · rintro v _ s ⟨h, rfl⟩ F
    exact k _ _ _ ⟨h, rfl⟩ F.ok

theorem Items.snoc {σ : Hp} : ∀ {vs : List Value} {ps : List (Str × Str)} {p : Str × Str}, Items σ vs (ps ++ [p]) → ∃ ws v, vs = ws ++ [v] ∧ Items σ ws ps ∧ TupAt σ v p
  | [], ps, p, x => by cases ps <;> exact x.elim
  | [v], [], p, x => ⟨[], v, rfl, trivial, x.1⟩
  | v :: w :: vs, [], p, x => x.2.elim
  | v :: vs, q :: ps, p, x => by
    obtain ⟨ws, u, h1, h2, h3⟩ := Items.snoc (vs := vs) (ps := ps) x.2
    exact ⟨v :: ws, u, by rw [h1]; rfl, ⟨x.1, h2⟩, h3⟩
theorem Items.nilR {σ : Hp} {vs : List Value} (h : Items σ vs []) : vs = [] := by cases vs; rfl; exact h.elim
theorem DNs.mod {M : List Addr} {σ σ' : Hp} {d : Addr} {m : Str → Option Value} {k : Nat} (D : DNs σ d m k) (h : Mod M σ σ') (hd : d ∉ M) : DNs σ' d m k := let ⟨es, ep, h1, h2⟩ := D; ⟨es, ep, h _ _ hd h1, h2⟩
theorem sq_notup {σ : Hp} {a : Addr} {cl : Value} {d : Option Addr} {xs : List Value} {n : Nat} (S : Sq σ a cl d xs n) : ∀ ts, σ a ≠ some (tObj ts) := by
  intro ts e
  rw [S.at_] at e
  have h : cl = Value.type "tuple" := congrArg (fun o : Option Obj => match o with | some x => x.cls | none => .none) e
  cases S.lc with
  | list => exact absurd h (by decide)
  | acc => cases h
theorem sq_notup1 {σ : Hp} {a : Addr} {cl : Value} {d : Option Addr} {xs : List Value} {n : Nat} (S : Sq σ a cl d xs n) : ∀ x ∈ [a], ∀ ts, σ x ≠ some (tObj ts) := by
  intro x hx
  simp only [List.mem_singleton] at hx
  subst hx
  exact sq_notup S

abbrev popFd : FuncData := fdM 7 3 (Str.ofString "_Accumulator.pop") [(Str.ofString "__class__", 124)] .none 159 (.ref 153)
theorem pop_fn (L : Addr) : Fn (callEnv popFd L 160) L ["self"] := fn_of rfl (by decide +kernel) (by kernel_rfl) rfl rfl (by decide +kernel)
theorem pop_sup (c : Cx) : SupFn c popFd 160 159 := ⟨by kernel_rfl, by kernel_rfl, by kernel_rfl, by kernel_rfl, rfl, ⟨_, _, _, rfl, rfl, rfl⟩, by kernel_rfl⟩
theorem pop_spec {c : Cx} (B : Bs c) {A : Around} {σ : Hp} {a d : Addr} {init : Int} {ps : List (Str × Str)} (R : Rm A 20) (H : Acc σ a d init ps) (hz : ps.length ≤ sizeLine) :
    Spec c A σ (call (.ref 160) [.ref a]) (fun v σ' => ∃ p ps', TupAt σ' v p ∧ Acc σ' a d init ps' ∧ Mod [a] σ σ' ∧ ((ps = [] ∧ p = ((Str.ofString ""), (Str.ofString "")) ∧ ps' = []) ∨ ps = ps' ++ [p])) := by
  have had := H.ne
  obtain ⟨xs, n, t, S, I, D⟩ := H.ex
  refine spec_call (cspec_fnAt B R ["self"] [.ref a] [] (names := ["self"]) (fd := popFd) (body := bodyS (methS 7 3)) (by kernel_rfl) (by kernel_rfl) rfl (fun _ _ _ => BindsTo.of_eq (by kernel_rfl)) (by kernel_rfl) (by kernel_rfl) (by decide +kernel) ?_)
  intro φ L s Q E F k
  have N := pop_fn L
  refine ks_wpAt_execs_cons (wpAt_of_wpAny ?_)
  refine wpAny_If ?_
  refine wpAny_isTrue_Compare1 ?_
  refine r_method ?_
  refine r_ld N F 0 rfl rfl ?_
  intro pl
  refine F.specE (spec_method B (inst_of S D) (cls200 _) (f := 197) (by kernel_rfl) (by kernel_rfl) rfl) ?_
  intro s F
  refine r_callW0 (kpr_ref (by kernel_rfl)) (F.ok.kx B) ?_
  refine F.specT (pc_spec B ((R.le (by decide : 11 ≤ 20)).deeper) H) ?_
  intro t1 s F
  refine F.specT spec_const_int ?_
  intro t2 s F
  refine F.specV spec_eq_int ?_
  intro s F
  refine F.specV spec_truthy_bool ?_
  intro s F
  by_cases hl : (ps.length : Int) = 0
  · rw [if_pos (by simpa using hl)]
    have hnil : ps = [] := List.length_eq_zero_iff.mp (by omega)
    refine wpAny_execs_cons ?_
    refine wpAny_Return_some ?_
    refine r_tuple ?_
    refine r_arg ?_
    refine F.specT spec_const_str ?_
    intro t3 s F
    refine r_arg ?_
    refine F.specT spec_const_str ?_
    intro t4 s F
    refine r_args0 ?_
    refine F.spec (spec_newTuple B (by size_fits)) ?_
    rintro _ _ s ⟨b, rfl, hb, rfl⟩ F
    have M : Mod [a] σ (upd σ b (tObj [.str (Str.ofString "") t3, .str (Str.ofString "") t4])) := Mod.new hb
    refine k _ _ _ ⟨_, [], ⟨b, t3, t4, rfl, upd_same ..⟩, ⟨xs, n, t, ⟨upd_ext hb _ _ S.at_, S.lc⟩, ?_, D.mod (M := []) (Mod.new hb) (by simp)⟩, M, .inl ⟨hnil, rfl, rfl⟩⟩ F.ok
    subst hnil
    exact I.mod M (sq_notup1 S)
  · rw [if_neg (by simpa using hl)]
    refine wpAny_execs_nil ?_
    dsimp only
    refine ks_wpAt_execs_cons ?_
    refine ks_wpAt_Return_some ?_
    obtain ⟨ps', p, hp⟩ : ∃ ps' p, ps = ps' ++ [p] := by
      have : ps ≠ [] := by intro e; subst e; exact hl rfl
      exact ⟨ps.dropLast, ps.getLast this, (List.dropLast_concat_getLast this).symm⟩
    subst hp
    obtain ⟨ws, w, rfl, I1, T1⟩ := I.snoc
    refine r_super (P := fun v σ' => w = v ∧ ∃ n', σ' = upd σ a (sqSet (.ref 200) (some d) ws n')) B N F (sup_pop c) (pop_sup c) rfl rfl S ?_ ?_ ⟨_, rfl⟩
    · intro σ' sub
      have S' : Sq σ' a (.ref 200) (some d) (ws ++ [w]) n := ⟨sub _ _ S.at_, S.lc⟩
      intro φ s R K q
      refine cspec_pop B S' (by have := I1.len; simp at hz; omega) φ s R K ?_
      rintro v _ s' ⟨rfl, n', rfl, S2⟩ K'
      refine q _ _ s' ⟨upd σ a (sqSet (.ref 200) (some d) ws n'), ⟨rfl, n', rfl⟩, fun b o z => ?_⟩ K'
      unfold upd at z ⊢
      split at z
      · rename_i e; rw [if_pos e]; exact z
      · rename_i e; rw [if_neg e]; exact sub _ _ z
    · rintro v _ s ⟨rfl, n', rfl⟩ F
      have M : Mod [a] σ (upd σ a (sqSet (.ref 200) (some d) ws n')) := Mod.upd (.head _)
      exact k _ _ _ ⟨p, ps', T1.mod M (sq_notup1 S), ⟨ws, n', t, ⟨upd_same .., S.lc⟩, I1.mod M (sq_notup1 S), D.mod M (by simpa using Ne.symm had)⟩, M, .inr rfl⟩ F.ok


section
variable {c : Cx} {A : Around} {σ : Hp} {a : Addr} {cl : Value} {d : Option Addr} {xs : List Value} {n : Nat}
theorem Sq.inPy (B : Bs c) {φ : Hp} {s : Shared} (S : Sq σ a cl d xs n) (K : Ok c φ σ s) : Looks c.M s.heap (getitemInPython (.ref a)) false := (S.special B K ls_getitem).andThen .now
theorem spec_tail {value slice : Expr} {o i : Value} {P : Value → Hp → Prop} (hp : ∀ φ s, Ok c φ σ s → Looks c.M s.heap (getitemInPython o) false) (h : Spec c A σ (getItem o i) P) (hs : ∃ ops, subscripted slice false o i = operate ops (getItem o i)) : Spec c A σ (subscriptTail value slice o i) P := by
  intro φ s Q E K q
  obtain ⟨ops, hs⟩ := hs
  unfold subscriptTail
  refine wpAny_bind ((hp φ s K).here ?_)
  rw [hs]
  refine wpAny_bind (wpAny_operating ?_)
  exact h φ s _ E K fun v σ' s' p K' => wpAny_bind (wpAny_letTemporaryGo (wpAny_pure (q v σ' s' p K')))
theorem spec_sub (B : Bs c) {value slice : Expr} {i : Value} {P : Value → Hp → Prop} (S : Sq σ a cl d xs n) (h : Spec c A σ (call (.builtin "list.__getitem__") [.ref a, i]) P) (hs : ∃ ops, subscripted slice false (.ref a) i = operate ops (getItem (.ref a) i) := by exact ⟨_, rfl⟩) : Spec c A σ (subscriptTail value slice (.ref a) i) P :=
  spec_tail (fun _ _ K => S.inPy B K) (spec_getItem B S h) hs

/-- a bound of a slice: none, or a number not below nought -/
inductive Bd : Value → Option Nat → Prop
  | none : Bd .none none
  | int (n : Nat) (t : Tok) (h : n ≤ 16777216) : Bd (.int (n : Int) t) (some n)
def bdV : Option Nat → Value
  | none => .none
  | some n => rawInt n
abbrev slObj (l u : Value) : Obj := { cls := .type "slice", data := .fields #[l, u, .none] }

theorem r_slice {lower upper : Option Expr} {p : Pos} {env : Env} {s : Shared} {Q : Value → Shared → Prop} {E : Value → Shared → Prop}
    (h : wpAny c.M A (evalPart lower env) (fun l s₁ => wpAny c.M A (evalPart upper env) (fun u s₂ => wpAny c.M A (newFields "slice" [l, u, .none]) Q E s₂) E s₁) E s) :
    wpAny c.M A (eval (.Slice lower upper none p) env) Q E s := by
  rw [arm_eval_Slice]
  refine wpAny_bind (wpAny_mono h (fun l s₁ h₁ => wpAny_bind (wpAny_holding (wpAny_mono h₁ (fun u s₂ h₂ => wpAny_bind (wpAny_holding (wpAny_pure h₂))) fun _ _ x => x))) fun _ _ x => x)
theorem spec_newSlice (B : Bs c) {l u : Value} : Spec c A σ (newFields "slice" [l, u, .none]) (fun v σ' => ∃ b, v = .ref b ∧ σ b = none ∧ σ' = upd σ b (slObj l u)) :=
  fun _ _ _ _ K q => wpAny_newObj_type (q _ _ _ ⟨_, rfl, (K.new B (o := slObj l u) rfl).1, rfl⟩ (K.new B (o := slObj l u) rfl).2) (by size_fits)
theorem ev_none {env : Env} {s : Shared} {Q : Value → Shared → Prop} {E : Value → Shared → Prop} (h : Q .none s) : wpAny c.M A (evalPart none env) Q E s := wpAny_pure h
theorem ev_some {env : Env} {s : Shared} {e : Expr} {Q : Value → Shared → Prop} {E : Value → Shared → Prop} (h : wpAny c.M A (eval e env) Q E s) : wpAny c.M A (evalPart (some e) env) Q E s := h

theorem look_sliceParts {h : Heap} {b : Addr} {l u : Value} {lo hi : Option Nat} (hb : h.get? b = some (slObj l u)) (hl : Bd l lo) (hu : Bd u hi) :
    Looks c.M h (Builtin.List.listSliceParts (.ref b)) (bdV lo, bdV hi, .none) := by
  have f0 : Looks c.M h (field (.ref b) 0) l := looks_field hb 0 rfl
  have f1 : Looks c.M h (field (.ref b) 1) u := looks_field hb 1 rfl
  have f2 : Looks c.M h (field (.ref b) 2) .none := looks_field hb 2 rfl
  have ix : ∀ (i : Int) (t : Tok), Looks c.M h (specialOf (.int i t) "__index__") (some (.builtin "int.__index__")) := fun i t => Looks.of_pure F.slot_int_index.lookup
  have as : ∀ (i : Int) (t : Tok), Looks c.M h (asIndex (.int i t)) i := fun i t => Looks.of_pure rfl
  have pt : ∀ {v : Value} {o : Option Nat}, Bd v o → Looks c.M h (do
      if v == .none then return .none
      if (← specialOf v "__index__").isNone then
        rule "list.slice.part-no-index"; raiseError "TypeError" "slice indices must be integers or None or have an __index__ method"
      return rawInt (← asIndex v)) (bdV o) := by
    intro v o H
    cases H with
    | none => exact .now
    | int n t =>
      rw [if_neg (by simp)]
      refine (ix _ _).andThen ?_
      rw [if_neg (by decide)]
      exact (as _ _).andThen .now
  unfold Builtin.List.listSliceParts
  dsimp only
  refine f2.andThen ((pt .none).andThen ?_)
  rw [if_neg (by decide)]
  exact f0.andThen ((pt hl).andThen (f1.andThen ((pt hu).andThen .now)))

def sStart (lo : Option Nat) (len : Nat) : Nat := min (lo.getD 0) len
def sStop (hi : Option Nat) (len : Nat) : Nat := min (hi.getD len) len
theorem look_sliceIndices {h : Heap} {lo hi : Option Nat} {len : Nat} : Looks c.M h (sliceIndices (bdV lo) (bdV hi) .none len) ((sStart lo len : Int), (sStop hi len : Int), 1) := by
  have as : ∀ (i : Int) (t : Tok), Looks c.M h (asIndex (.int i t)) i := fun i t => Looks.of_pure rfl
  unfold sliceIndices
  rw [if_pos (by decide)]
  refine (Looks.now (a := (1 : Int))).andThen ?_
  dsimp only
  rw [if_neg (by decide)]
  have cp : ∀ (o : Option Nat) (df : Nat), df ≤ len → Looks c.M h (do
      if bdV o == .none then return (df : Int)
      let i ← asIndex (bdV o)
      if (1 : Int) > 0 then return max 0 (min (if i < 0 then i + (len : Int) else i) (len : Int)) else return max (-1) (min (if i < 0 then i + (len : Int) else i) ((len : Int) - 1))) ((min (o.getD df) len : Nat) : Int) := by
    intro o df hd
    cases o with
    | none =>
      rw [if_pos (by decide)]
      have : ((min ((none : Option Nat).getD df) len : Nat) : Int) = (df : Int) := by simp; omega
      rw [this]; exact .now
    | some n =>
      rw [if_neg (by simp [bdV, rawInt])]
      refine (as _ _).andThen ?_
      rw [if_pos (by decide)]
      have : max 0 (min (if (n : Int) < 0 then (n : Int) + (len : Int) else (n : Int)) (len : Int)) = ((min ((some n).getD df) len : Nat) : Int) := by
        rw [if_neg (by omega)]; simp; omega
      rw [this]; exact .now
  refine (cp lo 0 (Nat.zero_le _)).andThen ?_
  refine (cp hi len (Nat.le_refl _)).andThen ?_
  exact .now

theorem range_items {α : Type} (xs : List α) (st sp : Nat) (h : sp ≤ xs.length) : (sliceRange (st : Int) (sp : Int) 1).filterMap (fun i => xs[i]?) = (xs.take sp).drop st := by
  have e : sliceRange (st : Int) (sp : Int) 1 = (List.range (sp - st)).map fun k => st + k := by
    unfold sliceRange
    rw [if_pos (by decide)]
    by_cases hl : (st : Int) < (sp : Int)
    · rw [if_pos hl]
      dsimp only
      have : (((sp : Int) - (st : Int) + 1 - 1) / 1).toNat = sp - st := by omega
      rw [this]
      apply List.map_congr_left
      intro k _
      omega
    · rw [if_neg hl]
      dsimp only
      have : sp - st = 0 := by omega
      rw [this]; rfl
  rw [e, List.filterMap_map, List.drop_take]
  clear e
  generalize sp - st = m
  induction m with
  | zero => simp
  | succ m ih =>
    rw [List.range_succ, List.filterMap_append, ih, List.take_add_one, List.getElem?_drop]
    congr 1

theorem slice_noIndex : typeLookup (.type "slice") "__index__" = pure none := by rw [typeLookup_type, builtinLookup_eq_fast]; kernel_rfl
theorem look_noSub {h : Heap} {b : Addr} {l u : Value} (hb : h.get? b = some (slObj l u)) : Looks c.M h (Builtin.List.listSubscript? (.ref b)) none := by
  unfold Builtin.List.listSubscript?
  refine (show Looks c.M h (specialOf (.ref b) "__index__") none from ((Looks.ld hb).andThen .now).andThen (Looks.of_pure slice_noIndex)).andThen ?_
  rw [if_pos (by rfl)]
  exact .now
/-- the slice that the bounds cut out -/
def cut {α : Type} (xs : List α) (lo hi : Option Nat) : List α := (xs.take (sStop hi xs.length)).drop (sStart lo xs.length)
theorem spec_getslice (B : Bs c) {b : Addr} {l u : Value} {lo hi : Option Nat} (S : Sq σ a cl d xs n) (hb : σ b = some (slObj l u)) (hl : Bd l lo) (hu : Bd u hi) (hz : xs.length ≤ sizeLine) :
    Spec c A σ (call (.builtin "list.__getitem__") [.ref a, .ref b]) (fun v σ' => ∃ r, v = .ref r ∧ σ r = none ∧ σ' = upd σ r (lObj (cut xs lo hi))) := by
  refine spec_lb B lb_getitem S (F.args_list_getitem_2 _ _) ?_
  intro φ s Q E K q
  have hb' := K.own _ _ hb
  unfold Builtin.«list.__getitem__»
  refine wpAny_bind (wpAny_pure ?_)
  dsimp only
  refine wpAny_bind ((look_noSub hb').here ?_)
  dsimp only
  refine wpAny_bind ((show Looks c.M s.heap (typeOf (.ref b)) (.type "slice") from (Looks.ld hb').andThen .now).here ?_)
  rw [if_neg (by decide)]
  refine wpAny_bind ((look_sliceParts hb' hl hu).here ?_)
  dsimp only
  refine wpAny_bind (spec_listItems S φ s _ E K ?_)
  rintro _ _ s ⟨rfl, rfl⟩ K
  rw [List.size_toArray]
  refine wpAny_bind (look_sliceIndices.here ?_)
  dsimp only
  have e : (sliceRange (sStart lo xs.length : Int) (sStop hi xs.length : Int) 1).filterMap (fun i => xs.toArray[i]?) = cut xs lo hi := by
    simp only [List.getElem?_toArray]
    exact range_items xs _ _ (by unfold sStop; omega)
  rw [e]
  refine wpAny_bind (spec_newList (A := A.in1) (xs := cut xs lo hi) B ?_ φ s _ E K ?_)
  · unfold cut; rw [List.length_drop, List.length_take]; omega
  rintro _ _ s ⟨r, rfl, hr, rfl⟩ K
  exact wpAny_pure (q _ _ _ (fin_ret ⟨r, rfl, hr, rfl⟩) K)
theorem spec_setslice (B : Bs c) {b r : Addr} {l u : Value} {lo hi : Option Nat} {ys : List Value} {m : Nat} (S : Sq σ a cl d xs n) (hb : σ b = some (slObj l u)) (hl : Bd l lo) (hu : Bd u hi) (hr : σ r = some (lObj ys m)) (har : a ≠ r) (hz : xs.length + ys.length ≤ sizeLine) :
    Spec c A σ (call (.builtin "list.__setitem__") [.ref a, .ref b, .ref r]) (fun _ σ' => ∃ n', σ' = upd σ a (sqSet cl d (xs.take (sStart lo xs.length) ++ ys ++ xs.drop (max (sStart lo xs.length) (sStop hi xs.length))) n') ∧
      Sq σ' a cl d (xs.take (sStart lo xs.length) ++ ys ++ xs.drop (max (sStart lo xs.length) (sStop hi xs.length))) n') := by
  refine spec_lb B lb_setitem S (F.args_list_setitem_3 _ _ _) ?_
  intro φ s Q E K q
  have hb' := K.own _ _ hb
  have S' : Sq σ r (.type "list") none ys m := ⟨hr, .list⟩
  unfold Builtin.«list.__setitem__»
  refine wpAny_bind (wpAny_pure ?_)
  dsimp only
  refine wpAny_bind ((look_noSub hb').here ?_)
  dsimp only
  refine wpAny_bind ((show Looks c.M s.heap (typeOf (.ref b)) (.type "slice") from (Looks.ld hb').andThen .now).here ?_)
  rw [if_neg (by decide)]
  refine wpAny_bind ((look_sliceParts hb' hl hu).here ?_)
  dsimp only
  have ne : Builtin.List.listSameRef (.ref a) (.ref r) = false := by simpa [Builtin.List.listSameRef] using har
  rw [ne, if_neg (by decide)]
  unfold Builtin.List.listAllItems
  refine wpAny_bind (wpAny_bind ((S'.type K).here ?_))
  rw [if_pos (by decide)]
  refine spec_listItems S' φ s _ E K ?_
  rintro _ _ s ⟨rfl, rfl⟩ K
  refine wpAny_bind (spec_listItems S φ s _ E K ?_)
  rintro _ _ s ⟨rfl, rfl⟩ K
  rw [List.size_toArray, List.size_toArray]
  refine wpAny_bind (look_sliceIndices.here ?_)
  dsimp only
  rw [if_pos (by decide)]
  refine wpAny_bind (wpAny_rule ?_)
  rw [if_neg (by unfold Builtin.List.listTooLong; simp; omega)]
  have es : ((sStart lo xs.length : Int)).toNat = sStart lo xs.length := by omega
  have em : (max (sStart lo xs.length : Int) (sStop hi xs.length : Int)).toNat = max (sStart lo xs.length) (sStop hi xs.length) := by omega
  refine wpAny_bind (spec_updateSeq B S (ys := xs.take (sStart lo xs.length) ++ ys ++ xs.drop (max (sStart lo xs.length) (sStop hi xs.length))) (f := fun l => l.extract 0 (sStart lo xs.length : Int).toNat ++ ys.toArray ++ l.extract (max (sStart lo xs.length : Int) (sStop hi xs.length : Int)).toNat l.size) ?_ ?_ φ s _ E K ?_)
  · rw [es, em]
    apply Array.ext'
    simp only [Array.toList_append, Array.toList_extract, List.extract_eq_drop_take', List.size_toArray, List.drop_zero, List.take_length]
  · simp only [List.length_append, List.length_take, List.length_drop]; omega
  rintro _ _ s ⟨n', rfl, S2⟩ K
  refine wpAny_bind (wpAny_letGo ?_)
  exact wpAny_pure (q _ _ _ (fin_ret ⟨n', rfl, S2⟩) K)
end


theorem Items.take {σ : Hp} : ∀ {vs : List Value} {ps : List (Str × Str)} (k : Nat), Items σ vs ps → Items σ (vs.take k) (ps.take k)
  | [], [], k, _ => by simp [Items]
  | _ :: _, _ :: _, 0, _ => trivial
  | _ :: _, _ :: _, k + 1, x => ⟨x.1, Items.take k x.2⟩
  | [], _ :: _, _, x => x.elim
  | _ :: _, [], _, x => x.elim
theorem Items.drop {σ : Hp} : ∀ {vs : List Value} {ps : List (Str × Str)} (k : Nat), Items σ vs ps → Items σ (vs.drop k) (ps.drop k)
  | [], [], k, _ => by simp [Items]
  | _ :: _, _ :: _, 0, x => x
  | _ :: _, _ :: _, k + 1, x => Items.drop k x.2
  | [], _ :: _, _, x => x.elim
  | _ :: _, [], _, x => x.elim

/-- a list display -/
theorem r_list {c : Cx} {A : Around} {E : Value → Shared → Prop} {s : Shared} {env : Env} {elts : List Expr} {pos : Pos} {Q : Value → Shared → Prop}
    (h : wpAny c.M A (spliced (backTo pos (starEach elts env))) (fun vs s₁ => wpAny c.M A (newList vs) Q E s₁) E s) : wpAny c.M A (eval (.List elts pos) env) Q E s := List_ h
theorem lobj_ne {σ : Hp} {a r : Addr} {d : Option Addr} {xs ys : List Value} {n m : Nat} (S : Sq σ a (.ref 200) d xs n) (h : σ r = some (lObj ys m)) : a ≠ r := by
  intro e; subst e; rw [S.at_] at h; cases h
theorem upd_list {σ : Hp} {r x : Addr} {o o' : Obj} (h : σ x = some o) (hr : σ r = none) : upd σ r o' x = some o := upd_ext hr _ _ h

theorem upd_none {σ : Hp} {b r : Addr} {o : Obj} (h : upd σ b o r = none) : σ r = none ∧ r ≠ b := by
  unfold upd at h
  split at h
  · cases h
  · rename_i q; exact ⟨h, q⟩
theorem cut_from {α : Type} {xs : List α} {k : Nat} (h : k ≤ xs.length) : cut xs (some k) none = xs.drop k := by
  unfold cut sStart sStop
  simp only [Option.getD_some, Option.getD_none, Nat.min_self, List.take_length]
  rw [Nat.min_eq_left h]
theorem put_from {α : Type} {xs : List α} {k : Nat} (h : k ≤ xs.length) : xs.take (sStart (some k) xs.length) ++ [] ++ xs.drop (max (sStart (some k) xs.length) (sStop none xs.length)) = xs.take k := by
  unfold sStart sStop
  simp only [Option.getD_some, Option.getD_none, Nat.min_self, List.append_nil]
  rw [Nat.min_eq_left h, Nat.max_eq_right h, List.drop_length, List.append_nil]

abbrev pfFd : FuncData := fdM 7 2 (Str.ofString "_Accumulator.pop_from") [] (.ref 145) 151 .none
def pfNames : List Str := ["self", "i", "popped"]
theorem pf_fn (L : Addr) : Fn (callEnv pfFd L 152) L pfNames := fn_of rfl (by decide +kernel) (by kernel_rfl) rfl rfl (by decide +kernel)
theorem pf_dflt (P : Params) : ∃ o items n, (KM P).lookup 145 = some o ∧ o.data = .seq items n ∧ items.size = 1 := ⟨_, _, _, rfl, rfl, rfl⟩
theorem pf_binds {c : Cx} (B : Bs c) {φ σ : Hp} {s : Shared} {v w : Value} (K : Ok c φ σ s) : BindsTo s pfFd ⟨[v, w], []⟩ ((["self", "i"] : List Str).zip [v, w]) := by
  have h : (KM c.w.params).lookup 145 = some ({ cls := .type "tuple", data := .seq #[.int 0 468] 0 } : Obj) := by kernel_rfl
  exact BindsTo.of_defaults (T := 145) rfl (K.kx B _ _ h) rfl (by rfl) (by kernel_rfl)

section
variable {c : Cx} {A : Around} {σ : Hp} {a : Addr} {cl : Value} {d : Option Addr} {xs : List Value} {n : Nat}
/-- the same triples, told by what is new and what stays -/
theorem spec_list (B : Bs c) (hz : xs.length ≤ sizeLine) : Spec c A σ (newList xs) (fun v σ' => ∃ a, v = .ref a ∧ σ a = none ∧ σ' a = some (lObj xs) ∧ Mod [] σ σ') :=
  (spec_newList B hz).mono fun _ _ ⟨a, h1, h2, h3⟩ => ⟨a, h1, h2, by rw [h3]; exact upd_same .., by rw [h3]; exact Mod.new h2⟩
theorem spec_tup (B : Bs c) (hz : xs.length ≤ sizeLine) : Spec c A σ (newTuple xs) (fun v σ' => ∃ a, v = .ref a ∧ σ a = none ∧ σ' a = some (tObj xs) ∧ Mod [] σ σ') :=
  (spec_newTuple B hz).mono fun _ _ ⟨a, h1, h2, h3⟩ => ⟨a, h1, h2, by rw [h3]; exact upd_same .., by rw [h3]; exact Mod.new h2⟩
theorem spec_slc (B : Bs c) {l u : Value} : Spec c A σ (newFields "slice" [l, u, .none]) (fun v σ' => ∃ b, v = .ref b ∧ σ b = none ∧ σ' b = some (slObj l u) ∧ Mod [] σ σ') :=
  (spec_newSlice B).mono fun _ _ ⟨a, h1, h2, h3⟩ => ⟨a, h1, h2, by rw [h3]; exact upd_same .., by rw [h3]; exact Mod.new h2⟩
theorem spec_app (B : Bs c) {x : Value} (S : Sq σ a cl d xs n) (hz : xs.length + 1 ≤ sizeLine) : Spec c A σ (call (.builtin "list.append") [.ref a, x]) (fun v σ' => v = .none ∧ ∃ n', Sq σ' a cl d (xs ++ [x]) n' ∧ Mod [a] σ σ') :=
  (spec_append B S hz).mono fun _ _ ⟨h1, n', h2, h3⟩ => ⟨h1, n', h3, by rw [h2]; exact Mod.upd (.head _)⟩
theorem spec_getsl (B : Bs c) {value : Expr} {lw up : Option Expr} {p : Pos} {b : Addr} {l u : Value} {lo hi : Option Nat} (S : Sq σ a cl d xs n) (hb : σ b = some (slObj l u)) (hl : Bd l lo) (hu : Bd u hi) (hz : xs.length ≤ sizeLine) :
    Spec c A σ (subscriptTail value (.Slice lw up none p) (.ref a) (.ref b)) (fun v σ' => ∃ r, v = .ref r ∧ σ r = none ∧ σ' r = some (lObj (cut xs lo hi)) ∧ Mod [] σ σ') :=
  (spec_sub B S (spec_getslice B S hb hl hu hz)).mono fun _ _ ⟨a, h1, h2, h3⟩ => ⟨a, h1, h2, by rw [h3]; exact upd_same .., by rw [h3]; exact Mod.new h2⟩
theorem spec_setsl (B : Bs c) {b r : Addr} {l u : Value} {lo hi : Option Nat} {ys : List Value} {m : Nat} (S : Sq σ a cl d xs n) (hb : σ b = some (slObj l u)) (hl : Bd l lo) (hu : Bd u hi) (hr : σ r = some (lObj ys m)) (har : a ≠ r) (hz : xs.length + ys.length ≤ sizeLine) :
    Spec c A σ (setItem (.ref a) (.ref b) (.ref r)) (fun _ σ' => ∃ n', Sq σ' a cl d (xs.take (sStart lo xs.length) ++ ys ++ xs.drop (max (sStart lo xs.length) (sStop hi xs.length))) n' ∧ Mod [a] σ σ') :=
  (spec_setItem B S (spec_setslice B S hb hl hu hr har hz)).mono fun _ _ ⟨_, n', h2, h3⟩ => ⟨n', h3, by rw [h2]; exact Mod.upd (.head _)⟩
theorem Sq.mod {M : List Addr} {σ' : Hp} (S : Sq σ a cl d xs n) (h : Mod M σ σ') (ha : a ∉ M) : Sq σ' a cl d xs n := ⟨h _ _ ha S.at_, S.lc⟩
theorem Sq.mod0 {σ' : Hp} (S : Sq σ a cl d xs n) (h : Mod [] σ σ') : Sq σ' a cl d xs n := S.mod h (by simp)
theorem Mod.get {σ σ' : Hp} {x : Addr} {o : Obj} (h : Mod [] σ σ') (e : σ x = some o) : σ' x = some o := h _ _ (by simp) e
theorem Mod.to {M : List Addr} {σ σ' : Hp} (h : Mod [] σ σ') : Mod M σ σ' := h.sub (by simp)
end

theorem pf_spec {c : Cx} (B : Bs c) {A : Around} {σ : Hp} {a d : Addr} {init : Int} {ps : List (Str × Str)} {k : Nat} {tk : Tok} (R : Rm A 20) (H : Acc σ a d init ps) (hz : ps.length ≤ sizeLine) (hk : k ≤ ps.length) :
    Spec c A σ (call (.ref 152) [.ref a, .int k tk]) (fun v σ' => ∃ r xs m, v = .ref r ∧ σ' r = some (lObj xs m) ∧ σ r = none ∧ Items σ' xs (ps.drop k) ∧ Acc σ' a d init (ps.take k) ∧ Mod [a] σ σ') := by
  have had := H.ne
  obtain ⟨xs, n, t, S, I, D⟩ := H.ex
  have hl := I.len
  have hkx : k ≤ xs.length := by omega
  refine spec_call (cspec_fn B R ["self", "i"] [.ref a, .int k tk] ["popped"] (names := pfNames) (vals := [some (.ref a), some (.int k tk), none]) (fd := pfFd) (body := bodyS (methS 7 2)) (by kernel_rfl) (by kernel_rfl) rfl (fun _ _ K => pf_binds B K) (by kernel_rfl) (by kernel_rfl) (by decide +kernel) ?_)
  intro φ L s Q E F q
  have N := pf_fn L
  have bk : Bd (.int (k : Int) tk) (some k) := .int k tk (by rw [sizeLine_eq] at hz; omega)
  refine r_seq ?_
  refine wpAny_Assign_Name ?_
  refine Subscript_ ?_
  refine r_ld N F 0 rfl rfl ?_
  refine r_slice ?_
  refine ev_some (r_ld N F 1 rfl rfl ?_)
  refine ev_none ?_
  refine F.specA (spec_slc B) ?_
  intro b σ1 s hAll F
  have hb := hAll.1
  have b1 := hAll.2.1
  have m1 := hAll.2.2
  clear hAll
  refine F.specA (spec_getsl B (S.mod0 m1) b1 bk .none (by omega)) ?_
  intro r σ2 s hAll F
  have hr := hAll.1
  have r1 := hAll.2.1
  have m2 := hAll.2.2
  clear hAll
  rw [cut_from hkx] at r1
  refine r_st N F 2 rfl rfl B.sz ?_
  intro s F
  refine ⟨rfl, ?_⟩
  refine r_seq ?_
  refine wpAny_Assign_Subscript ?_
  refine r_list ?_
  refine r_args0 ?_
  refine F.specA (spec_list B (by size_fits)) ?_
  intro e σ3 s hAll F
  have he := hAll.1
  have e1 := hAll.2.1
  have m3 := hAll.2.2
  clear hAll
  refine r_ld N F 0 rfl rfl ?_
  refine r_slice ?_
  refine ev_some (r_ld N F 1 rfl rfl ?_)
  refine ev_none ?_
  refine F.specA (spec_slc B) ?_
  intro b2 σ4 s hAll F
  have hb2 := hAll.1
  have b3 := hAll.2.1
  have m4 := hAll.2.2
  clear hAll
  have S4 := (((S.mod0 m1).mod0 m2).mod0 m3).mod0 m4
  refine F.specU (spec_setsl B S4 b3 bk .none (m4.get e1) (lobj_ne S4 (m4.get e1)) (by simp; omega)) ?_
  intro _ n' σ5 s hAll F
  have S5 := hAll.1
  have m5 := hAll.2
  clear hAll
  rw [put_from hkx] at S5
  refine ⟨rfl, ?_⟩
  refine wpAny_execs_cons ?_
  refine wpAny_Return_some ?_
  refine r_ld N F 2 rfl rfl ?_
  dsimp only
  have M : Mod [a] σ σ5 := (((m1.trans m2).trans m3).trans m4).to.trans m5
  have r4 : σ4 r = some (lObj (xs.drop k)) := m4.get (m3.get r1)
  have r0 : σ r = none := by
    cases z : σ r with
    | none => rfl
    | some o => have := m1.get z; rw [hr] at this; cases this
  exact q _ _ _ ⟨r, xs.drop k, 0, rfl, m5 _ _ (by simpa using Ne.symm (lobj_ne S4 r4)) r4, r0, (I.drop k).mod M (sq_notup1 S), ⟨_, _, t, S5, (I.take k).mod M (sq_notup1 S), D.mod M (by simpa using Ne.symm had)⟩, M⟩ F.ok


abbrev rsFd : FuncData := fdM 7 6 (Str.ofString "_Accumulator.reset") [] (.ref 175) 181 .none
def rsNames : List Str := ["self", "startval"]
theorem rs_fn (L : Addr) : Fn (callEnv rsFd L 182) L rsNames := fn_of rfl (by decide +kernel) (by kernel_rfl) rfl rfl (by decide +kernel)
theorem rs_175 (P : Params) : (KM P).lookup 175 = some ({ cls := .type "tuple", data := .seq #[.none] 0 } : Obj) := by kernel_rfl
theorem rs_binds2 {c : Cx} (B : Bs c) {φ σ : Hp} {s : Shared} {v w : Value} (K : Ok c φ σ s) : BindsTo s rsFd ⟨[v, w], []⟩ ((["self", "startval"] : List Str).zip [v, w]) :=
  BindsTo.of_defaults (T := 175) rfl (K.kx B _ _ (rs_175 _)) rfl (by rfl) (by kernel_rfl)
theorem rs_binds1 {c : Cx} (B : Bs c) {φ σ : Hp} {s : Shared} {v : Value} (K : Ok c φ σ s) : BindsTo s rsFd ⟨[v], []⟩ ((["self", "startval"] : List Str).zip [v, .none]) :=
  BindsTo.of_defaults (T := 175) rfl (K.kx B _ _ (rs_175 _)) rfl (by rfl) (by kernel_rfl)

theorem cut_all {α : Type} {xs ys : List α} : xs.take (sStart none xs.length) ++ ys ++ xs.drop (max (sStart none xs.length) (sStop none xs.length)) = ys := by
  unfold sStart sStop
  simp

theorem notup_of {σ : Hp} {a : Addr} {o : Obj} (h : σ a = some o) (hc : o.cls ≠ .type "tuple") : ∀ ts, σ a ≠ some (tObj ts) := by
  intro ts e
  rw [h] at e
  exact hc (congrArg (fun o : Option Obj => match o with | some x => x.cls | none => .none) e)
theorem rs_tail {c : Cx} (B : Bs c) {A : Around} {φ σ : Hp} {L : Addr} {s : Shared} {a d r : Addr} {init : Int} {ps qs : List (Str × Str)} {ys : List Value} {m : Nat} {Q : Flow → Shared → Prop} {E : Value → Shared → Prop} (H : Acc σ a d init ps) (hz : ps.length + qs.length ≤ sizeLine)
    (hr : σ r = some (lObj ys m)) (J : Items σ ys qs) (F : Fm c φ σ L rsNames [some (.ref a), some (.ref r)] s) (q : ∀ fl σ' s', (match fl with | .ret v => v | _ => .none) = Value.none → Acc σ' a d 0 qs → Mod [a, d] σ σ' → Ok c φ σ' s' → Q fl s') :
    wpAny c.M A (execs ((bodyS (methS 7 6)).drop 1) (callEnv rsFd L 182)) Q E s := by
  have N := rs_fn L
  have had := H.ne
  obtain ⟨xs, n, t, S, I, D⟩ := H.ex
  have hl := I.len
  have hl2 := J.len
  refine r_seq ?_
  refine wpAny_Assign_Subscript ?_
  refine r_ld N F 1 rfl rfl ?_
  refine r_ld N F 0 rfl rfl ?_
  refine r_slice ?_
  refine ev_none ?_
  refine ev_none ?_
  refine F.specA (spec_slc B) ?_
  intro b σ1 s hAll F
  have hb := hAll.1
  have b1 := hAll.2.1
  have m1 := hAll.2.2
  clear hAll
  have S1 := S.mod0 m1
  refine F.specU (spec_setsl B S1 b1 .none .none (m1.get hr) (lobj_ne S1 (m1.get hr)) (by omega)) ?_
  intro _ n' σ2 s hAll F
  have S2 := hAll.1
  have m2 := hAll.2
  clear hAll
  rw [cut_all] at S2
  refine ⟨rfl, ?_⟩
  have M2 : Mod [a] σ σ2 := m1.to.trans m2
  have D2 := D.mod M2 (by simpa using Ne.symm had)
  refine r_seq ?_
  refine plainObj_wpAny_Assign_Attribute ?_
  refine F.specT spec_const_int ?_
  intro t2 s F
  refine r_ld N F 0 rfl rfl ?_
  refine F.spec (spec_setattr B (inst_of S2 D2) (cls200 _) (st200 _) (by kernel_rfl) had (by decide)) ?_
  rintro _ _ s ⟨o, rfl, I3⟩ F
  refine ⟨rfl, ?_⟩
  refine r_nil ?_
  have M3 : Mod [a, d] σ (upd σ2 d o) := (M2.sub (by simp)).trans (Mod.upd (by simp))
  refine q _ _ _ rfl ⟨⟨ys, n', t2, ⟨by rw [upd_ne had]; exact S2.at_, S2.lc⟩, J.mod M3 ?_, ?_⟩⟩ M3 F.ok
  · intro x hx
    simp only [List.mem_cons, List.not_mem_nil, or_false] at hx
    rcases hx with rfl | rfl
    · exact sq_notup S
    · obtain ⟨es, ep, h1, _⟩ := D
      exact notup_of h1 (show Value.type "dict" ≠ Value.type "tuple" by decide)
  · obtain ⟨es, ep, h1, h2, h3, h4⟩ := I3.ns
    refine ⟨es, ep, h1, h2, fun nm => (h3 nm).trans ?_, h4⟩
    simp only [vmap]
    split <;> rfl

theorem reset1_spec {c : Cx} (B : Bs c) {A : Around} {σ : Hp} {a d r : Addr} {init : Int} {ps qs : List (Str × Str)} {ys : List Value} {m : Nat} (R : Rm A 20) (H : Acc σ a d init ps) (hz : ps.length + qs.length ≤ sizeLine) (hr : σ r = some (lObj ys m)) (J : Items σ ys qs) :
    Spec c A σ (call (.ref 182) [.ref a, .ref r]) (fun v σ' => v = .none ∧ Acc σ' a d 0 qs ∧ Mod [a, d] σ σ') := by
  refine spec_call (cspec_fn B R ["self", "startval"] [.ref a, .ref r] [] (names := rsNames) (vals := [some (.ref a), some (.ref r)]) (fd := rsFd) (body := bodyS (methS 7 6)) (by kernel_rfl) (by kernel_rfl) rfl (fun _ _ K => rs_binds2 B K) (by kernel_rfl) (by kernel_rfl) (by decide +kernel) ?_)
  intro φ L s Q E F q
  have N := rs_fn L
  refine r_seq ?_
  refine wpAny_If ?_
  refine wpAny_isTrue_Compare1 ?_
  refine r_ld N F 1 rfl rfl ?_
  refine wpAny_Constant_none ?_
  refine is_none_gen ?_
  refine F.specV spec_truthy_bool ?_
  intro s F
  refine r_nil ⟨rfl, ?_⟩
  exact rs_tail B H hz hr J F fun fl σ' s' h1 h2 h3 h4 => q fl σ' s' ⟨h1, h2, h3⟩ h4
theorem reset0_spec {c : Cx} (B : Bs c) {A : Around} {σ : Hp} {a d : Addr} {init : Int} {ps : List (Str × Str)} (R : Rm A 20) (H : Acc σ a d init ps) (hz : ps.length ≤ sizeLine) :
    Spec c A σ (call (.ref 182) [.ref a]) (fun v σ' => v = .none ∧ Acc σ' a d 0 [] ∧ Mod [a, d] σ σ') := by
  refine spec_call (cspec_fn B R ["self", "startval"] [.ref a, .none] [] (names := rsNames) (vals := [some (.ref a), some .none]) (fd := rsFd) (body := bodyS (methS 7 6)) (by kernel_rfl) (by kernel_rfl) rfl (fun _ _ K => rs_binds1 B K) (by kernel_rfl) (by kernel_rfl) (by decide +kernel) ?_)
  intro φ L s Q E F q
  have N := rs_fn L
  refine r_seq ?_
  refine wpAny_If ?_
  refine wpAny_isTrue_Compare1 ?_
  refine r_ld N F 1 rfl rfl ?_
  refine wpAny_Constant_none ?_
  refine is_none_gen ?_
  refine F.specV spec_truthy_bool ?_
  intro s F
  refine r_seq ?_
  refine wpAny_Assign_Name ?_
  refine r_list ?_
  refine r_args0 ?_
  refine F.specA (spec_list B (by size_fits)) ?_
  intro e σ1 s hAll F
  have he := hAll.1
  have e1 := hAll.2.1
  have m1 := hAll.2.2
  clear hAll
  refine r_st N F 1 rfl rfl B.sz ?_
  intro s F
  refine ⟨rfl, r_nil ⟨rfl, ?_⟩⟩
  obtain ⟨xs, n, t, S, I, D⟩ := H.ex
  have H1 : Acc σ1 a d init ps := ⟨xs, n, t, S.mod0 m1, I.mod m1 (by simp), D.mod m1 (by simp)⟩
  exact rs_tail B H1 (by simpa using hz) e1 (show Items σ1 [] [] from trivial) F fun fl σ' s' h1 h2 h3 h4 => q fl σ' s' ⟨h1, h2, m1.to.trans h3⟩ h4


abbrev itObj (v : Value) (i : Nat) : Obj := { cls := .type "list_iterator", data := .fields #[v, .int (i : Int) 0] }
section
variable {c : Cx} {A : Around} {E : Value → Shared → Prop} {s : Shared} {it l : Addr} {i : Nat} {xs : List Value} {n : Nat} {ol : Obj} {Q : Option Value → Shared → Prop}
/-- one item of a list's iterator, the list of whatever class -/
theorem raw_next {x : Value} (hit : s.heap.get? it = some (itObj (.ref l) i)) (hol : s.heap.get? l = some ol) (hdl : ol.data = .seq xs.toArray n) (hx : xs[i]? = some x)
    (h : ∀ h', h'.get? it = some (itObj (.ref l) (i + 1)) → Heap.SameBut it s.heap h' → Q (some x) { s with heap := h' }) : wpAny c.M A (pyNext (.ref it)) Q E s := by
  have T : s.TypeIs (.ref it) "list_iterator" := ⟨_, hit, rfl⟩
  unfold pyNext
  refine wpAny_bind (wpAny_attempt (wpAny_callSpecial?_slot (name := Str.ofString "__next__") T slot_listiter_next (wpAny_call_entry slot_listiter_next T entry_listiter_next ?_ (args_listiter_next _))))
  show wpAny _ _ (field (.ref it) 0 >>= _) _ _ s
  refine wpAny_bind (wpAny_field hit rfl (x := .ref l) rfl ?_)
  show wpAny _ _ (if (Value.ref l == Value.none) = true then _ else _) _ _ s
  rw [if_neg (by simp)]
  show wpAny _ _ (field (.ref it) 1 >>= _) _ _ s
  refine wpAny_bind (wpAny_field hit rfl (x := .int i 0) rfl ?_)
  show wpAny _ _ (seqItems? (.ref l) >>= _) _ _ s
  refine wpAny_bind (wpAny_seqItems hol hdl ?_)
  simp only [Int.toNat_natCast, List.getElem?_toArray, hx]
  refine wpAny_bind (wpAny_setField hit rfl (by simp) (wpAny_pure ⟨x, rfl, wpAny_pure (h _ ?_ (Heap.SameBut.update ..))⟩))
  exact Heap.get?_update_self _ hit rfl
theorem raw_end (hh : A.handled = none) (hit : s.heap.get? it = some (itObj (.ref l) i)) (hol : s.heap.get? l = some ol) (hdl : ol.data = .seq xs.toArray n) (hx : xs[i]? = none)
    (h : ∀ h', h'.get? it = some (itObj .none i) → Heap.ExtBut it s.heap h' → Q none { s with heap := h' }) : wpAny c.M A (pyNext (.ref it)) Q E s := by
  have T : s.TypeIs (.ref it) "list_iterator" := ⟨_, hit, rfl⟩
  unfold pyNext
  refine wpAny_bind (wpAny_attempt (wpAny_callSpecial?_slot (name := Str.ofString "__next__") T slot_listiter_next (wpAny_call_entry slot_listiter_next T entry_listiter_next ?_ (args_listiter_next _))))
  show wpAny _ _ (field (.ref it) 0 >>= _) _ _ s
  refine wpAny_bind (wpAny_field hit rfl (x := .ref l) rfl ?_)
  show wpAny _ _ (if (Value.ref l == Value.none) = true then _ else _) _ _ s
  rw [if_neg (by simp)]
  show wpAny _ _ (field (.ref it) 1 >>= _) _ _ s
  refine wpAny_bind (wpAny_field hit rfl (x := .int i 0) rfl ?_)
  show wpAny _ _ (seqItems? (.ref l) >>= _) _ _ s
  refine wpAny_bind (wpAny_seqItems hol hdl ?_)
  simp only [Int.toNat_natCast, List.getElem?_toArray, hx]
  refine wpAny_bind (wpAny_rule (wpAny_bind (wpAny_setField hit rfl (by simp) ?_)))
  show wpAny _ _ (newExc (.type "StopIteration") [] >>= _) _ _ _
  refine wpAny_bind ?_
  simp only [newExc, newTuple]
  refine wpAny_bind (wpAny_newObj_type ?_ (by size_fits))
  refine wpAny_bind (m := firstArgMember _ _) (wpAny_of_eq (a := Value.none) (by first | rfl | (simp only [firstArgMember]; rfl)) ?_)
  refine wpAny_newObj_type ?_ (by size_fits)
  simp only [raiseNew]
  refine wpAny_bind (wpAny_handled ?_)
  rw [show A.in1.handled = none from hh]
  refine wpAny_bind (wpAny_pure (wpAny_throw ?_))
  refine wpAny_bind (wpAny_isInstance (T := "StopIteration") (b := true) ⟨_, Heap.get?_push_size _ rfl, rfl⟩ isSubtype_stop ?_)
  refine wpAny_pure (h _ (Heap.get?_push_of_some _ (Heap.get?_push_of_some _ (Heap.get?_update_self _ hit rfl))) (((Heap.SameBut.update ..).extBut.push _).push _))
end

section
variable {c : Cx} {A : Around} {σ : Hp} {a : Addr} {cl : Value} {d : Option Addr} {xs : List Value} {n : Nat}
/-- iter(list), iter(accumulator) -/
theorem spec_iterCall (B : Bs c) (S : Sq σ a cl d xs n) : Spec c A σ (call (.builtin "list.__iter__") [.ref a]) (fun v σ' => ∃ it, v = .ref it ∧ σ it = none ∧ σ' = upd σ it (itObj (.ref a) 0)) := by
  refine spec_lb B lb_iter S (F.args_list_iter_1 _) ?_
  intro φ s Q E K q
  unfold Builtin.«list.__iter__»
  refine wpAny_bind (wpAny_pure ?_)
  refine wpAny_bind (wpAny_newObj_type ?_ (by size_fits))
  have K1 := K.new B (o := itObj (.ref a) 0) rfl
  exact wpAny_pure (q _ _ _ (fin_ret ⟨_, rfl, K1.1, rfl⟩) K1.2)
theorem sq_bindIf (B : Bs c) {φ : Hp} {s : Shared} {Q : Option (Value × List Value) → Shared → Prop} {E : Value → Shared → Prop} (S : Sq σ a cl d xs n) (K : Ok c φ σ s) (q : Q (some (.builtin "list.__iter__", [.ref a])) s) : wpAny c.M A (bindSpecialIfBound? (.ref a) "__iter__") Q E s := by
  unfold bindSpecialIfBound?
  refine wpAny_bind ((S.special B K ls_iter).here ?_)
  dsimp only
  rw [ls_iter.bind]
  refine wpAny_bind (wpAny_askSetting (wpAny_ite ?_))
  split
  · exact wpAny_bind (wpAny_pure (wpAny_pure q))
  · exact wpAny_tryCatch (wpAny_bind (wpAny_pure (wpAny_pure q)))
theorem spec_pyIter (B : Bs c) (S : Sq σ a cl d xs n) : Spec c A σ (pyIter (.ref a)) (fun v σ' => ∃ it, v = .ref it ∧ σ it = none ∧ σ' = upd σ it (itObj (.ref a) 0)) := by
  intro φ s Q E K q
  unfold pyIter
  refine wpAny_bind ((S.special B K ls_iter).here ?_)
  dsimp only
  unfold callSpecialIfBoundUnlessNone?
  refine wpAny_bind (wpAny_holding (wpAny_bind (sq_bindIf B S K ?_)))
  dsimp only
  rw [if_neg (by decide)]
  refine wpAny_bind (spec_iterCall B S φ s _ E K ?_)
  rintro _ _ s ⟨it, rfl, hit, rfl⟩ K
  refine wpAny_pure ?_
  dsimp only
  have T : s.TypeIs (.ref it) "list_iterator" := ⟨_, K.own _ _ (upd_same ..), rfl⟩
  refine wpAny_bind (wpAny_specialOf T slot_listiter_next.lookup ?_)
  exact wpAny_pure (q _ _ _ ⟨it, rfl, hit, rfl⟩ K)
/-- the next item; the end -/
theorem Ok.but {φ : Hp} {s s' : Shared} {x : Addr} {o o' : Obj} (B : Bs c) (K : Ok c φ σ s) (hx : σ x = some o) (ho : s'.heap.get? x = some o') (e : Heap.ExtBut x s.heap s'.heap) (hg : s'.gens = s.gens) (hos : s'.os = s.os) : Ok c φ (upd σ x o') s' := by
  have n225 := K.newσ _ _ hx
  refine ⟨fun b z h n => e _ _ (Nat.ne_of_lt (Nat.lt_of_lt_of_le (Heap.lt_size h) (Nat.le_trans B.sz n225))) (K.old b z h n), fun b z h => e _ _ (fun q => by subst q; have := K.dj _ _ hx; rw [this] at h; cases h) (K.fr b z h), fun b z h => ?_, fun b z h => ?_, fun b z h => ?_, K.newφ, fun P hP => ?_, hg ▸ K.gens, hos.trans K.os⟩
  · unfold upd at h
    split at h
    · rename_i q; cases h; rw [q]; exact ho
    · rename_i q; exact e _ _ q (K.own b z h)
  · unfold upd at h
    split at h
    · rename_i q; rw [q]; exact K.dj _ _ hx
    · exact K.dj b z h
  · unfold upd at h
    split at h
    · rename_i q; rw [q]; exact n225
    · exact K.newσ b z h
  · obtain ⟨ps, h1, h2⟩ := K.tab P hP
    refine ⟨ps, e _ _ (fun q => ?_) h1, h2⟩
    subst q
    exact absurd n225 (by revert hP; unfold tabs; intro hP; simp only [List.mem_cons, List.not_mem_nil, or_false] at hP; rcases hP with rfl | rfl <;> exact fun (z : (224 : Nat) ≤ _) => absurd z (by decide))
theorem spec_next (B : Bs c) {it : Addr} {i : Nat} {x : Value} (S : Sq σ a cl d xs n) (hit : σ it = some (itObj (.ref a) i)) (hx : xs[i]? = some x) : Spec c A σ (pyNext (.ref it)) (fun r σ' => r = some x ∧ σ' = upd σ it (itObj (.ref a) (i + 1))) :=
  fun φ s Q E K q => raw_next (K.own _ _ hit) (K.own _ _ S.at_) rfl hx fun h' h1 h2 => q _ _ _ ⟨rfl, rfl⟩ (K.but (s' := { s with heap := h' }) B hit h1 h2.extBut rfl rfl)
theorem spec_end (B : Bs c) {it : Addr} {i : Nat} (hh : A.handled = none) (S : Sq σ a cl d xs n) (hit : σ it = some (itObj (.ref a) i)) (hx : xs[i]? = none) : Spec c A σ (pyNext (.ref it)) (fun r σ' => r = none ∧ σ' = upd σ it (itObj .none i)) :=
  fun φ s Q E K q => raw_end hh (K.own _ _ hit) (K.own _ _ S.at_) rfl hx fun h' h1 h2 => q _ _ _ ⟨rfl, rfl⟩ (K.but (s' := { s with heap := h' }) B hit h1 h2 rfl rfl)
end


/-- the addresses among values -/
def adrs : List Value → List Addr
  | [] => []
  | .ref b :: vs => b :: adrs vs
  | _ :: vs => adrs vs
theorem Items.frame {h h' : Hp} : ∀ {xs : List Value} {ps : List (Str × Str)}, Items h xs ps → (∀ b ∈ adrs xs, ∀ o, h b = some o → h' b = some o) → Items h' xs ps
  | [], [], _, _ => trivial
  | _ :: xs, _ :: ps, x, k => by
    obtain ⟨⟨b, t1, t2, rfl, g⟩, y⟩ := x
    exact ⟨⟨b, t1, t2, rfl, k b (.head _) _ g⟩, Items.frame y fun b hb => k b (.tail _ hb)⟩
  | [], _ :: _, x, _ => x.elim
  | _ :: _, [], x, _ => x.elim
theorem Items.at {h : Hp} : ∀ {xs : List Value} {ps : List (Str × Str)} {i : Nat} {x : Value}, Items h xs ps → xs[i]? = some x → ∃ p, ps[i]? = some p ∧ TupAt h x p
  | _ :: xs, p :: ps, 0, x, I, e => by
    simp only [List.getElem?_cons_zero, Option.some.injEq] at e
    subst e
    exact ⟨p, rfl, I.1⟩
  | _ :: xs, p :: ps, i + 1, x, I, e => by
    simp only [List.getElem?_cons_succ] at e ⊢
    exact Items.at I.2 e
  | [], [], _, _, _, e => by simp at e
  | [], _ :: _, _, _, I, _ => I.elim
  | _ :: _, [], _, _, I, _ => I.elim
theorem Items.lt {h : Hp} {n : Nat} (hn : ∀ b o, h b = some o → b < n) : ∀ {xs : List Value} {ps : List (Str × Str)}, Items h xs ps → ∀ b ∈ adrs xs, b < n
  | [], [], _, _, hb => nomatch hb
  | _ :: xs, _ :: ps, x, b, hb => by
    obtain ⟨⟨b', t1, t2, rfl, g⟩, y⟩ := x
    simp only [adrs, List.mem_cons] at hb
    rcases hb with rfl | hb
    · exact hn _ _ g
    · exact Items.lt hn y b hb
  | [], _ :: _, x, _, _ => x.elim
  | _ :: _, [], x, _, _ => x.elim

def WSt (I a : Addr) (ol : Obj) (xs : List Value) (ps : List (Str × Str)) (i : Nat) (h : Heap) : Prop :=
  h.get? I = some (itObj (.ref a) i) ∧ h.get? a = some ol ∧ Items h.get? xs ps
def WPt (ps : List (Str × Str)) (i : Nat) (vals : Array Value) : Prop := ∃ p t1 t2, ps[i]? = some p ∧ vals = #[.str p.1 t1, .str p.2 t2]
def WMid (I a : Addr) (ol : Obj) (xs : List Value) (ps : List (Str × Str)) (i : Nat) (T : Addr) (h : Heap) : Prop := WSt I a ol xs ps (i + 1) h ∧ ∃ ts, h.get? T = some (tObj ts)

theorem it_notup {h : Heap} {I T : Addr} {v : Value} {i : Nat} {ts : List Value} (h1 : h.get? I = some (itObj v i)) (h2 : h.get? T = some (tObj ts)) : T ≠ I := by
  intro e
  rw [e, h1] at h2
  have : Value.type "list_iterator" = Value.type "tuple" := congrArg (fun o : Option Obj => match o with | some x => x.cls | none => .none) h2
  exact absurd this (by decide)

/-- the walk over an accumulator's pairs, by a list's iterator -/
theorem walksAcc {c : Cx} (I a : Addr) (hne : a ≠ I) (ol : Obj) (xs : List Value) (n : Nat) (ps : List (Str × Str)) (hd : ol.data = .seq xs.toArray n) (A : Around) (hh : A.handled = none) :
    WalksU PR c.w A I (I :: a :: adrs xs) [I] xs.length (WPt ps) (WSt I a ol xs ps) (WMid I a ol xs ps) where
  sub := fun b hb => by simp at hb; simp [hb]
  frame := fun i h h' st k => ⟨k _ (by simp) _ st.1, k _ (by simp) _ st.2.1, st.2.2.frame fun b hb o e => k b (by simp [hb]) o e⟩
  item := fun i s Q E hi st hQ => by
    obtain ⟨x, hx⟩ : ∃ x, xs[i]? = some x := ⟨_, List.getElem?_eq_getElem hi⟩
    obtain ⟨p, hp, T, t1, t2, rfl, hT⟩ := st.2.2.at hx
    refine raw_next (c := c) st.1 st.2.1 hd hx fun h' h1 h2 => ?_
    have hT' : h'.get? T = some (tObj [.str p.1 t1, .str p.2 t2]) := h2.extBut _ _ (it_notup st.1 hT) hT
    refine hQ T #[.str p.1 t1, .str p.2 t2] h' s.toks ⟨p, t1, t2, hp, rfl⟩ ⟨_, hT', rfl, _, rfl⟩ ⟨⟨h1, h2.extBut _ _ hne st.2.1, ?_⟩, _, hT'⟩ fun b o hb e => h2.extBut b o (fun q => hb (by simp [q])) e
    refine Items.mod (M := [I]) (σ := s.heap.get?) (fun b o hb e => h2.extBut b o (fun q => hb (by simp [q])) e) ?_ st.2.2
    intro b hb ts e
    simp only [List.mem_singleton] at hb
    subst hb
    exact it_notup st.1 e rfl
  go := fun _ _ _ _ T s Q _ hm hQ => wpAny_letOwnedTupleGo_listiter (l := a) ⟨_, hm.1.1, rfl, rfl⟩ (hQ s.heap hm.1 fun _ _ _ e => e)
  apart := fun j T h hm hmem => by
    obtain ⟨st, ts, e⟩ := hm
    simp only [List.mem_singleton] at hmem
    exact it_notup st.1 e hmem
  done := fun s Q E st hQ => raw_end (c := c) hh st.1 st.2.1 hd (by simp) fun h' _ he => hQ h' s.toks fun b o hb e => he b o (fun q => hb (by simp [q])) e
  self := fun i _ _ _ st hQ => wpAny_pyIter_listiter (l := a) (i := i) ⟨_, st.1, rfl, rfl⟩ hQ


theorem bm4 (P : Params) : nsIn (KM P) mainGlobals "__builtins__" = some (some (.ref 4)) := by kernel_rfl
theorem bo4 (P : Params) : (KM P).lookup 4 = some ({ cls := .type "module", dict := some builtinsNs, data := .plain } : Obj) := by kernel_rfl
theorem spec_builtinsFor {c : Cx} (B : Bs c) {A : Around} {σ : Hp} {g r : Addr} (hg : g = mainGlobals) : Spec c A σ (builtinsFor g r) (fun v σ' => builtinsNs = v ∧ σ = σ') := by
  subst hg
  refine Spec.look fun φ s K => ?_
  have X := K.kx B
  unfold builtinsFor
  refine (looks_nsIn X (bm4 _)).andThen ?_
  dsimp only
  rw [if_neg (by decide)]
  exact (Looks.ld (X _ _ (bo4 _))).andThen .now

/-- the code of a def with a generator expression: its table -/
def CodeT (P : Params) (cd T : Addr) : Prop := ∃ o vs file tf flags tg inF text tt, (KM P).lookup cd = some o ∧ o.cls = .type "code" ∧ o.data = .fields vs ∧ vs[11]? = some (.ref T) ∧ vs.getD 11 .none = .ref T ∧ vs.getD 18 .none = .str file tf ∧
    vs.getD 7 .none = .int flags tg ∧ vs.getD 9 .none = .bool inF ∧ vs.getD 10 .none = .int text tt
theorem codeT162 (P : Params) : CodeT P 166 162 := ⟨_, _, _, _, _, _, _, _, _, rfl, rfl, rfl, rfl, rfl, rfl, rfl, rfl, rfl⟩
theorem codeT169 (P : Params) : CodeT P 173 169 := ⟨_, _, _, _, _, _, _, _, _, rfl, rfl, rfl, rfl, rfl, rfl, rfl, rfl, rfl⟩
theorem tab_lt {P : Addr} (h : P ∈ tabs) : P < 224 := by
  unfold tabs at h
  simp only [List.mem_cons, List.not_mem_nil, or_false] at h
  rcases h with rfl | rfl <;> decide
theorem spec_gcode {c : Cx} (B : Bs c) {A : Around} {σ : Hp} {env : Env} {cd T : Addr} {pos : Pos} {q : Str} {scope : Scope} (hT : T ∈ tabs) (hc : env.code = .ref cd) (C : CodeT c.w.params cd T) (hne : cd ≠ T) :
    Spec c A σ (genexprCode env pos q scope) (fun _ σ' => σ = σ') := by
  intro φ s Q E K k
  obtain ⟨ps, h1, h2⟩ := K.tab T hT
  obtain ⟨o, vs, file, tf, flags, tg, inF, text, tt, a0, a1, a2, a3, a4, a5, a6, a7, a8⟩ := C
  have a0' := K.kx B _ _ a0
  have hok : s.heap.IsCode cd T ps := ⟨o, vs, file, tf, flags, tg, inF, text, tt, _, a0', a2, a4, a5, a6, a7, a8, h1, rfl, h2, hne⟩
  have htab : s.heap.TableAt cd T ps := ⟨⟨o, vs, a0', a1, a2, a3⟩, h1⟩
  cases hf : codeAmong pos ps.toList with
  | some v => exact wpAny_genexprCode_hit hc hok hf (k _ _ _ rfl K)
  | none =>
    refine wpAny_genexprCodeX hc hok htab hf fun c' h' tk e _ _ _ _ htab' _ => k _ _ _ rfl ?_
    have nT : ∀ b, Nat.le 224 b → b ≠ T := fun b hb q => by subst q; exact absurd (tab_lt hT) (Nat.not_lt.mpr hb)
    refine ⟨fun b x hx n => e _ _ (fun q => n (q ▸ hT)) (K.old b x hx n), fun b x hx => e _ _ (nT b (K.newφ b x hx)) (K.fr b x hx), fun b x hx => e _ _ (nT b (K.newσ b x hx)) (K.own b x hx), K.dj, K.newσ, K.newφ, fun P hP => ?_, K.gens, K.os⟩
    by_cases q : P = T
    · subst q
      exact ⟨_, htab'.2, by rw [Array.toList_append]; exact TriplesOk_snoc _ _ _ _ h2⟩
    · obtain ⟨ps', g1, g2⟩ := K.tab P hP
      exact ⟨ps', e _ _ q g1, g2⟩

/-- a generator that gives, for each pair, a value of which Fv tells -/
structure Gn (c : Cx) (A : Around) (φ σ : Hp) (L : Addr) (names : List Str) (vals : List (Option Value)) (n : Nat) (Fv : Nat → Value → Prop) (g : Addr) (s : Shared) : Prop where
  ex : ∃ fp wr G P St, WalksS PR c.w A.in4 g fp wr G n P St ∧ St 0 s ∧ (∀ b ∈ fp, b < s.heap.objs.size) ∧ g ∈ fp ∧ (∀ i s, St i s → s.TypeIs (.ref g) "generator") ∧ (∀ i v, P i v → Fv i v) ∧ (∀ s', Moved wr G s s' → Fm c φ σ L names vals s')
theorem Gn.toks {c : Cx} {A : Around} {φ σ : Hp} {L : Addr} {names : List Str} {vals : List (Option Value)} {n : Nat} {Fv : Nat → Value → Prop} {g : Addr} {s : Shared} (x : Gn c A φ σ L names vals n Fv g s) {t : Nat} (ht : s.toks ≤ t) : Gn c A φ σ L names vals n Fv g { s with toks := t } := by
  obtain ⟨fp, wr, G, P, St, W, st, h1, h2, h3, h4, h5⟩ := x.ex
  refine ⟨fp, wr, G, P, St, W, W.frame _ s _ _ st ht fun _ _ _ e => e, h1, h2, h3, h4, fun s' m => h5 s' ⟨m.heap, m.gens, m.drawn, m.os, Nat.le_trans ht m.toks⟩⟩

theorem passing_all (n : Nat) : passing (fun _ => true) n 0 = List.range n := by
  unfold passing
  simp

/-- (elt for xa, xb in accumulator) -/
theorem r_gen {c : Cx} (B : Bs c) {A : Around} {φ σ : Hp} {L : Addr} {names : List Str} {vals : List (Option Value)} {s : Shared} {Q : Value → Shared → Prop} {E : Value → Shared → Prop} {env : Env} {elt iter : Expr} {xa xb : Str} {pa pb pt : Pos} {kt : Nat} {scope : Scope} {pos : Pos} {cd T a : Addr} {cl : Value} {d : Option Addr} {xs : List Value} {n : Nat} {ps : List (Str × Str)} {Fv : Str × Str → Value → Prop} {k : Nat}
    (R : Rm A k) (N : Fn env L names) (F : Fm c φ σ L names vals s) (S : Sq σ a cl d xs n) (I : Items σ xs ps)
    (hT : T ∈ tabs) (hc : env.code = .ref cd) (C : CodeT c.w.params cd T) (hne : cd ≠ T)
    (hco : scope.isCoroutine = false) (hclos : closureFor scope env = pure []) (hcell : ∀ y ∈ scope.names, y.2 ≠ .cell) (h0 : scope.names.lookup (".0" : Str) = some NameKind.local)
    (hxa : scope.names.lookup xa = some .local) (hxb : scope.names.lookup xb = some .local) (hab : xa ≠ xb) (hkind : scope.kind = .function)
    (hs : ∀ x, genFold iter env x = pure x)
    (hit : ∀ Q : Value → Shared → Prop, Q (.ref a) s → wpAny c.M A (eval iter env) Q E s)
    (helt : ∀ (A' : Around) E' (p : Str × Str) t1 t2 (s₂ : Shared) m₂ C code, p ∈ ps → A'.handled = none → A'.depth ≤ A.depth + 1 → A'.units ≤ A.units + 8 → s₂.heap.Ns C m₂ → m₂ xa = some (.str p.1 t1) → m₂ xb = some (.str p.2 t2) → (KM c.w.params).In s₂.heap →
      (∃ mb, s₂.heap.Ns builtinsNs mb ∧ ∀ x : Str, x ≠ "__name__" → mb x = bootBuiltins x) →
      wpAny c.M A' (eval elt (genEnv scope [] C code builtinsNs env)) (fun y s₃ => Fv p y ∧ Keeps s₂ s₃) E' s₂)
    (h : ∀ g s', Gn c A φ σ L names vals ps.length (fun i v => ∃ p, ps[i]? = some p ∧ Fv p v) g s' → Fm c φ σ L names vals s' → Q (.ref g) s') :
    wpAny c.M A (eval (.GeneratorExp elt [⟨.Tuple [.Name xa pa, .Name xb pb] kt pt, iter, [], 0⟩] scope pos) env) Q E s := by
  refine wpAny_GeneratorExp_walksQTD R.hd hco hclos hcell h0 hxa hxb hab hkind R.room (hit _ ?_) hs
  refine (spec_pyIter B S).run F ?_
  rintro _ _ s ⟨it, rfl, hit, rfl⟩ F
  refine ⟨F.ok.nl B, ?_⟩
  refine (spec_gcode B hT hc C hne).run F ?_
  rintro code _ s rfl F
  refine (spec_builtinsFor B N.gl).run F ?_
  rintro _ _ s ⟨rfl, rfl⟩ F
  have nI : a ≠ it := fun e => by subst e; have := S.at_; rw [hit] at this; cases this
  have S1 : Sq (upd σ it (itObj (.ref a) 0)) a cl d xs n := ⟨upd_ext hit _ _ S.at_, S.lc⟩
  have I1 : Items s.heap.get? xs ps := Items.frame (h := σ) I fun b _ o e => F.ok.own _ _ (upd_ext hit _ _ e)
  have ha := F.ok.own _ _ S1.at_
  have hI := F.ok.own _ _ (upd_same σ it (itObj (.ref a) 0))
  have hlt : ∀ b o, s.heap.get? b = some o → b < s.heap.objs.size := fun b o e => Heap.lt_size e
  refine ⟨it, _, _, _, _, _, _, (fun _ => true), (fun i v => ∃ p, ps[i]? = some p ∧ Fv p v), rfl, fun A' hA => walksAcc (c := c) it a nI _ xs n ps rfl A' hA, ?_, ⟨hI, ha, I1⟩, ?_, F.ok.nl B, ?_, ?_, ?_⟩
  · rintro i vals ⟨p, t1, t2, hp, rfl⟩
    exact ⟨_, _, rfl⟩
  · intro b hb
    simp only [List.mem_cons] at hb
    rcases hb with rfl | rfl | hb
    · exact hlt _ _ hI
    · exact hlt _ _ ha
    · exact I1.lt hlt b hb
  · intro hm
    simp only [List.mem_singleton] at hm
    have := F.ok.newσ _ _ (upd_same σ it (itObj (.ref a) 0))
    rw [← hm] at this
    exact absurd this (fun (z : (224 : Nat) ≤ _) => absurd z (by decide))
  · intro href hk
    have h225 := F.ok.newσ _ _ (upd_same σ it (itObj (.ref a) 0))
    have keep : ∀ (s₂ : Shared), (∀ b ∈ List.range s.heap.objs.size, b ∉ [it] → ∀ o, href.get? b = some o → s₂.heap.get? b = some o) → ∀ b o, c.h.get? b = some o → b ∉ tabs → s₂.heap.get? b = some o := fun s₂ e b o ho n => by
      have ho' := F.ok.old b o ho n
      refine e b (List.mem_range.mpr (hlt _ _ ho')) ?_ o (hk _ _ ho')
      simp only [List.mem_singleton]
      exact Nat.ne_of_lt (Nat.lt_of_lt_of_le (Heap.lt_size ho) (Nat.le_trans B.sz h225))
    refine ⟨fun A' E' i va vb s₂ m₂ hA hD hU hP hN h1 h2 hk2 => wpAny_pure ⟨rfl, _, _, rfl, fun _ _ e => e⟩, fun A' E' i va vb s₂ m₂ hA hD hU hP _ hN h1 h2 hk2 => ?_⟩
    obtain ⟨p, t1, t2, hp, e⟩ := hP
    simp only [Array.mk.injEq, List.cons.injEq, and_true] at e
    obtain ⟨rfl, rfl⟩ := e
    have kp := keep s₂ hk2
    refine wpAny_mono (helt A' E' p t1 t2 s₂ m₂ _ code (List.mem_of_getElem? hp) hA hD hU hN h1 h2 ?_ ?_) (fun y s₃ z => ⟨⟨p, hp, z.1⟩, z.2⟩) fun _ _ e => e
    · intro b o e
      refine kp b o (B.kx b o e) fun hP => ?_
      unfold tabs at hP
      simp only [List.mem_cons, List.not_mem_nil, or_false] at hP
      rcases hP with rfl | rfl
      · rw [km162] at e; cases e
      · rw [km169] at e; cases e
    · obtain ⟨mb, n, e⟩ := B.bi
      exact ⟨mb, Ns.at n fun o h => kp _ o h (notTab (by decide) (by decide)), e⟩
  · intro g h₅ tk gs hgb hag hsz₅ hk₅ W hat
    rw [passing_all, List.length_range, I.len] at W
    rw [I.len] at hat
    have F5 : ∀ s' : Shared, AllBare s'.gens → s'.os = s.os → (∀ b o, b ≠ it → s.heap.get? b = some o → s'.heap.get? b = some o) → Fm c φ σ L names vals s' := by
      intro s' hg ho hk
      have hL : L ≠ it := fun e => by have := F.outσ; rw [e, upd_same] at this; cases this
      have hσ : ∀ b o, σ b = some o → b ≠ it := fun b o e q => by rw [q, hit] at e; cases e
      have hφ : ∀ b o, φ b = some o → b ≠ it := fun b o e q => by have := F.ok.dj _ _ (upd_same σ it (itObj (.ref a) 0)); rw [← q, e] at this; cases this
      have h225 := F.ok.newσ _ _ (upd_same σ it (itObj (.ref a) 0))
      refine ⟨⟨fun b o e n => hk b o (Nat.ne_of_lt (Nat.lt_of_lt_of_le (Heap.lt_size e) (Nat.le_trans B.sz h225))) (F.ok.old b o e n), fun b o e => hk b o (hφ b o e) (F.ok.fr b o e), fun b o e => hk b o (hσ b o e) (F.ok.own b o (upd_ext hit _ _ e)), fun b o e => F.ok.dj b o (upd_ext hit _ _ e), fun b o e => F.ok.newσ b o (upd_ext hit _ _ e), F.ok.newφ, fun P hP => ?_, hg, ho.trans F.ok.os⟩, Ns.at F.ns fun o e => hk _ _ hL e, ?_, F.outφ, F.hi⟩
      · obtain ⟨ps, g1, g2⟩ := F.ok.tab P hP
        exact ⟨ps, hk _ _ (Nat.ne_of_lt (Nat.lt_of_lt_of_le (tab_lt hP) h225)) g1, g2⟩
      · cases q : σ L with
        | none => rfl
        | some o => have := F.outσ; rw [upd_ext hit _ _ q] at this; cases this
    have FF := F5 { s with gens := s.gens.push gs, toks := tk, heap := h₅ } (F.ok.gens.push hgb) rfl fun b o _ e => hk₅ b o e
    refine h g _ ⟨⟨_, _, _, _, _, W, hat, ?_, List.mem_cons_self, (fun i s' st => st.1.typeIs), ?_, ?_⟩⟩ FF
    · intro b hb
      show b < h₅.objs.size
      rw [hsz₅]
      rcases List.mem_cons.mp hb with rfl | hb
      · exact Nat.lt_succ_self _
      · rcases List.mem_cons.mp hb with rfl | hb
        · exact Nat.lt_succ_of_lt hag
        · exact Nat.lt_succ_of_lt (Nat.lt_trans (List.mem_range.mp hb) hag)
    · rintro i v ⟨j, hj, h⟩
      have : j = i := by
        rw [List.getElem?_eq_some_iff] at hj
        obtain ⟨_, e⟩ := hj
        rw [List.getElem_range] at e
        exact e.symm
      subst this
      exact h
    · intro s' m
      refine F5 s' ((F.ok.gens.push hgb).moved m.gens) m.os fun b o nb e => m.heap b o ?_ (hk₅ b o e)
      simp only [List.mem_cons, List.not_mem_nil, or_false, not_or]
      exact ⟨Nat.ne_of_lt (hlt _ _ e), nb⟩


theorem args_sum2 (a b : Value) : argsOk "sum" ⟨[a, b], []⟩ := by unfold argsOk; kernel_rfl
def shVal (init : Int) (val : Nat → Int) : Nat → Int
  | 0 => init
  | i + 1 => val i
def shP (P : Nat → Value → Prop) : Nat → Value → Prop
  | 0, _ => False
  | i + 1, v => P i v
def shSt (St : Nat → Shared → Prop) : Nat → Shared → Prop
  | 0, _ => False
  | i + 1, s => St i s
theorem preSum_sh (init : Int) (val : Nat → Int) : ∀ n, preSum (shVal init val) (n + 1) = init + preSum val n
  | 0 => by simp [preSum, shVal]
  | n + 1 => by
    show preSum (shVal init val) (n + 1) + val n = init + (preSum val n + val n)
    rw [preSum_sh init val n, Int.add_assoc]
theorem walksSh {prog : Program} {w : World} {A : Around} {I : Addr} {fp wr : List Addr} {G : Array GenState → Array GenState → Prop} {n : Nat} {P : Nat → Value → Prop} {St : Nat → Shared → Prop} (W : WalksS prog w A I fp wr G n P St) :
    WalksS prog w A I fp wr G (n + 1) (shP P) (shSt St) where
  sub := W.sub
  grefl := W.grefl
  gtrans := W.gtrans
  frame := fun i s h' tk st ht hk => match i, st with | i + 1, st => W.frame i s h' tk st ht hk
  item := fun i s Q E hi st hQ => match i, hi, st, hQ with | i + 1, hi, st, hQ => W.item i s Q E (by omega) st hQ
  done := fun s Q E st hQ => W.done s Q E st hQ
  self := fun i s Q E st hQ => match i, st with | i + 1, st => W.self i s Q E st hQ

section
variable {c : Cx} {A : Around} {E : Value → Shared → Prop} {s : Shared} {Q : Value → Shared → Prop}
theorem sum_start {g : Addr} {fp wr : List Addr} {G : Array GenState → Array GenState → Prop} {n : Nat} {P : Nat → Value → Prop} {St : Nat → Shared → Prop} (W : WalksS PR c.w A.in1 g fp wr G n P St) (st : St 0 s) (hfp : ∀ b ∈ fp, b < s.heap.objs.size)
    (val : Nat → Int) (hval : ∀ i v, P i v → ∃ t, v = .int (val i) t) (init : Int) (t : Tok) (hq : ∀ s' t', Moved wr G s s' → Q (.int (init + preSum val n) t') s') : wpAny c.M A (call (.builtin "sum") [.ref g, .int init t]) Q E s := by
  refine call_function_tree F.kind_sum F.plain_sum F.entry_sum (args_sum2 _ _) ?_
  unfold Builtin.«sum»
  simp only [List.length_cons, List.length_nil]
  rw [if_neg (by decide)]
  refine wpAny_bind (wpAny_of_eq (show Builtin.Builtins.bindParams "sum" ["start"] 0 ⟨[.int init t], []⟩ = pure [some (.int init t)] from rfl) ?_)
  refine wpAny_bind (W.self 0 s _ _ st ?_)
  have hSf : s.heap.objs.size ∉ fp := fun hm => Nat.lt_irrefl _ (hfp _ hm)
  have fin : ∀ (tA : Tok) (tk : Nat) (stg : Int), s.toks ≤ tk → (stg = 0 ∨ stg = 2) → codeAny c.M A (.builtin "sum.loop" ⟨[.ref g, .ref s.heap.objs.size, rawInt stg, rawInt 0], []⟩) (fun r s' => match r with | .ok (.ret v) => Q v s' | .ok _ => False | .error e => E e s')
      { s with heap := s.heap.push { cls := .type "list", dict := none, data := .seq #[.int init tA] 0, slots := #[] }, toks := tk } := fun tA tk stg htk hst => by
    refine codeAny_sum_loopAnyS (walksSh W) (shVal init val) ?_ s.heap.objs.size hSf n 1 _ tA 0 stg hst (by omega) (by omega) (W.frame 0 s _ _ st htk fun b _ o e => Heap.get?_push_of_some _ e) ?_ fun s' t' hm => ?_
    · intro i v hP
      cases i with
      | zero => exact hP.elim
      | succ i => exact hval i v hP
    · rw [preSum_sh]
      simp only [preSum, Int.add_zero]
      exact Heap.get?_push_size _ rfl
    · rw [preSum_sh]
      exact hq s' t' (Moved.drop_new (s₂ := s) hm htk)
  have tail : ∀ (tA : Tok) (stg : Int) (s1 : Shared), s1.heap = s.heap → s1.gens = s.gens → s1.drawn = s.drawn → s1.os = s.os → s.toks ≤ s1.toks → (stg = 0 ∨ stg = 2) → wpAny c.M A.in1 (do
      for (ty, what, hint) in [("str", "strings", "''"), ("bytes", "bytes", "b''"), ("bytearray", "bytearray", "b''")] do
        if ← isInstance (.int init tA) (.type ty) then
          rule "sum.start-refused"; raiseError "TypeError" s!"sum() can't sum {what} [use {hint}.join(seq) instead]"
      again (.builtin "sum.loop" ⟨[.ref g, ← newList [.int init tA], rawInt stg, rawInt 0], []⟩)) (fun fin s' => match fin with
                | Fin.done f =>
                  match (Except.ok f : Result) with
                  | Except.ok (Flow.ret v) => Q v s'
                  | Except.ok a => False
                  | Except.error e => E e s'
                | Fin.again c' =>
                  c'.quiet = true ∧
                    codeAny c.M A c'
                      (fun r s' =>
                        match r with
                        | Except.ok (Flow.ret v) => Q v s'
                        | Except.ok a => False
                        | Except.error e => E e s')
                      s') E s1 := by
    intro tA stg s1 h1 h2 h3 h4 h5 hst
    simp only [List.forIn_cons, List.forIn_nil]
    refine wpAny_bind (wpAny_bind (wpAny_bind (wpAny_isInstance (T := "int") (b := false) (typeIs_int _ _ _) PySem.sub_int_str ?_)))
    simp only [Bool.false_eq_true, if_false]
    refine wpAny_pure (wpAny_bind (wpAny_bind (wpAny_isInstance (T := "int") (b := false) (typeIs_int _ _ _) PySem.sub_int_bytes ?_)))
    simp only [Bool.false_eq_true, if_false]
    refine wpAny_pure (wpAny_bind (wpAny_bind (wpAny_isInstance (T := "int") (b := false) (typeIs_int _ _ _) PySem.sub_int_bytearray ?_)))
    simp only [Bool.false_eq_true, if_false]
    refine wpAny_pure (wpAny_pure ?_)
    refine wpAny_bind (wpAny_newObj_type ?_)
    refine wpAny_pure ⟨plainId_quiet F.plain_sum_loop _, ?_⟩
    obtain ⟨h0, g0, d0, k0, os0⟩ := s1
    dsimp only at h1 h2 h3 h4 h5 ⊢
    subst h1 h2 h3 h4
    exact fin tA k0 stg h5 hst
  dsimp only
  split
  · refine wpAny_bind (wpAny_rule (wpAny_bind (wpAny_mkInt (wpAny_bind (wpAny_pure ?_)))))
    exact tail _ 0 _ rfl rfl rfl rfl (Nat.le_succ _) (.inl rfl)
  · refine wpAny_bind (wpAny_pure ?_)
    exact tail _ 2 _ rfl rfl rfl rfl (Nat.le_refl _) (.inr rfl)

theorem join_seq {x : Str} {t : Tok} {b : Addr} {o : Obj} {n : Nat} {l : List (Str × Tok)} (hb : s.heap.get? b = some o) (hc : (o.cls == .type "list" || o.cls == .type "tuple") = true) (hd : o.data = .seq (strValues l).toArray n) (hok : JoinOk x (l.map (·.1)) = true)
    (h : ∀ t' k, Q (.str (Txt.join x (l.map (·.1))) t') { s with toks := k }) : wpAny c.M A (call (.builtin "str.join") [.str x t, .ref b]) Q E s := by
  refine wpAny_call (codeAny_call_builtin F.slot_str_join.plain F.entry_str_join (F.slot_str_join.check _ _ _ _ _ _ _ _ (typeIs_str _ _ _) (F.args_str_join_2 _ _) ?_))
  rw [join_tree_other]
  refine wpAny_bind (((Looks.ld (M := c.M) hb).andThen .now : Looks c.M s.heap (typeOf (.ref b)) o.cls).here ?_)
  rw [hc, if_pos rfl]
  refine wpAny_bind (wpAny_seqItems hb hd ?_)
  dsimp only
  unfold JoinOk at hok
  rw [Bool.not_eq_true'] at hok
  have g : Gives (joinTail x (strValues l)) (joinMade x l) := by
    have g0 := gives_joinTail x l hok
    cases l with
    | nil => exact g0
    | cons p r => cases r with
      | nil => exact g0
      | cons q r' => exact g0
  exact g PR c.w A (wants Q E) s (post_join l ⟨joinFit_length hok, h⟩)
end


/-- an attribute, the state told -/
theorem raw_getattr {c : Cx} (B : Bs c) {A : Around} {φ σ : Hp} {s : Shared} {Q : Value → Shared → Prop} {E : Value → Shared → Prop} {x C d : Addr} {dat : Data} {m : Str → Option Value} {k : Nat} {name : Str} {v : Value} {ex : Bool} (K : Ok c φ σ s) (I : Inst σ x C d dat m k) (T : Cls c.w.params C)
    (hn : findIn (KM c.w.params) (.ref C) name = some none) (hv : m name = some v) (hh : handedIn v = true) (q : Q v { s with toks := s.toks + 1 }) : wpAny c.M A (getAttr (.ref x) name ex) Q E s := by
  obtain ⟨es, ep, h1, h2, h3, h4, I'⟩ := I.of K
  obtain ⟨cd, hc, hd⟩ := any_some T.cd
  have X := K.kx B
  have hf : findObj (KM c.w.params) C (some { cls := .type "dict", data := .dict es ep }) name = some (.value v) := by
    unfold findObj
    rw [hc, Option.bind_some, hn, Option.bind_some, Option.bind_some, Option.bind_some]
    dsimp only
    unfold W.ownOf
    rw [if_pos hd]
    dsimp only
    rw [lookIn_ns h2, h3, hv, Option.bind_some]
  obtain ⟨ga, hg, rfl | ⟨rfl, hl⟩⟩ := T.ga
  · exact get_value X I' hg hf hh q
  · unfold getAttr getAttrBy
    obtain ⟨hp, g, dd, t, os⟩ := s
    have L0 := I'.type (M := c.M)
    have L1 := looks_findIn (M := c.M) X hg
    have L2 := looks_findIn (M := c.M) X T.gn
    have L3 := looks_find (M := c.M) X I' hf
    have L4 : Looks c.M hp (isInstance (.ref x) (.type "list")) true := L0.andThen (looks_mroIn X hl)
    refine wpAny_bind (wpAny_mkText (wpAny_holding (wpAny_bind (L0.at (wpAny_bind (L1.at ?_))))))
    show wpAny _ _ (getAttrByItsOwn _ _ _ _ _ _) _ _ _
    unfold getAttrByItsOwn hookBefore
    refine wpAny_bind (L2.at ?_)
    refine wpAny_bind (wpAny_attempt (wpAny_holding ?_))
    unfold callGetattribute
    rw [show (ex && onTheHeap (Value.builtin "list.__getattribute__")) = false by cases ex <;> rfl]
    simp only [Bool.false_eq_true, if_false]
    unfold boundAndCalled
    rw [F.slot_list_getattribute.bind]
    refine wpAny_bind (wpAny_pure ?_)
    refine wpAny_call ?_
    show codeAny c.M A (.call (.builtin "list.__getattribute__") ⟨[.ref x, .str name t], []⟩) _ _
    refine codeAny_call_builtin (id := "list.__getattribute__") (args := ⟨[.ref x, .str name t], []⟩) (b := Builtin.«object.__getattribute__») F.slot_list_getattribute.plain entry_lga ?_
    refine check_slot (i := "list.__getattribute__") (self := .ref x) (rest := [.str name t]) (kw := []) lga_kind lga_split L4 (F.args_list_getattribute_2 _ _) ?_
    show wpAny _ _ (Builtin.«object.__getattribute__» ⟨[.ref x, .str name t], []⟩) _ _ _
    refine wpAny_bind (wpAny_pure (wpAny_bind (wpAny_pure (wpAny_bind (L0.at (wpAny_bind (L3.at ?_)))))))
    refine wpAny_pure ?_
    dsimp only
    rw [handedOut_of hh]
    exact wpAny_pure q

section
variable {c : Cx} {A : Around} {E : Value → Shared → Prop} {s : Shared} {Q : Value → Shared → Prop} {env : Env}
/-- names within a generator's frame -/
theorem raw_loc {C : Addr} {m : Str → Option Value} {x : Str} {pos : Pos} {v : Value} (hk : env.scope.kind = .function) (hx : env.kindOf x = some .local) (hl : env.locals = C) (n : s.heap.Ns C m) (hv : m x = some v) (h : Q v s) (hd : (x == ("__debug__" : Str)) = false := by decide +kernel) : wpAny c.M A (eval (.Name x pos) env) Q E s :=
  wpAny_Name (wpAny_loadName_local hk hx (hl ▸ n) hv h) hd
theorem raw_glob {x : Str} {pos : Pos} {v : Value} (hk : env.scope.kind = .function) (hx : env.kindOf x = some .globalImplicit) (hg : env.globals = mainGlobals) (X : (KM c.w.params).In s.heap) (e : nsIn (KM c.w.params) mainGlobals x = some (some v)) (h : Q v s) (hd : (x == ("__debug__" : Str)) = false := by decide +kernel) : wpAny c.M A (eval (.Name x pos) env) Q E s := by
  refine wpAny_Name (ks_loadName_global hk hx ?_) hd
  unfold loadGlobal
  rw [hg]
  exact wpAny_bind ((looks_nsIn X e).here (wpAny_pure h))
theorem raw_bi {x : Str} {pos : Pos} {v : Value} (hk : env.scope.kind = .function) (hx : env.kindOf x = some .globalImplicit) (hg : env.globals = mainGlobals) (hb : env.builtins = builtinsNs) (X : (KM c.w.params).In s.heap) (Bi : ∃ mb, s.heap.Ns builtinsNs mb ∧ ∀ x : Str, x ≠ "__name__" → mb x = bootBuiltins x)
    (e : nsIn (KM c.w.params) mainGlobals x = some none) (eb : bootBuiltins x = some v) (h : Q v s) (hn : (x == ("__name__" : Str)) = false := by decide +kernel) (hd : (x == ("__debug__" : Str)) = false := by decide +kernel) : wpAny c.M A (eval (.Name x pos) env) Q E s := by
  refine wpAny_Name (ks_loadName_global hk hx ?_) hd
  obtain ⟨mb, n, eq⟩ := Bi
  unfold loadGlobal
  rw [hg, hb]
  refine wpAny_bind ((looks_nsIn X e).here ?_)
  refine wpAny_bind (wpAny_nsGet n ?_)
  rw [eq x (fun q => by rw [beq_iff_eq.mpr q] at hn; cases hn), eb]
  exact wpAny_pure h
end

def plen (p : Str × Str) : Nat := p.1.length + p.2.length
def alen (ps : List (Str × Str)) : Nat := (ps.map plen).sum
theorem alen_mem : ∀ {ps : List (Str × Str)} {p : Str × Str}, p ∈ ps → plen p ≤ alen ps
  | [], _, h => nomatch h
  | q :: ps, p, h => by
    simp only [alen, List.map_cons, List.sum_cons]
    rcases List.mem_cons.mp h with rfl | h
    · omega
    · have := alen_mem h; unfold alen at this; omega
/-- small texts -/
structure Sm (ps : List (Str × Str)) : Prop where
  n : ps.length ≤ 1000
  l : alen ps ≤ 100000

abbrev lenFd : FuncData := fdM 7 4 (Str.ofString "_Accumulator.__len__") [] .none 166 .none
theorem len_fn (L : Addr) : Fn (callEnv lenFd L 167) L ["self"] := fn_of rfl (by decide +kernel) (by kernel_rfl) rfl rfl (by decide +kernel)
theorem len_bi (P : Params) : nsIn (KM P) mainGlobals "len" = some none := by kernel_rfl
theorem len_boot : bootBuiltins "len" = some (.builtin "len") := by decide +kernel
theorem sum_bi (P : Params) : nsIn (KM P) mainGlobals "sum" = some none := by kernel_rfl
theorem sum_boot : bootBuiltins "sum" = some (.builtin "sum") := by decide +kernel

theorem preSum_alen (ps : List (Str × Str)) : ∀ k, k ≤ ps.length → preSum (fun i => ((ps[i]?.map plen).getD 0 : Nat)) k = (alen (ps.take k) : Nat)
  | 0, _ => rfl
  | k + 1, h => by
    have e := List.getElem?_eq_getElem (l := ps) (i := k) h
    show preSum _ k + (((ps[k]?.map plen).getD 0 : Nat) : Int) = _
    rw [preSum_alen ps k (by omega), e, List.take_add_one, e]
    simp only [alen, List.map_append, List.sum_append, Option.toList, List.map_cons, List.map_nil, List.sum_cons, List.sum_nil, Option.map_some, Option.getD_some, Nat.add_zero, Int.natCast_add]
theorem r_callN {c : Cx} {A : Around} {E : Value → Shared → Prop} {s : Shared} {env : Env} {x : Str} {np pos : Pos} {args : List Expr} {Q : Value → Shared → Prop}
    (h : wpAny c.M A (eval (.Name x np) env) (fun f s₁ => wpAny c.M A (callWith pos f [] (backTo pos (starEach args env)) []) Q E s₁) E s) : wpAny c.M A (eval (.Call (.Name x np) args [] pos) env) Q E s := by
  show wpAny c.M A (do callWith pos (← eval (.Name x np) env) [] (backTo pos (starEach args env)) (backToKw pos (keywordEach [] env))) Q E s
  exact wpAny_bind h

theorem len_spec {c : Cx} (B : Bs c) {A : Around} {σ : Hp} {a d : Addr} {init : Int} {ps : List (Str × Str)} (R : Rm A 20) (H : Acc σ a d init ps) (hz : Sm ps) :
    Spec c A σ (call (.ref 167) [.ref a]) (fun v σ' => IsI v (init + (alen ps : Nat)) ∧ σ = σ') := by
  obtain ⟨xs, n, t, S, I, D⟩ := H.ex
  refine spec_call (cspec_fn B R ["self"] [.ref a] [] (names := ["self"]) (fd := lenFd) (body := bodyS (methS 7 4)) (by kernel_rfl) (by kernel_rfl) rfl (fun _ _ _ => BindsTo.of_eq (by kernel_rfl)) (by kernel_rfl) (by kernel_rfl) (by decide +kernel) ?_)
  intro φ L s Q E F k
  have N := len_fn L
  refine wpAny_execs_cons ?_
  refine wpAny_Return_some ?_
  refine r_callN ?_
  refine r_bi B N F (sum_bi _) sum_boot ?_
  refine r_callW (kpr_builtin _) ?_
  refine r_arg ?_
  refine r_gen (k := 19) (Fv := fun p v => ∃ t, v = .int ((plen p : Nat) : Int) t) B (R.le (by decide : 20 ≤ 20)).deeper N F S I (T := 162) (cd := 166) (by simp [tabs]) rfl (codeT162 _) (by decide) rfl rfl (by decide +kernel) (by kernel_rfl) (by kernel_rfl) (by kernel_rfl) (by decide) rfl (fun _ => rfl) ?_ ?_ ?_
  · intro Q q
    exact r_ld N F 0 rfl rfl q
  · intro A' E' p t1 t2 s₂ m₂ C code hp hA hD hU hN h1 h2 X Bi
    have hpl := Nat.le_trans (alen_mem hp) hz.l
    unfold plen at hpl
    refine wpAny_BinOp ?_
    refine Call_name1 rfl ?_
    refine raw_bi rfl (by kernel_rfl) rfl rfl X Bi (len_bi _) len_boot ?_
    refine callWith_builtin1 ?_
    refine raw_loc rfl (by kernel_rfl) rfl hN h1 ?_
    refine P.len_str (by omega) ?_
    refine Call_name1 rfl ?_
    refine raw_bi rfl (by kernel_rfl) rfl rfl X Bi (len_bi _) len_boot ?_
    refine callWith_builtin1 ?_
    refine raw_loc rfl (by kernel_rfl) rfl hN h2 ?_
    refine P.len_str (by omega) ?_
    (with_reducible refine P.add_int ?_)
    exact ⟨⟨_, by unfold plen; rw [Int.natCast_add]⟩, _, _, rfl, fun _ _ e => e⟩
  · intro g s G F
    refine r_arg ?_
    refine Attribute_name ?_
    refine r_ld N F 0 rfl rfl ?_
    refine raw_getattr B F.ok (inst_of S D) (cls200 _) (by kernel_rfl) rfl rfl ?_
    refine r_args0 ?_
    refine ⟨(show (KM c.w.params).In s.heap from F.ok.kx B), ?_⟩
    obtain ⟨fp, wr, G', P, St, W, st, h1, h2, h3, h4, h5⟩ := (G.toks (Nat.le_succ _)).ex
    refine sum_start W.of_in1.of_in1.of_in1 st h1 (fun i => ((ps[i]?.map plen).getD 0 : Nat)) ?_ init t fun s' t' m => ?_
    · intro i v hP
      obtain ⟨p, hp, t, rfl⟩ := h4 i v hP
      exact ⟨t, by rw [hp]; rfl⟩
    · rw [preSum_alen ps _ (Nat.le_refl _), List.take_length]
      exact k _ _ _ ⟨⟨_, rfl⟩, rfl⟩ (h5 s' m).ok
abbrev strFd : FuncData := fdM 7 5 (Str.ofString "_Accumulator.__str__") [] .none 173 .none
theorem str_fn (L : Addr) : Fn (callEnv strFd L 174) L ["self"] := fn_of rfl (by decide +kernel) (by kernel_rfl) rfl rfl (by decide +kernel)
theorem empty_g (P : Params) : ∃ t, nsIn (KM P) mainGlobals "EMPTYSTRING" = some (some (.str (Str.ofString "") t)) := ⟨_, by rfl⟩

theorem joinOk_of {sep : Str} {texts : List Str} (h : (texts.map (·.length)).sum + texts.length * sep.length ≤ 16777216) : JoinOk sep texts = true := by
  unfold JoinOk Builtin.Str.tooLong
  rw [StrLaws.joinTotal, sizeLine_eq]
  simp only [Bool.not_eq_true', decide_eq_false_iff_not]
  omega
def pcat (p : Str × Str) : Str := p.1 ++ p.2
def acat (ps : List (Str × Str)) : Str := Txt.join (Str.ofString "") (ps.map pcat)
theorem app_length (x y : Str) : (x ++ y).length = x.length + y.length := by
  show (x.cps ++ y.cps).size = _
  rw [Array.size_append]; rfl
theorem pcat_length (p : Str × Str) : (pcat p).length = plen p := app_length _ _
theorem join2 (x y : Str) : Txt.join (Str.ofString "") [x, y] = x ++ y := by
  show (⟨x.cps ++ (Str.ofString "").cps ++ y.cps⟩ : Str) = ⟨x.cps ++ y.cps⟩
  rw [show (Str.ofString "").cps = #[] from by decide +kernel, Array.append_empty]

theorem str_spec {c : Cx} (B : Bs c) {A : Around} {σ : Hp} {a d : Addr} {init : Int} {ps : List (Str × Str)} (R : Rm A 20) (H : Acc σ a d init ps) (hz : Sm ps) :
    Spec c A σ (call (.ref 174) [.ref a]) (fun v σ' => IsS v (acat ps) ∧ σ = σ') := by
  obtain ⟨xs, n, t, S, I, D⟩ := H.ex
  refine spec_call (cspec_fn B R ["self"] [.ref a] [] (names := ["self"]) (fd := strFd) (body := bodyS (methS 7 5)) (by kernel_rfl) (by kernel_rfl) rfl (fun _ _ _ => BindsTo.of_eq (by kernel_rfl)) (by kernel_rfl) (by kernel_rfl) (by decide +kernel) ?_)
  intro φ L s Q E F k
  have N := str_fn L
  obtain ⟨te, he⟩ := empty_g c.w.params
  refine wpAny_execs_cons ?_
  refine wpAny_Return_some ?_
  refine r_method ?_
  refine r_glob B N F he ?_
  intro pl
  refine GM.join ?_
  refine r_callW (kpr_builtin _) ?_
  refine r_arg ?_
  refine r_gen (k := 19) (Fv := fun p v => ∃ t, v = .str (pcat p) t) B (R.le (by decide : 20 ≤ 20)).deeper N F S I (T := 169) (cd := 173) (by simp [tabs]) rfl (codeT169 _) (by decide) rfl rfl (by decide +kernel) (by kernel_rfl) (by kernel_rfl) (by kernel_rfl) (by decide) rfl (fun _ => rfl) ?_ ?_ ?_
  · intro Q q
    exact r_ld N F 0 rfl rfl q
  · intro A' E' p t1 t2 s₂ m₂ C code hp hA hD hU hN h1 h2 X Bi
    have hpl := Nat.le_trans (alen_mem hp) hz.l
    unfold plen at hpl
    refine r_method ?_
    refine raw_glob rfl (by kernel_rfl) rfl X he ?_
    intro pl
    refine GM.join ?_
    refine r_callW (kpr_builtin _) ?_
    refine r_arg ?_
    refine r_tuple ?_
    refine r_arg ?_
    refine raw_loc rfl (by kernel_rfl) rfl hN h1 ?_
    refine r_arg ?_
    refine raw_loc rfl (by kernel_rfl) rfl hN h2 ?_
    refine r_args0 ?_
    refine wpAny_newObj_type ?_ (by size_fits)
    refine r_args0 ?_
    refine ⟨fun b o e => Heap.get?_push_of_some _ (X b o e), ?_⟩
    refine join_seq (l := [(p.1, t1), (p.2, t2)]) (Heap.get?_push_size _ rfl) rfl rfl (joinOk_of ?_) fun t' k => ?_
    · show p.1.length + (p.2.length + 0) + 2 * 0 ≤ _
      omega
    · exact ⟨⟨t', by rw [show ([(p.1, t1), (p.2, t2)].map (·.1)) = [p.1, p.2] from rfl, join2]; rfl⟩, _, _, rfl, fun b o e => Heap.get?_push_of_some _ e⟩
  · intro g s G F
    refine r_args0 ?_
    refine ⟨F.ok.kx B, ?_⟩
    obtain ⟨fp, wr, G', P, St, W, st, h1, h2, h3, h4, h5⟩ := G.ex
    refine SC.joinGen W.of_in1.of_in1 h3 st h1 h2 ?_ ?_ (by rw [sizeLine_eq]; have := hz.n; omega)
    · intro i v hP
      obtain ⟨p, hp, t, rfl⟩ := h4 i v hP
      exact ⟨_, _, rfl⟩
    · intro s' l m hI
      have hl : l.map (·.1) = ps.map pcat := by
        obtain ⟨e1, e2⟩ := hI
        have el : l.length = ps.length := by rw [← e1]; simp [strValues]
        refine List.ext_getElem? fun i => ?_
        by_cases hi : i < l.length
        · obtain ⟨p, hp, t, e⟩ := h4 i _ (e2 i (.str l[i].1 l[i].2) (by simp [strValues, hi]))
          simp only [Value.str.injEq] at e
          rw [List.getElem?_map, List.getElem?_map, hp, List.getElem?_eq_getElem hi]
          exact congrArg some e.1
        · rw [List.getElem?_eq_none (by simpa using hi), List.getElem?_eq_none (by rw [List.length_map, ← el]; omega)]
      rw [hl]
      refine ⟨joinOk_of ?_, fun t' k' => ?_⟩
      · have : (ps.map pcat).map (·.length) = ps.map plen := by rw [List.map_map]; exact List.map_congr_left fun p _ => pcat_length p
        rw [this]
        have := hz.l
        show alen ps + _ * 0 ≤ _
        omega
      · exact k _ _ _ ⟨⟨_, rfl⟩, rfl⟩ ((h5 s' m).ok.toks k')


theorem len200 (P : Params) : findIn (KM P) (.ref 200) "__len__" = some (some (.ref 167)) := by kernel_rfl
theorem str200 (P : Params) : findIn (KM P) (.ref 200) "__str__" = some (some (.ref 174)) := by kernel_rfl
theorem bool200 (P : Params) : findIn (KM P) (.ref 200) "__bool__" = some none := by kernel_rfl
theorem fn167 (P : Params) : typeIn (KM P) (.ref 167) = some (.type "function") := by kernel_rfl
theorem isfn174 (P : Params) : isFn (KM P) (.ref 174) = true := by kernel_rfl

/-- a built-in function -/
theorem spec_fun {c : Cx} {A : Around} {σ : Hp} {id : String} {b : Builtin} {args : List Value} {P : Value → Hp → Prop} (hk : builtinKind id = none) (hp : plainId id = true) (he : entryFor table id = some b) (ha : argsOk id ⟨args, []⟩) (h : Spec c A.in1 σ (b ⟨args, []⟩) (FinOk c A P)) :
    Spec c A σ (call (.builtin id) args) P := by
  intro φ s Q E K q
  refine call_function_tree hk hp he ha (h φ s _ _ K fun fin σ' s' f K' => ?_)
  exact finok (R := fun r s' => match r with | .ok (.ret v) => Q v s' | .ok _ => False | .error e => E e s') K' (fun v σ' s' p K => q v σ' s' p K) f

section
variable {c : Cx} {A : Around} {σ : Hp} {a d : Addr} {init : Int} {ps : List (Str × Str)}
theorem len_tree (B : Bs c) (R : Rm A 21) (H : Acc σ a d init ps) (hz : Sm ps) (hi : 0 ≤ init) (hi2 : init ≤ 1000) : Spec c A.in1 σ (Builtin.«len» ⟨[.ref a], []⟩) (FinOk c A fun v σ' => IsI v (init + (alen ps : Nat)) ∧ σ = σ') := by
  intro φ s Q E K q
  have H' := H
  obtain ⟨xs, n, t, S, I, D⟩ := H.ex
  obtain ⟨es, ep, h1, h2, h3, h4, I'⟩ := (inst_of S D).of K
  have hl := hz.l
  unfold Builtin.«len»
  refine wpAny_bind (m := oneArg "len" _) (wpAny_pure ?_)
  refine wpAny_bind (m := callSpecial? (.ref a) (Str.ofString "__len__")) (special_fn (K.kx B) I' (len200 _) (fn167 _) ?_)
  refine len_spec B R.in1 H' hz φ s _ E K ?_
  rintro _ _ s ⟨⟨t1, rfl⟩, rfl⟩ K
  refine wpAny_bind (wpAny_holding (wpAny_pure ?_))
  refine wpAny_bind (wpAny_letGo ?_)
  show wpAny _ _ (if init + ((alen ps : Nat) : Int) < 0 then _ else _) _ _ _
  rw [if_neg (by omega)]
  show wpAny _ _ (if init + ((alen ps : Nat) : Int) ≥ 2 ^ 63 then _ else _) _ _ _
  rw [if_neg (by omega)]
  exact wpAny_bind (wpAny_mkInt (wpAny_pure (q _ _ _ (fin_ret ⟨⟨_, rfl⟩, rfl⟩) (K.toks _))))
theorem spec_lenA (B : Bs c) (R : Rm A 21) (H : Acc σ a d init ps) (hz : Sm ps) (hi : 0 ≤ init) (hi2 : init ≤ 1000) : Spec c A σ (call (.builtin "len") [.ref a]) (fun v σ' => IsI v (init + (alen ps : Nat)) ∧ σ = σ') := by
  exact spec_fun kind_len plain_len entry_len (args_len1 _) (len_tree B R H hz hi hi2)
theorem spec_truthyA (B : Bs c) (R : Rm A 21) (H : Acc σ a d init ps) (hz : Sm ps) (hi : 0 ≤ init) (hi2 : init ≤ 1000) : Spec c A σ (truthy (.ref a)) (fun v σ' => v = decide (init + (alen ps : Nat) ≠ 0) ∧ σ = σ') := by
  intro φ s Q E K q
  have H' := H
  obtain ⟨xs, n, t, S, I, D⟩ := H.ex
  obtain ⟨es, ep, h1, h2, h3, h4, I'⟩ := (inst_of S D).of K
  have X := K.kx B
  unfold truthy
  refine wpAny_bind (m := callSpecial? (.ref a) (Str.ofString "__bool__")) (wpAny_bind (wpAny_bind (I'.type.here ((looks_findIn X (bool200 _)).here (wpAny_pure ?_)))))
  refine wpAny_bind (wpAny_bind (I'.type.here ((looks_findIn X (len200 _)).here ?_)))
  refine wpAny_bind (spec_runValue (cspec_builtin plain_len entry_len (len_tree B R H' hz hi hi2)) φ s _ E K ?_)
  rintro _ _ s ⟨⟨t1, rfl⟩, rfl⟩ K
  refine wpAny_pure (q _ _ _ ⟨?_, rfl⟩ K)
  by_cases h : init + (alen ps : Nat) = 0 <;> simp [bne, h]
theorem spec_strA (B : Bs c) (R : Rm A 22) (H : Acc σ a d init ps) (hz : Sm ps) : Spec c A σ (call (.type "str") [.ref a]) (fun v σ' => IsS v (acat ps) ∧ σ = σ') := by
  intro φ s Q E K q
  have H' := H
  obtain ⟨xs, n, t, S, I, D⟩ := H.ex
  obtain ⟨es, ep, h1, h2, h3, h4, I'⟩ := (inst_of S D).of K
  refine kso_call R.in1.in1.units (K.kx B) I' (str200 _) (isfn174 _) ?_
  refine str_spec B R.in1.in1 H' hz φ s _ E K ?_
  rintro _ _ s ⟨⟨t1, rfl⟩, rfl⟩ K
  exact q _ _ _ ⟨⟨_, rfl⟩, rfl⟩ K
end

abbrev owFd : FuncData := fdM 7 7 (Str.ofString "_Accumulator.is_onlyws") [] .none 188 .none
theorem ow_fn (L : Addr) : Fn (callEnv owFd L 189) L ["self"] := fn_of rfl (by decide +kernel) (by kernel_rfl) rfl rfl (by decide +kernel)
theorem str_bi (P : Params) : nsIn (KM P) mainGlobals "str" = some none := by kernel_rfl
theorem str_boot : bootBuiltins "str" = some (.type "str") := by decide +kernel
def onlyws (init : Int) (ps : List (Str × Str)) : Bool := decide (init = 0) && (decide (alen ps = 0) || Txt.isspace (acat ps))
theorem ow_spec {c : Cx} (B : Bs c) {A : Around} {σ : Hp} {a d : Addr} {init : Int} {ps : List (Str × Str)} (R : Rm A 25) (H : Acc σ a d init ps) (hz : Sm ps) (hi : 0 ≤ init) (hi2 : init ≤ 1000) :
    Spec c A σ (call (.ref 189) [.ref a]) (fun v σ' => v = .bool (onlyws init ps) ∧ σ = σ') := by
  have H' := H
  obtain ⟨xs, n, t, S, I, D⟩ := H.ex
  refine spec_call (cspec_fn B R ["self"] [.ref a] [] (names := ["self"]) (fd := owFd) (body := bodyS (methS 7 7)) (by kernel_rfl) (by kernel_rfl) rfl (fun _ _ _ => BindsTo.of_eq (by kernel_rfl)) (by kernel_rfl) (by kernel_rfl) (by decide +kernel) ?_)
  intro φ L s Q E F k
  have N := ow_fn L
  refine wpAny_execs_cons ?_
  refine wpAny_Return_some ?_
  refine BoolOp_and ?_
  refine wpAny_Compare1 ?_
  refine Attribute_name ?_
  refine r_ld N F 0 rfl rfl ?_
  refine F.specE (spec_getattr B (inst_of S D) (cls200 _) (by kernel_rfl) rfl rfl) ?_
  intro s F
  refine F.specT spec_const_int ?_
  intro t2 s F
  refine F.specV spec_eq_int ?_
  intro s F
  refine F.specV spec_truthy_bool ?_
  intro s F
  by_cases h0 : init = 0
  · rw [if_pos (by simpa using h0)]
    refine BoolOp_one ?_
    refine BoolOp_or ?_
    refine wpAny_UnaryOp ?_
    refine r_ld N F 0 rfl rfl ?_
    refine not_value ?_
    refine F.specV (spec_truthyA B (R.le (by decide : 22 ≤ 25)).deeper H' hz hi hi2) ?_
    intro s F
    refine F.specV spec_truthy_bool ?_
    intro s F
    have e : decide (init + (alen ps : Nat) ≠ 0) = !decide (alen ps = 0) := by
      subst h0; by_cases z : alen ps = 0 <;> simp [z]
    rw [e, Bool.not_not]
    by_cases z : alen ps = 0
    · rw [if_pos (by simpa using z)]
      exact k _ _ _ ⟨by unfold onlyws; simp [h0, z], rfl⟩ F.ok
    · rw [if_neg (by simpa using z)]
      refine BoolOp_one ?_
      refine r_method ?_
      refine r_callN ?_
      refine r_bi B N F (str_bi _) str_boot ?_
      refine r_callW (kpr_type _) ?_
      refine r_arg ?_
      refine r_ld N F 0 rfl rfl ?_
      refine r_args0 ?_
      refine ⟨F.ok.kx B, ?_⟩
      refine F.specT (spec_strA B (R.le (by decide : 23 ≤ 25)).deeper H' hz) ?_
      intro t3 s F
      intro pl
      refine GM.isspace ?_
      refine r_callW0 (kpr_builtin _) (F.ok.kx B) ?_
      refine F.specV spec_isspace ?_
      intro s F
      exact k _ _ _ ⟨by unfold onlyws; simp [h0, z], rfl⟩ F.ok
  · rw [if_neg (by simpa using h0)]
    exact k _ _ _ ⟨by unfold onlyws; simp [h0], rfl⟩ F.ok


theorem push200 (P : Params) : findIn (KM P) (.ref 200) "push" = some (some (.ref 144)) := by kernel_rfl
theorem fn144 (P : Params) : typeIn (KM P) (.ref 144) = some (.type "function") := by kernel_rfl
theorem fnIn144 (P : Params) : fnIn (KM P) 144 = true := by kernel_rfl
theorem get144 (P : Params) : specialIn (KM P) (.ref 144) "__get__" = some (some (.builtin "function.__get__")) := by kernel_rfl
theorem takes144 (P : Params) : takesIn (KM P) (.ref 144) = some false := by kernel_rfl

theorem Fm.opened {c : Cx} {φ σ : Hp} {L : Addr} {names : List Str} {vals : List (Option Value)} {s : Shared} (F : Fm c φ σ L names vals s) : ∃ φ', Ok c φ' σ s ∧ ∀ σ' s', Ok c φ' σ' s' → Fm c φ σ' L names vals s' := by
  obtain ⟨K, N, o1, o2, o3⟩ := F
  obtain ⟨o, es, ep, ho, hd, hk, hm⟩ := N
  refine ⟨upd φ L o, ⟨K.old, fun b x e => ?_, K.own, fun b x e => ?_, K.newσ, fun b x e => ?_, K.tab, K.gens, K.os⟩, fun σ' s' K₁ => ?_⟩
  · unfold upd at e
    split at e
    · rename_i q; cases e; rw [q]; exact ho
    · exact K.fr b x e
  · rw [upd_ne]; exact K.dj b x e
    intro q; rw [q, o1] at e; cases e
  · unfold upd at e
    split at e
    · rename_i q; rw [q]; exact o3
    · exact K.newφ b x e
  refine ⟨⟨K₁.old, fun b x e => K₁.fr b x ?_, K₁.own, fun b x e => ?_, K₁.newσ, fun b x e => K₁.newφ b x ?_, K₁.tab, K₁.gens, K₁.os⟩, ⟨o, es, ep, K₁.fr _ _ (upd_same ..), hd, hk, hm⟩, ?_, o2, o3⟩
  · rw [upd_ne]; exact e
    intro q; rw [q, o2] at e; cases e
  · have := K₁.dj b x e
    unfold upd at this
    split at this
    · cases this
    · exact this
  · rw [upd_ne]; exact e
    intro q; rw [q, o2] at e; cases e
  · cases q : σ' L with
    | none => rfl
    | some x => have := K₁.dj _ _ q; rw [upd_same] at this; cases this

/-- acc.push as a bound method -/
theorem spec_boundPush {c : Cx} (B : Bs c) {A : Around} {σ : Hp} {x d : Addr} {dat : Data} {m : Str → Option Value} {k : Nat} {ex : Bool} (I : Inst σ x 200 d dat m k) (hv : m "push" = none) :
    Spec c A σ (getAttr (.ref x) "push" ex) (fun r σ' => ∃ q, r = .ref q ∧ σ q = none ∧ σ' = upd σ q (methodObj (.ref 144) (.ref x))) := by
  intro φ s Q E K q
  obtain ⟨es, ep, h1, h2, h3, h4, I'⟩ := I.of K
  have X := K.kx B
  have hf : findObj (KM c.w.params) 200 (some { cls := .type "dict", data := .dict es ep }) "push" = some (.bind (.builtin "function.__get__") (.ref 144)) :=
    findObj_fn (by kernel_rfl) (push200 _) (get144 _) (takes144 _) (by decide +kernel) (by rw [lookIn_ns h2, h3, hv])
  unfold getAttr getAttrBy
  have K' := (K.toks (s.toks + 1)).new B (o := methodObj (.ref 144) (.ref x)) rfl
  obtain ⟨hp, g, dd, t, os⟩ := s
  have L0 := I'.type (M := c.M)
  have L1 := looks_findIn (M := c.M) X (show findIn (KM c.w.params) (.ref 200) "__getattribute__" = some (some (.builtin "list.__getattribute__")) by kernel_rfl)
  have L2 := looks_findIn (M := c.M) X (cls200 _).gn
  have L3 := looks_find (M := c.M) X I' hf
  have L4 : Looks c.M hp (isInstance (.ref x) (.type "list")) true := L0.andThen (looks_mroIn X (mro200_list _))
  refine wpAny_bind (wpAny_mkText (wpAny_holding (wpAny_bind (L0.at (wpAny_bind (L1.at ?_))))))
  show wpAny _ _ (getAttrByItsOwn _ _ _ _ _ _) _ _ _
  unfold getAttrByItsOwn hookBefore
  refine wpAny_bind (L2.at ?_)
  refine wpAny_bind (wpAny_attempt (wpAny_holding ?_))
  unfold callGetattribute
  rw [show (ex && onTheHeap (Value.builtin "list.__getattribute__")) = false by cases ex <;> rfl]
  simp only [Bool.false_eq_true, if_false]
  unfold boundAndCalled
  rw [F.slot_list_getattribute.bind]
  refine wpAny_bind (wpAny_pure ?_)
  refine wpAny_call ?_
  show codeAny c.M A (.call (.builtin "list.__getattribute__") ⟨[.ref x, .str (Str.ofString "push") t], []⟩) _ _
  refine codeAny_call_builtin (id := "list.__getattribute__") (args := ⟨[.ref x, .str (Str.ofString "push") t], []⟩) (b := Builtin.«object.__getattribute__») F.slot_list_getattribute.plain entry_lga ?_
  refine check_slot (i := "list.__getattribute__") (self := .ref x) (rest := [.str (Str.ofString "push") t]) (kw := []) lga_kind lga_split L4 (F.args_list_getattribute_2 _ _) ?_
  show wpAny _ _ (Builtin.«object.__getattribute__» ⟨[.ref x, .str (Str.ofString "push") t], []⟩) _ _ _
  refine wpAny_bind (wpAny_pure (wpAny_bind (wpAny_pure (wpAny_bind (L0.at (wpAny_bind (L3.at ?_)))))))
  show wpAny _ _ (holding [Value.ref 144] (call (.builtin "function.__get__") [.ref 144, .ref x, .ref 200]) >>= ret) _ _ _
  refine wpAny_bind (wpAny_holding (wpAny_call (fn_get X (fn144 _) ?_)))
  refine wpAny_pure ?_
  dsimp only
  rw [handedOut_of rfl]
  exact wpAny_pure (q _ _ _ ⟨_, rfl, K'.1, rfl⟩ K'.2)

section
variable {c : Cx} {A : Around} {E : Value → Shared → Prop} {s : Shared} {env : Env}
/-- o.name(*e) -/
theorem r_methodS {o : Expr} {name : Str} {apos pos p : Pos} {e : Expr} {Q : Value → Shared → Prop}
    (h : wpAny c.M A (eval o env) (fun ov s₁ => wpAny c.M A (getAttr ov name true) (fun f s₂ => wpAny c.M A (callWith pos f [] (backTo pos (starEach [.Starred e p] env)) []) Q E s₂) E s₁) E s)
    (hbase : attributeBase o name env (eval o env) = eval o env := by rfl)
    (hfew : methodCallForm (1 + 0) (backTo pos (starEach [.Starred e p] env)) (backToKw pos (keywordEach [] env)) = false := by rfl) :
    wpAny c.M A (eval (.Call (.Attribute o name apos) [.Starred e p] [] pos) env) Q E s := by
  rw [arm_eval_Call, hbase]
  refine wpAny_bind (wpAny_mono h (fun ov s₁ h₁ => ?_) fun _ _ e => e)
  refine wpAny_bind (wpAny_standAt ?_)
  show wpAny c.M A (methodCall o name apos pos env ov (1 + 0) (backTo pos (starEach [.Starred e p] env)) (backToKw pos (keywordEach [] env))) Q E s₁
  unfold methodCall calleeOf methodCallPos
  rw [hfew]
  refine wpAny_bind (wpAny_holding (wpAny_bind (wpAny_mono h₁ (fun r s₂ h₂ => ?_) fun _ _ e => e)))
  refine wpAny_pure ?_
  exact wpAny_bind (wpAny_pure h₂)
theorem star_tup {φ σ : Hp} {L : Addr} {names : List Str} {vals : List (Option Value)} {b : Addr} {ts : List Value} {Q : List Value → Shared → Prop} (F : Fm c φ σ L names vals s) (h : σ b = some (tObj ts)) (hz : ts.length ≤ sizeLine) (q : ∀ s', Fm c φ σ L names vals s' → Q ts s') : StarOf c.M A E (.ref b) Q s := by
  have g := F.ok.own _ _ h
  have T : s.TypeIs (.ref b) "tuple" := ⟨_, g, rfl⟩
  unfold StarOf notIterableAtAll
  refine wpAny_bind (wpAny_specialOf T PySem.F.slot_tuple_iter.lookup (wpAny_pure ⟨rfl, ?_⟩))
  refine wpAny_collect_seq b (.inr rfl) g rfl rfl (fun h' hk => ?_) (by simpa using hz)
  refine q _ ⟨F.ok.grow hk rfl rfl, Ns.at F.ns fun o e => hk _ _ e, F.outσ, F.outφ, F.hi⟩
end

/-- acc.push(*pair) -/
theorem r_pushStar {c : Cx} (B : Bs c) {A : Around} {E : Value → Shared → Prop} {s : Shared} {env : Env} {φ σ : Hp} {L : Addr} {names : List Str} {vals : List (Option Value)} {a d : Addr} {init : Int} {ps : List (Str × Str)} {b : Addr} {pr : Str × Str} {t1 t2 : Tok} {e : Expr} {pos p : Pos} {Q : Value → Shared → Prop} (R : Rm A 10)
    (F : Fm c φ σ L names vals s) (H : Acc σ a d init ps) (hz : ps.length + 1 ≤ sizeLine) (hb : σ b = some (tObj [.str pr.1 t1, .str pr.2 t2]))
    (he : ∀ (s : Shared) (σ : Hp) (Q : Value → Shared → Prop), Fm c φ σ L names vals s → Q (.ref b) s → wpAny c.M A (eval e env) Q E s)
    (q : ∀ σ' s', Acc σ' a d init (ps ++ [pr]) → Mod [a] σ σ' → Fm c φ σ' L names vals s' → Q .none s')
    (hs : starEach [.Starred e p] env = [(true, eval e env)] := by rfl) :
    wpAny c.M A (getAttr (.ref a) "push" true) (fun f s₂ => wpAny c.M A (callWith pos f [] (backTo pos (starEach [.Starred e p] env)) []) Q E s₂) E s := by
  obtain ⟨xs, n, t, S, I, D⟩ := H.ex
  refine F.spec (spec_boundPush B (inst_of S D) rfl) ?_
  rintro _ σ1 s ⟨m, rfl, hm, rfl⟩ F
  rw [hs]
  have hb1 : upd σ m (methodObj (.ref 144) (.ref a)) b = some (tObj [.str pr.1 t1, .str pr.2 t2]) := upd_ext hm _ _ hb
  have H1 : Acc (upd σ m (methodObj (.ref 144) (.ref a))) a d init ps := ⟨xs, n, t, ⟨upd_ext hm _ _ S.at_, S.lc⟩, I.mod (M := []) (Mod.new hm) (by simp), D.mod (M := []) (Mod.new hm) (by simp)⟩
  refine ks_call (P := MethP (KM c.w.params) m 144 (.ref a)) rfl (keeps_M (fnIn144 _)) (ks_lone ?_)
  refine he s _ _ F ?_
  refine star_tup F hb1 (by rw [sizeLine_eq]; show 2 ≤ _; omega) ?_
  intro s F
  have gm := F.ok.own _ _ (upd_same σ m (methodObj (.ref 144) (.ref a)))
  refine ⟨⟨gm, F.ok.kx B⟩, ?_⟩
  refine wpAny_call (method_call gm ?_)
  obtain ⟨φ', K, back⟩ := F.opened
  refine push_cspec B R H1 hz (f := pr.1) (p := pr.2) (t1 := t1) (t2 := t2) φ' s _ K ?_
  rintro _ σ' s' ⟨rfl, H2, M⟩ K'
  exact q _ _ H2 ((Mod.new hm).trans M) (back _ _ K')


section
variable {c : Cx} {A : Around} {σ : Hp} {a : Addr} {cl : Value} {d : Option Addr} {xs : List Value} {n : Nat}
theorem Sq.put (B : Bs c) {φ : Hp} {s : Shared} {i : Nat} {v : Value} (S : Sq σ a cl d xs n) (K : Ok c φ σ s) : ∃ σ', Ok c φ σ' { s with heap := s.heap.update a (Obj.mapSeq (·.setIfInBounds i v)) } ∧ Sq σ' a cl d (xs.set i v) n ∧ Mod [a] σ σ' := by
  have e : Obj.mapSeq (·.setIfInBounds i v) { cls := cl, dict := d, data := .seq xs.toArray n } = sqSet cl d (xs.set i v) n := by
    simp [Obj.mapSeq, sqSet]
  have KU := K.update (f := Obj.mapSeq (·.setIfInBounds i v)) S.at_ (by rw [e]; rfl) B.sz
  rw [e] at KU
  exact ⟨_, KU, ⟨upd_same .., S.lc⟩, Mod.upd (.head _)⟩
theorem spec_setAt (B : Bs c) {i : Int} {k : Nat} {u : Tok} {v : Value} (S : Sq σ a cl d xs n) (hi : i = Int.ofNat k) (hk : k < xs.length) (hz : xs.length ≤ sizeLine) : Spec c A σ (call (.builtin "list.__setitem__") [.ref a, .int i u, v]) (fun r σ' => r = .none ∧ Sq σ' a cl d (xs.set k v) n ∧ Mod [a] σ σ') := by
  rw [sizeLine_eq] at hz
  refine spec_lb B lb_setitem S (F.args_list_setitem_3 _ _ _) ?_
  intro φ s Q E K q
  unfold Builtin.«list.__setitem__»
  refine wpAny_bind (wpAny_pure ?_)
  dsimp only
  have fk : Builtin.List.listFitsIndex i = true := by rw [hi]; exact fits_nat (by omega)
  refine wpAny_bind ((look_subscript (c := c) (h := s.heap) (u := u) fk).here ?_)
  dsimp only
  subst hi
  refine wpAny_bind (m := do return (← seqItemAt a k).map (k, ·)) (wpAny_bind (wpAny_bind (wpAny_loadPart (K.own _ _ S.at_) ?_)))
  dsimp only
  refine wpAny_pure (wpAny_pure ?_)
  rw [List.getElem?_toArray, List.getElem?_eq_getElem hk]
  obtain ⟨σ', K', S', M⟩ := S.put B (i := k) (v := v) K
  exact wpAny_bind (wpAny_setSeqItemAt (K.own _ _ S.at_) rfl (wpAny_pure (q _ σ' _ (fin_ret ⟨rfl, S', M⟩) K')))
theorem spec_setLast (B : Bs c) {u : Tok} {v : Value} (S : Sq σ a cl d xs n) (hne : 0 < xs.length) (hz : xs.length ≤ sizeLine) : Spec c A σ (call (.builtin "list.__setitem__") [.ref a, .int (-1) u, v]) (fun r σ' => r = .none ∧ Sq σ' a cl d (xs.set (xs.length - 1) v) n ∧ Mod [a] σ σ') := by
  rw [sizeLine_eq] at hz
  refine spec_lb B lb_setitem S (F.args_list_setitem_3 _ _ _) ?_
  intro φ s Q E K q
  unfold Builtin.«list.__setitem__»
  refine wpAny_bind (wpAny_pure ?_)
  dsimp only
  refine wpAny_bind ((look_subscript (k := -1) (by decide)).here ?_)
  dsimp only
  refine wpAny_bind (m := do let xs ← Builtin.List.listItems (.ref a); return (seqIndex? (-1) xs.size).bind fun j => xs[j]?.map (j, ·)) (wpAny_bind (spec_listItems S φ s _ E K ?_))
  rintro _ _ s ⟨rfl, rfl⟩ K
  refine wpAny_pure ?_
  have e1 : seqIndex? (-1) xs.toArray.size = some (xs.length - 1) := by rw [List.size_toArray]; exact seqIndex_last hne
  rw [e1, Option.bind_some, List.getElem?_toArray, List.getElem?_eq_getElem (by omega)]
  obtain ⟨σ', K', S', M⟩ := S.put B (i := xs.length - 1) (v := v) K
  exact wpAny_bind (wpAny_setSeqItemAt (K.own _ _ S.at_) rfl (wpAny_pure (q _ σ' _ (fin_ret ⟨rfl, S', M⟩) K')))
theorem Sq.isL {φ : Hp} {s : Shared} (S : Sq σ a (.type "list") none xs n) (K : Ok c φ σ s) : s.heap.IsList a xs.toArray := ⟨_, K.own _ _ S.at_, rfl, n, rfl⟩
theorem spec_truthyL (S : Sq σ a (.type "list") none xs n) (hz : xs.length ≤ sizeLine) : Spec c A σ (truthy (.ref a)) (fun v σ' => v = decide (xs ≠ []) ∧ σ = σ') := by
  intro φ s Q E K q
  rw [sizeLine_eq] at hz
  refine wpAny_truthy_list (S.isL K) (by simp; omega) ?_
  refine q _ _ _ ⟨?_, rfl⟩ (K.toks _)
  cases xs <;> simp
theorem spec_lenL (S : Sq σ a (.type "list") none xs n) (hz : xs.length ≤ sizeLine) : Spec c A σ (call (.builtin "len") [.ref a]) (fun v σ' => IsI v xs.length ∧ σ = σ') := by
  intro φ s Q E K q
  rw [sizeLine_eq] at hz
  refine len_list (S.isL K) (by simp; omega) ?_
  exact q _ _ _ ⟨⟨_, by rw [List.size_toArray]⟩, rfl⟩ (K.toks _)
theorem spec_neTup {b1 b2 : Addr} {p q : Str × Str} {t1 t2 t3 t4 : Tok} {k : Nat} (R : Rm A k) (h1 : σ b1 = some (tObj [.str p.1 t1, .str p.2 t2])) (h2 : σ b2 = some (tObj [.str q.1 t3, .str q.2 t4])) : Spec c A σ (compareOp .NotEq (.ref b1) (.ref b2)) (fun v σ' => v = .bool (decide (p ≠ q)) ∧ σ = σ') := by
  intro φ s Q E K k
  have H := SeqAt.RcNeAt.tuples (A := A) (s := s) (l := b1) (b := b2) (items := #[.str p.1 t1, .str p.2 t2]) (items2 := #[.str q.1 t3, .str q.2 t4]) (e := fun j => if j = 0 then p.1 == q.1 else p.2 == q.2) ⟨_, K.own _ _ h1, rfl, _, rfl⟩ ⟨_, K.own _ _ h2, rfl, _, rfl⟩ R.units (by
    intro j hj1 hj2
    match j, hj1, hj2 with
    | 0, _, _ => exact SeqAt.EqAt.str_str _ _ _ _
    | 1, _, _ => exact SeqAt.EqAt.str_str _ _ _ _)
  refine cmp_ofNotEq (H PR c.w E Q (k _ σ _ ⟨?_, rfl⟩ K))
  obtain ⟨p1, p2⟩ := p
  obtain ⟨q1, q2⟩ := q
  congr 1
  by_cases h1 : p1 = q1 <;> by_cases h2 : p2 = q2 <;> simp [h1, h2, List.range, List.range.loop]
end

/-- a list of texts -/
def Txts (σ : Hp) (l : Addr) (ys : List Str) : Prop := ∃ vs n, Sq σ l (.type "list") none (strValues vs) n ∧ vs.map (·.1) = ys
theorem Txts.mod {M : List Addr} {σ σ' : Hp} {l : Addr} {ys : List Str} (x : Txts σ l ys) (m : Mod M σ σ') (h : l ∉ M) : Txts σ' l ys := let ⟨vs, n, S, e⟩ := x; ⟨vs, n, S.mod m h, e⟩

def fmtNames : List Str := ["_maxlen", "_continuation_ws", "_continuation_ws_len", "_splitchars", "_lines", "_current_line"]
def fmtVals (mx : Int) (ws sign : Str) (l a : Addr) (t1 t2 t3 t4 : Tok) : List (Option Value) := [some (.int mx t1), some (.str ws t2), some (.int ws.length t3), some (.str sign t4), some (.ref l), some (.ref a)]
theorem fv_max (mx : Int) (ws sign : Str) (l a : Addr) (t1 t2 t3 t4 : Tok) : vmap fmtNames (fmtVals mx ws sign l a t1 t2 t3 t4) "_maxlen" = some (.int mx t1) := by kernel_rfl
theorem fv_sign (mx : Int) (ws sign : Str) (l a : Addr) (t1 t2 t3 t4 : Tok) : vmap fmtNames (fmtVals mx ws sign l a t1 t2 t3 t4) "_splitchars" = some (.str sign t4) := by kernel_rfl
theorem fv_lines (mx : Int) (ws sign : Str) (l a : Addr) (t1 t2 t3 t4 : Tok) : vmap fmtNames (fmtVals mx ws sign l a t1 t2 t3 t4) "_lines" = some (.ref l) := by kernel_rfl
theorem fv_cur (mx : Int) (ws sign : Str) (l a : Addr) (t1 t2 t3 t4 : Tok) : vmap fmtNames (fmtVals mx ws sign l a t1 t2 t3 t4) "_current_line" = some (.ref a) := by kernel_rfl
theorem fv_none (mx : Int) (ws sign : Str) (l a : Addr) (t1 t2 t3 t4 : Tok) {n : Str} (h : fmtNames.contains n = false) : vmap fmtNames (fmtVals mx ws sign l a t1 t2 t3 t4) n = none :=
  vmap_not fun q => by rw [List.contains_iff_mem.mpr q] at h; cases h

/-- a formatter: f and its dict df, the list l of its lines, its accumulator a -/
structure Fmt (σ : Hp) (f df l a d : Addr) (mx : Int) (ws sign : Str) (lines : List Str) (init : Int) (ps : List (Str × Str)) : Prop where
  dict : ∃ t1 t2 t3 t4, Inst σ f 116 df .plain (vmap fmtNames (fmtVals mx ws sign l a t1 t2 t3 t4)) 6
  lns : Txts σ l lines
  acc : Acc σ a d init ps
  ne : df ≠ d

theorem Inst.mod {M : List Addr} {σ σ' : Hp} {x C d : Addr} {dat : Data} {m : Str → Option Value} {k : Nat} (I : Inst σ x C d dat m k) (h : Mod M σ σ') (hx : x ∉ M) (hd : d ∉ M) : Inst σ' x C d dat m k := ⟨h _ _ hx I.at_, I.ns.mod h hd, I.no⟩
theorem ne_of_cls {σ : Hp} {x y : Addr} {o o' : Obj} (h1 : σ x = some o) (h2 : σ y = some o') (h : (o.cls == o'.cls) = false) : x ≠ y := by
  intro e; subst e; rw [h1] at h2; cases h2; simp at h
structure FmtNe (f df l a d : Addr) : Prop where
  fa : f ≠ a
  fd : f ≠ d
  fl : f ≠ l
  da : df ≠ a
  dd : df ≠ d
  dl : df ≠ l
  la : l ≠ a
  ld : l ≠ d
theorem Fmt.nes {σ : Hp} {f df l a d : Addr} {mx : Int} {ws sign : Str} {lines : List Str} {init : Int} {ps : List (Str × Str)} (H : Fmt σ f df l a d mx ws sign lines init ps) : FmtNe f df l a d := by
  obtain ⟨t1, t2, t3, t4, I⟩ := H.dict
  obtain ⟨vs, n, S, _⟩ := H.lns
  obtain ⟨xs, m, t, S2, _, es2, ep2, hd2, _⟩ := H.acc.ex
  obtain ⟨es, ep, hd1, _⟩ := I.ns
  exact ⟨ne_of_cls I.at_ S2.at_ (by rfl), ne_of_cls I.at_ hd2 (by rfl), ne_of_cls I.at_ S.at_ (by rfl), ne_of_cls hd1 S2.at_ (by rfl), H.ne, ne_of_cls hd1 S.at_ (by rfl), ne_of_cls S.at_ S2.at_ (by rfl), ne_of_cls S.at_ hd2 (by rfl)⟩
/-- the accumulator turned -/
theorem Fmt.turn {σ σ' : Hp} {f df l a d : Addr} {mx : Int} {ws sign : Str} {lines : List Str} {init init' : Int} {ps ps' : List (Str × Str)} (H : Fmt σ f df l a d mx ws sign lines init ps) (H' : Acc σ' a d init' ps') (m : Mod [a, d] σ σ') : Fmt σ' f df l a d mx ws sign lines init' ps' := by
  have N := H.nes
  obtain ⟨t1, t2, t3, t4, I⟩ := H.dict
  exact ⟨⟨t1, t2, t3, t4, I.mod m (by simp [N.fa, N.fd]) (by simp [N.da, N.dd])⟩, H.lns.mod m (by simp [N.la, N.ld]), H', H.ne⟩
theorem Fmt.turn1 {σ σ' : Hp} {f df l a d : Addr} {mx : Int} {ws sign : Str} {lines : List Str} {init init' : Int} {ps ps' : List (Str × Str)} (H : Fmt σ f df l a d mx ws sign lines init ps) (H' : Acc σ' a d init' ps') (m : Mod [a] σ σ') : Fmt σ' f df l a d mx ws sign lines init' ps' := H.turn H' (m.sub (by simp))
theorem Acc.mod {M : List Addr} {σ σ' : Hp} {a d : Addr} {init : Int} {ps : List (Str × Str)} (H : Acc σ a d init ps) (m : Mod M σ σ') (ha : a ∉ M) (hd : d ∉ M) (ht : ∀ x ∈ M, ∀ ts, σ x ≠ some (tObj ts)) : Acc σ' a d init ps :=
  let ⟨xs, n, t, S, I, D⟩ := H.ex; ⟨xs, n, t, S.mod m ha, I.mod m ht, D.mod m hd⟩
theorem Acc.mod0 {σ σ' : Hp} {a d : Addr} {init : Int} {ps : List (Str × Str)} (H : Acc σ a d init ps) (m : Mod [] σ σ') : Acc σ' a d init ps := H.mod m (by simp) (by simp) (by simp)
theorem Fmt.mod0 {σ σ' : Hp} {f df l a d : Addr} {mx : Int} {ws sign : Str} {lines : List Str} {init : Int} {ps : List (Str × Str)} (H : Fmt σ f df l a d mx ws sign lines init ps) (m : Mod [] σ σ') : Fmt σ' f df l a d mx ws sign lines init ps :=
  H.turn (H.acc.mod0 m) m.to
/-- the lines turned -/
theorem Fmt.lined {σ σ' : Hp} {f df l a d : Addr} {mx : Int} {ws sign : Str} {lines lines' : List Str} {init : Int} {ps : List (Str × Str)} (H : Fmt σ f df l a d mx ws sign lines init ps) (H' : Txts σ' l lines') (m : Mod [l] σ σ') : Fmt σ' f df l a d mx ws sign lines' init ps := by
  have N := H.nes
  obtain ⟨t1, t2, t3, t4, I⟩ := H.dict
  obtain ⟨vs, n, S, _⟩ := H.lns
  exact ⟨⟨t1, t2, t3, t4, I.mod m (by simp [N.fl]) (by simp [N.dl])⟩, H', H.acc.mod m (by simp [Ne.symm N.la]) (by simp [Ne.symm N.ld]) (sq_notup1 S), H.ne⟩


def emp : Str := Str.ofString ""
def blank : Str := Str.ofString " "
def nlPs (ps : List (Str × Str)) : List (Str × Str) := match ps.getLast? with
  | none => [(emp, emp)]
  | some p => if p = (blank, emp) then ps.dropLast else ps
def nlLines (lines : List Str) (init : Int) (q : List (Str × Str)) : List Str :=
  if init + (alen q : Nat) > 0 then
    (match onlyws init q, lines.getLast? with
      | true, some y => lines.dropLast ++ [y ++ acat q]
      | _, _ => lines ++ [acat q])
  else lines
/-- small lines -/
structure SmL (lines : List Str) : Prop where
  n : lines.length ≤ 1000
  l : ∀ x ∈ lines, x.length ≤ 100000

abbrev nlFd : FuncData := fdM 6 3 (Str.ofString "_ValueFormatter.newline") [] .none 77 .none
def nlNames : List Str := ["self", "end_of_line"]
theorem nl_fn (L : Addr) : Fn (callEnv nlFd L 78) L nlNames := fn_of rfl (by decide +kernel) (by kernel_rfl) rfl rfl (by decide +kernel)

theorem set_last {α : Type} {xs : List α} {x : α} : ∀ {ys : List α} {y : α}, xs = ys ++ [y] → xs.set (xs.length - 1) x = ys ++ [x] := by
  intro ys y e
  subst e
  simp
theorem acat_length (ps : List (Str × Str)) : (acat ps).length ≤ alen ps := by
  unfold acat
  have := StrLaws.join_length_le (Str.ofString "") (ps.map pcat)
  rw [← StrLaws.glued_eq_join] at this
  have e : (ps.map pcat).map (·.length) = ps.map plen := by rw [List.map_map]; exact List.map_congr_left fun p _ => pcat_length p
  rw [e] at this
  exact this

theorem spec_iadd_str {c : Cx} {A : Around} {σ : Hp} {x y : Str} {t u : Tok} (h : x.length + y.length ≤ sizeLine) : Spec c A σ (inplaceOp .Add (.str x t) (.str y u)) (fun v σ' => IsS v (x ++ y) ∧ σ = σ') := by
  intro _ _ _ _ K q; (with_reducible refine PyProof.Rows.iadd_str ?k0 ?k1); (case k0 => exact fun t' tk => q _ _ _ ⟨⟨_, rfl⟩, rfl⟩ (K.toks _)); (case k1 => exact h)

section
variable {c : Cx} {A : Around} {φ σ : Hp} {L : Addr} {s : Shared} {f df l a d : Addr} {mx : Int} {ws sign : Str} {lines : List Str} {init : Int} {ps q : List (Str × Str)} {E : Value → Shared → Prop}
/-- self._current_line, self._lines -/
theorem r_cur (B : Bs c) {names : List Str} {vals : List (Option Value)} {env : Env} {pos np : Pos} {Q : Value → Shared → Prop} (N : Fn env L names) (F : Fm c φ σ L names vals s) (H : Fmt σ f df l a d mx ws sign lines init ps) (h0 : names[0]? = some (Str.ofString "self")) (hv : vals[0]? = some (some (.ref f))) (k : ∀ s, Fm c φ σ L names vals s → Q (.ref a) s) :
    wpAny c.M A (eval (.Attribute (.Name "self" np) "_current_line" pos) env) Q E s := by
  obtain ⟨t1, t2, t3, t4, I⟩ := H.dict
  refine Attribute_name ?_
  refine r_ld N F 0 h0 hv ?_
  refine F.specE (spec_getattr B I (cls116 _) (by kernel_rfl) (fv_cur ..) rfl) ?_
  intro s F
  exact k s F
theorem r_lines (B : Bs c) {names : List Str} {vals : List (Option Value)} {env : Env} {pos np : Pos} {Q : Value → Shared → Prop} (N : Fn env L names) (F : Fm c φ σ L names vals s) (H : Fmt σ f df l a d mx ws sign lines init ps) (h0 : names[0]? = some (Str.ofString "self")) (hv : vals[0]? = some (some (.ref f))) (k : ∀ s, Fm c φ σ L names vals s → Q (.ref l) s) :
    wpAny c.M A (eval (.Attribute (.Name "self" np) "_lines" pos) env) Q E s := by
  obtain ⟨t1, t2, t3, t4, I⟩ := H.dict
  refine Attribute_name ?_
  refine r_ld N F 0 h0 hv ?_
  refine F.specE (spec_getattr B I (cls116 _) (by kernel_rfl) (fv_lines ..) rfl) ?_
  intro s F
  exact k s F
theorem r_max (B : Bs c) {names : List Str} {vals : List (Option Value)} {env : Env} {pos np : Pos} {Q : Value → Shared → Prop} (N : Fn env L names) (F : Fm c φ σ L names vals s) (H : Fmt σ f df l a d mx ws sign lines init ps) (h0 : names[0]? = some (Str.ofString "self")) (hv : vals[0]? = some (some (.ref f))) (k : ∀ t s, Fm c φ σ L names vals s → Q (.int mx t) s) :
    wpAny c.M A (eval (.Attribute (.Name "self" np) "_maxlen" pos) env) Q E s := by
  obtain ⟨t1, t2, t3, t4, I⟩ := H.dict
  refine Attribute_name ?_
  refine r_ld N F 0 h0 hv ?_
  refine F.specE (spec_getattr B I (cls116 _) (by kernel_rfl) (fv_max ..) rfl) ?_
  intro s F
  exact k _ s F
theorem r_signs (B : Bs c) {names : List Str} {vals : List (Option Value)} {env : Env} {pos np : Pos} {Q : Value → Shared → Prop} (N : Fn env L names) (F : Fm c φ σ L names vals s) (H : Fmt σ f df l a d mx ws sign lines init ps) (h0 : names[0]? = some (Str.ofString "self")) (hv : vals[0]? = some (some (.ref f))) (k : ∀ t s, Fm c φ σ L names vals s → Q (.str sign t) s) :
    wpAny c.M A (eval (.Attribute (.Name "self" np) "_splitchars" pos) env) Q E s := by
  obtain ⟨t1, t2, t3, t4, I⟩ := H.dict
  refine Attribute_name ?_
  refine r_ld N F 0 h0 hv ?_
  refine F.specE (spec_getattr B I (cls116 _) (by kernel_rfl) (fv_sign ..) rfl) ?_
  intro s F
  exact k _ s F
/-- self._current_line.method(...) -/
theorem r_accM (B : Bs c) {names : List Str} {vals : List (Option Value)} {env : Env} {pos apos np pos' : Pos} {args : List Expr} {name : Str} {g : Addr} {Q : Value → Shared → Prop} (N : Fn env L names) (F : Fm c φ σ L names vals s) (H : Fmt σ f df l a d mx ws sign lines init ps) (h0 : names[0]? = some (Str.ofString "self")) (hv : vals[0]? = some (some (.ref f)))
    (hn : findIn (KM c.w.params) (.ref 200) name = some (some (.ref g))) (ht : typeIn (KM c.w.params) (.ref g) = some (.type "function")) (hm : (["_initial_size"] : List Str).contains name = false)
    (k : ∀ s, Fm c φ σ L names vals s → wpAny c.M A (callWith pos (.ref g) [.ref a] (backTo pos (starEach args env)) []) Q E s)
    (hbase : attributeBase (.Attribute (.Name "self" np) "_current_line" pos') name env (eval (.Attribute (.Name "self" np) "_current_line" pos') env) = eval (.Attribute (.Name "self" np) "_current_line" pos') env := by rfl)
    (hfew : methodCallForm (args.length + 0) (backTo pos (starEach args env)) (backToKw pos (keywordEach [] env)) = true := by rfl)
    (hline : (apos.endLine == pos.line) = true := by rfl) :
    wpAny c.M A (eval (.Call (.Attribute (.Attribute (.Name "self" np) "_current_line" pos') name apos) args [] pos) env) Q E s := by
  refine r_method ?_ hbase hfew hline
  refine r_cur B N F H h0 hv ?_
  intro s F pl
  obtain ⟨xs, n, t, S, I, D⟩ := H.acc.ex
  refine F.specE (spec_method B (inst_of S D) (cls200 _) hn ht (vmap_not fun q => by rw [List.contains_iff_mem.mpr q] at hm; cases hm)) ?_
  intro s F
  exact k s F

theorem nl_tail (B : Bs c) {v1 : Option Value} {Q : Flow → Shared → Prop} (R : Rm A 40) (F : Fm c φ σ L nlNames [some (.ref f), v1] s) (H : Fmt σ f df l a d mx ws sign lines init q) (hz : Sm q) (hl : SmL lines) (hi : 0 ≤ init) (hi2 : init ≤ 1000)
    (k : ∀ fl σ' s', (match fl with | .ret v => v | _ => .none) = Value.none → Fmt σ' f df l a d mx ws sign (nlLines lines init q) 0 [] → Mod [a, d, l] σ σ' → Ok c φ σ' s' → Q fl s') :
    wpAny c.M A (execs ((bodyS (methS 6 3)).drop 2) (callEnv nlFd L 78)) Q E s := by
  have N := nl_fn L
  have hll := hl.n
  have hzn := hz.n
  have hzl := hz.l
  have e1 : (sizeLine : Nat) = 16777216 := sizeLine_eq
  have last : ∀ σ1 s1, Fmt σ1 f df l a d mx ws sign (nlLines lines init q) init q → Mod [l] σ σ1 → Fm c φ σ1 L nlNames [some (.ref f), v1] s1 → wpAny c.M A (execs ((bodyS (methS 6 3)).drop 3) (callEnv nlFd L 78)) Q E s1 := by
    intro σ1 s1 H1 m1 F
    refine r_seq ?_
    refine wpAny_Expr_any ?_
    refine r_accM B N F H1 rfl rfl (g := 182) (by kernel_rfl) (by kernel_rfl) (by decide) ?_
    intro s F
    refine r_callW0 (kpr_ref (by kernel_rfl)) (F.ok.kx B) ?_
    refine F.specG (reset0_spec B (R.le (by decide)) H1.acc (by omega)) ?_
    intro σ2 s hAll F
    have A2 := hAll.1
    have m2 := hAll.2
    clear hAll
    refine ⟨rfl, r_nil ?_⟩
    exact k _ _ _ rfl (H1.turn A2 m2) ((m1.sub (by simp)).trans (m2.sub (by simp))) F.ok
  refine r_seq ?_
  refine wpAny_If ?_
  refine wpAny_isTrue_Compare1 ?_
  refine r_callN ?_
  refine r_bi B N F (len_bi _) len_boot ?_
  refine r_callW (kpr_builtin _) ?_
  refine r_arg ?_
  refine r_cur B N F H rfl rfl ?_
  intro s F
  refine r_args0 ?_
  refine ⟨F.ok.kx B, ?_⟩
  refine F.specT (spec_lenA B (R.le (by decide)) H.acc hz hi hi2) ?_
  intro t1 s F
  refine F.specT spec_const_int ?_
  intro t2 s F
  refine F.specV spec_gt_int ?_
  intro s F
  refine F.specV spec_truthy_bool ?_
  intro s F
  by_cases hpos : init + (alen q : Nat) > 0
  · rw [if_pos (by simpa using hpos)]
    refine r_seq ?_
    refine wpAny_If ?_
    refine wpAny_isTrue_BoolOp ?_
    refine wpAny_allTrue_And_cons ?_
    refine wpAny_isTrue_value ?_
    refine r_accM B N F H rfl rfl (g := 189) (by kernel_rfl) (by kernel_rfl) (by decide) ?_
    intro s F
    refine r_callW0 (kpr_ref (by kernel_rfl)) (F.ok.kx B) ?_
    refine F.specV (ow_spec B (R.le (by decide)) H.acc hz hi hi2) ?_
    intro s F
    refine F.specV spec_truthy_bool ?_
    intro s F
    obtain ⟨vs, nn, Sl, el⟩ := H.lns
    have hlen : (strValues vs).length = lines.length := by rw [← el]; simp [strValues]
    have app : ∀ s, Fm c φ σ L nlNames [some (.ref f), v1] s → nlLines lines init q = lines ++ [acat q] →
        wpAny c.M A (execs (match (bodyS (methS 6 3)).drop 2 with | .If _ (.If _ _ o _ :: _) _ _ :: _ => o | _ => []) (callEnv nlFd L 78)) (fun fl s' => fl = .next ∧ wpAny c.M A (execs [] (callEnv nlFd L 78)) (fun fl s' => fl = .next ∧ wpAny c.M A (execs ((bodyS (methS 6 3)).drop 3) (callEnv nlFd L 78)) Q E s') E s') E s := by
      intro s F e
      refine r_seq ?_
      refine wpAny_Expr_any ?_
      refine r_method ?_
      refine r_lines B N F H rfl rfl ?_
      intro s F pl
      refine F.specE (spec_lmethod Sl PySem.F.slot_list_append.lookup PySem.F.type_list_append) ?_
      intro s F
      refine r_callW (kpr_builtin _) ?_
      refine r_arg ?_
      refine r_callN ?_
      refine r_bi B N F (str_bi _) str_boot ?_
      refine r_callW (kpr_type _) ?_
      refine r_arg ?_
      refine r_cur B N F H rfl rfl ?_
      intro s F
      refine r_args0 ?_
      refine ⟨F.ok.kx B, ?_⟩
      refine F.specT (spec_strA B (R.le (by decide)) H.acc hz) ?_
      intro t3 s F
      refine r_args0 ?_
      refine ⟨F.ok.kx B, ?_⟩
      refine F.specN (spec_app B Sl (by omega)) ?_
      intro n1 σ1 s hAll F
      have S1 := hAll.1
      have m1 := hAll.2
      clear hAll
      refine ⟨rfl, r_nil ⟨rfl, r_nil ⟨rfl, ?_⟩⟩⟩
      refine last σ1 s ?_ m1 F
      rw [e]
      exact H.lined ⟨vs ++ [(acat q, t3)], n1, by simpa [strValues] using S1, by simp [el]⟩ m1
    cases how : onlyws init q with
    | false =>
      rw [if_neg (by decide), if_neg (by decide)]
      exact app s F (by unfold nlLines; rw [if_pos hpos, how])
    | true =>
      rw [if_pos rfl]
      refine wpAny_allTrue_And_cons ?_
      refine wpAny_isTrue_value ?_
      refine r_lines B N F H rfl rfl ?_
      intro s F
      refine F.specV (spec_truthyL Sl (by omega)) ?_
      intro s F
      rcases List.eq_nil_or_concat lines with hn | ⟨ls, y, hn⟩
      rotate_left
      rw [List.concat_eq_append] at hn
      rotate_left
      · have hv : strValues vs = [] := List.length_eq_zero_iff.mp (by rw [hlen, hn]; rfl)
        rw [if_neg (by simp [hv]), if_neg (by decide)]
        exact app s F (by unfold nlLines; rw [if_pos hpos, how, hn]; rfl)
      · have hv : strValues vs ≠ [] := fun e => by rw [e] at hlen; rw [hn] at hlen; simp at hlen
        rw [if_pos (by simp [hv])]
        refine wpAny_allTrue_And_nil ?_
        rw [if_pos rfl]
        obtain ⟨us, y', ty, rfl⟩ : ∃ us y' ty, vs = us ++ [(y', ty)] := by
          rcases List.eq_nil_or_concat vs with h | ⟨us, p, h⟩
          · rw [h] at hv; exact absurd rfl hv
          · exact ⟨us, p.1, p.2, by rw [h, List.concat_eq_append]⟩
        have hy : us.map (·.1) = ls ∧ y' = y := by
          rw [hn, List.map_append] at el
          have := List.append_inj' el rfl
          exact ⟨this.1, by simpa using this.2⟩
        obtain ⟨hy1, rfl⟩ := hy
        have hyl := hl.l y' (by rw [hn]; simp)
        refine r_seq ?_
        refine wpAny_AugAssign_SubscriptAny ?_
        refine r_lines B N F H rfl rfl ?_
        intro s F
        refine wpAny_UnaryOp ?_
        refine F.specT spec_const_int ?_
        intro t4 s F
        refine F.specT spec_neg_int ?_
        intro t5 s F
        refine F.specE (spec_getItem B Sl (spec_last B Sl (v := .str y' ty) (by simp [strValues]) (by omega))) ?_
        intro s F
        refine r_callN ?_
        refine r_bi B N F (str_bi _) str_boot ?_
        refine r_callW (kpr_type _) ?_
        refine r_arg ?_
        refine r_cur B N F H rfl rfl ?_
        intro s F
        refine r_args0 ?_
        refine ⟨F.ok.kx B, ?_⟩
        refine F.specT (spec_strA B (R.le (by decide)) H.acc hz) ?_
        intro t3 s F
        have hal := acat_length q
        refine F.specT (spec_iadd_str (by omega)) ?_
        intro t6 s F
        refine F.spec (spec_setItem B Sl (spec_setLast B Sl (by rw [hlen, hn]; simp) (by omega))) ?_
        rintro _ σ1 s ⟨r, rfl, S1, m1⟩ F
        refine ⟨rfl, r_nil ⟨rfl, r_nil ⟨rfl, ?_⟩⟩⟩
        refine last σ1 s ?_ m1 F
        have e : nlLines lines init q = ls ++ [y' ++ acat q] := by unfold nlLines; rw [if_pos hpos, how, hn]; simp
        rw [e]
        refine H.lined ⟨us ++ [(y' ++ acat q, t6)], nn, ?_, by simp [hy1]⟩ m1
        have e2 := set_last (xs := strValues (us ++ [(y', ty)])) (x := Value.str (y' ++ acat q) t6) (ys := strValues us) (y := .str y' ty) (by simp [strValues])
        rw [e2] at S1
        simpa [strValues] using S1
  · rw [if_neg (by simpa using hpos)]
    refine r_nil ⟨rfl, ?_⟩
    refine last σ s ?_ Mod.refl F
    have : nlLines lines init q = lines := by unfold nlLines; rw [if_neg hpos]
    rw [this]; exact H
theorem nlPs_snoc {ps' : List (Str × Str)} {p : Str × Str} : nlPs (ps' ++ [p]) = if p = (blank, emp) then ps' else ps' ++ [p] := by
  unfold nlPs
  rw [List.getLast?_append, List.getLast?_singleton, Option.some_or]
  dsimp only
  rw [List.dropLast_concat]
theorem alen_app (x y : List (Str × Str)) : alen (x ++ y) = alen x + alen y := by unfold alen; rw [List.map_append, List.sum_append]
theorem Sm.nl (h : Sm ps) : Sm (nlPs ps) := by
  have h1 := h.n
  have h2 := h.l
  rcases List.eq_nil_or_concat ps with e | ⟨ps', p, e⟩
  · subst e; exact ⟨by decide, by decide⟩
  · rw [List.concat_eq_append] at e
    subst e
    rw [alen_app] at h2
    rw [List.length_append] at h1
    rw [nlPs_snoc]
    split
    · exact ⟨by omega, by omega⟩
    · exact h

theorem nl_spec (B : Bs c) (R : Rm A 45) (H : Fmt σ f df l a d mx ws sign lines init ps) (hz : Sm ps) (hl : SmL lines) (hi : 0 ≤ init) (hi2 : init ≤ 1000) :
    Spec c A σ (call (.ref 78) [.ref f]) (fun v σ' => v = .none ∧ Fmt σ' f df l a d mx ws sign (nlLines lines init (nlPs ps)) 0 [] ∧ Mod [a, d, l] σ σ') := by
  have hzn := hz.n
  have e1 : (sizeLine : Nat) = 16777216 := sizeLine_eq
  refine spec_call (cspec_fn B R ["self"] [.ref f] ["end_of_line"] (names := nlNames) (vals := [some (.ref f), none]) (fd := nlFd) (body := bodyS (methS 6 3)) (by kernel_rfl) (by kernel_rfl) rfl (fun _ _ _ => BindsTo.of_eq (by kernel_rfl)) (by kernel_rfl) (by kernel_rfl) (by decide +kernel) ?_)
  intro φ L s Q E F k
  have N := nl_fn L
  refine r_seq ?_
  refine wpAny_Assign_Name ?_
  refine r_accM B N F H rfl rfl (g := 160) (by kernel_rfl) (by kernel_rfl) (by decide) ?_
  intro s F
  refine r_callW0 (kpr_ref (by kernel_rfl)) (F.ok.kx B) ?_
  refine F.specPop (pop_spec B (R.deeper.le (by decide : 20 ≤ 44)) H.acc (by omega)) ?_
  intro p ps' b t1 t2 σ1 s hb hAll F
  have A1 := hAll.1
  have m1 := hAll.2.1
  have how := hAll.2.2
  clear hAll
  refine r_st N F 1 rfl rfl B.sz ?_
  intro s F
  refine ⟨rfl, ?_⟩
  have H1 := H.turn1 A1 m1
  refine r_seq ?_
  refine wpAny_If ?_
  refine wpAny_isTrue_Compare1 ?_
  refine r_ld N F 1 rfl rfl ?_
  refine r_tuple ?_
  refine r_arg ?_
  refine F.specT spec_const_str ?_
  intro t3 s F
  refine r_arg ?_
  refine F.specT spec_const_str ?_
  intro t4 s F
  refine r_args0 ?_
  refine F.specA (spec_tup B (by size_fits)) ?_
  intro b2 σ2 s hAll F
  have hb2 := hAll.1
  have g2 := hAll.2.1
  have m2 := hAll.2.2
  clear hAll
  have H2 := H1.mod0 m2
  have hb' := m2.get hb
  refine F.specV (spec_neTup (q := (blank, emp)) (R.deeper) hb' g2) ?_
  intro s F
  refine F.specV spec_truthy_bool ?_
  intro s F
  have fin : ∀ σ3 s, Fmt σ3 f df l a d mx ws sign lines init (nlPs ps) → Mod [a] σ σ3 → Fm c φ σ3 L nlNames [some (.ref f), some (.ref b)] s → wpAny c.M (A.deeper (callEnv nlFd L 78)) (execs ((bodyS (methS 6 3)).drop 2) (callEnv nlFd L 78)) Q E s := by
    intro σ3 s H3 m3 F
    exact nl_tail B (R.deeper.le (by decide : 40 ≤ 44)) F H3 hz.nl hl hi hi2 fun fl σ' s' h1 h2 h3 h4 => k fl σ' s' ⟨h1, h2, (m3.sub (by simp)).trans h3⟩ h4
  have m12 : Mod [a] σ σ2 := m1.trans m2.to
  by_cases hp : p = (blank, emp)
  · rw [if_neg (by simpa using hp)]
    refine r_nil ⟨rfl, ?_⟩
    refine fin σ2 s ?_ m12 F
    rcases how with ⟨e, q, _⟩ | e
    · rw [hp] at q
      exact absurd (congrArg Prod.fst q) (by decide)
    · rw [e, nlPs_snoc, if_pos hp]; exact H2
  · rw [if_pos (by simpa using hp)]
    refine r_seq ?_
    refine wpAny_Expr_any ?_
    refine r_methodS ?_
    refine r_cur B N F H2 rfl rfl ?_
    intro s F
    have hl' : ps'.length ≤ ps.length := by
      rcases how with ⟨e, _, e'⟩ | e
      · rw [e']; simp
      · rw [e]; simp
    refine r_pushStar B (R.deeper.le (by decide : 10 ≤ 44)) F H2.acc (by omega) hb' (fun s σ Q F q => r_ld N F 1 rfl rfl q) ?_
    intro σ3 s A3 m3 F
    refine ⟨rfl, r_nil ⟨rfl, ?_⟩⟩
    refine fin σ3 s ?_ (m12.trans m3) F
    have : nlPs ps = ps' ++ [p] := by
      rcases how with ⟨e, q, e'⟩ | e
      · rw [e, e', q]; rfl
      · rw [e, nlPs_snoc, if_neg hp]
    rw [this]
    exact H2.turn1 A3 m3
end


def del (σ : Hp) (a : Addr) : Hp := fun b => if b = a then none else σ b
theorem del_some {σ : Hp} {a b : Addr} {o : Obj} (h : del σ a b = some o) : σ b = some o ∧ b ≠ a := by
  unfold del at h
  split at h
  · cases h
  · rename_i q; exact ⟨h, q⟩
theorem Mod.del {M : List Addr} {σ : Hp} {a : Addr} (h : a ∈ M) : Mod M σ (Mine.del σ a) := fun b o n e => by
  unfold Mine.del; rw [if_neg]; exact e; intro q; exact n (q ▸ h)
theorem Ok.drop {c : Cx} {φ σ : Hp} {s s' : Shared} {x : Addr} {o : Obj} (B : Bs c) (K : Ok c φ σ s) (hx : σ x = some o) (e : Heap.ExtBut x s.heap s'.heap) (hg : s'.gens = s.gens) (hos : s'.os = s.os) : Ok c φ (del σ x) s' := by
  have n225 := K.newσ _ _ hx
  refine ⟨fun b z h n => e _ _ (Nat.ne_of_lt (Nat.lt_of_lt_of_le (Heap.lt_size h) (Nat.le_trans B.sz n225))) (K.old b z h n), fun b z h => e _ _ (fun q => by subst q; have := K.dj _ _ hx; rw [this] at h; cases h) (K.fr b z h), fun b z h => e _ _ (del_some h).2 (K.own b z (del_some h).1), fun b z h => K.dj b z (del_some h).1, fun b z h => K.newσ b z (del_some h).1, K.newφ, fun P hP => ?_, hg ▸ K.gens, hos.trans K.os⟩
  obtain ⟨ps, h1, h2⟩ := K.tab P hP
  exact ⟨ps, e _ _ (Nat.ne_of_lt (Nat.lt_of_lt_of_le (tab_lt hP) n225)) h1, h2⟩

theorem exi1 {α1 : Type} {p : α1 → Prop} {b : Prop} (h : ∃ x1, p x1) (k : ∀ x1, p x1 → b) : b := let ⟨x1, h⟩ := h; k x1 h
theorem exi2 {α1 : Type} {α2 : Type} {p : α1 → α2 → Prop} {b : Prop} (h : ∃ x1 x2, p x1 x2) (k : ∀ x1 x2, p x1 x2 → b) : b := let ⟨x1, x2, h⟩ := h; k x1 x2 h
theorem exi3 {α1 : Type} {α2 : Type} {α3 : Type} {p : α1 → α2 → α3 → Prop} {b : Prop} (h : ∃ x1 x2 x3, p x1 x2 x3) (k : ∀ x1 x2 x3, p x1 x2 x3 → b) : b := let ⟨x1, x2, x3, h⟩ := h; k x1 x2 x3 h
theorem exi4 {α1 : Type} {α2 : Type} {α3 : Type} {α4 : Type} {p : α1 → α2 → α3 → α4 → Prop} {b : Prop} (h : ∃ x1 x2 x3 x4, p x1 x2 x3 x4) (k : ∀ x1 x2 x3 x4, p x1 x2 x3 x4 → b) : b := let ⟨x1, x2, x3, x4, h⟩ := h; k x1 x2 x3 x4 h
theorem exi5 {α1 : Type} {α2 : Type} {α3 : Type} {α4 : Type} {α5 : Type} {p : α1 → α2 → α3 → α4 → α5 → Prop} {b : Prop} (h : ∃ x1 x2 x3 x4 x5, p x1 x2 x3 x4 x5) (k : ∀ x1 x2 x3 x4 x5, p x1 x2 x3 x4 x5 → b) : b := let ⟨x1, x2, x3, x4, x5, h⟩ := h; k x1 x2 x3 x4 x5 h
/-- a for loop -/
theorem r_forG {c : Cx} {A : Around} {φ σ : Hp} {L : Addr} {names : List Str} {vals : List (Option Value)} {s : Shared} {env : Env} {target : Expr} {it : Value} {body orelse : List Stmt} {R : Result → Shared → Prop} (n : Nat) (J : Nat → Hp → List (Option Value) → Prop) (NX : Nat → Hp → Value → Hp → Prop) (EN : Hp → Hp → Prop)
    (next : ∀ i σ vals, i < n → J i σ vals → Spec c A σ (pyNext it) (fun r σ' => ∃ v, r = some v ∧ NX i σ v σ'))
    (stop : ∀ σ vals, J n σ vals → Spec c A σ (pyNext it) (fun r σ' => r = none ∧ EN σ σ'))
    (turn : ∀ i σ vals v σ' s (E : Value → Shared → Prop), i < n → J i σ vals → NX i σ v σ' → Fm c φ σ' L names vals s → wpAny c.M A (assign target env v) (fun _ s₂ => wpAny c.M A (execs body env) (fun f s₃ => match f with
        | .next | .cont => ∃ σ'' vals'', J (i + 1) σ'' vals'' ∧ Fm c φ σ'' L names vals'' s₃
        | .brk => R (.ok .next) s₃
        | .ret v => R (.ok (.ret v)) s₃) E s₂) E s)
    (fin : ∀ σ vals σ' s (E : Value → Shared → Prop), J n σ vals → EN σ σ' → Fm c φ σ' L names vals s → wpAny c.M A (execs orelse env) (fun f s₃ => R (.ok f) s₃) E s)
    (h : J 0 σ vals) (F : Fm c φ σ L names vals s) (ht : ∀ v, letOwnedTupleGo target it v = pure () := by intro _; rfl) : codeAny c.M A (.forLoop target it body orelse env) R s := by
  refine codeAny_forLoop (fun k s => ∃ i σ vals, k = n + 1 - i ∧ i ≤ n ∧ J i σ vals ∧ Fm c φ σ L names vals s) ?_ (n + 1) ⟨0, σ, vals, rfl, Nat.zero_le _, h, F⟩ ht
  rintro k s ⟨i, σ, vals, rfl, hi, hJ, F⟩
  by_cases hlt : i < n
  · refine F.spec (next i σ vals hlt hJ) ?_
    rintro _ σ' s' ⟨v, rfl, hN⟩ F'
    refine wpAny_mono (turn i σ vals v σ' s' _ hlt hJ hN F') (fun _ s₂ h₂ => wpAny_mono h₂ (fun f s₃ h₃ => ?_) fun _ _ e => e) fun _ _ e => e
    cases f with
    | next => obtain ⟨σ'', vals'', hJ', F''⟩ := h₃; exact ⟨n + 1 - (i + 1), by omega, i + 1, σ'', vals'', rfl, hlt, hJ', F''⟩
    | cont => obtain ⟨σ'', vals'', hJ', F''⟩ := h₃; exact ⟨n + 1 - (i + 1), by omega, i + 1, σ'', vals'', rfl, hlt, hJ', F''⟩
    | brk => exact h₃
    | ret v => exact h₃
  · have e : i = n := by omega
    subst e
    refine F.spec (stop σ vals hJ) ?_
    rintro _ σ' s' ⟨rfl, hE⟩ F'
    exact fin σ vals σ' s' _ hJ hE F'

section
variable {c : Cx} {A : Around} {σ : Hp}
/-- for over a list -/
abbrev LNX (it l : Addr) (xs : List Value) (i : Nat) (σ : Hp) (v : Value) (σ' : Hp) : Prop := xs[i]? = some v ∧ σ' it = some (itObj (.ref l) (i + 1)) ∧ Mod [it] σ σ'
theorem next_list (B : Bs c) {it l : Addr} {xs : List Value} {n i : Nat} {cl : Value} {d : Option Addr} (S : Sq σ l cl d xs n) (hit : σ it = some (itObj (.ref l) i)) (hi : i < xs.length) : Spec c A σ (pyNext (.ref it)) (fun r σ' => ∃ v, r = some v ∧ LNX it l xs i σ v σ') := by
  refine (spec_next B S hit (List.getElem?_eq_getElem hi)).mono ?_
  rintro _ _ ⟨rfl, rfl⟩
  exact ⟨_, rfl, List.getElem?_eq_getElem hi, upd_same .., Mod.upd (.head _)⟩
theorem stop_list (B : Bs c) {it l : Addr} {xs : List Value} {n : Nat} {cl : Value} {d : Option Addr} (hh : A.handled = none) (S : Sq σ l cl d xs n) (hit : σ it = some (itObj (.ref l) xs.length)) : Spec c A σ (pyNext (.ref it)) (fun r σ' => r = none ∧ Mod [it] σ σ') := by
  refine (spec_end B hh S hit (by simp)).mono ?_
  rintro _ _ ⟨rfl, rfl⟩
  exact ⟨rfl, Mod.upd (.head _)⟩

/-- ranges -/
abbrev rgObj (a b k : Int) (t u v : Tok) : Obj := { cls := .type "range", data := .fields #[.int a t, .int b u, .int k v] }
abbrev riObj (x left step : Int) : Obj := { cls := .type "range_iterator", data := .fields #[rawInt x, rawInt left, rawInt step] }
theorem spec_range3 (B : Bs c) {a b k : Int} {t u v : Tok} (hk : k ≠ 0) (hp : Builtin.divisionGoesByPylong (b - a) k = false) : Spec c A σ (call (.type "range") [.int a t, .int b u, .int k v]) (fun r σ' => ∃ x t u v, r = .ref x ∧ σ x = none ∧ σ' x = some (rgObj a b k t u v) ∧ Mod [] σ σ') := by
  intro φ s Q E K q
  have K' := K.new B (o := rgObj a b k t u v) rfl
  exact call_range_3 hk (q _ _ _ ⟨_, t, u, v, rfl, K'.1, upd_same .., Mod.new K'.1⟩ K'.2) (.inl hp)
theorem spec_range2 (B : Bs c) {a b : Int} {t u : Tok} : Spec c A σ (call (.type "range") [.int a t, .int b u]) (fun r σ' => ∃ x t u v, r = .ref x ∧ σ x = none ∧ σ' x = some (rgObj a b 1 t u v) ∧ Mod [] σ σ') := by
  intro φ s Q E K q
  have K' := (K.toks (s.toks + 1)).new B (o := rgObj a b 1 t u s.toks) rfl
  exact call_range_2 (q _ _ _ ⟨_, _, _, _, rfl, K'.1, upd_same .., Mod.new K'.1⟩ K'.2)
theorem spec_range1 (B : Bs c) {b : Int} {u : Tok} : Spec c A σ (call (.type "range") [.int b u]) (fun r σ' => ∃ x t u v, r = .ref x ∧ σ x = none ∧ σ' x = some (rgObj 0 b 1 t u v) ∧ Mod [] σ σ') := by
  intro φ s Q E K q
  have K' := (K.toks (s.toks + 1 + 1)).new B (o := rgObj 0 b 1 s.toks u (s.toks + 1)) rfl
  exact call_range_1 (q _ _ _ ⟨_, _, _, _, rfl, K'.1, upd_same .., Mod.new K'.1⟩ K'.2)
theorem spec_iterR (B : Bs c) {x : Addr} {a b k : Int} {t u v : Tok} (h : σ x = some (rgObj a b k t u v)) (hs : Builtin.Range.small a b k = true) : Spec c A σ (pyIter (.ref x)) (fun r σ' => ∃ it, r = .ref it ∧ σ it = none ∧ σ' it = some (riObj a (Builtin.Range.rangeSize a b k) k) ∧ Mod [] σ σ') := by
  intro φ s Q E K q
  have K' := K.new B (o := riObj a (Builtin.Range.rangeSize a b k) k) rfl
  exact wpAny_pyIter_range (K.own _ _ h) hs (q _ _ _ ⟨_, rfl, K'.1, upd_same .., Mod.new K'.1⟩ K'.2)
abbrev RNX (it : Addr) (a : Int) (n : Nat) (k : Int) (i : Nat) (σ : Hp) (v : Value) (σ' : Hp) : Prop := IsI v (a + (i : Nat) * k) ∧ σ' it = some (riObj (a + ((i + 1 : Nat) : Int) * k) ((n : Int) - ((i + 1 : Nat) : Int)) k) ∧ Mod [it] σ σ'
theorem next_range (B : Bs c) {it : Addr} {a k : Int} {n i : Nat} (hit : σ it = some (riObj (a + (i : Nat) * k) ((n : Int) - (i : Nat)) k)) (hi : i < n) : Spec c A σ (pyNext (.ref it)) (fun r σ' => ∃ v, r = some v ∧ RNX it a n k i σ v σ') := by
  intro φ s Q E K q
  refine wpAny_pyNext_range_item (K.own _ _ hit) (by omega) fun h' h1 h2 => ?_
  have e1 : a + ((i + 1 : Nat) : Int) * k = a + (i : Int) * k + k := by push_cast; rw [Int.add_mul, Int.one_mul, Int.add_assoc]
  have e2 : (n : Int) - ((i + 1 : Nat) : Int) = (n : Int) - (i : Int) - 1 := by push_cast; omega
  refine q _ (upd σ it _) _ ⟨_, rfl, ⟨_, rfl⟩, ?_, Mod.upd (.head _)⟩ (K.but (s' := { s with heap := h', toks := s.toks + 1 }) B hit h1 h2.extBut rfl rfl)
  rw [e1, e2]
  exact upd_same ..
theorem stop_range (B : Bs c) {it : Addr} {a k : Int} {n : Nat} (hh : A.handled = none) (hit : σ it = some (riObj (a + (n : Nat) * k) ((n : Int) - (n : Nat)) k)) : Spec c A σ (pyNext (.ref it)) (fun r σ' => r = none ∧ Mod [it] σ σ') := by
  intro φ s Q E K q
  refine wpAny_pyNext_range_end hh (K.own _ _ hit) (by omega) fun h' h2 => ?_
  exact q _ (del σ it) _ ⟨rfl, Mod.del (.head _)⟩ (K.drop (s' := { s with heap := h' }) B hit h2 rfl rfl)
/-- the signs of a text -/
abbrev siObj (x : Str) (t : Tok) (i : Nat) (o : Obj) : Prop := o.cls = .type "str_ascii_iterator" ∧ o.data = .fields #[.str x t, .int i 0]
def SIt (σ : Hp) (it : Addr) (x : Str) (t : Tok) (i : Nat) : Prop := ∃ o, σ it = some o ∧ siObj x t i o
theorem spec_iterS (B : Bs c) {x : Str} {t : Tok} (ha : x.cps.all (· < 128) = true) : Spec c A σ (pyIter (.str x t)) (fun r σ' => ∃ it, r = .ref it ∧ σ it = none ∧ SIt σ' it x t 0 ∧ Mod [] σ σ') := by
  intro φ s Q E K q
  have K' := K.new B (o := { cls := .type "str_ascii_iterator", data := .fields #[.str x t, .int 0 0] }) rfl
  exact wpAny_pyIter_ascii ha (q _ _ _ ⟨_, rfl, K'.1, ⟨_, upd_same .., rfl, rfl⟩, Mod.new K'.1⟩ K'.2)
abbrev SNX (it : Addr) (x : Str) (t : Tok) (i : Nat) (σ : Hp) (v : Value) (σ' : Hp) : Prop := (∃ ch, x.cps[i]? = some ch ∧ IsS v ⟨#[ch]⟩) ∧ SIt σ' it x t (i + 1) ∧ Mod [it] σ σ'
theorem next_str (B : Bs c) {it : Addr} {x : Str} {t : Tok} {i : Nat} (hit : SIt σ it x t i) (hi : i < x.cps.size) : Spec c A σ (pyNext (.ref it)) (fun r σ' => ∃ v, r = some v ∧ SNX it x t i σ v σ') := by
  intro φ s Q E K q
  obtain ⟨o, ho, hc, hd⟩ := hit
  refine wpAny_pyNext_ascii_item (x := x) (t := t) (i := i) ⟨o, K.own _ _ ho, hc, hd⟩ (Array.getElem?_eq_getElem hi) fun h' h1 h2 => ?_
  obtain ⟨o', ho', hc', hd'⟩ := h1
  exact q _ (upd σ it o') _ ⟨_, rfl, ⟨_, Array.getElem?_eq_getElem hi, ⟨_, rfl⟩⟩, ⟨o', upd_same .., hc', hd'⟩, Mod.upd (.head _)⟩ (K.but (s' := { s with heap := h', toks := s.toks + 1 }) B ho ho' h2.extBut rfl rfl)
theorem stop_str (B : Bs c) {it : Addr} {x : Str} {t : Tok} (hh : A.handled = none) (hit : SIt σ it x t x.cps.size) : Spec c A σ (pyNext (.ref it)) (fun r σ' => r = none ∧ Mod [it] σ σ') := by
  intro φ s Q E K q
  obtain ⟨o, ho, hc, hd⟩ := hit
  refine wpAny_pyNext_ascii_end (x := x) (t := t) (i := x.cps.size) hh ⟨o, K.own _ _ ho, hc, hd⟩ (by simp) fun h' h2 => ?_
  exact q _ (del σ it) _ ⟨rfl, Mod.del (.head _)⟩ (K.drop (s' := { s with heap := h' }) B ho h2 rfl rfl)
end


section
variable {c : Cx} {A : Around} {σ φ : Hp} {L : Addr} {names : List Str} {vals : List (Option Value)} {s : Shared} {E : Value → Shared → Prop} {env : Env}
theorem Fm.grow (F : Fm c φ σ L names vals s) {s' : Shared} (k : ∀ b o, s.heap.get? b = some o → s'.heap.get? b = some o) (hg : s'.gens = s.gens) (ho : s'.os = s.os) : Fm c φ σ L names vals s' := ⟨F.ok.grow k hg ho, Ns.at F.ns fun o e => k _ _ e, F.outσ, F.outφ, F.hi⟩
theorem set_some {vals : List (Option Value)} {i j : Nat} {v : Option Value} (h : vals[j]?.isSome = true) : (vals.set i v)[j]?.isSome = true := by
  rw [List.getElem?_set]
  split
  · rename_i e; subst e
    have : i < vals.length := by
      rcases Nat.lt_or_ge i vals.length with h' | h'
      · exact h'
      · rw [List.getElem?_eq_none h'] at h; cases h
    simp [this]
  · exact h
/-- x, y = pair -/
theorem r_asgT2 (B : Bs c) {x y : Str} {p1 p2 pos : Pos} {kk : Nat} {b : Addr} {v1 v2 : Value} {i j : Nat} {vals' : List (Option Value)} {Q : Unit → Shared → Prop} (hh : A.handled = none) (N : Fn env L names) (F : Fm c φ σ L names vals s) (hb : σ b = some (tObj [v1, v2]))
    (hi : names[i]? = some x) (hj : names[j]? = some y) (vi : vals[i]?.isSome = true) (vj : vals[j]?.isSome = true) (k : ∀ s', Fm c φ σ L names vals' s' → Q () s')
    (e : (vals.set i (some v1)).set j (some v2) = vals' := by first | dsimp only [List.set_cons_succ, List.set_cons_zero] | rfl) :
    wpAny c.M A (assign (.Tuple [.Name x p1, .Name y p2] kk pos) env (.ref b)) Q E s := by
  subst e
  refine wpAny_assign_Tuple hh (items := #[v1, v2]) ⟨_, F.ok.own _ _ hb, rfl, _, rfl⟩ rfl rfl fun h' he => ?_
  have F1 : Fm c φ σ L names vals { s with heap := h' } := F.grow (fun b o e => he b o (Nat.ne_of_lt (Heap.lt_size e)) e) rfl rfl
  show wpAny _ _ (do holding [v2] (assign (.Name x p1) env v1); do holding [] (assign (.Name y p2) env v2); pure ()) _ _ _
  refine wpAny_bind (wpAny_holding (wpAny_assign_Name (r_st N F1 i hi vi B.sz ?_)))
  intro s F
  refine wpAny_bind (wpAny_holding (wpAny_assign_Name (r_st N F j hj (set_some vj) B.sz ?_)))
  intro s F
  exact wpAny_pure (k s F)
theorem spec_tupItem {value slice : Expr} {t : Addr} {ts : List Value} {k : Int} {u : Tok} {j : Nat} {x : Value} (ht : σ t = some (tObj ts)) (hlo : -(2 ^ 63) ≤ k) (hhi : k < 2 ^ 63) (hj : seqIndex? k ts.length = some j) (hx : ts[j]? = some x)
    (hs : ∃ ops, subscripted slice false (.ref t) (.int k u) = operate ops (getItem (.ref t) (.int k u)) := by exact ⟨_, rfl⟩) : Spec c A σ (subscriptTail value slice (.ref t) (.int k u)) (fun v σ' => x = v ∧ σ = σ') := by
  refine spec_tail (fun φ s K => ?_) ?_ hs
  · have T : s.TypeIs (.ref t) "tuple" := ⟨_, K.own _ _ ht, rfl⟩
    have L : Looks c.M s.heap (typeOf (.ref t)) (.type "tuple") := (Looks.ld (K.own _ _ ht)).andThen .now
    exact (L.andThen (Looks.of_pure slot_tuple_getitem.lookup)).andThen .now
  · intro φ s Q E K q
    exact PyProof.Rows.getItem_tuple (items := ts.toArray) ⟨_, K.own _ _ ht, rfl, _, rfl⟩ hlo hhi (by simpa using hj) (by simpa using hx) (q _ _ _ ⟨rfl, rfl⟩ K)
theorem spec_strItem {value slice : Expr} {x : Str} {t u : Tok} {i : Int} {k : Nat} (hr : -(2 ^ 63) ≤ i ∧ i < 2 ^ 63) (hc : (seqIndex? i x.length).bind (x.cps[·]?) = some k) (hs : ∃ ops, subscripted slice false (.str x t) (.int i u) = operate ops (getItem (.str x t) (.int i u)) := by exact ⟨_, rfl⟩) :
    Spec c A σ (subscriptTail value slice (.str x t) (.int i u)) (fun v σ' => IsS v ⟨#[k]⟩ ∧ σ = σ') := by
  refine spec_tail (fun φ s K => ?_) (spec_getItem_str hr hc) hs
  exact (show Looks c.M s.heap (specialOf (.str x t) "__getitem__") (some (.builtin "str.__getitem__")) from Looks.of_pure F.slot_str_getitem.lookup).andThen .now
end

/-- may a row end ahead of part i? -/
def cutAt (ch : Nat) (q : List (Str × Str)) (i : Nat) : Bool :=
  (Txt.isspace ⟨#[ch]⟩ && q[i]?.any fun p => p.1.cps[0]? == some ch) || (q[i - 1]?.any fun p => p.2.cps.back? == some ch)
def findCut (ch : Nat) (q : List (Str × Str)) : Nat → Option Nat
  | 0 => none
  | i + 1 => if cutAt ch q (i + 1) then some (i + 1) else findCut ch q i
structure FS where
  lines : List Str
  init : Int
  ps : List (Str × Str)
def acF (mx : Int) (ch : Nat) (st : FS) (fws word : Str) : FS :=
  let q := st.ps ++ [(fws, word)]
  if st.init + (alen q : Nat) > mx then
    match findCut ch q (q.length - 1) with
    | some i => ⟨st.lines ++ [acat (q.take i)], 0, q.drop i⟩
    | none => if st.init > 0 then ⟨nlLines st.lines st.init (nlPs st.ps), 0, [(if fws = emp then blank else fws, word)]⟩ else ⟨st.lines, st.init, q⟩
  else ⟨st.lines, st.init, q⟩

theorem seqIndex_nat {k n : Nat} (h : k < n) : seqIndex? (k : Int) n = some k := by
  unfold seqIndex?
  have e : (if (k : Int) < 0 then (k : Int) + (n : Int) else k) = (k : Int) := if_neg (by omega)
  simp only [e]
  rw [if_pos (by simp; omega)]
  simp
theorem back_index {x : Str} (h : x.length ≠ 0) : ∃ k, x.cps.back? = some k ∧ (seqIndex? (-1) x.length).bind (x.cps[·]?) = some k := by
  have hl : x.cps.size = x.length := rfl
  refine ⟨x.cps[x.length - 1]'(by omega), ?_, ?_⟩
  · rw [Array.back?_eq_getElem?]; exact Array.getElem?_eq_getElem (by omega)
  · rw [seqIndex_last (by omega), Option.bind_some, Array.getElem?_eq_getElem (by omega)]
theorem first_index {x : Str} (h : x.length ≠ 0) : ∃ k, x.cps[0]? = some k ∧ (seqIndex? 0 x.length).bind (x.cps[·]?) = some k := by
  have hl : x.cps.size = x.length := rfl
  refine ⟨x.cps[0]'(by omega), Array.getElem?_eq_getElem (by omega), ?_⟩
  have e : seqIndex? 0 x.length = some 0 := by
    have := seqIndex_nat (k := 0) (n := x.length) (by omega)
    exact this
  rw [e, Option.bind_some, Array.getElem?_eq_getElem (by omega)]
theorem str_one {a b : Nat} : decide ((⟨#[a]⟩ : Str) = ⟨#[b]⟩) = (some a == some b) := by
  by_cases h : a = b <;> simp [h]

abbrev acFd : FuncData := fdM 6 8 (Str.ofString "_ValueFormatter._append_chunk") [] .none 112 .none
def acNames : List Str := ["self", "fws", "string", "ch", "i", "prevpart", "part", "remainder"]
theorem ac_fn (L : Addr) : Fn (callEnv acFd L 113) L acNames := fn_of rfl (by decide +kernel) (by kernel_rfl) rfl rfl (by decide +kernel)

section
variable {c : Cx} {A : Around} {φ σ : Hp} {L : Addr} {s : Shared} {f df l a d : Addr} {mx : Int} {ws : Str} {ch : Nat} {lines : List Str} {init : Int} {q : List (Str × Str)} {E : Value → Shared → Prop}
/-- the inner loop's body -/
def acInner : List Stmt := match bodyS (methS 6 8) with | _ :: .If _ (.For _ _ (.For _ _ b _ _ :: _) _ _ :: _) _ _ :: _ => b | _ => []
theorem r_accItem (B : Bs c) {value slice : Expr} {i : Int} {j : Nat} {t : Tok} {p : Str × Str} (H : Fmt σ f df l a d mx ws ⟨#[ch]⟩ lines init q) (hz : Sm q) (hi : i = Int.ofNat j) (hp : q[j]? = some p)
    (hs : ∃ ops, subscripted slice false (.ref a) (.int i t) = operate ops (getItem (.ref a) (.int i t)) := by exact ⟨_, rfl⟩) : Spec c A σ (subscriptTail value slice (.ref a) (.int i t)) (fun v σ' => TupAt σ v p ∧ σ = σ') := by
  obtain ⟨xs, n, t', S, I, D⟩ := H.acc.ex
  have hl := I.len
  have hzn := hz.n
  have hj : j < q.length := (List.getElem?_eq_some_iff.mp hp).1
  obtain ⟨p', hp', T⟩ := I.at (List.getElem?_eq_getElem (l := xs) (i := j) (by omega))
  rw [hp] at hp'
  cases hp'
  refine (spec_sub B S (spec_item B S hi (List.getElem?_eq_getElem (by omega)) (by rw [sizeLine_eq]; omega)) hs).mono ?_
  rintro _ _ ⟨rfl, rfl⟩
  exact ⟨T, rfl⟩
theorem ac_turn (B : Bs c) {fw : Str} {tf tc ti : Tok} {v2 v5 v6 v7 : Option Value} {j : Nat} {Q : Flow → Shared → Prop} (F : Fm c φ σ L acNames [some (.ref f), some (.str fw tf), v2, some (.str ⟨#[ch]⟩ tc), some (.int (Int.ofNat (j + 1)) ti), v5, v6, v7] s) (H : Fmt σ f df l a d mx ws ⟨#[ch]⟩ lines init q) (hz : Sm q) (hj : j + 1 < q.length)
    (k : ∀ fw tf v5 s, Fm c φ σ L acNames [some (.ref f), some (.str fw tf), v2, some (.str ⟨#[ch]⟩ tc), some (.int (Int.ofNat (j + 1)) ti), v5, v6, v7] s → Q (if cutAt ch q (j + 1) then .brk else .next) s) :
    wpAny c.M A (execs acInner (callEnv acFd L 113)) Q E s := by
  have N := ac_fn L
  have e1 : (sizeLine : Nat) = 16777216 := sizeLine_eq
  have hzl := hz.l
  obtain ⟨p, hp⟩ : ∃ p, q[j + 1]? = some p := ⟨_, List.getElem?_eq_getElem hj⟩
  obtain ⟨p0, hp0⟩ : ∃ p, q[j]? = some p := ⟨_, List.getElem?_eq_getElem (by omega)⟩
  have b1 := alen_mem (List.mem_of_getElem? hp)
  have b0 := alen_mem (List.mem_of_getElem? hp0)
  unfold plen at b1 b0
  have rest : ∀ fw tf s, Fm c φ σ L acNames [some (.ref f), some (.str fw tf), v2, some (.str ⟨#[ch]⟩ tc), some (.int (Int.ofNat (j + 1)) ti), v5, v6, v7] s → (Txt.isspace ⟨#[ch]⟩ && (p.1.cps[0]? == some ch)) = false → wpAny c.M A (execs (acInner.drop 1) (callEnv acFd L 113)) Q E s := by
    intro fw tf s F hno
    refine r_seq ?_
    refine wpAny_Assign_Name ?_
    refine Subscript_ ?_
    refine Subscript_ ?_
    refine r_cur B N F H rfl rfl ?_
    intro s F
    refine wpAny_BinOp ?_
    refine r_ld N F 4 rfl rfl ?_
    refine F.specT spec_const_int ?_
    intro t1 s F
    refine F.specT spec_sub_int ?_
    intro t2 s F
    refine F.specTup (r_accItem B H hz (j := j) (by simp) hp0) ?_
    intro b u1 u2 s hb F
    refine F.specT spec_const_int ?_
    intro t3 s F
    refine F.specE (spec_tupItem hb (by decide) (by decide) (j := 1) rfl rfl) ?_
    intro s F
    refine r_st N F 5 rfl rfl B.sz ?_
    intro s F
    refine ⟨rfl, ?_⟩
    have hcut : cutAt ch q (j + 1) = (p0.2.cps.back? == some ch) := by
      unfold cutAt
      rw [hp, show j + 1 - 1 = j by omega, hp0]
      simp only [Option.any_some, hno, Bool.false_or]
    refine wpAny_execs_cons ?_
    refine wpAny_If ?_
    refine wpAny_isTrue_BoolOp ?_
    refine wpAny_allTrue_And_cons ?_
    refine wpAny_isTrue_value ?_
    refine r_ld N F 5 rfl rfl ?_
    refine F.specV (spec_truthy_str (by omega)) ?_
    intro s F
    by_cases h0 : p0.2.length = 0
    · rw [if_neg (by simp [h0]), if_neg (by decide)]
      refine r_nil (r_nil ?_)
      have := k fw tf _ s F
      rw [hcut, show (p0.2.cps.back? == some ch) = false by
        have : p0.2.cps = #[] := Array.eq_empty_of_size_eq_zero h0
        rw [this]; rfl] at this
      exact this
    · rw [if_pos (by simp [h0])]
      obtain ⟨kk, hk1, hk2⟩ := back_index h0
      refine wpAny_allTrue_And_cons ?_
      refine wpAny_isTrue_Compare1 ?_
      refine Subscript_ ?_
      refine r_ld N F 5 rfl rfl ?_
      refine wpAny_UnaryOp ?_
      refine F.specT spec_const_int ?_
      intro t4 s F
      refine F.specT spec_neg_int ?_
      intro t5 s F
      refine F.specT (spec_strItem (k := kk) (by decide) hk2) ?_
      intro t6 s F
      refine r_ld N F 3 rfl rfl ?_
      refine F.specV spec_eq_str ?_
      intro s F
      refine F.specV spec_truthy_bool ?_
      intro s F
      have K := k fw tf _ s F
      rw [hcut, hk1, ← str_one] at K
      by_cases hc : (⟨#[kk]⟩ : Str) = ⟨#[ch]⟩
      · rw [if_pos (by simpa using hc)] at K ⊢
        refine wpAny_allTrue_And_nil ?_
        rw [if_pos rfl]
        refine wpAny_execs_cons (wpAny_Break ?_)
        exact K
      · rw [if_neg (by simpa using hc)] at K ⊢
        rw [if_neg (by decide)]
        exact r_nil (r_nil K)
  refine wpAny_execs_cons ?_
  refine wpAny_If ?_
  refine wpAny_isTrue_value ?_
  refine r_method ?_
  refine r_ld N F 3 rfl rfl ?_
  intro pl
  refine GM.isspace ?_
  refine r_callW0 (kpr_builtin _) (F.ok.kx B) ?_
  refine F.specV spec_isspace ?_
  intro s F
  refine F.specV spec_truthy_bool ?_
  intro s F
  cases hsp : Txt.isspace ⟨#[ch]⟩ with
  | false =>
    rw [if_neg (by decide)]
    exact r_nil (rest fw tf s F (by rw [hsp]; rfl))
  | true =>
    rw [if_pos rfl]
    refine wpAny_execs_cons ?_
    refine wpAny_Assign_Name ?_
    refine Subscript_ ?_
    refine Subscript_ ?_
    refine r_cur B N F H rfl rfl ?_
    intro s F
    refine r_ld N F 4 rfl rfl ?_
    refine F.specTup (r_accItem B H hz (j := j + 1) rfl hp) ?_
    intro b u1 u2 s hb F
    refine F.specT spec_const_int ?_
    intro t3 s F
    refine F.specE (spec_tupItem hb (by decide) (by decide) (j := 0) rfl rfl) ?_
    intro s F
    refine r_st N F 1 rfl rfl B.sz ?_
    intro s F
    dsimp only
    refine wpAny_execs_cons ?_
    refine wpAny_If ?_
    refine wpAny_isTrue_BoolOp ?_
    refine wpAny_allTrue_And_cons ?_
    refine wpAny_isTrue_value ?_
    refine r_ld N F 1 rfl rfl ?_
    refine F.specV (spec_truthy_str (by omega)) ?_
    intro s F
    by_cases h0 : p.1.length = 0
    · rw [if_neg (by simp [h0]), if_neg (by decide)]
      refine r_nil (r_nil (rest _ _ s F ?_))
      have : p.1.cps = #[] := Array.eq_empty_of_size_eq_zero h0
      rw [this]; simp
    · rw [if_pos (by simp [h0])]
      obtain ⟨kk, hk1, hk2⟩ := first_index h0
      refine wpAny_allTrue_And_cons ?_
      refine wpAny_isTrue_Compare1 ?_
      refine Subscript_ ?_
      refine r_ld N F 1 rfl rfl ?_
      refine F.specT spec_const_int ?_
      intro t4 s F
      refine F.specT (spec_strItem (k := kk) (by decide) hk2) ?_
      intro t6 s F
      refine r_ld N F 3 rfl rfl ?_
      refine F.specV spec_eq_str ?_
      intro s F
      refine F.specV spec_truthy_bool ?_
      intro s F
      by_cases hc : (⟨#[kk]⟩ : Str) = ⟨#[ch]⟩
      · rw [if_pos (by simpa using hc)]
        refine wpAny_allTrue_And_nil ?_
        rw [if_pos rfl]
        refine wpAny_execs_cons (wpAny_Break ?_)
        have K := k _ _ _ s F
        have : cutAt ch q (j + 1) = true := by
          unfold cutAt
          rw [hp, Option.any_some, hk1, ← str_one, hsp]
          simp [hc]
        rw [this] at K
        exact K
      · rw [if_neg (by simpa using hc), if_neg (by decide)]
        refine r_nil (r_nil (rest _ _ s F ?_))
        rw [hk1, ← str_one]
        simp [hc]
end


theorem Mod.skip {M : List Addr} {σ σ1 σ2 : Hp} {it : Addr} (m : Mod M σ σ1) (m2 : Mod [it] σ1 σ2) (h : σ it = none) : Mod M σ σ2 := fun b o n e =>
  m2 b o (fun q => by simp only [List.mem_singleton] at q; rw [q, h] at e; cases e) (m b o n e)
theorem Mod.fresh {σ σ1 : Hp} {it : Addr} (m : Mod [] σ σ1) (h : σ1 it = none) : σ it = none := by
  cases q : σ it with
  | none => rfl
  | some o => rw [m.get q] at h; cases h

section
variable {c : Cx} {A : Around} {φ σ : Hp} {L : Addr} {s : Shared} {f df l a d : Addr} {mx : Int} {ws : Str} {ch : Nat} {lines : List Str} {init : Int} {ps q : List (Str × Str)} {E : Value → Shared → Prop}

def acIf : List Stmt := match bodyS (methS 6 8) with | _ :: .If _ b _ _ :: _ => b | _ => []
def acElse : List Stmt := match acIf with | .For _ _ _ o _ :: _ => o | _ => []

theorem ac_tail (B : Bs c) {v1 v2 v3 v5 v6 v7 : Option Value} {i : Nat} {ti : Tok} {Q : Flow → Shared → Prop} (R : Rm A 40) (F : Fm c φ σ L acNames [some (.ref f), v1, v2, v3, some (.int (Int.ofNat i) ti), v5, v6, v7] s) (H : Fmt σ f df l a d mx ws ⟨#[ch]⟩ lines init q) (hz : Sm q) (hl : SmL lines) (hi : i ≤ q.length)
    (k : ∀ fl σ' s', (match fl with | .ret v => v | _ => .none) = Value.none → Fmt σ' f df l a d mx ws ⟨#[ch]⟩ (lines ++ [acat (q.take i)]) 0 (q.drop i) → Mod [a, d, l] σ σ' → Ok c φ σ' s' → Q fl s') :
    wpAny c.M A (execs (acIf.drop 1) (callEnv acFd L 113)) Q E s := by
  have N := ac_fn L
  have e1 : (sizeLine : Nat) = 16777216 := sizeLine_eq
  have hzn := hz.n
  have hzl := hz.l
  have hln := hl.n
  refine r_seq ?_
  refine wpAny_Assign_Name ?_
  refine r_accM B N F H rfl rfl (g := 152) (by kernel_rfl) (by kernel_rfl) (by decide) ?_
  intro s F
  refine r_callW (kpr_ref (by kernel_rfl)) ?_
  refine r_arg ?_
  refine r_ld N F 4 rfl rfl ?_
  refine r_args0 ?_
  refine ⟨F.ok.kx B, ?_⟩
  refine F.spec (pf_spec B (k := i) (R.le (by decide)) H.acc (by omega) hi) ?_
  rintro _ σ1 s ⟨r, xs, m, rfl, hr, hr0, J1, A1, m1⟩ F
  refine r_st N F 7 rfl rfl B.sz ?_
  intro s F
  refine ⟨rfl, ?_⟩
  have H1 := H.turn1 A1 m1
  have hz1 : Sm (q.take i) := ⟨by rw [List.length_take]; omega, by
    have := alen_app (q.take i) (q.drop i)
    rw [List.take_append_drop] at this
    omega⟩
  obtain ⟨vs, nn, Sl, el⟩ := H1.lns
  have hlen : (strValues vs).length = lines.length := by rw [← el]; simp [strValues]
  have hrl : r ≠ l := fun e => by
    obtain ⟨vs, nn, Sl, el⟩ := H.lns
    have := Sl.at_
    rw [← e, hr0] at this; cases this
  refine r_seq ?_
  refine wpAny_Expr_any ?_
  refine r_method ?_
  refine r_lines B N F H1 rfl rfl ?_
  intro s F pl
  refine F.specE (spec_lmethod Sl PySem.F.slot_list_append.lookup PySem.F.type_list_append) ?_
  intro s F
  refine r_callW (kpr_builtin _) ?_
  refine r_arg ?_
  refine r_callN ?_
  refine r_bi B N F (str_bi _) str_boot ?_
  refine r_callW (kpr_type _) ?_
  refine r_arg ?_
  refine r_cur B N F H1 rfl rfl ?_
  intro s F
  refine r_args0 ?_
  refine ⟨F.ok.kx B, ?_⟩
  refine F.specT (spec_strA B (R.le (by decide)) H1.acc hz1) ?_
  intro t3 s F
  refine r_args0 ?_
  refine ⟨F.ok.kx B, ?_⟩
  refine F.specN (spec_app B Sl (by omega)) ?_
  intro n1 σ2 s hAll F
  have S2 := hAll.1
  have m2 := hAll.2
  clear hAll
  refine ⟨rfl, ?_⟩
  have H2 := H1.lined ⟨vs ++ [(acat (q.take i), t3)], n1, by simpa [strValues] using S2, by rw [List.map_append, el]⟩ m2
  refine r_seq ?_
  refine wpAny_Expr_any ?_
  refine r_accM B N F H2 rfl rfl (g := 182) (by kernel_rfl) (by kernel_rfl) (by decide) ?_
  intro s F
  refine r_callW (kpr_ref (by kernel_rfl)) ?_
  refine r_arg ?_
  refine r_ld N F 7 rfl rfl ?_
  refine r_args0 ?_
  refine ⟨F.ok.kx B, ?_⟩
  refine F.specG (reset1_spec B (R.le (by decide)) H2.acc (by rw [← List.length_append, List.take_append_drop]; omega) (m2 _ _ (by simpa using hrl) hr) (J1.mod m2 (sq_notup1 Sl))) ?_
  intro σ3 s hAll F
  have A3 := hAll.1
  have m3 := hAll.2
  clear hAll
  refine ⟨rfl, r_nil ?_⟩
  exact k _ _ _ rfl (H2.turn A3 m3) (((m1.sub (by simp)).trans (m2.sub (by simp))).trans (m3.sub (by simp))) F.ok

theorem ac_else (B : Bs c) {fws word : Str} {v1 v2 v3 v4 v5 v7 : Option Value} {Q : Flow → Shared → Prop} (R : Rm A 46) (F : Fm c φ σ L acNames [some (.ref f), v1, v2, v3, v4, v5, none, v7] s) (H : Fmt σ f df l a d mx ws ⟨#[ch]⟩ lines init (ps ++ [(fws, word)])) (hz : Sm (ps ++ [(fws, word)])) (hl : SmL lines) (hi : 0 ≤ init) (hi2 : init ≤ 1000)
    (k : ∀ σ' s', Fmt σ' f df l a d mx ws ⟨#[ch]⟩ (if init > 0 then nlLines lines init (nlPs ps) else lines) 0 (if init > 0 then [(if fws = emp then blank else fws, word)] else ps ++ [(fws, word)]) → Mod [a, d, l] σ σ' → Ok c φ σ' s' → Q (.ret .none) s') :
    wpAny c.M A (execs acElse (callEnv acFd L 113)) Q E s := by
  have N := ac_fn L
  have e1 : (sizeLine : Nat) = 16777216 := sizeLine_eq
  have hzn := hz.n
  have hzl := hz.l
  have hln := hl.n
  rw [alen_app] at hzl
  rw [List.length_append] at hzn
  have hwl : fws.length ≤ 100000 := by
    have : alen [(fws, word)] = fws.length + word.length := by simp [alen, plen]
    omega
  refine r_seq ?_
  refine Assign_Tuple ?_
  refine r_accM B N F H rfl rfl (g := 160) (by kernel_rfl) (by kernel_rfl) (by decide) ?_
  intro s F
  refine r_callW0 (kpr_ref (by kernel_rfl)) (F.ok.kx B) ?_
  refine F.specPop (pop_spec B (R.le (by decide)) H.acc (by simp; omega)) ?_
  intro p ps' b t1 t2 σ1 s hb hAll F
  have A1 := hAll.1
  have m1 := hAll.2.1
  have how := hAll.2.2
  clear hAll
  obtain ⟨rfl, rfl⟩ : ps' = ps ∧ p = (fws, word) := by
    rcases how with ⟨e, _⟩ | e
    · simp at e
    · have := List.append_inj' e rfl
      exact ⟨this.1.symm, by simpa using this.2.symm⟩
  refine r_asgT2 B R.hd N F (i := 1) (j := 6) hb rfl rfl rfl rfl ?_
  intro s F
  refine ⟨rfl, ?_⟩
  have H1 := H.turn1 A1 m1
  have hz1 : Sm ps' := ⟨by omega, by omega⟩
  have fin : ∀ σ2 s (fw : Str) (tf : Tok) lines' init' ps2, Fm c φ σ2 L acNames [some (.ref f), some (.str fw tf), v2, v3, v4, v5, some (.str word t2), v7] s → Fmt σ2 f df l a d mx ws ⟨#[ch]⟩ lines' init' ps2 → ps2.length ≤ 1000 → Mod [a, d, l] σ σ2 →
      (∀ σ' s', Fmt σ' f df l a d mx ws ⟨#[ch]⟩ lines' init' (ps2 ++ [(fw, word)]) → Mod [a, d, l] σ σ' → Ok c φ σ' s' → Q (.ret .none) s') → wpAny c.M A (execs (acElse.drop 2) (callEnv acFd L 113)) Q E s := by
    intro σ2 s fw tf lines' init' ps2 F H2 hp2 m2 k'
    refine r_seq ?_
    refine wpAny_Expr_any ?_
    refine r_accM B N F H2 rfl rfl (g := 144) (by kernel_rfl) (by kernel_rfl) (by decide) ?_
    intro s F
    refine r_callW (kpr_ref (by kernel_rfl)) ?_
    refine r_arg ?_
    refine r_ld N F 1 rfl rfl ?_
    refine r_arg ?_
    refine r_ld N F 6 rfl rfl ?_
    refine r_args0 ?_
    refine ⟨F.ok.kx B, ?_⟩
    refine F.specG (push_spec B (R.le (by decide)) H2.acc (by omega)) ?_
    intro σ3 s hAll F
    have A3 := hAll.1
    have m3 := hAll.2
    clear hAll
    refine ⟨rfl, ?_⟩
    refine wpAny_execs_cons ?_
    refine wpAny_Return_none ?_
    exact k' _ _ (H2.turn1 A3 m3) (m2.trans (m3.sub (by simp))) F.ok
  refine r_seq ?_
  refine wpAny_If ?_
  refine wpAny_isTrue_Compare1 ?_
  refine Attribute_any_ ?_
  refine r_cur B N F H1 rfl rfl ?_
  intro s F
  obtain ⟨xs, n, ti, S, I, D⟩ := H1.acc.ex
  refine F.specE (spec_getattr B (inst_of S D) (cls200 _) (by kernel_rfl) rfl rfl) ?_
  intro s F
  refine F.specT spec_const_int ?_
  intro t3 s F
  refine F.specV spec_gt_int ?_
  intro s F
  refine F.specV spec_truthy_bool ?_
  intro s F
  by_cases hpos : init > 0
  · rw [if_pos (by simpa using hpos)]
    rw [if_pos hpos, if_pos hpos] at k
    refine r_seq ?_
    refine wpAny_Expr_any ?_
    refine r_method ?_
    refine r_ld N F 0 rfl rfl ?_
    intro pl
    refine exi4 H1.dict ?_
    intro u1 u2 u3 u4 If
    refine F.specE (spec_method B If (cls116 _) (f := 78) (by kernel_rfl) (by kernel_rfl) (fv_none _ _ _ _ _ _ _ _ _ (by decide))) ?_
    intro s F
    refine r_callW0 (kpr_ref (by kernel_rfl)) (F.ok.kx B) ?_
    refine F.specG (nl_spec B (R.le (by decide)) H1 hz1 hl hi hi2) ?_
    intro σ2 s hAll F
    have H2 := hAll.1
    have m2 := hAll.2
    clear hAll
    refine ⟨rfl, ?_⟩
    have m12 : Mod [a, d, l] σ σ2 := (m1.sub (by simp)).trans m2
    refine r_seq ?_
    refine wpAny_If ?_
    refine wpAny_isTrue_Not ?_
    refine wpAny_isTrue_value ?_
    refine r_ld N F 1 rfl rfl ?_
    refine F.specV (spec_truthy_str (by show fws.length ≤ _; omega)) ?_
    intro s F
    by_cases h0 : fws.length = 0
    · rw [if_pos (by simp [h0])]
      have hfe : fws = emp := by
        have : fws.cps = #[] := Array.eq_empty_of_size_eq_zero h0
        cases fws; simp only at this; subst this; decide +kernel
      rw [if_pos hfe] at k
      refine r_seq ?_
      refine wpAny_Assign_Name ?_
      refine F.specT spec_const_str ?_
      intro t4 s F
      refine r_st N F 1 rfl rfl B.sz ?_
      intro s F
      refine ⟨rfl, r_nil ⟨rfl, r_nil ⟨rfl, ?_⟩⟩⟩
      exact fin _ s blank t4 _ _ _ F H2 (by simp) m12 k
    · rw [if_neg (by simp [h0])]
      have hfe : fws ≠ emp := fun e => h0 (by rw [e]; decide +kernel)
      rw [if_neg hfe] at k
      refine r_nil ⟨rfl, r_nil ⟨rfl, ?_⟩⟩
      exact fin _ s fws t1 _ _ _ F H2 (by simp) m12 k
  · rw [if_neg (by simpa using hpos)]
    rw [if_neg hpos, if_neg hpos] at k
    have hi0 : init = 0 := by omega
    refine r_nil ⟨rfl, ?_⟩
    subst hi0
    exact fin _ s fws t1 _ _ _ F H1 (by omega) (m1.sub (by simp)) k
end


theorem range_bi (P : Params) : nsIn (KM P) mainGlobals "range" = some none := by kernel_rfl
theorem range_boot : bootBuiltins "range" = some (.type "range") := by decide +kernel
theorem SIt.mod {M : List Addr} {σ σ' : Hp} {it : Addr} {x : Str} {t : Tok} {i : Nat} (h : SIt σ it x t i) (m : Mod M σ σ') (hn : it ∉ M) : SIt σ' it x t i := let ⟨o, e, r⟩ := h; ⟨o, m _ _ hn e, r⟩
theorem findCut_le {ch : Nat} {q : List (Str × Str)} : ∀ {n i : Nat}, findCut ch q n = some i → 1 ≤ i ∧ i ≤ n
  | 0, _, h => by cases h
  | n + 1, i, h => by
    unfold findCut at h
    split at h
    · cases h; omega
    · have := findCut_le h; omega

section
variable {c : Cx} {A : Around} {φ σ : Hp} {L : Addr} {s : Shared} {f df l a d : Addr} {mx : Int} {ws : Str} {ch : Nat} {lines : List Str} {init : Int} {ps q : List (Str × Str)} {E : Value → Shared → Prop}
def acOuter : List Stmt := match acIf with | .For _ _ b _ _ :: _ => b | _ => []

/-- one sign: the inner loop -/
theorem ac_outer (B : Bs c) {fw : Str} {tf tc : Tok} {v2 v4 v5 v6 v7 : Option Value} {Q : Flow → Shared → Prop} (R : Rm A 20) (F : Fm c φ σ L acNames [some (.ref f), some (.str fw tf), v2, some (.str ⟨#[ch]⟩ tc), v4, v5, v6, v7] s) (H : Fmt σ f df l a d mx ws ⟨#[ch]⟩ lines init q) (hz : Sm q) (hq : 0 < q.length)
    (kb : ∀ i σ' s' fw tf ti v5, findCut ch q (q.length - 1) = some i → Mod [] σ σ' → Fm c φ σ' L acNames [some (.ref f), some (.str fw tf), v2, some (.str ⟨#[ch]⟩ tc), some (.int (Int.ofNat i) ti), v5, v6, v7] s' → Q .brk s')
    (kc : ∀ σ' s' fw tf v4 v5, findCut ch q (q.length - 1) = none → Mod [] σ σ' → Fm c φ σ' L acNames [some (.ref f), some (.str fw tf), v2, some (.str ⟨#[ch]⟩ tc), v4, v5, v6, v7] s' → Q .cont s') :
    wpAny c.M A (execs acOuter (callEnv acFd L 113)) Q E s := by
  have N := ac_fn L
  have e1 : (sizeLine : Nat) = 16777216 := sizeLine_eq
  have hzn := hz.n
  refine wpAny_execs_cons ?_
  refine wpAny_For ?_
  refine r_callN ?_
  refine r_bi B N F (range_bi _) range_boot ?_
  refine r_callW (kpr_type _) ?_
  refine r_arg ?_
  refine wpAny_BinOp ?_
  refine r_accM B N F H rfl rfl (g := 197) (by kernel_rfl) (by kernel_rfl) (by decide) ?_
  intro s F
  refine r_callW0 (kpr_ref (by kernel_rfl)) (F.ok.kx B) ?_
  refine F.specT (pc_spec B (R.le (by decide)) H.acc) ?_
  intro t1 s F
  refine F.specT spec_const_int ?_
  intro t2 s F
  refine F.specT spec_sub_int ?_
  intro t3 s F
  refine r_arg ?_
  refine F.specT spec_const_int ?_
  intro t4 s F
  refine r_arg ?_
  refine wpAny_UnaryOp ?_
  refine F.specT spec_const_int ?_
  intro t5 s F
  refine F.specT spec_neg_int ?_
  intro t6 s F
  refine r_args0 ?_
  refine ⟨F.ok.kx B, ?_⟩
  refine F.specR4 (spec_range3 B (by decide) (PyProof.noPylong_small (by decide))) ?_
  intro rg w1 w2 w3 σ1 s hAll F
  have hrg0 := hAll.1
  have hrg := hAll.2.1
  have m1 := hAll.2.2
  clear hAll
  refine F.specA (spec_iterR B hrg (small_down (by omega) (by omega) (by omega) (by omega))) ?_
  intro it σ2 s hAll F
  have hit0 := hAll.1
  have hit := hAll.2.1
  have m2 := hAll.2.2
  clear hAll
  have m02 : Mod [] σ σ2 := m1.trans m2
  have hitσ : σ it = none := m1.fresh hit0
  have hsz : Builtin.Range.rangeSize ((q.length : Int) - 1) 0 (-1) = ((q.length - 1 : Nat) : Int) := by rw [rangeSize_downNat]; omega
  rw [hsz] at hit
  refine r_forG (q.length - 1)
    (fun i σ' vals' => σ' it = some (riObj (((q.length : Int) - 1) + (i : Nat) * (-1)) (((q.length - 1 : Nat) : Int) - (i : Nat)) (-1)) ∧ Mod [] σ σ' ∧ (∃ fw tf v4 v5, vals' = [some (.ref f), some (.str fw tf), v2, some (.str ⟨#[ch]⟩ tc), v4, v5, v6, v7]) ∧ findCut ch q (q.length - 1) = findCut ch q (q.length - 1 - i))
    (RNX it ((q.length : Int) - 1) (q.length - 1) (-1)) (fun σ σ' => Mod [it] σ σ') ?_ ?_ ?_ ?_ ?_ F
  · rintro i σ' vals' hi ⟨h1, _⟩
    exact next_range B h1 hi
  · rintro σ' vals' ⟨h1, _⟩
    exact stop_range B R.hd h1
  · intro i σ' vals' v σ'' s' E' hi hJ hN F
    have h1 := hJ.1
    have h2 := hJ.2.1
    have h3 := hJ.2.2.2
    have hv0 := hN.1
    have h5 := hN.2.1
    have h6 := hN.2.2
    have hx0 := hJ.2.2.1
    clear hJ hN
    refine exi4 hx0 ?_
    intro fw' tf' v4' v5' hy0
    clear hx0
    subst hy0
    obtain ⟨ti, rfl⟩ := hv0
    have m3 := h2.skip h6 hitσ
    have H3 := H.mod0 m3
    refine wpAny_assign_Name ?_
    refine r_st N F 4 rfl rfl B.sz ?_
    intro s F
    have ej : (q.length : Int) - 1 + (i : Nat) * (-1) = Int.ofNat ((q.length - 2 - i) + 1) := by
      show _ = (((q.length - 2 - i) + 1 : Nat) : Int)
      omega
    rw [ej] at F
    refine ac_turn B F H3 hz (by omega) ?_
    intro fw3 tf3 v53 s F
    have en : q.length - 1 - i = (q.length - 2 - i) + 1 := by omega
    rw [en, show findCut ch q (q.length - 2 - i + 1) = (if cutAt ch q (q.length - 2 - i + 1) then some (q.length - 2 - i + 1) else findCut ch q (q.length - 2 - i)) from rfl] at h3
    by_cases hc : cutAt ch q (q.length - 2 - i + 1) = true
    · rw [if_pos hc] at h3 ⊢
      dsimp only
      refine wpAny_execs_cons (wpAny_Break ?_)
      exact kb _ _ _ _ _ _ _ h3 m3 F
    · rw [if_neg hc] at h3 ⊢
      refine ⟨σ'', _, ⟨h5, m3, ⟨_, _, _, _, rfl⟩, ?_⟩, F⟩
      rw [show q.length - 1 - (i + 1) = q.length - 2 - i by omega]
      exact h3
  · intro σ' vals' σ'' s' E' hJ h4 F
    have h1 := hJ.1
    have h2 := hJ.2.1
    have h3 := hJ.2.2.2
    have hx0 := hJ.2.2.1
    clear hJ
    refine exi4 hx0 ?_
    intro fw' tf' v4' v5' hy0
    clear hx0
    subst hy0
    refine wpAny_execs_cons (wpAny_Continue ?_)
    rw [Nat.sub_self] at h3
    exact kc _ _ _ _ _ _ h3 (h2.skip h4 hitσ) F
  · refine ⟨?_, m02, ⟨_, _, _, _, rfl⟩, rfl⟩
    simpa using hit

theorem ac_spec (B : Bs c) {fws word : Str} {t1 t2 : Tok} (R : Rm A 50) (hch : ch < 128) (H : Fmt σ f df l a d mx ws ⟨#[ch]⟩ lines init ps) (hz : Sm (ps ++ [(fws, word)])) (hl : SmL lines) (hi : 0 ≤ init) (hi2 : init ≤ 1000) :
    Spec c A σ (call (.ref 113) [.ref f, .str fws t1, .str word t2]) (fun v σ' => v = .none ∧ Fmt σ' f df l a d mx ws ⟨#[ch]⟩ (acF mx ch ⟨lines, init, ps⟩ fws word).lines (acF mx ch ⟨lines, init, ps⟩ fws word).init (acF mx ch ⟨lines, init, ps⟩ fws word).ps ∧ Mod [a, d, l] σ σ') := by
  have e1 : (sizeLine : Nat) = 16777216 := sizeLine_eq
  have hzn := hz.n
  refine spec_call (cspec_fn B R ["self", "fws", "string"] [.ref f, .str fws t1, .str word t2] ["ch", "i", "prevpart", "part", "remainder"] (names := acNames) (vals := [some (.ref f), some (.str fws t1), some (.str word t2), none, none, none, none, none]) (fd := acFd) (body := bodyS (methS 6 8)) (by kernel_rfl) (by kernel_rfl) rfl (fun _ _ _ => BindsTo.of_eq (by kernel_rfl)) (by kernel_rfl) (by kernel_rfl) (by decide +kernel) ?_)
  intro φ L s Q E F k
  have N := ac_fn L
  have R' := R.deeper (env := callEnv acFd L 113)
  refine r_seq ?_
  refine wpAny_Expr_any ?_
  refine r_accM B N F H rfl rfl (g := 144) (by kernel_rfl) (by kernel_rfl) (by decide) ?_
  intro s F
  refine r_callW (kpr_ref (by kernel_rfl)) ?_
  refine r_arg ?_
  refine r_ld N F 1 rfl rfl ?_
  refine r_arg ?_
  refine r_ld N F 2 rfl rfl ?_
  refine r_args0 ?_
  refine ⟨F.ok.kx B, ?_⟩
  refine F.specG (push_spec B (R'.le (by decide : 10 ≤ 49)) H.acc (by rw [List.length_append] at hzn; simp at hzn; omega)) ?_
  intro σ1 s hAll F
  have A1 := hAll.1
  have m1 := hAll.2
  clear hAll
  refine ⟨rfl, ?_⟩
  have H1 := H.turn1 A1 m1
  refine wpAny_execs_cons ?_
  refine wpAny_If ?_
  refine wpAny_isTrue_Compare1 ?_
  refine r_callN ?_
  refine r_bi B N F (len_bi _) len_boot ?_
  refine r_callW (kpr_builtin _) ?_
  refine r_arg ?_
  refine r_cur B N F H1 rfl rfl ?_
  intro s F
  refine r_args0 ?_
  refine ⟨F.ok.kx B, ?_⟩
  refine F.specT (spec_lenA B (R'.le (by decide : 21 ≤ 49)) H1.acc hz hi hi2) ?_
  intro t3 s F
  refine r_max B N F H1 rfl rfl ?_
  intro t4 s F
  refine F.specV spec_gt_int ?_
  intro s F
  refine F.specV spec_truthy_bool ?_
  intro s F
  by_cases hgt : init + (alen (ps ++ [(fws, word)]) : Nat) > mx
  · rw [if_pos (by simpa using hgt)]
    refine wpAny_execs_cons ?_
    refine wpAny_For ?_
    refine r_signs B N F H1 rfl rfl ?_
    intro t5 s F
    refine F.specA (spec_iterS B (by simpa using hch)) ?_
    intro it σ2 s hAll F
    have hit0 := hAll.1
    have hit := hAll.2.1
    have m2 := hAll.2.2
    clear hAll
    refine r_forG 1
      (fun i σ' vals' => SIt σ' it ⟨#[ch]⟩ t5 i ∧ Mod [] σ1 σ' ∧ (∃ fw tf v3 v4 v5, vals' = [some (.ref f), some (.str fw tf), some (.str word t2), v3, v4, v5, none, none]) ∧ (i = 1 → findCut ch (ps ++ [(fws, word)]) ((ps ++ [(fws, word)]).length - 1) = none))
      (SNX it ⟨#[ch]⟩ t5) (fun σ σ' => Mod [it] σ σ') ?_ ?_ ?_ ?_ ?_ F
    · rintro i σ' vals' hi ⟨h1, _⟩
      exact next_str B h1 hi
    · rintro σ' vals' ⟨h1, _⟩
      exact stop_str B R.hd h1
    · intro i σ' vals' v σ'' s' E' hi hJ hN F
      have h1 := hJ.1
      have h2 := hJ.2.1
      have h3 := hJ.2.2.2
      have hv0 := hN.1
      have h5 := hN.2.1
      have h6 := hN.2.2
      have hx0 := hJ.2.2.1
      clear hJ hN
      refine exi5 hx0 ?_
      intro fw' tf' v3' v4' v5' hy0
      clear hx0
      subst hy0
      obtain ⟨ch', hc1, ⟨tc, rfl⟩⟩ := hv0
      have hi0 : i = 0 := by omega
      subst hi0
      have hcc : ch' = ch := by simpa using hc1.symm
      subst hcc
      have m3 := h2.skip h6 hit0
      refine wpAny_assign_Name ?_
      refine r_st N F 3 rfl rfl B.sz ?_
      intro s F
      refine ac_outer B (R'.le (by decide : 20 ≤ 49)) F (H1.mod0 m3) hz (by simp) ?_ ?_
      · intro i σ4 s4 fw4 tf4 ti4 v54 hf m4 F4
        dsimp only
        have hle := findCut_le hf
        refine ac_tail B (R'.le (by decide : 40 ≤ 49)) F4 ((H1.mod0 m3).mod0 m4) hz hl (by omega) ?_
        intro fl σ5 s5 hfl H5 m5 K5
        have eF : acF mx ch' ⟨lines, init, ps⟩ fws word = ⟨lines ++ [acat ((ps ++ [(fws, word)]).take i)], 0, (ps ++ [(fws, word)]).drop i⟩ := by
          unfold acF; dsimp only; rw [if_pos hgt, hf]
        rw [eF] at k
        cases fl with
        | next => exact r_nil (k _ _ _ ⟨hfl, H5, ((m1.sub (by simp)).trans (m3.trans m4).to).trans m5⟩ K5)
        | brk => exact k _ _ _ ⟨hfl, H5, ((m1.sub (by simp)).trans (m3.trans m4).to).trans m5⟩ K5
        | cont => exact k _ _ _ ⟨hfl, H5, ((m1.sub (by simp)).trans (m3.trans m4).to).trans m5⟩ K5
        | ret v => exact k _ _ _ ⟨hfl, H5, ((m1.sub (by simp)).trans (m3.trans m4).to).trans m5⟩ K5
      · intro σ4 s4 fw4 tf4 v44 v54 hf m4 F4
        exact ⟨σ4, _, ⟨h5.mod m4 (by simp), m3.trans m4, ⟨_, _, _, _, _, rfl⟩, fun _ => hf⟩, F4⟩
    · intro σ' vals' σ'' s' E' hJ h4 F
      have h1 := hJ.1
      have h2 := hJ.2.1
      have h3 := hJ.2.2.2
      have hx0 := hJ.2.2.1
      clear hJ
      refine exi5 hx0 ?_
      intro fw' tf' v3' v4' v5' hy0
      clear hx0
      subst hy0
      have m4 := h2.skip h4 hit0
      refine ac_else B (R'.le (by decide : 46 ≤ 49)) F (H1.mod0 m4) hz hl hi hi2 ?_
      intro σ5 s5 H5 m5 K5
      have eF : acF mx ch ⟨lines, init, ps⟩ fws word = if init > 0 then ⟨nlLines lines init (nlPs ps), 0, [(if fws = emp then blank else fws, word)]⟩ else ⟨lines, init, ps ++ [(fws, word)]⟩ := by
        unfold acF; dsimp only; rw [if_pos hgt, h3 rfl]
      rw [eF] at k
      refine k _ _ _ ⟨rfl, ?_, ((m1.sub (by simp)).trans m4.to).trans m5⟩ K5
      by_cases hp : init > 0
      · rw [if_pos hp] at H5 ⊢; rw [if_pos hp] at H5; exact H5
      · rw [if_neg hp] at H5 ⊢; rw [if_neg hp] at H5
        have : init = 0 := by omega
        subst this
        exact H5
    · exact ⟨hit, m2, ⟨_, _, _, _, _, rfl⟩, fun e => by cases e⟩
  · rw [if_neg (by simpa using hgt)]
    have eF : acF mx ch ⟨lines, init, ps⟩ fws word = ⟨lines, init, ps ++ [(fws, word)]⟩ := by
      unfold acF; dsimp only; rw [if_neg hgt]
    rw [eF] at k
    exact r_nil (r_nil (k _ _ _ ⟨rfl, H1, m1.sub (by simp)⟩ F.ok))
end


def reCode : Array Nat := #[14, 4, 0, 1, 4294967295, 17, 0, 24, 11, 1, 4294967295, 13, 6, 16, 32, 16, 9, 0, 1, 17, 1, 1]
def isB (c : Nat) : Bool := c == 32 || c == 9
abbrev mS (text : Array Nat) (lim start lastStart : Nat) (must : Bool) (pc pos handed : Nat) (om : Bool) (marks : Array (Option Nat)) (lm li : Int) (frames : List Sre.Frame) (weight : Nat) (answer : Option Bool) (seen : Sre.Seen) (outcome : Option Sre.Outcome := none) : Sre.M :=
  { code := reCode, text, lim, start, lastStart, wholeText := false, mustAdvance := must, pc, pos, handed, outermost := om, marks, lastmark := lm, lastindex := li, loops := #[], inner := none, frames, weight, answer, seen, outcome }

inductive Ends : Sre.M → Nat → Sre.M → Prop
  | done {m : Sre.M} (h : m.outcome.isSome = true) : Ends m 0 m
  | step {m m' : Sre.M} {k : Nat} (h : m.outcome.isSome = false) (e : Ends m.step k m') : Ends m (k + 1) m'
theorem Ends.eq {m m1 m' : Sre.M} {k : Nat} (h : m.outcome.isSome = false) (q : m.step = m1) (e : Ends m1 k m') : Ends m (k + 1) m' := .step h (q ▸ e)
theorem Ends.run : ∀ (n : Nat) {m mf : Sre.M} {k : Nat}, Ends m k mf → Ends (Sre.M.runFor n m) (k - n) mf
  | 0, _, _, _, e => e
  | n + 1, m, mf, k, e => by
    cases e with
    | done h =>
      show Ends (if m.outcome.isSome then m else Sre.M.runFor n m.step) _ m
      rw [if_pos h, Nat.zero_sub]
      exact .done h
    | step h e =>
      rename_i k
      show Ends (if m.outcome.isSome then m else Sre.M.runFor n m.step) _ mf
      rw [if_neg (by rw [h]; decide), Nat.succ_sub_succ]
      exact e.run n
theorem Ends.zero {m mf : Sre.M} (e : Ends m 0 mf) : m = mf ∧ m.outcome.isSome = true := by
  cases e with | done h => exact ⟨rfl, h⟩
theorem Ends.pos {m mf : Sre.M} {k : Nat} (e : Ends m (k + 1) mf) : m.outcome.isSome = false := by
  cases e with | step h _ => exact h

theorem r_drive {M : Model} {A : Around} {E : Value → Shared → Prop} {s : Shared} {Q : Sre.M → Shared → Prop} : ∀ (turns : Nat) {m mf : Sre.M} {k : Nat}, Ends m k mf → k < 4 * turns → Q mf s → wpAny M A (Builtin.Re.reDrive turns m) Q E s
  | 0, _, _, _, _, h, _ => absurd h (by omega)
  | turns + 1, m, mf, k, e, h, q => by
    have e4 := e.run 4
    show wpAny M A (if (Sre.M.runFor 4 m).outcome.isSome then pure (Sre.M.runFor 4 m) else do rule "sre.turn"; Builtin.Re.reDrive turns (Sre.M.runFor 4 m)) Q E s
    by_cases hk : k ≤ 4
    · rw [Nat.sub_eq_zero_of_le hk] at e4
      obtain ⟨rfl, h2⟩ := e4.zero
      rw [if_pos h2]
      exact wpAny_pure q
    · obtain ⟨j, hj⟩ : ∃ j, k - 4 = j + 1 := ⟨k - 5, by omega⟩
      rw [hj] at e4
      rw [if_neg (by rw [e4.pos]; decide)]
      exact wpAny_bind (wpAny_rule (r_drive turns e4 (by omega) q))

theorem acc_code (c : Nat) (seen : Sre.Seen) : ∃ seen', Sre.accepts reCode 11 c seen = .ok (isB c, seen') := by
  by_cases h1 : c = 32
  · subst h1; exact ⟨_, rfl⟩
  · by_cases h2 : c = 9
    · subst h2; exact ⟨_, rfl⟩
    · have e1 : (c == 32) = false := by simpa using h1
      have e2 : (c == 9) = false := by simpa using h2
      have eb : isB c = false := by simp [isB, h1, h2]
      rw [eb]
      refine ⟨?_, ?_⟩
      rotate_left
      · show Sre.inSet reCode c 22 13 true seen = _
        show (if (c == 32) = true then _ else Sre.inSet reCode c 21 15 true _) = _
        rw [e1, if_neg (by decide)]
        show (if (c == 9) = true then _ else Sre.inSet reCode c 20 17 true _) = _
        rw [e2, if_neg (by decide)]
        rfl
theorem run_code (text : Array Nat) : ∀ (n p found : Nat) (r : Nat) (seen : Sre.Seen), r ≤ n → (∀ i, i < r → isB (text.getD (p + i) 0) = true) → (r = n ∨ isB (text.getD (p + r) 0) = false) → ∃ seen', Sre.run reCode text 11 n p found seen = .ok (found + r, seen')
  | 0, p, found, r, seen, hr, _, _ => ⟨seen, by have : r = 0 := by omega
                                                subst this; rfl⟩
  | n + 1, p, found, r, seen, hr, h1, h2 => by
    obtain ⟨seen', e⟩ := acc_code (text.getD p 0) seen
    have step : Sre.run reCode text 11 (n + 1) p found seen = (if isB (text.getD p 0) then Sre.run reCode text 11 n (p + 1) (found + 1) seen' else pure (found, seen')) := by
      show (Sre.accepts reCode 11 (text.getD p 0) seen >>= fun x => if x.1 then Sre.run reCode text 11 n (p + 1) (found + 1) x.2 else pure (found, x.2)) = _
      rw [e]; rfl
    rw [step]
    cases r with
    | zero =>
      rcases h2 with h | h
      · omega
      · rw [Nat.add_zero] at h
        rw [h]
        exact ⟨seen', rfl⟩
    | succ r =>
      have h0 := h1 0 (by omega)
      rw [Nat.add_zero] at h0
      rw [h0, if_pos rfl]
      obtain ⟨s2, e2⟩ := run_code text n (p + 1) (found + 1) r seen' (by omega) (fun i hi => by have := h1 (i + 1) (by omega); rwa [show p + (i + 1) = p + 1 + i by omega] at this) (by
        rcases h2 with h | h
        · exact .inl (by omega)
        · exact .inr (by rwa [show p + (r + 1) = p + 1 + r by omega] at h))
      exact ⟨s2, by rw [e2, show found + 1 + r = found + (r + 1) by omega]⟩

abbrev fr0 (p : Nat) (first : Bool) : Sre.Frame := { wait := .nextStart, pc := 5, pos := p, outermost := first }
theorem step_mark0 (text : Array Nat) (lim p ls : Nat) (must om : Bool) (x : Option Nat) (fs : List Sre.Frame) (w : Nat) (seen : Sre.Seen) : ∃ seen',
    Sre.M.step (mS text lim p ls must 5 p p om #[x, none] (-1) (-1) fs w none seen) = mS text lim p ls must 7 p p om #[some p, none] 0 (-1) fs w none seen' := ⟨_, rfl⟩

section
variable (text : Array Nat) (lim p ls : Nat) (om : Bool) (mk : Array (Option Nat)) (fs : List Sre.Frame) (w : Nat) (seen : Sre.Seen)
abbrev gb (p : Nat) (om : Bool) (n : Nat) : Sre.Frame := { wait := .giveBack, pc := 7, pos := p + n, outermost := om, count := n, kept := { lastmark := 0, lastindex := -1, whole := false, marks := #[] } }
theorem step7 : ∃ sA sB, Sre.M.step (mS text lim p ls false 7 p p om mk 0 (-1) fs 1 none seen) = if ((1 : Nat) : Int) > (lim : Int) - (p : Nat) then mS text lim p ls false 7 p p om mk 0 (-1) fs 1 (some false) sA else
    match Sre.run reCode text 11 (min 4294967295 ((lim : Int) - (p : Nat)).toNat) p 0 sB with
    | .error why => (mS text lim p ls false 7 p p om mk 0 (-1) fs 1 none sA).stick why
    | .ok (n, seen) => if n < 1 then mS text lim p ls false 7 p p om mk 0 (-1) fs 1 (some false) seen else mS text lim p ls false 19 (p + n) (p + n) om mk 0 (-1) (gb p om n :: fs) 2 none seen := ⟨_, _, rfl⟩
theorem step19 (x y : Option Nat) (e : Nat) : ∃ s', Sre.M.step (mS text lim p ls false 19 e e om #[x, y] 0 (-1) fs w none seen) = mS text lim p ls false 21 e e om #[x, some e] 1 1 fs w none s' := ⟨seen.add 17, by kernel_rfl⟩
theorem step21 (e : Nat) : ∃ s', Sre.M.step (mS text lim p ls false 21 e e om mk 1 1 fs w none seen) = mS text lim p ls false 21 e e om mk 1 1 fs w (some true) s' := by
  cases om <;> exact ⟨_, rfl⟩
theorem stepGB (q : Nat) (e : Nat) (o2 : Bool) (pc pos : Nat) : Sre.M.step (mS text lim p ls false pc pos e om mk 1 1 (gb q o2 w :: fs) 2 (some true) seen) = mS text lim p ls false 7 (q + w) e o2 mk 1 1 fs 1 (some true) seen := rfl
theorem stepNS (q e : Nat) (o2 : Bool) (pc pos : Nat) : Sre.M.step (mS text lim p ls false pc pos e om mk 1 1 (fr0 q o2 :: fs) 1 (some true) seen) = mS text lim p ls false 5 q e o2 mk 1 1 fs 0 (some true) seen := rfl
theorem stepEnd (b : Bool) (e : Nat) (lm li : Int) (pc pos : Nat) : Sre.M.step (mS text lim p ls false pc pos e om mk lm li [] w (some b) seen) = mS text lim p ls false pc pos e om mk lm li [] w (some b) seen (some (if b then .matched else .failed)) := rfl
theorem stepNext (q : Nat) (o2 : Bool) (pc pos e : Nat) (lm li : Int) : Sre.M.step (mS text lim p ls false pc pos e om mk lm li [fr0 q o2] 1 (some false) seen) =
    if q < ls then mS text lim (q + 1) ls false 5 (q + 1) (q + 1) false mk (-1) (-1) [fr0 (q + 1) false] 1 none seen else mS text lim p ls false 5 q e o2 mk lm li [] 0 (some false) seen := rfl
end

abbrev mX (text : Array Nat) (lim p : Nat) (om : Bool) (x : Option Nat) (seen : Sre.Seen) : Sre.M := mS text lim p lim false 5 p p om #[x, none] (-1) (-1) [fr0 p om] 1 none seen
theorem at_no (text : Array Nat) (lim p : Nat) (om : Bool) (x : Option Nat) (seen : Sre.Seen) (h : p = lim ∨ (p < lim ∧ isB (text.getD p 0) = false)) :
    ∃ s1 s2, Sre.M.step (mX text lim p om x seen) = mS text lim p lim false 7 p p om #[some p, none] 0 (-1) [fr0 p om] 1 none s1 ∧ Sre.M.step (mS text lim p lim false 7 p p om #[some p, none] 0 (-1) [fr0 p om] 1 none s1) = mS text lim p lim false 7 p p om #[some p, none] 0 (-1) [fr0 p om] 1 (some false) s2 := by
  obtain ⟨s1, e1⟩ := step_mark0 text lim p lim false om x [fr0 p om] 1 seen
  obtain ⟨sA, sB, e2⟩ := step7 text lim p lim om #[some p, none] [fr0 p om] s1
  refine ⟨s1, ?_⟩
  rcases h with h | ⟨h, hb⟩
  · rw [if_pos (by omega)] at e2
    exact ⟨sA, e1, e2⟩
  · rw [if_neg (by omega)] at e2
    obtain ⟨s3, e3⟩ := run_code text (min 4294967295 ((lim : Int) - (p : Nat)).toNat) p 0 0 sB (Nat.zero_le _) (fun i hi => absurd hi (by omega)) (.inr (by simpa using hb))
    rw [e3] at e2
    exact ⟨s3, e1, e2⟩
theorem at_yes (text : Array Nat) (lim p r : Nat) (om : Bool) (x : Option Nat) (seen : Sre.Seen) (hl : lim < 4294967295) (hr : 1 ≤ r) (hle : p + r ≤ lim) (h1 : ∀ i, i < r → isB (text.getD (p + i) 0) = true) (h2 : p + r = lim ∨ isB (text.getD (p + r) 0) = false) :
    ∃ mf, Ends (mX text lim p om x seen) 7 mf ∧ mf.outcome = some .matched ∧ mf.start = p ∧ mf.handed = p + r ∧ mf.marks = #[some p, some (p + r)] ∧ mf.lastmark = 1 := by
  obtain ⟨s1, e1⟩ := step_mark0 text lim p lim false om x [fr0 p om] 1 seen
  obtain ⟨sA, sB, e2⟩ := step7 text lim p lim om #[some p, none] [fr0 p om] s1
  rw [if_neg (by omega)] at e2
  obtain ⟨s3, e3⟩ := run_code text (min 4294967295 ((lim : Int) - (p : Nat)).toNat) p 0 r sB (by omega) h1 (by
    rcases h2 with h | h
    · exact .inl (by omega)
    · exact .inr h)
  rw [e3] at e2
  dsimp only at e2
  rw [Nat.zero_add, if_neg (by omega)] at e2
  obtain ⟨s4, e4⟩ := step19 text lim p lim om (gb p om r :: [fr0 p om]) 2 s3 (some p) none (p + r)
  obtain ⟨s5, e5⟩ := step21 text lim p lim om #[some p, some (p + r)] (gb p om r :: [fr0 p om]) 2 s4 (p + r)
  refine ⟨_, .eq rfl e1 (.eq rfl e2 (.eq rfl e4 (.eq rfl e5 (.eq rfl (stepGB ..) (.eq rfl (stepNS ..) (.eq rfl (stepEnd ..) (.done rfl))))))), rfl, rfl, rfl, rfl, rfl⟩

theorem search_yes (text : Array Nat) (lim p r : Nat) (hl : lim < 4294967295) (hr : 1 ≤ r) (hle : p + r ≤ lim) (h1 : ∀ i, i < r → isB (text.getD (p + i) 0) = true) (h2 : p + r = lim ∨ isB (text.getD (p + r) 0) = false) :
    ∀ (g q : Nat) (om : Bool) (x : Option Nat) (seen : Sre.Seen), q + g = p → (∀ i, q ≤ i → i < p → isB (text.getD i 0) = false) →
    ∃ k mf, Ends (mX text lim q om x seen) k mf ∧ k ≤ 3 * g + 7 ∧ mf.outcome = some .matched ∧ mf.start = p ∧ mf.handed = p + r ∧ mf.marks = #[some p, some (p + r)] ∧ mf.lastmark = 1
  | 0, q, om, x, seen, hq, _ => by
    have : q = p := by omega
    subst this
    obtain ⟨mf, e, rest⟩ := at_yes text lim q r om x seen hl hr hle h1 h2
    exact ⟨7, mf, e, by omega, rest⟩
  | g + 1, q, om, x, seen, hq, hn => by
    obtain ⟨s1, s2, e1, e2⟩ := at_no text lim q om x seen (.inr ⟨by omega, hn q (Nat.le_refl _) (by omega)⟩)
    have e3 := stepNext text lim q lim om #[some q, none] s2 q om 7 q q 0 (-1)
    rw [if_pos (by omega)] at e3
    obtain ⟨k, mf, e, hk, rest⟩ := search_yes text lim p r hl hr hle h1 h2 g (q + 1) false (some q) s2 (by omega) (fun i h h' => hn i (by omega) h')
    exact ⟨k + 3, mf, .eq rfl e1 (.eq rfl e2 (.eq rfl e3 e)), by omega, rest⟩
theorem search_no (text : Array Nat) (lim : Nat) (hl : lim < 4294967295) :
    ∀ (g q : Nat) (om : Bool) (x : Option Nat) (seen : Sre.Seen), q + g = lim → (∀ i, q ≤ i → i < lim → isB (text.getD i 0) = false) →
    ∃ k mf, Ends (mX text lim q om x seen) k mf ∧ k ≤ 3 * g + 4 ∧ mf.outcome = some .failed
  | 0, q, om, x, seen, hq, _ => by
    obtain ⟨s1, s2, e1, e2⟩ := at_no text lim q om x seen (.inl (by omega))
    have e3 := stepNext text lim q lim om #[some q, none] s2 q om 7 q q 0 (-1)
    rw [if_neg (by omega)] at e3
    exact ⟨4, _, .eq rfl e1 (.eq rfl e2 (.eq rfl e3 (.eq rfl (stepEnd ..) (.done rfl)))), by omega, rfl⟩
  | g + 1, q, om, x, seen, hq, hn => by
    obtain ⟨s1, s2, e1, e2⟩ := at_no text lim q om x seen (.inr ⟨by omega, hn q (Nat.le_refl _) (by omega)⟩)
    have e3 := stepNext text lim q lim om #[some q, none] s2 q om 7 q q 0 (-1)
    rw [if_pos (by omega)] at e3
    obtain ⟨k, mf, e, hk, rest⟩ := search_no text lim hl g (q + 1) false (some q) s2 (by omega) (fun i h h' => hn i (by omega) h')
    exact ⟨k + 3, mf, .eq rfl e1 (.eq rfl e2 (.eq rfl e3 e)), by omega, rest⟩

theorem forSearch_code (text : Array Nat) (pos : Nat) : Sre.forSearch reCode text 1 pos text.size false =
    (if (decide (pos > text.size) || decide (text.size - pos < 1)) = true then mS text text.size pos 0 false 5 pos pos true #[none, none] (-1) (-1) [] 0 (some false) (({} : Sre.Seen).add 14)
     else mX text text.size pos true none (({} : Sre.Seen).add 14)) := rfl
theorem next_yes (text : Array Nat) (q p r : Nat) (hl : text.size < 4294967295) (hqp : q ≤ p) (hr : 1 ≤ r) (hle : p + r ≤ text.size) (h1 : ∀ i, i < r → isB (text.getD (p + i) 0) = true) (h2 : p + r = text.size ∨ isB (text.getD (p + r) 0) = false) (hn : ∀ i, q ≤ i → i < p → isB (text.getD i 0) = false) :
    ∃ k mf, Ends (Sre.forSearch reCode text 1 q text.size false) k mf ∧ k < 4 * 2 ^ 64 ∧ mf.outcome = some .matched ∧ mf.start = p ∧ mf.handed = p + r ∧ mf.marks = #[some p, some (p + r)] ∧ mf.lastmark = 1 := by
  rw [forSearch_code, if_neg (by simp; omega)]
  obtain ⟨k, mf, e, hk, rest⟩ := search_yes text text.size p r hl hr hle h1 h2 (p - q) q true none (({} : Sre.Seen).add 14) (by omega) hn
  exact ⟨k, mf, e, by omega, rest⟩
theorem next_no (text : Array Nat) (q : Nat) (hl : text.size < 4294967295) (hq : q ≤ text.size) (hn : ∀ i, q ≤ i → i < text.size → isB (text.getD i 0) = false) :
    ∃ k mf, Ends (Sre.forSearch reCode text 1 q text.size false) k mf ∧ k < 4 * 2 ^ 64 ∧ mf.outcome = some .failed := by
  rw [forSearch_code]
  by_cases h : q = text.size
  · rw [if_pos (by simp; omega)]
    exact ⟨1, _, .eq rfl (stepEnd ..) (.done rfl), by omega, rfl⟩
  · rw [if_neg (by simp; omega)]
    obtain ⟨k, mf, e, hk, rest⟩ := search_no text text.size hl (text.size - q) q true none (({} : Sre.Seen).add 14) (by omega) hn
    exact ⟨k, mf, e, by omega, rest⟩


theorem slot_split : Slot "re.Pattern" "split" "re.Pattern.split" := .of (owner := "re.Pattern") (n := "split") (by rw [typeLookup_type, builtinLookup_eq_fast]; kernel_rfl) (by decide +kernel) (by decide +kernel) (by decide +kernel) (.inr (by decide +kernel)) (by rw [isSubtype_type]; kernel_rfl)
theorem plainAttrs_pat : PlainAttrs "re.Pattern" := ⟨⟨_, (show typeLookup (.type "re.Pattern") "__getattribute__" = pure (some (.builtin "object.__getattribute__")) by rw [typeLookup_type, builtinLookup_eq_fast]; kernel_rfl), by decide +kernel⟩, by rw [typeLookup_type, builtinLookup_eq_fast]; kernel_rfl⟩
theorem entry_split : entryFor table "re.Pattern.split" = some Builtin.«re.Pattern.split» := entryFor_of_tree (by kernel_rfl)
theorem type_split : typeOf (.builtin "re.Pattern.split") = pure (.type "method_descriptor") := by show builtinType _ = _; rw [builtinType_eq_fast]; kernel_rfl
theorem args_split (a b : Value) : argsOk "re.Pattern.split" ⟨[a, b], []⟩ := by unfold argsOk; kernel_rfl
theorem km43 (P : Params) : (KM P).lookup 43 = some ({ cls := .type "re.Pattern", data := .fields #[.str (Str.ofString "([ \t]+)") 292, .int 32 317, .int 1 0, .none, .none, .ref 42, .int 0 0] } : Obj) := by kernel_rfl
def codeVals : Array Value := reCode.map fun (n : Nat) => Value.int (n : Int) 0
theorem km42 (P : Params) : (KM P).lookup 42 = some ({ cls := .type "tuple", data := .seq codeVals } : Obj) := by kernel_rfl
theorem re1_g (P : Params) : nsIn (KM P) mainGlobals "_twin_re_1" = some (some (.ref 43)) := by kernel_rfl

theorem r_forIn {M : Model} {A : Around} {E : Value → Shared → Prop} {α β : Type} {g : α → β → Sem (ForInStep β)} (J : Nat → β → Shared → Prop) (step : ∀ k x b s, J k b s → wpAny M A (g x b) (fun r s' => ∃ b', r = .yield b' ∧ J (k + 1) b' s') E s) :
    ∀ (l : List α) (k : Nat) (b : β) (s : Shared) (Q : β → Shared → Prop), J k b s → (∀ b' s', J (k + l.length) b' s' → Q b' s') → wpAny M A (forIn l b g) Q E s
  | [], k, b, s, Q, h, q => by rw [List.forIn_nil]; exact wpAny_pure (q _ _ h)
  | x :: l, k, b, s, Q, h, q => by
    rw [List.forIn_cons]
    refine wpAny_bind (wpAny_mono (step k x b s h) (fun r s' hr => ?_) fun _ _ e => e)
    obtain ⟨b', rfl, hJ⟩ := hr
    exact r_forIn J step l (k + 1) b' s' Q hJ fun b'' s'' h'' => q b'' s'' (by rwa [List.length_cons, show k + (l.length + 1) = k + 1 + l.length by omega])

section
variable {c : Cx} {A : Around} {σ φ : Hp} {E : Value → Shared → Prop} {s : Shared}
theorem r_runEnd {m mf : Sre.M} {k : Nat} {Q : Option Sre.M → Shared → Prop} (e : Ends m k mf) (hk : k < 4 * 2 ^ 64) (h : (mf.outcome = some .matched ∧ Q (some mf) s) ∨ (mf.outcome = some .failed ∧ Q none s)) : wpAny c.M A (Builtin.Re.reRunToEnd m) Q E s := by
  unfold Builtin.Re.reRunToEnd
  refine wpAny_bind (r_drive (2 ^ 64) e hk ?_)
  refine wpAny_bind (r_forIn (fun _ _ s' => s' = s) ?_ _ 0 _ _ _ rfl ?_)
  · intro k x b s' hs
    subst hs
    split
    · exact wpAny_bind (wpAny_rule (wpAny_pure ⟨_, rfl, rfl⟩))
    · exact wpAny_pure ⟨_, rfl, rfl⟩
  · rintro _ _ rfl
    rcases h with ⟨h1, h2⟩ | ⟨h1, h2⟩ <;> rw [h1] <;> exact wpAny_pure h2

def tgt (x : Str) (t : Tok) : Builtin.Re.ReTarget := { pattern := .ref 43, string := .str x t, code := reCode, text := x.cps, kind := 0, groups := 1, pos := 0, lim := x.cps.size }
theorem look_target (B : Bs c) {x : Str} {t : Tok} (K : Ok c φ σ s) : Looks c.M s.heap (Builtin.Re.reWholeTarget (.ref 43) (.str x t)) (tgt x t) := by
  unfold Builtin.Re.reWholeTarget
  have X := K.kx B
  refine (show Looks c.M s.heap (fieldsOf (.ref 43)) #[.str (Str.ofString "([ \t]+)") 292, .int 32 317, .int 1 0, .none, .none, .ref 42, .int 0 0] from (Looks.ld (part := none) (X _ _ (km43 _))).andThen .now).andThen ?_
  refine (show Looks c.M s.heap (Builtin.Re.reTextOf (.str x t)) (x.cps, 0) from Looks.of_pure rfl).andThen ?_
  refine (show Looks c.M s.heap (Builtin.Re.reNoCollectionInside (.str x t) 0) () from Looks.of_pure rfl).andThen ?_
  refine (show Looks c.M s.heap (Builtin.Re.reRawItems (.ref 42)) (codeVals.map Builtin.Re.reRawOf) from ((Looks.ld (part := none) (X _ _ (km42 _))).andThen .now).andThen .now).andThen ?_
  show Looks c.M s.heap (pure { pattern := .ref 43, string := .str x t, code := (codeVals.map Builtin.Re.reRawOf).map (fun x => x.toNat), text := x.cps, kind := 0, groups := 1, pos := 0, lim := x.cps.size }) (tgt x t)
  rw [show (codeVals.map Builtin.Re.reRawOf).map (fun x => x.toNat) = reCode from by kernel_rfl]
  exact .now

def flat (cs : List (List Nat × List Nat)) : List Nat := cs.flatMap fun p => p.1 ++ p.2
def pieces (w : List Nat) (cs : List (List Nat × List Nat)) : List Str := (⟨w.toArray⟩ : Str) :: cs.flatMap fun p => [(⟨p.1.toArray⟩ : Str), ⟨p.2.toArray⟩]
def NB (w : List Nat) : Prop := ∀ c ∈ w, isB c = false
def CG (cs : List (List Nat × List Nat)) : Prop := ∀ p ∈ cs, p.1 ≠ [] ∧ (∀ c ∈ p.1, isB c = true) ∧ p.2 ≠ [] ∧ NB p.2
theorem getD_app {x : Array Nat} {pre mid post : List Nat} (h : x.toList = pre ++ (mid ++ post)) {i : Nat} (hi : i < mid.length) : x.getD (pre.length + i) 0 ∈ mid := by
  have e : x.getD (pre.length + i) 0 = mid[i] := by
    rw [Array.getD_eq_getD_getElem?, ← Array.getElem?_toList, h, List.getElem?_append_right (by omega), Nat.add_sub_cancel_left, List.getElem?_append_left hi, List.getElem?_eq_getElem hi]
    rfl
  rw [e]
  exact List.getElem_mem hi
theorem extract_app {x : Array Nat} {pre mid post : List Nat} (h : x.toList = pre ++ (mid ++ post)) : x.extract pre.length (pre.length + mid.length) = mid.toArray := by
  apply Array.ext'
  rw [Array.toList_extract, h, List.extract_eq_take_drop]
  simp
theorem extract_end {x : Array Nat} {pre mid : List Nat} (h : x.toList = pre ++ mid) : x.extract pre.length x.size = mid.toArray := by
  have hs : x.size = pre.length + mid.length := by rw [← Array.length_toList, h, List.length_append]
  rw [hs]
  exact extract_app (post := []) (by simpa using h)

def SplJ (x : Str) (s0 : Shared) (w0 : List Nat) (cs0 : List (List Nat × List Nat)) (k : Nat) (b : Array Value × Nat × Nat × Bool × Int × Bool) (s : Shared) : Prop :=
  ∃ tk l pre w cs, s = { s0 with toks := tk } ∧ b.1 = (strValues l).toArray ∧ b.2.1 = pre.length ∧ b.2.2.1 = pre.length ∧ b.2.2.2.1 = false ∧ x.cps.toList = pre ++ (w ++ flat cs) ∧ NB w ∧ CG cs ∧ l.map (·.1) ++ pieces w cs = pieces w0 cs0 ∧
    ((b.2.2.2.2.2 = false ∧ k + cs.length = cs0.length) ∨ (b.2.2.2.2.2 = true ∧ cs = []))

theorem split_forIn {M : Model} {A' : Around} {E' : Value → Shared → Prop} {α : Type} {x : Str} {s0 : Shared} {w0 : List Nat} {cs0 : List (List Nat × List Nat)} {g : α → Array Value × Nat × Nat × Bool × Int × Bool → Sem (ForInStep (Array Value × Nat × Nat × Bool × Int × Bool))}
    (step : ∀ k y tk l pre w cs n over, x.cps.toList = pre ++ (w ++ flat cs) → NB w → CG cs → l.map (·.1) ++ pieces w cs = pieces w0 cs0 → ((over = false ∧ k + cs.length = cs0.length) ∨ (over = true ∧ cs = [])) →
      wpAny M A' (g y ((strValues l).toArray, pre.length, pre.length, false, n, over)) (fun r s' => ∃ b', r = .yield b' ∧ SplJ x s0 w0 cs0 (k + 1) b' s') E' { s0 with toks := tk })
    (l0 : List α) (b : Array Value × Nat × Nat × Bool × Int × Bool) (s1 : Shared) (Q : Array Value × Nat × Nat × Bool × Int × Bool → Shared → Prop) (h0 : SplJ x s0 w0 cs0 0 b s1)
    (fin : ∀ tk l pre w cs n over, x.cps.toList = pre ++ (w ++ flat cs) → l.map (·.1) ++ pieces w cs = pieces w0 cs0 → ((over = false ∧ 0 + l0.length + cs.length = cs0.length) ∨ (over = true ∧ cs = [])) → Q ((strValues l).toArray, pre.length, pre.length, false, n, over) { s0 with toks := tk }) : wpAny M A' (forIn l0 b g) Q E' s1 := by
  refine r_forIn (SplJ x s0 w0 cs0) ?_ l0 0 b s1 Q h0 ?_
  · rintro k y ⟨out, start, last, must, n, over⟩ s ⟨tk, l, pre, w, cs, rfl, h1, h2, h3, h4, h5, h6, h7, h8, h9⟩
    dsimp only at h1 h2 h3 h4 h9
    subst h1 h2 h3 h4
    exact step k y tk l pre w cs n over h5 h6 h7 h8 h9
  · rintro ⟨out, start, last, must, n, over⟩ s ⟨tk, l, pre, w, cs, rfl, h1, h2, h3, h4, h5, h6, h7, h8, h9⟩
    dsimp only at h1 h2 h3 h4 h9
    subst h1 h2 h3 h4
    exact fin tk l pre w cs n over h5 h8 h9
theorem split_tree (B : Bs c) {x : Str} {t : Tok} {w0 : List Nat} {cs0 : List (List Nat × List Nat)} (hx : x.cps.toList = w0 ++ flat cs0) (hw : NB w0) (hc : CG cs0) (hz : x.length ≤ 100000) : Spec c A.in1 σ (Builtin.«re.Pattern.split» ⟨[.ref 43, .str x t], []⟩) (FinOk c A fun v σ' => ∃ a l, v = .ref a ∧ σ a = none ∧ σ' a = some (lObj (strValues l)) ∧ Mod [] σ σ' ∧ l.map (·.1) = pieces w0 cs0) := by
  intro φ s0 Q E K q
  have hsz : x.cps.size = x.length := rfl
  have e1 : (sizeLine : Nat) = 16777216 := sizeLine_eq
  unfold Builtin.«re.Pattern.split»
  dsimp only
  refine wpAny_bind (wpAny_of_eq (show Builtin.Re.reNamed "re.Pattern.split" "split" ["string", "maxsplit"] 1 [.str x t] [] = pure [some (.str x t), none] from by with_unfolding_all rfl) ?_)
  dsimp only
  refine wpAny_bind (wpAny_pure ?_)
  refine wpAny_bind ((look_target B K).here ?_)
  refine wpAny_bind (split_forIn (x := x) (s0 := s0) (w0 := w0) (cs0 := cs0) ?_ _ _ _ _ ⟨s0.toks, [], [], w0, cs0, rfl, rfl, rfl, rfl, rfl, hx, hw, hc, rfl, .inl ⟨rfl, Nat.zero_add _⟩⟩ ?_)
  · intro k _ tk l pre w cs n over h5 h6 h7 h8 h9
    dsimp only
    have hlen : x.cps.size = pre.length + (w.length + (flat cs).length) := by rw [← Array.length_toList, h5, List.length_append, List.length_append]
    rcases h9 with ⟨rfl, h9⟩ | ⟨rfl, rfl⟩
    · rw [if_pos (show (!false) = true from rfl)]
      rw [if_neg (by simp)]
      have nb : ∀ i, pre.length ≤ i → i < pre.length + w.length → isB (x.cps.getD i 0) = false := fun i hi1 hi2 => by
        have := getD_app h5 (i := i - pre.length) (by omega)
        rw [show pre.length + (i - pre.length) = i by omega] at this
        exact h6 _ this
      cases cs with
      | nil =>
        obtain ⟨k', mf, e, hk, hf⟩ := next_no x.cps pre.length (by omega) (by omega) (fun i hi1 hi2 => nb i hi1 (by simp [flat] at hlen; omega))
        refine wpAny_bind (r_runEnd e hk (.inr ⟨hf, ?_⟩))
        refine wpAny_pure ⟨_, rfl, tk, l, pre, w, [], rfl, rfl, rfl, rfl, rfl, h5, h6, h7, h8, .inr ⟨rfl, rfl⟩⟩
      | cons pv cs =>
        obtain ⟨f, v⟩ := pv
        obtain ⟨g1, g2, g3, g4⟩ := h7 (f, v) (.head _)
        have h7' : CG cs := fun p hp => h7 p (.tail _ hp)
        have ef : flat ((f, v) :: cs) = f ++ (v ++ flat cs) := by simp [flat]
        rw [ef] at h5 hlen
        have h5a : x.cps.toList = (pre ++ w) ++ (f ++ (v ++ flat cs)) := by rw [h5]; simp
        have h5b : x.cps.toList = (pre ++ w ++ f) ++ (v ++ flat cs) := by rw [h5]; simp
        simp only [List.length_append] at hlen
        have hfl : 1 ≤ f.length := List.length_pos_iff.mpr g1
        have hvl : 1 ≤ v.length := List.length_pos_iff.mpr g3
        obtain ⟨k', mf, e, hk, hf, m1, m2, m3, m4⟩ := next_yes x.cps pre.length (pre.length + w.length) f.length (by omega) (by omega) hfl (by omega)
          (fun i hi => by
            have := getD_app h5a (i := i) hi
            rw [List.length_append] at this
            exact g2 _ this)
          (.inr (by
            have := getD_app h5b (i := 0) (by omega)
            rw [List.length_append, List.length_append, Nat.add_zero] at this
            exact g4 _ this)) nb
        refine wpAny_bind (r_runEnd e hk (.inl ⟨hf, ?_⟩))
        dsimp only
        rw [m1, m2]
        have x1 := extract_app h5
        have x2 := extract_app h5a
        rw [List.length_append] at x2
        refine wpAny_bind (m := mkStr ⟨x.cps.extract pre.length (pre.length + w.length)⟩) (wpAny_mkStr ?_ (by rw [x1]; show w.toArray.size ≤ _; rw [List.size_toArray]; omega))
        show wpAny _ _ (forIn [0] _ _ >>= _) _ _ _
        rw [List.forIn_cons]
        refine wpAny_bind (wpAny_bind ?_)
        refine wpAny_bind ?_
        unfold Builtin.Re.reMachineGroup
        rw [m3, m4, if_neg (by decide)]
        show wpAny _ _ (if pre.length + w.length + f.length < pre.length + w.length then _ else mkStr ⟨x.cps.extract (pre.length + w.length) (pre.length + w.length + f.length)⟩) _ _ _
        rw [if_neg (by omega)]
        refine wpAny_mkStr ?_ (by rw [x2]; show f.toArray.size ≤ _; rw [List.size_toArray]; omega)
        refine wpAny_pure ?_
        dsimp only
        rw [List.forIn_nil]
        refine wpAny_pure (wpAny_pure ?_)
        refine ⟨_, rfl, _, l ++ [(⟨w.toArray⟩, tk), (⟨f.toArray⟩, tk + 1)], pre ++ w ++ f, v, cs, rfl, ?_, ?_, ?_, ?_, h5b, g4, h7', ?_, .inl ⟨rfl, ?_⟩⟩
        · rw [x1, x2]; simp [strValues]
        · simp; omega
        · simp; omega
        · simp; omega
        · rw [← h8]; simp [pieces]
        · simp at h9; omega
    · rw [if_neg (by decide)]
      exact wpAny_pure ⟨_, rfl, tk, l, pre, w, [], rfl, rfl, rfl, rfl, rfl, h5, h6, h7, h8, .inr ⟨rfl, rfl⟩⟩
  · intro tk l pre w cs n over h5 h8 h9
    dsimp only
    rw [List.length_range] at h9
    have hcl : cs0.length ≤ x.cps.size := by
      have : x.cps.size = w0.length + (flat cs0).length := by rw [← Array.length_toList, hx, List.length_append]
      have : ∀ (cs : List (List Nat × List Nat)), CG cs → cs.length ≤ (flat cs).length := by
        intro cs
        induction cs with
        | nil => intro _; simp
        | cons p cs ih =>
          intro h
          have h1 := List.length_pos_iff.mpr (h p (.head _)).1
          have h2 := ih fun p hp => h p (.tail _ hp)
          simp only [flat, List.flatMap_cons, List.length_append, List.length_cons] at h2 ⊢
          omega
      have := this cs0 hc
      omega
    have hN : Builtin.Re.reMostMatches (tgt x t) = 2 * x.cps.size + 3 := rfl
    rcases h9 with ⟨rfl, h9⟩ | ⟨rfl, rfl⟩
    · rw [hN] at h9; omega
    · rw [if_neg (by decide)]
      have h5' : x.cps.toList = pre ++ w := by rw [h5]; simp [flat]
      have x1 := extract_end h5'
      have hwl : w.length ≤ 100000 := by
        have : x.cps.size = pre.length + w.length := by rw [← Array.length_toList, h5', List.length_append]
        omega
      refine wpAny_bind (m := mkStr ⟨x.cps.extract pre.length x.cps.size⟩) (wpAny_mkStr ?_ (by rw [x1]; show w.toArray.size ≤ _; rw [List.size_toArray]; omega))
      have hl : (l ++ [((⟨w.toArray⟩ : Str), tk)]).map (·.1) = pieces w0 cs0 := by rw [← h8]; simp [pieces]
      have ev : (((strValues l).toArray.push (Value.str ⟨x.cps.extract pre.length x.cps.size⟩ tk)).toList) = strValues (l ++ [((⟨w.toArray⟩ : Str), tk)]) := by rw [x1]; simp [strValues]
      rw [ev]
      have hpl : ∀ (cs : List (List Nat × List Nat)), (cs.flatMap fun p => [(⟨p.1.toArray⟩ : Str), ⟨p.2.toArray⟩]).length = 2 * cs.length := by
        intro cs
        induction cs with
        | nil => rfl
        | cons p cs ih => simp only [List.flatMap_cons, List.length_append, List.length_cons, List.length_nil, ih]; omega
      have hll : (strValues (l ++ [((⟨w.toArray⟩ : Str), tk)])).length ≤ sizeLine := by
        have : (strValues (l ++ [((⟨w.toArray⟩ : Str), tk)])).length = (pieces w0 cs0).length := by rw [← hl]; simp [strValues]
        rw [this]
        unfold pieces
        rw [List.length_cons, hpl]
        omega
      have K1 := (K.toks (tk + 1)).new B (o := lObj (strValues (l ++ [((⟨w.toArray⟩ : Str), tk)]))) rfl
      refine wpAny_bind (wpAny_newObj_type ?_ (by show (strValues (l ++ [((⟨w.toArray⟩ : Str), tk)])).toArray.size ≤ sizeLine; rw [List.size_toArray]; exact hll))
      exact wpAny_pure (q _ _ _ (fin_ret ⟨_, _, rfl, K1.1, upd_same .., Mod.new K1.1, hl⟩) K1.2)
end


/-- the own objects looked up anew, with one new object -/
def anew (σ : Hp) (h : Heap) (n : Addr) : Hp := fun b => if Nat.ble n b = true ∨ (σ b).isSome = true then h.get? b else none
theorem anew_at {σ : Hp} {h : Heap} {n b : Addr} {o : Obj} (e : σ b = some o) : anew σ h n b = h.get? b := by unfold anew; rw [if_pos (.inr (by rw [e]; rfl))]
theorem anew_new {σ : Hp} {h : Heap} {n b : Addr} (e : Nat.le n b) : anew σ h n b = h.get? b := by unfold anew; rw [if_pos (.inl (Nat.ble_eq.mpr e))]
theorem Ok.anew {c : Cx} {φ σ : Hp} {s s' : Shared} (B : Bs c) (K : Ok c φ σ s) (M : List Addr) (hM : ∀ b ∈ M, ∃ o, σ b = some o) (keep : ∀ b o, b ∉ M → s.heap.get? b = some o → s'.heap.get? b = some o) (hg : s'.gens = s.gens) (hos : s'.os = s.os) :
    Ok c φ (Mine.anew σ s'.heap s.heap.objs.size) s' ∧ Mod M σ (Mine.anew σ s'.heap s.heap.objs.size) := by
  have h225 : ∀ b ∈ M, Nat.le 224 b := fun b hb => let ⟨o, e⟩ := hM b hb; K.newσ b o e
  have dom : ∀ b o, Mine.anew σ s'.heap s.heap.objs.size b = some o → s'.heap.get? b = some o ∧ (Nat.le s.heap.objs.size b ∨ ∃ o', σ b = some o') := fun b o e => by
    unfold Mine.anew at e
    split at e
    · rename_i q
      refine ⟨e, ?_⟩
      rcases q with q | q
      · exact .inl (Nat.ble_eq.mp q)
      · exact .inr (Option.isSome_iff_exists.mp q)
    · cases e
  refine ⟨⟨fun b x h n => keep _ _ (fun q => ?_) (K.old b x h n), fun b x h => keep _ _ (fun q => ?_) (K.fr b x h), fun b x h => (dom b x h).1, fun b x h => ?_, fun b x h => ?_, K.newφ, fun P hP => ?_, hg ▸ K.gens, hos.trans K.os⟩, fun b o hb e => ?_⟩
  · exact absurd (Nat.lt_of_lt_of_le (Heap.lt_size h) (Nat.le_trans B.sz (h225 b q))) (Nat.lt_irrefl _)
  · obtain ⟨o, e⟩ := hM b q
    rw [K.dj b o e] at h; cases h
  · rcases (dom b x h).2 with q | ⟨o', q⟩
    · cases r : φ b with
      | none => rfl
      | some z => exact absurd (Nat.lt_of_lt_of_le (Heap.lt_size (K.fr _ _ r)) q) (Nat.lt_irrefl _)
    · exact K.dj b o' q
  · rcases (dom b x h).2 with q | ⟨o', q⟩
    · exact Nat.le_trans (K.ge B) q
    · exact K.newσ b o' q
  · obtain ⟨ps, g1, g2⟩ := K.tab P hP
    exact ⟨ps, keep _ _ (fun q => absurd (Nat.lt_of_lt_of_le (tab_lt hP) (h225 _ q)) (Nat.lt_irrefl _)) g1, g2⟩
  · rw [anew_at e]
    exact keep _ _ hb (K.own b o e)

abbrev zObj (TI TO : Addr) (f0 : Value) : Obj := { cls := .type "zip", dict := none, data := .fields #[f0, .bool false, .bool false, .ref TI, .ref TO], slots := #[] }

section
variable {prog : Program} {w : World} {A : Around} {E : Value → Shared → Prop} {s : Shared}
theorem meets_zip_it (it l : Addr) (i : Nat) :
    Meets (Builtin.«zip.__new__» ⟨[.type "zip", .ref it, .ref it], []⟩) (fun _ R s => s.heap.IsListIter it l i ∧
      R (.ok (.ret (.ref (((s.heap.push { cls := .type "tuple", data := .seq #[.ref it, .ref it] }).push { cls := .type "tuple", data := .seq #[.none, .none] }).objs.size))))
        { s with heap := ((s.heap.push { cls := .type "tuple", data := .seq #[.ref it, .ref it] }).push { cls := .type "tuple", data := .seq #[.none, .none] }).push (zObj s.heap.objs.size (s.heap.push { cls := .type "tuple", data := .seq #[.ref it, .ref it] }).objs.size .none) }) :=
  .of_wp fun prog w A R s h => by
    obtain ⟨hp, g, d, tk, os⟩ := s; obtain ⟨hl, h⟩ := h
    have hsub := sub_zip
    have hL : Heap.IsListIter (Shared.heap ⟨hp, g, d, tk, os⟩) it l i := hl
    wp_walk using wpAny_pyIter_listiter hL
    exact ⟨_, rfl, h⟩
theorem call_zip_it {it l : Addr} {i : Nat} {Q : Value → Shared → Prop} (hl : s.heap.IsListIter it l i)
    (h : ∀ h', h'.get? (s.heap.objs.size + 2) = some (zObj s.heap.objs.size (s.heap.objs.size + 1) .none) → h'.get? s.heap.objs.size = some (tObj [.ref it, .ref it]) → h'.get? (s.heap.objs.size + 1) = some (tObj [.none, .none]) →
      (∀ c o, s.heap.get? c = some o → h'.get? c = some o) → Q (.ref (s.heap.objs.size + 2)) { s with heap := h' }) :
    wpAny (model prog w) A (call (.type "zip") [.ref it, .ref it]) Q E s := by
  refine callType_new F.called_zip (by decide) (F.typeCall_zip_2 _ _) (F.newCall_zip_2 _ _) (fun obj => F.args_object_init_3 obj _ _) F.entry_zip_new (meets_zip_it it l i) ⟨hl, ?_⟩
  have z1 : (s.heap.push ({ cls := .type "tuple", data := .seq #[.ref it, .ref it] } : Obj)).objs.size = s.heap.objs.size + 1 := Heap.size_push ..
  have z2 : ((s.heap.push ({ cls := .type "tuple", data := .seq #[.ref it, .ref it] } : Obj)).push ({ cls := .type "tuple", data := .seq #[.none, .none] } : Obj)).objs.size = s.heap.objs.size + 2 := by rw [Heap.size_push, z1]
  have g3 : (((s.heap.push ({ cls := .type "tuple", data := .seq #[.ref it, .ref it] } : Obj)).push ({ cls := .type "tuple", data := .seq #[.none, .none] } : Obj)).push (zObj s.heap.objs.size (s.heap.push ({ cls := .type "tuple", data := .seq #[.ref it, .ref it] } : Obj)).objs.size .none)).get? ((s.heap.push ({ cls := .type "tuple", data := .seq #[.ref it, .ref it] } : Obj)).push ({ cls := .type "tuple", data := .seq #[.none, .none] } : Obj)).objs.size = some _ := Heap.get?_push_size _ rfl
  have g2 : (((s.heap.push ({ cls := .type "tuple", data := .seq #[.ref it, .ref it] } : Obj)).push ({ cls := .type "tuple", data := .seq #[.none, .none] } : Obj)).push (zObj s.heap.objs.size (s.heap.push ({ cls := .type "tuple", data := .seq #[.ref it, .ref it] } : Obj)).objs.size .none)).get? (s.heap.push ({ cls := .type "tuple", data := .seq #[.ref it, .ref it] } : Obj)).objs.size = some _ := Heap.get?_push_of_some _ (Heap.get?_push_size _ rfl)
  have g1 : (((s.heap.push ({ cls := .type "tuple", data := .seq #[.ref it, .ref it] } : Obj)).push ({ cls := .type "tuple", data := .seq #[.none, .none] } : Obj)).push (zObj s.heap.objs.size (s.heap.push ({ cls := .type "tuple", data := .seq #[.ref it, .ref it] } : Obj)).objs.size .none)).get? s.heap.objs.size = some _ := Heap.get?_push_of_some _ (Heap.get?_push_of_some _ (Heap.get?_push_size _ rfl))
  show _ ∧ _
  rw [z2, z1] at g3
  rw [z1] at g2
  rw [z2]
  rw [z1] at g1 ⊢
  exact ⟨⟨_, g3, rfl⟩, h _ g3 g1 g2 fun c o x => Heap.get?_push_of_some _ (Heap.get?_push_of_some _ (Heap.get?_push_of_some _ x))⟩

/-- the next pair, both from one iterator -/
theorem zipIt_next {z TI TO it l : Addr} {k : Nat} {xs : Array Value} {x y a b : Value} {Q : Value → Shared → Prop} (hzO : TO ≠ z) (hzi : it ≠ z) (hOi : TO ≠ it) (hlz : l ≠ z) (hlO : l ≠ TO) (hli : l ≠ it)
    (hz : s.heap.get? z = some (zObj TI TO .none)) (hTI : s.heap.get? TI = some (tObj [.ref it, .ref it])) (hTO : IsPair s.heap TO a b)
    (h1 : s.heap.IsListIter it l k) (hl : s.heap.IsList l xs) (hx : xs[k]? = some x) (hy : xs[k + 1]? = some y)
    (hQ : ∀ h', h'.get? z = some (zObj TI TO (rawInt s.heap.objs.size)) → IsPair h' TO x y → h'.IsListIter it l (k + 2) → IsPair h' s.heap.objs.size x y →
      (∀ c o, c ≠ z → c ≠ TO → c ≠ it → s.heap.get? c = some o → h'.get? c = some o) → Q (.ref s.heap.objs.size) { s with heap := h' }) :
    wpAny (model prog w) A (Builtin.«zip.__next__» ⟨[.ref z], []⟩) (fun fin s' => ∃ v, fin = .done (.ret v) ∧ Q v s') E s := by
  show wpAny _ _ (field (.ref z) 2 >>= _) _ _ _
  refine wpAny_bind (wpAny_field hz rfl (x := .bool false) rfl ?_)
  show wpAny _ _ (field (.ref z) 3 >>= _) _ _ _
  refine wpAny_bind (wpAny_field hz rfl (x := .ref TI) rfl ?_)
  refine wpAny_bind (wpAny_seqItems hTI rfl ?_)
  show wpAny _ _ (Builtin.SmallTypes.ownedTupleIsFree (.ref z) >>= _) _ _ _
  refine wpAny_bind ?_
  unfold Builtin.SmallTypes.ownedTupleIsFree
  refine wpAny_bind (wpAny_field hz rfl (x := .none) rfl (wpAny_pure ?_))
  simp only [if_true]
  refine wpAny_bind (wpAny_rule ?_)
  refine wpAny_bind (wpAny_field hz rfl (x := .ref TO) rfl ?_)
  refine wpAny_bind (wpAny_setField_rec hz (by simp) fun h₁ hz₁ hs₁ => ?_)
  replace hz₁ : h₁.get? z = some (zObj TI TO .ellipsis) := hz₁
  refine wpAny_bind ?_
  simp only [List.zipIdx_cons, List.zipIdx_nil, List.forIn_cons, List.forIn_nil]
  refine wpAny_bind (wpAny_bind (wpAny_onRaise ?_))
  show wpAny _ _ (Builtin.SmallTypes.nextOf (.ref it) >>= _) _ _ _
  refine wpAny_bind (wpAny_nextOf_list_item (h1.extBut hs₁.extBut hzi) (hl.extBut hs₁.extBut hlz) hx fun h₂ h1₂ hs₂ => wpAny_pure ?_)
  have hTO₂ : IsPair h₂ TO a b := hs₂.extBut _ _ hOi (hs₁.extBut _ _ hzO hTO)
  refine wpAny_bind (wpAny_seqItems hTO₂ rfl ?_)
  refine wpAny_bind (wpAny_updateSeq_pair hTO₂ fun h₃ hTO₃ hs₃ => ?_)
  replace hTO₃ : IsPair h₃ TO x b := hTO₃
  refine wpAny_bind (wpAny_letGo (wpAny_pure ?_))
  refine wpAny_bind (wpAny_bind (wpAny_onRaise ?_))
  show wpAny _ _ (Builtin.SmallTypes.nextOf (.ref it) >>= _) _ _ _
  refine wpAny_bind (wpAny_nextOf_list_item (h1₂.extBut hs₃.extBut hOi.symm) (((hl.extBut hs₁.extBut hlz).extBut hs₂.extBut hli).extBut hs₃.extBut hlO) hy fun h₄ h2₄ hs₄ => wpAny_pure ?_)
  have hTO₄ : IsPair h₄ TO x b := hs₄.extBut _ _ hOi hTO₃
  refine wpAny_bind (wpAny_seqItems hTO₄ rfl ?_)
  refine wpAny_bind (wpAny_updateSeq_pair hTO₄ fun h₅ hTO₅ hs₅ => ?_)
  replace hTO₅ : IsPair h₅ TO x y := hTO₅
  refine wpAny_bind (wpAny_letGo (wpAny_pure (wpAny_pure ?_)))
  refine wpAny_bind (wpAny_seqItems hTO₅ rfl ?_)
  refine wpAny_bind (wpAny_newTuple ?_)
  have hsz : h₅.objs.size = s.heap.objs.size := by rw [hs₅.1, hs₄.1, hs₃.1, hs₂.1, hs₁.1]
  have hz₅ : h₅.get? z = some (zObj TI TO .ellipsis) := hs₅.extBut _ _ hzO.symm (hs₄.extBut _ _ hzi.symm (hs₃.extBut _ _ hzO.symm (hs₂.extBut _ _ hzi.symm hz₁)))
  have hk₅ : ∀ c o, c ≠ z → c ≠ TO → c ≠ it → s.heap.get? c = some o → h₅.get? c = some o := fun c o c1 c2 c3 e =>
    hs₅.extBut _ _ c2 (hs₄.extBut _ _ c3 (hs₃.extBut _ _ c2 (hs₂.extBut _ _ c3 (hs₁.extBut _ _ c1 e))))
  have h1₅ : h₅.IsListIter it l (k + 2) := h2₄.extBut hs₅.extBut hOi.symm
  have hzlt : z < h₅.objs.size := Heap.lt_size hz₅
  show wpAny _ _ (Builtin.SmallTypes.ownedTupleHandOut (.ref z) (.ref h₅.objs.size) >>= _) _ _ _
  refine wpAny_bind ?_
  unfold Builtin.SmallTypes.ownedTupleHandOut
  have hz₆ : (h₅.push { cls := .type "tuple", data := .seq #[x, y] }).get? z = some (zObj TI TO .ellipsis) := Heap.get?_push_of_some _ hz₅
  refine wpAny_bind (wpAny_setField_rec hz₆ (by simp) fun h₇ hz₇ hs₇ => ?_)
  replace hz₇ : h₇.get? z = some (zObj TI TO (rawInt h₅.objs.size)) := hz₇
  refine wpAny_setField_rec hz₇ (by simp) fun h₈ hz₈ hs₈ => ?_
  replace hz₈ : h₈.get? z = some (zObj TI TO (rawInt h₅.objs.size)) := hz₈
  have up : ∀ c o, c ≠ z → h₅.get? c = some o → h₈.get? c = some o := fun c o c1 e => hs₈.extBut _ _ c1 (hs₇.extBut _ _ c1 (Heap.get?_push_of_some _ e))
  have hT₈ : IsPair h₈ h₅.objs.size x y := hs₈.extBut _ _ (Nat.ne_of_gt hzlt) (hs₇.extBut _ _ (Nat.ne_of_gt hzlt) (Heap.get?_push_size _ rfl))
  rw [hsz] at hz₈ hT₈
  refine wpAny_pure ⟨_, rfl, ?_⟩
  show Q (.ref h₅.objs.size) _
  rw [hsz]
  exact hQ h₈ hz₈ (up _ _ hzO hTO₅) (h1₅.at fun o e => up _ o hzi e) hT₈ fun c o c1 c2 c3 e => up c o c1 (hk₅ c o c1 c2 c3 e)
theorem zipIt_end {z TI TO it l : Addr} {k : Nat} {xs : Array Value} {Q : PySem.Fin → Shared → Prop} (hh : A.handled = none) (hzi : it ≠ z) (hlz : l ≠ z)
    (hz : s.heap.get? z = some (zObj TI TO .none)) (hTI : s.heap.get? TI = some (tObj [.ref it, .ref it]))
    (h1 : s.heap.IsListIter it l k) (hl : s.heap.IsList l xs) (hx : xs[k]? = none)
    (hE : ∀ h' e, (∀ c o, c ≠ z → c ≠ it → s.heap.get? c = some o → h'.get? c = some o) → (∃ o, h'.get? e = some o ∧ o.cls = .type "StopIteration") → E (.ref e) { s with heap := h' }) :
    wpAny (model prog w) A (Builtin.«zip.__next__» ⟨[.ref z], []⟩) Q E s := by
  show wpAny _ _ (field (.ref z) 2 >>= _) _ _ _
  refine wpAny_bind (wpAny_field hz rfl (x := .bool false) rfl ?_)
  show wpAny _ _ (field (.ref z) 3 >>= _) _ _ _
  refine wpAny_bind (wpAny_field hz rfl (x := .ref TI) rfl ?_)
  refine wpAny_bind (wpAny_seqItems hTI rfl ?_)
  show wpAny _ _ (Builtin.SmallTypes.ownedTupleIsFree (.ref z) >>= _) _ _ _
  refine wpAny_bind ?_
  unfold Builtin.SmallTypes.ownedTupleIsFree
  refine wpAny_bind (wpAny_field hz rfl (x := .none) rfl (wpAny_pure ?_))
  simp only [if_true]
  refine wpAny_bind (wpAny_rule ?_)
  refine wpAny_bind (wpAny_field hz rfl (x := .ref TO) rfl ?_)
  refine wpAny_bind (wpAny_setField_rec hz (by simp) fun h₁ hz₁ hs₁ => ?_)
  replace hz₁ : h₁.get? z = some (zObj TI TO .ellipsis) := hz₁
  refine wpAny_bind ?_
  simp only [List.zipIdx_cons, List.zipIdx_nil, List.forIn_cons, List.forIn_nil]
  refine wpAny_bind (wpAny_bind (wpAny_onRaise ?_))
  show wpAny _ _ (Builtin.SmallTypes.nextOf (.ref it) >>= _) _ _ _
  refine wpAny_bind (wpAny_nextOf_list_end hh (h1.extBut hs₁.extBut hzi) (hl.extBut hs₁.extBut hlz) hx fun h₂ e hs₂ he => ?_)
  obtain ⟨oe, hoe, hce⟩ := he
  have hz₂ : h₂.get? z = some (zObj TI TO .ellipsis) := hs₂ _ _ hzi.symm hz₁
  have hez : e ≠ z := fun x => by subst x; rw [hz₂] at hoe; cases hoe; simp at hce
  exact wpAny_setField_rec hz₂ (by simp) fun h₃ _ hs₃ => hE h₃ e (fun c o c1 c3 x => hs₃.extBut _ _ c1 (hs₂ _ _ c3 (hs₁.extBut _ _ c1 x))) ⟨oe, hs₃.extBut _ _ hez hoe, hce⟩
end

section
variable {c : Cx} {A : Around} {σ : Hp}
/-- the state of zip(*[iter(l)] * 2) behind i pairs -/
structure ZSt (σ : Hp) (z TI TO it l : Addr) (xs : List Value) (n k : Nat) (f0 : Value) : Prop where
  z : σ z = some (zObj TI TO f0)
  ti : σ TI = some (tObj [.ref it, .ref it])
  to : ∃ a b, σ TO = some (tObj [a, b])
  it : ∃ o, σ it = some o ∧ o.cls = .type "list_iterator" ∧ o.data = .fields #[.ref l, .int (k : Int) 0]
  ls : Sq σ l (.type "list") none xs n
  ne : TI ≠ TO
structure ZNe (z TI TO it l : Addr) : Prop where
  hzT : TI ≠ z
  hzO : TO ≠ z
  hzi : it ≠ z
  hOi : TO ≠ it
  hTi : TI ≠ it
  hlz : l ≠ z
  hlO : l ≠ TO
  hli : l ≠ it
theorem ZSt.nes {z TI TO it l : Addr} {xs : List Value} {n k : Nat} {f0 : Value} (Z : ZSt σ z TI TO it l xs n k f0) : ZNe z TI TO it l := by
  obtain ⟨a, b, hto⟩ := Z.to
  obtain ⟨o, hi, hc, _⟩ := Z.it
  exact ⟨ne_of_cls Z.ti Z.z (by rfl), ne_of_cls hto Z.z (by rfl), ne_of_cls hi Z.z (by rw [hc]; rfl), ne_of_cls hto hi (by rw [hc]; rfl), ne_of_cls Z.ti hi (by rw [hc]; rfl), ne_of_cls Z.ls.at_ Z.z (by rfl), ne_of_cls Z.ls.at_ hto (by rfl), ne_of_cls Z.ls.at_ hi (by rw [hc]; rfl)⟩
theorem ZSt.mod {M : List Addr} {σ' : Hp} {z TI TO it l : Addr} {xs : List Value} {n k : Nat} {f0 : Value} (Z : ZSt σ z TI TO it l xs n k f0) (m : Mod M σ σ') (h1 : z ∉ M) (h2 : TI ∉ M) (h3 : TO ∉ M) (h4 : it ∉ M) (h5 : l ∉ M) : ZSt σ' z TI TO it l xs n k f0 :=
  let ⟨a, b, e⟩ := Z.to; let ⟨o, e2, r⟩ := Z.it; ⟨m _ _ h1 Z.z, m _ _ h2 Z.ti, ⟨a, b, m _ _ h3 e⟩, ⟨o, m _ _ h4 e2, r⟩, Z.ls.mod m h5, Z.ne⟩
theorem spec_zipIt (B : Bs c) {it l : Addr} {xs : List Value} {n : Nat} (hit : σ it = some (itObj (.ref l) 0)) (S : Sq σ l (.type "list") none xs n) : Spec c A σ (call (.type "zip") [.ref it, .ref it]) (fun v σ' => ∃ z TI TO, v = .ref z ∧ ZSt σ' z TI TO it l xs n 0 .none ∧ σ z = none ∧ σ TI = none ∧ σ TO = none ∧ Mod [] σ σ') := by
  intro φ s Q E K q
  refine call_zip_it (l := l) (i := 0) ⟨_, K.own _ _ hit, rfl, rfl⟩ fun h' h1 h2 h3 hk => ?_
  obtain ⟨K', M⟩ := K.anew (s' := { s with heap := h' }) B [] (by simp) (fun b o _ e => hk b o e) rfl rfl
  have nn : ∀ b, Nat.le s.heap.objs.size b → σ b = none := fun b hb => by
    cases r : σ b with
    | none => rfl
    | some o => exact absurd (Nat.lt_of_lt_of_le (Heap.lt_size (K.own _ _ r)) hb) (Nat.lt_irrefl _)
  refine q _ _ _ ⟨s.heap.objs.size + 2, s.heap.objs.size, s.heap.objs.size + 1, rfl, ⟨?_, ?_, ⟨.none, .none, ?_⟩, ⟨_, M.get hit, rfl, rfl⟩, S.mod0 M, ?_⟩, nn _ ?_, nn _ ?_, nn _ ?_, M⟩ K'
  · exact (anew_new (Nat.le_add_right _ 2)).trans h1
  · exact (anew_new (Nat.le_refl _)).trans h2
  · exact (anew_new (Nat.le_add_right _ 1)).trans h3
  · exact Nat.ne_of_lt (Nat.lt_succ_self _)
  · exact Nat.le_add_right _ 2
  · exact Nat.le_refl _
  · exact Nat.le_add_right _ 1
theorem spec_nextZ (B : Bs c) {z TI TO it l : Addr} {xs : List Value} {n k : Nat} {x y : Value} (Z : ZSt σ z TI TO it l xs n k .none) (hx : xs[k]? = some x) (hy : xs[k + 1]? = some y) :
    Spec c A σ (pyNext (.ref z)) (fun r σ' => ∃ T, r = some (.ref T) ∧ σ T = none ∧ σ' T = some (tObj [x, y]) ∧ ZSt σ' z TI TO it l xs n (k + 2) (rawInt T) ∧ Mod [z, TO, it] σ σ') := by
  intro φ s Q E K q
  have N := Z.nes
  obtain ⟨a, b, hto⟩ := Z.to
  obtain ⟨oi, hi, hci, hdi⟩ := Z.it
  have gz := K.own _ _ Z.z
  have hT : s.TypeIs (.ref z) "zip" := ⟨_, gz, rfl⟩
  unfold pyNext
  refine wpAny_bind (wpAny_attempt (wpAny_callSpecial?_slot (name := Str.ofString "__next__") hT F.slot_zip_next (wpAny_call_entry F.slot_zip_next hT F.entry_zip_next ?_ (F.args_zip_next_1 _))))
  refine zipIt_next N.hzO N.hzi N.hOi N.hlz N.hlO N.hli gz (K.own _ _ Z.ti) (K.own _ _ hto) ⟨_, K.own _ _ hi, hci, hdi⟩ (Z.ls.isL K) (x := x) (y := y) (by simpa using hx) (by simpa using hy) fun h' h1 h2 h3 h4 hk => ?_
  refine wpAny_pure ?_
  obtain ⟨K', M⟩ := K.anew (s' := { s with heap := h' }) B [z, TO, it] (by
    intro b hb
    simp only [List.mem_cons, List.not_mem_nil, or_false] at hb
    rcases hb with rfl | rfl | rfl
    · exact ⟨_, Z.z⟩
    · exact ⟨_, hto⟩
    · exact ⟨_, hi⟩) (fun b o hb e => by
      simp only [List.mem_cons, List.not_mem_nil, or_false, not_or] at hb
      exact hk b o hb.1 hb.2.1 hb.2.2 e) rfl rfl
  have nT : σ s.heap.objs.size = none := by
    cases r : σ s.heap.objs.size with
    | none => rfl
    | some o => exact absurd (Heap.lt_size (K.own _ _ r)) (Nat.lt_irrefl _)
  obtain ⟨oi', hoi', hci', hdi'⟩ := h3
  refine q _ _ _ ⟨_, rfl, nT, (anew_new (Nat.le_refl _)).trans h4, ⟨(anew_at Z.z).trans h1, M _ _ ?_ Z.ti, ⟨_, _, (anew_at hto).trans h2⟩, ?_, Z.ls.mod M ?_, Z.ne⟩, M⟩ K'
  · simp [N.hzT, Z.ne, N.hTi]
  · exact ⟨oi', (anew_at hi).trans hoi', hci', hdi'⟩
  · simp [N.hlz, N.hlO, N.hli]
theorem spec_goZ (B : Bs c) {z TI TO it l T : Addr} {xs : List Value} {n k : Nat} {elts : List Expr} {kk : Nat} {pos : Pos} (Z : ZSt σ z TI TO it l xs n k (rawInt T)) : Spec c A σ (letOwnedTupleGo (.Tuple elts kk pos) (.ref z) (.ref T)) (fun _ σ' => ZSt σ' z TI TO it l xs n k .none ∧ Mod [z] σ σ') := by
  intro φ s Q E K q
  have N := Z.nes
  have h := wpAny_letOwnedTupleGo_zip (prog := PR) (w := c.w) (A := A) (E := E) (elts := elts) (x1 := kk) (pos := pos) (z := z) (TI := TI) (TO := TO) (T := T) (Q := Q) (s := s) (K.own _ _ Z.z) ?_
  · exact h
  intro h' h1 h2
  have K' := K.but (s' := { s with heap := h' }) B Z.z h1 h2.extBut rfl rfl
  have M : Mod [z] σ (upd σ z (zObj TI TO .none)) := Mod.upd (.head _)
  obtain ⟨a, b, hto⟩ := Z.to
  obtain ⟨oi, hi, hci, hdi⟩ := Z.it
  exact q _ _ _ ⟨⟨upd_same .., M _ _ (by simp [N.hzT]) Z.ti, ⟨a, b, M _ _ (by simp [N.hzO]) hto⟩, ⟨oi, M _ _ (by simp [N.hzi]) hi, hci, hdi⟩, Z.ls.mod M (by simp [N.hlz]), Z.ne⟩, M⟩ K'
theorem spec_endZ (B : Bs c) {z TI TO it l : Addr} {xs : List Value} {n k : Nat} (hh : A.handled = none) (Z : ZSt σ z TI TO it l xs n k .none) (hx : xs[k]? = none) : Spec c A σ (pyNext (.ref z)) (fun r σ' => r = none ∧ Mod [z, it] σ σ') := by
  intro φ s Q E K q
  have N := Z.nes
  obtain ⟨oi, hi, hci, hdi⟩ := Z.it
  have gz := K.own _ _ Z.z
  have hT : s.TypeIs (.ref z) "zip" := ⟨_, gz, rfl⟩
  unfold pyNext
  refine wpAny_bind (wpAny_attempt (wpAny_callSpecial?_slot (name := Str.ofString "__next__") hT F.slot_zip_next (wpAny_call_entry F.slot_zip_next hT F.entry_zip_next (zipIt_end hh N.hzi N.hlz gz (K.own _ _ Z.ti) ⟨_, K.own _ _ hi, hci, hdi⟩ (Z.ls.isL K) (by simpa using hx) fun h' e hk he => ?_) (F.args_zip_next_1 _))))
  obtain ⟨o, ho, hc⟩ := he
  refine wpAny_bind (wpAny_isInstance (T := "StopIteration") (b := true) ⟨o, ho, hc⟩ isSubtype_stop ?_)
  refine wpAny_pure ?_
  obtain ⟨K', M⟩ := K.anew (s' := { s with heap := h' }) B [z, it] (by
    intro b hb
    simp only [List.mem_cons, List.not_mem_nil, or_false] at hb
    rcases hb with rfl | rfl
    · exact ⟨_, Z.z⟩
    · exact ⟨_, hi⟩) (fun b o hb e => by
      simp only [List.mem_cons, List.not_mem_nil, or_false, not_or] at hb
      exact hk b o hb.1 hb.2 e) rfl rfl
  exact q _ _ _ ⟨rfl, M⟩ K'
theorem spec_iterZ {z TI TO it l : Addr} {xs : List Value} {n k : Nat} {f0 : Value} (Z : ZSt σ z TI TO it l xs n k f0) : Spec c A σ (pyIter (.ref z)) (fun r σ' => .ref z = r ∧ σ = σ') := by
  intro φ s Q E K q
  exact wpAny_pyIter_zip (prog := PR) (w := c.w) (K.own _ _ Z.z) (q _ _ _ ⟨rfl, rfl⟩ K)
end


section
variable {c : Cx} {A : Around} {σ φ : Hp} {E : Value → Shared → Prop} {s : Shared}
theorem spec_split (B : Bs c) {x : Str} {t : Tok} {w0 : List Nat} {cs0 : List (List Nat × List Nat)} (hx : x.cps.toList = w0 ++ flat cs0) (hw : NB w0) (hc : CG cs0) (hz : x.length ≤ 100000) :
    Spec c A σ (call (.builtin "re.Pattern.split") [.ref 43, .str x t]) (fun v σ' => ∃ a l, v = .ref a ∧ σ a = none ∧ σ' a = some (lObj (strValues l)) ∧ Mod [] σ σ' ∧ l.map (·.1) = pieces w0 cs0) := by
  refine spec_call (cspec_callB slot_split.plain entry_split ?_ (split_tree B hx hw hc hz))
  intro φ s Q E K q
  exact slot_split.check _ _ _ _ _ _ _ _ ⟨_, K.kx B _ _ (km43 _), rfl⟩ (args_split _ _) (q _ _ _ rfl K)
theorem spec_pop0 (B : Bs c) {a : Addr} {y : Value} {ys : List Value} {n : Nat} {t : Tok} (S : Sq σ a (.type "list") none (y :: ys) n) (hz : ys.length ≤ sizeLine) : Spec c A σ (call (.builtin "list.pop") [.ref a, .int 0 t]) (fun v σ' => y = v ∧ ∃ n', Sq σ' a (.type "list") none ys n' ∧ Mod [a] σ σ') := by
  refine spec_lb B lb_pop S (F.args_list_pop_2 _ _) ?_
  intro φ s Q E K q
  unfold Builtin.«list.pop»
  refine wpAny_bind (wpAny_pure ?_)
  dsimp only
  refine wpAny_bind (wpAny_of_eq (show asIndex (.int 0 t) = pure 0 from rfl) ?_)
  rw [if_neg (by decide)]
  refine wpAny_bind (spec_listItems S φ s _ E K ?_)
  rintro _ _ s ⟨rfl, rfl⟩ K
  rw [if_neg (by simp)]
  have e1 : seqIndex? 0 (y :: ys).toArray.size = some 0 := by rw [List.size_toArray]; exact seqIndex_nat (k := 0) (by simp)
  rw [e1, Option.bind_some, List.getElem?_toArray, List.getElem?_cons_zero]
  refine wpAny_bind (spec_updateSeq B S (ys := ys) (f := fun l => l.eraseIdxIfInBounds 0) ?_ hz φ s _ E K ?_)
  · rw [Array.eraseIdxIfInBounds, dif_pos (by simp)]
    apply Array.ext'
    simp
  rintro _ _ s ⟨n', rfl, S'⟩ K
  exact wpAny_pure (q _ _ _ ⟨rfl, n', S', Mod.upd (.head _)⟩ K)
theorem args_iter1 (a : Value) : argsOk "iter" ⟨[a], []⟩ := by unfold argsOk; kernel_rfl
theorem entry_iter : entryFor table "iter" = some Builtin.«iter» := entryFor_of_tree (by kernel_rfl)
theorem spec_iterFn (B : Bs c) {a : Addr} {cl : Value} {d : Option Addr} {xs : List Value} {n : Nat} (S : Sq σ a cl d xs n) : Spec c A σ (call (.builtin "iter") [.ref a]) (fun v σ' => ∃ it, v = .ref it ∧ σ it = none ∧ σ' it = some (itObj (.ref a) 0) ∧ Mod [] σ σ') := by
  refine spec_fun (by decide +kernel) (by decide +kernel) entry_iter (args_iter1 _) ?_
  intro φ s Q E K q
  unfold Builtin.«iter»
  refine wpAny_bind (wpAny_of_eq (show someArgs "iter" 1 2 ⟨[.ref a], []⟩ = pure [.ref a] from rfl) ?_)
  dsimp only
  refine wpAny_bind (spec_pyIter B S φ s _ E K ?_)
  rintro _ _ s ⟨it, rfl, hit, rfl⟩ K
  exact wpAny_pure (q _ _ _ (fin_ret ⟨it, rfl, hit, upd_same .., Mod.new hit⟩) K)
theorem spec_mul2 (B : Bs c) {l : Addr} {v : Value} {u : Tok} {n : Nat} (S : σ l = some (lObj [v] n)) : Spec c A σ (binaryOp .Mult (.ref l) (.int 2 u)) (fun r σ' => ∃ a, r = .ref a ∧ σ a = none ∧ σ' a = some (lObj [v, v]) ∧ Mod [] σ σ') := by
  intro φ s Q E K q
  have hl := K.own _ _ S
  have K' := K.new B (o := lObj [v, v]) rfl
  exact wpAny_binaryOp_repeat_ref (T := "list") (U := "int") (by decide) ⟨_, hl, rfl⟩ (fun s' => typeIs_int s' 2 u) noFill_list_mul F.fills_int_mul F.slot_int_rmul repeat_list F.slot_int_index.lookup
    (call_meets F.slot_int_rmul (typeIs_int s 2 u) F.entry_int_rmul (F.args_int_rmul_2 _ _) (int___rmul___int_list 2 u l #[v] n)
      ⟨hl, rfl, ⟨_, hl, rfl⟩, call_meets F.slot_list_mul ⟨_, hl, rfl⟩ F.entry_list_mul (F.args_list_mul_2 _ _)
        (AutoListH.list___mul___list_int_3 l #[v] n 2 u (by simp [Builtin.List.listFitsIndex]) (by simp) (by simp [Builtin.List.listTooLong, sizeLine]))
        ⟨hl, q _ _ _ ⟨_, rfl, K'.1, upd_same .., Mod.new K'.1⟩ K'.2⟩⟩)
theorem star_list {L : Addr} {names : List Str} {vals : List (Option Value)} {b : Addr} {ts : List Value} {n : Nat} {Q : List Value → Shared → Prop} (F : Fm c φ σ L names vals s) (h : σ b = some (lObj ts n)) (hz : ts.length ≤ sizeLine) (q : ∀ s', Fm c φ σ L names vals s' → Q ts s') : StarOf c.M A E (.ref b) Q s := by
  have g := F.ok.own _ _ h
  have T : s.TypeIs (.ref b) "list" := ⟨_, g, rfl⟩
  unfold StarOf notIterableAtAll
  refine wpAny_bind (wpAny_specialOf T PySem.F.slot_list_iter.lookup (wpAny_pure ⟨rfl, ?_⟩))
  refine wpAny_collect_seq b (.inl rfl) g rfl rfl (fun h' hk => ?_) (by simpa using hz)
  exact q _ (F.grow hk rfl rfl)
end

def feedF (mx : Int) (ch : Nat) (st : FS) (cs : List (Str × Str)) : FS := cs.foldl (fun st p => acF mx ch st p.1 p.2) st
/-- all stays small -/
structure Bk (k : Nat) (st : FS) : Prop where
  pn : st.ps.length ≤ k
  pl : alen st.ps ≤ 10 * k
  ln : st.lines.length ≤ k
  ll : ∀ x ∈ st.lines, x.length ≤ 10 * k
  i0 : 0 ≤ st.init
  i1 : st.init ≤ 1000
theorem onlyws_pos {init : Int} {q : List (Str × Str)} (h : init > 0) : onlyws init q = false := by
  unfold onlyws
  rw [show decide (init = 0) = false by simp; omega]; rfl
theorem nlLines_pos {lines : List Str} {init : Int} {q : List (Str × Str)} (h : init > 0) : nlLines lines init q = lines ++ [acat q] := by
  unfold nlLines
  rw [if_pos (by omega), onlyws_pos h]
theorem nlPs_alen (ps : List (Str × Str)) : alen (nlPs ps) ≤ alen ps := by
  rcases List.eq_nil_or_concat ps with e | ⟨ps', p, e⟩
  · subst e; decide
  · rw [List.concat_eq_append] at e
    subst e
    rw [nlPs_snoc]
    split
    · rw [alen_app]; omega
    · exact Nat.le_refl _
theorem Bk.step {k : Nat} {st : FS} {mx : Int} {ch : Nat} {f w : Str} (h : Bk k st) (hp : f.length + w.length ≤ 9) : Bk (k + 1) (acF mx ch st f w) := by
  obtain ⟨h1, h2, h3, h4, h5, h6⟩ := h
  have e1 : alen [(f, w)] = f.length + w.length := by simp [alen, plen]
  have e2 : alen (st.ps ++ [(f, w)]) = alen st.ps + (f.length + w.length) := by rw [alen_app, e1]
  unfold acF
  dsimp only
  split
  · split
    · rename_i i hi
      have e3 := alen_app ((st.ps ++ [(f, w)]).take i) ((st.ps ++ [(f, w)]).drop i)
      rw [List.take_append_drop] at e3
      refine ⟨by simp; omega, by show alen (List.drop i (st.ps ++ [(f, w)])) ≤ _; omega, by simp; omega, ?_, Int.le_refl _, by show (0 : Int) ≤ 1000; omega⟩
      intro x hx
      rcases List.mem_append.mp hx with hx | hx
      · have := h4 x hx; omega
      · simp only [List.mem_singleton] at hx
        subst hx
        have := acat_length ((st.ps ++ [(f, w)]).take i)
        omega
    · split
      · rename_i hpos
        refine ⟨by simp, ?_, ?_, ?_, Int.le_refl _, by show (0 : Int) ≤ 1000; omega⟩
        · show alen [(if f = emp then blank else f, w)] ≤ _
          have : (if f = emp then blank else f).length ≤ f.length + 1 := by
            split
            · have : blank.length = 1 := by decide +kernel
              omega
            · omega
          simp only [alen, plen, List.map_cons, List.map_nil, List.sum_cons, List.sum_nil]
          omega
        · show (nlLines _ _ _).length ≤ _
          rw [nlLines_pos hpos]; simp; omega
        · show ∀ x ∈ nlLines _ _ _, _
          rw [nlLines_pos hpos]
          intro x hx
          rcases List.mem_append.mp hx with hx | hx
          · have := h4 x hx; omega
          · simp only [List.mem_singleton] at hx
            subst hx
            have := acat_length (nlPs st.ps)
            have := nlPs_alen st.ps
            omega
      · exact ⟨by simp; omega, by show alen (st.ps ++ [(f, w)]) ≤ _; omega, by show st.lines.length ≤ _; omega, fun x hx => by have := h4 x hx; omega, h5, h6⟩
  · exact ⟨by simp; omega, by show alen (st.ps ++ [(f, w)]) ≤ _; omega, by show st.lines.length ≤ _; omega, fun x hx => by have := h4 x hx; omega, h5, h6⟩
theorem Bk.sm {k : Nat} {st : FS} {f w : Str} (h : Bk k st) (hk : k ≤ 100) (hp : f.length + w.length ≤ 9) : Sm (st.ps ++ [(f, w)]) := by
  have h1 := h.pn
  have h2 := h.pl
  have e1 : alen [(f, w)] = f.length + w.length := by simp [alen, plen]
  exact ⟨by simp; omega, by rw [alen_app, e1]; omega⟩
theorem Bk.sml {k : Nat} {st : FS} (h : Bk k st) (hk : k ≤ 100) : SmL st.lines := ⟨by have := h.ln; omega, fun x hx => by have := h.ll x hx; omega⟩


/-- two sets of own objects -/
def join (σ1 σ2 : Hp) : Hp := fun b => match σ1 b with | some o => some o | none => σ2 b
def Apart (σ1 σ2 : Hp) : Prop := ∀ b o, σ1 b = some o → σ2 b = none
theorem Apart.symm {σ1 σ2 : Hp} (h : Apart σ1 σ2) : Apart σ2 σ1 := fun b o e => by
  cases q : σ1 b with
  | none => rfl
  | some o' => rw [h b o' q] at e; cases e
theorem join_l {σ1 σ2 : Hp} {b : Addr} {o : Obj} (h : σ1 b = some o) : join σ1 σ2 b = some o := by unfold join; rw [h]
theorem join_r {σ1 σ2 : Hp} {b : Addr} {o : Obj} (d : Apart σ1 σ2) (h : σ2 b = some o) : join σ1 σ2 b = some o := by unfold join; rw [d.symm b o h]; exact h
theorem join_some {σ1 σ2 : Hp} {b : Addr} {o : Obj} (h : join σ1 σ2 b = some o) : σ1 b = some o ∨ σ2 b = some o := by
  unfold join at h
  cases q : σ1 b with
  | none => rw [q] at h; exact .inr h
  | some o' => rw [q] at h; exact .inl h
theorem join_none {σ1 σ2 : Hp} {b : Addr} (h : join σ1 σ2 b = none) : σ1 b = none ∧ σ2 b = none := by
  unfold join at h
  cases q : σ1 b with
  | none => rw [q] at h; exact ⟨rfl, h⟩
  | some o' => rw [q] at h; cases h
theorem join_none' {σ1 σ2 : Hp} {b : Addr} (h1 : σ1 b = none) (h2 : σ2 b = none) : join σ1 σ2 b = none := by unfold join; rw [h1]; exact h2
theorem Ok.hide {c : Cx} {φ σ1 σ2 : Hp} {s : Shared} (K : Ok c φ (join σ1 σ2) s) (d : Apart σ1 σ2) : Ok c (join φ σ2) σ1 s :=
  ⟨K.old, fun b o e => (join_some e).elim (K.fr b o) fun e => K.own b o (join_r d e), fun b o e => K.own b o (join_l e), fun b o e => join_none' (K.dj b o (join_l e)) (d b o e), fun b o e => K.newσ b o (join_l e),
    fun b o e => (join_some e).elim (K.newφ b o) fun e => K.newσ b o (join_r d e), K.tab, K.gens, K.os⟩
theorem Ok.show {c : Cx} {φ σ1 σ2 : Hp} {s : Shared} (K : Ok c (join φ σ2) σ1 s) (d : Apart σ2 φ) : Ok c φ (join σ1 σ2) s ∧ Apart σ1 σ2 := by
  have dd : Apart φ σ2 := d.symm
  refine ⟨⟨K.old, fun b o e => K.fr b o (join_l e), fun b o e => (join_some e).elim (K.own b o) fun e => K.fr b o (join_r dd e), fun b o e => ?_, fun b o e => (join_some e).elim (K.newσ b o) fun e => K.newφ b o (join_r dd e), fun b o e => K.newφ b o (join_l e), K.tab, K.gens, K.os⟩, fun b o e => (join_none (K.dj b o e)).2⟩
  rcases join_some e with e | e
  · exact (join_none (K.dj b o e)).1
  · exact d b o e
theorem Spec.frameL {α : Type} {c : Cx} {A : Around} {σ1 σ2 : Hp} {t : Sem α} {P : α → Hp → Prop} (h : Spec c A σ1 t P) (d : Apart σ1 σ2) : Spec c A (join σ1 σ2) t (fun v σ' => ∃ σ1', P v σ1' ∧ σ' = join σ1' σ2 ∧ Apart σ1' σ2) := by
  intro φ s Q E K q
  refine h (join φ σ2) s Q E (K.hide d) fun v σ' s' p K' => ?_
  have dd : Apart σ2 φ := fun b o e => K.dj b o (join_r d e)
  obtain ⟨K2, d2⟩ := K'.show dd
  exact q v _ s' ⟨σ', p, rfl, d2⟩ K2
theorem join_comm {σ1 σ2 : Hp} (d : Apart σ1 σ2) : join σ1 σ2 = join σ2 σ1 := by
  funext b
  cases q : σ1 b with
  | some o => rw [join_l q, join_r d.symm q]
  | none =>
    cases r : σ2 b with
    | some o => rw [join_l r, join_r d r]
    | none => rw [join_none' q r, join_none' r q]
theorem Spec.frameR {α : Type} {c : Cx} {A : Around} {σ1 σ2 : Hp} {t : Sem α} {P : α → Hp → Prop} (h : Spec c A σ2 t P) (d : Apart σ1 σ2) : Spec c A (join σ1 σ2) t (fun v σ' => ∃ σ2', P v σ2' ∧ σ' = join σ1 σ2' ∧ Apart σ1 σ2') := by
  rw [join_comm d]
  refine (h.frameL d.symm).mono ?_
  rintro v _ ⟨σ2', p, rfl, d2⟩
  exact ⟨σ2', p, join_comm d2, d2.symm⟩
theorem Fm.sub {c : Cx} {φ σ σ' : Hp} {L : Addr} {names : List Str} {vals : List (Option Value)} {s : Shared} (F : Fm c φ σ L names vals s) (e : ∀ b o, σ' b = some o → σ b = some o) : Fm c φ σ' L names vals s :=
  ⟨F.ok.sub e, F.ns, (by
    cases q : σ' L with
    | none => rfl
    | some o => have := F.outσ; rw [e _ _ q] at this; cases this), F.outφ, F.hi⟩

def toS (p : List Nat × List Nat) : Str × Str := (⟨p.1.toArray⟩, ⟨p.2.toArray⟩)
def fl (cs : List (List Nat × List Nat)) : List Str := cs.flatMap fun p => [(⟨p.1.toArray⟩ : Str), ⟨p.2.toArray⟩]
structure CGood (cs : List (List Nat × List Nat)) : Prop where
  all : ∀ p ∈ cs, (∀ c ∈ p.1, isB c = true) ∧ p.2 ≠ [] ∧ NB p.2
  tail : ∀ p ∈ cs.tail, p.1 ≠ []
theorem fl_len : ∀ (cs : List (List Nat × List Nat)), (fl cs).length = 2 * cs.length
  | [] => rfl
  | p :: cs => by
    have := fl_len cs
    unfold fl at this ⊢
    simp only [List.flatMap_cons, List.length_append, List.length_cons, List.length_nil, this]; omega
theorem fl_at : ∀ {cs : List (List Nat × List Nat)} {i : Nat} {p : List Nat × List Nat}, cs[i]? = some p → (fl cs)[2 * i]? = some (toS p).1 ∧ (fl cs)[2 * i + 1]? = some (toS p).2
  | p :: cs, 0, q, h => by
    simp only [List.getElem?_cons_zero, Option.some.injEq] at h
    subst h
    exact ⟨rfl, rfl⟩
  | p :: cs, i + 1, q, h => by
    simp only [List.getElem?_cons_succ] at h
    have := fl_at h
    have e : fl (p :: cs) = [(⟨p.1.toArray⟩ : Str), ⟨p.2.toArray⟩] ++ fl cs := rfl
    rw [e, show 2 * (i + 1) = 2 * i + 2 by omega]
    exact this

abbrev asFd : FuncData := fdM 6 7 (Str.ofString "_ValueFormatter._ascii_split") [] .none 105 .none
def asNames : List Str := ["self", "fws", "string", "splitchars", "parts", "part"]
theorem as_fn (L : Addr) : Fn (callEnv asFd L 106) L asNames := fn_of rfl (by decide +kernel) (by kernel_rfl) rfl rfl (by decide +kernel)
theorem zip_bi (P : Params) : nsIn (KM P) mainGlobals "zip" = some none := by kernel_rfl
theorem zip_boot : bootBuiltins "zip" = some (.type "zip") := by decide +kernel
theorem iter_bi (P : Params) : nsIn (KM P) mainGlobals "iter" = some none := by kernel_rfl
theorem iter_boot : bootBuiltins "iter" = some (.builtin "iter") := by decide +kernel

section
variable {c : Cx} {A : Around} {φ σF σZ : Hp} {L : Addr} {names : List Str} {vals : List (Option Value)} {s : Shared} {E : Value → Shared → Prop}
/-- steps within one of two sets of own objects -/
theorem r_nextZ (B : Bs c) {z TI TO it l : Addr} {xs : List Value} {n k : Nat} {x y : Value} {Q : Option Value → Shared → Prop} (F : Fm c φ (join σF σZ) L names vals s) (dd : Apart σF σZ) (Z : ZSt σZ z TI TO it l xs n k .none) (hx : xs[k]? = some x) (hy : xs[k + 1]? = some y)
    (q : ∀ T σZ' s', σZ T = none → σZ' T = some (tObj [x, y]) → ZSt σZ' z TI TO it l xs n (k + 2) (rawInt T) → Apart σF σZ' → Fm c φ (join σF σZ') L names vals s' → Q (some (.ref T)) s') : wpAny c.M A (pyNext (.ref z)) Q E s := by
  refine F.spec ((spec_nextZ B Z hx hy).frameR dd) ?_
  rintro _ _ s ⟨σZ1, ⟨T, rfl, hT0, hT, Z1, _⟩, rfl, dd1⟩ F
  exact q T σZ1 s hT0 hT Z1 dd1 F
theorem r_goZ (B : Bs c) {z TI TO it l T : Addr} {xs : List Value} {n k : Nat} {elts : List Expr} {kk : Nat} {pos : Pos} {Q : Unit → Shared → Prop} (F : Fm c φ (join σF σZ) L names vals s) (dd : Apart σF σZ) (Z : ZSt σZ z TI TO it l xs n k (rawInt T))
    (q : ∀ u σZ' s', ZSt σZ' z TI TO it l xs n k .none → Mod [z] σZ σZ' → Apart σF σZ' → Fm c φ (join σF σZ') L names vals s' → Q u s') : wpAny c.M A (letOwnedTupleGo (.Tuple elts kk pos) (.ref z) (.ref T)) Q E s := by
  refine F.spec ((spec_goZ B Z).frameR dd) ?_
  rintro _ _ s ⟨σZ2, ⟨Z2, mz⟩, rfl, dd2⟩ F
  exact q _ σZ2 s Z2 mz dd2 F
theorem r_endZ (B : Bs c) {z TI TO it l : Addr} {xs : List Value} {n k : Nat} {Q : Option Value → Shared → Prop} (hh : A.handled = none) (F : Fm c φ (join σF σZ) L names vals s) (dd : Apart σF σZ) (Z : ZSt σZ z TI TO it l xs n k .none) (hx : xs[k]? = none)
    (q : ∀ σZ' s', Fm c φ (join σF σZ') L names vals s' → Q none s') : wpAny c.M A (pyNext (.ref z)) Q E s := by
  refine F.spec ((spec_endZ B hh Z hx).frameR dd) ?_
  rintro _ _ s ⟨σZ1, ⟨rfl, _⟩, rfl, dd1⟩ F
  exact q σZ1 s F
theorem r_eqL {α : Type} {t : Sem α} {x : α} {Q : α → Shared → Prop} (F : Fm c φ (join σF σZ) L names vals s) (dd : Apart σF σZ) (h : Spec c A σF t (fun v σ' => x = v ∧ σF = σ')) (q : ∀ s', Fm c φ (join σF σZ) L names vals s' → Q x s') : wpAny c.M A t Q E s := by
  refine F.spec (h.frameL dd) ?_
  rintro _ _ s ⟨_, ⟨rfl, rfl⟩, rfl, _⟩ F
  exact q s F
theorem r_valL {α : Type} {t : Sem α} {x : α} {G : Hp → Prop} {Q : α → Shared → Prop} (F : Fm c φ (join σF σZ) L names vals s) (dd : Apart σF σZ) (h : Spec c A σF t (fun v σ' => v = x ∧ G σ')) (q : ∀ σF' s', G σF' → Apart σF' σZ → Fm c φ (join σF' σZ) L names vals s' → Q x s') : wpAny c.M A t Q E s := by
  refine F.spec (h.frameL dd) ?_
  rintro _ _ s ⟨σF', ⟨rfl, g⟩, rfl, dd3⟩ F
  exact q σF' s g dd3 F
end
structure AsP where
  f : Addr
  df : Addr
  l : Addr
  a : Addr
  d : Addr
  mx : Int
  ws : Str
  ch : Nat
  st : FS
  cs : List (List Nat × List Nat)
  k : Nat
  v2 : Option Value
  v3 : Option Value
  pa : Addr
  vs : List (Str × Tok)
  n : Nat
  z : Addr
  TI : Addr
  TO : Addr
  it : Addr
/-- what holds between the parts -/
def AsI (c : Cx) (φ σ : Hp) (L : Addr) (y : AsP) (i : Nat) (s : Shared) : Prop := ∃ σF σZ st' v1' v5', Apart σF σZ ∧ Fmt σF y.f y.df y.l y.a y.d y.mx y.ws ⟨#[y.ch]⟩ st'.lines st'.init st'.ps ∧ st' = feedF y.mx y.ch y.st ((y.cs.take i).map toS) ∧ Bk (y.k + i) st' ∧ ZSt σZ y.z y.TI y.TO y.it y.pa (strValues y.vs) y.n (2 * i) .none ∧ Mod [y.a, y.d, y.l] σ σF ∧
    Fm c φ (join σF σZ) L asNames [some (.ref y.f), v1', y.v2, y.v3, some (.ref y.pa), v5'] s
theorem as_for {c : Cx} {A : Around} {φ σ : Hp} {L : Addr} {s : Shared} {y : AsP} {target : Expr} {it : Value} {body orelse : List Stmt} {env : Env} {R : Result → Shared → Prop}
    (turn : ∀ i σF σZ st' v1' v5' s (E' : Value → Shared → Prop), i ≤ y.cs.length → Apart σF σZ → Fmt σF y.f y.df y.l y.a y.d y.mx y.ws ⟨#[y.ch]⟩ st'.lines st'.init st'.ps → st' = feedF y.mx y.ch y.st ((y.cs.take i).map toS) → Bk (y.k + i) st' → ZSt σZ y.z y.TI y.TO y.it y.pa (strValues y.vs) y.n (2 * i) .none → Mod [y.a, y.d, y.l] σ σF → Fm c φ (join σF σZ) L asNames [some (.ref y.f), v1', y.v2, y.v3, some (.ref y.pa), v5'] s →
      wpAny c.M A (pyNext it) (fun r s₁ => match r with
        | none => wpAny c.M A (execs orelse env) (fun f s₃ => R (.ok f) s₃) E' s₁
        | some v => wpAny c.M A (letOwnedTupleGo target it v) (fun _ s₁' => wpAny c.M A (assign target env v) (fun _ s₂ => wpAny c.M A (execs body env) (fun f s₃ => f = .next ∧ i < y.cs.length ∧ AsI c φ σ L y (i + 1) s₃) E' s₂) E' s₁') E' s₁) E' s)
    (h : AsI c φ σ L y 0 s) : codeAny c.M A (.forLoop target it body orelse env) R s := by
  refine codeAny_forLoop_any (fun m s => ∃ i, m = y.cs.length + 1 - i ∧ i ≤ y.cs.length ∧ AsI c φ σ L y i s) ?_ (y.cs.length + 1) ⟨0, rfl, Nat.zero_le _, h⟩
  rintro m s ⟨i, rfl, hi, σF, σZ, st', v1', v5', dd, HF, hst, hbk, Z, mF, F⟩
  refine wpAny_mono (turn i σF σZ st' v1' v5' s _ hi dd HF hst hbk Z mF F) (fun r s₁ h₁ => ?_) fun _ _ e => e
  cases r with
  | none => exact h₁
  | some v =>
    refine wpAny_mono h₁ (fun _ s₁' h₂ => wpAny_mono h₂ (fun _ s₂ h₃ => wpAny_mono h₃ (fun f s₃ h₄ => ?_) fun _ _ e => e) fun _ _ e => e) fun _ _ e => e
    obtain ⟨rfl, hlt, hI⟩ := h₄
    exact ⟨y.cs.length + 1 - (i + 1), by omega, i + 1, rfl, hlt, hI⟩
section
variable {c : Cx} {A : Around} {φ σ : Hp} {L : Addr} {s : Shared} {f df l a d : Addr} {mx : Int} {ws : Str} {ch : Nat} {st : FS} {E : Value → Shared → Prop}
/-- the loop over the parts -/
theorem as_loop (B : Bs c) {v1 v2 v3 v5 : Option Value} {pa : Addr} {vs : List (Str × Tok)} {n k : Nat} {cs : List (List Nat × List Nat)} {Q : Flow → Shared → Prop} (R : Rm A 60) (hch : ch < 128) (F : Fm c φ (join σ (upd (fun _ => none) pa (lObj (strValues vs) n))) L asNames [some (.ref f), v1, v2, v3, some (.ref pa), v5] s) (H : Fmt σ f df l a d mx ws ⟨#[ch]⟩ st.lines st.init st.ps)
    (hpa : σ pa = none) (hvs : vs.map (·.1) = fl cs) (hk : Bk k st) (hkc : k + cs.length ≤ 100) (hl : ∀ p ∈ cs, p.1.length + p.2.length ≤ 9)
    (q : ∀ fl' σ' s', (match fl' with | .ret v => v | _ => .none) = Value.none → Fmt σ' f df l a d mx ws ⟨#[ch]⟩ (feedF mx ch st (cs.map toS)).lines (feedF mx ch st (cs.map toS)).init (feedF mx ch st (cs.map toS)).ps → Mod [a, d, l] σ σ' → Ok c φ σ' s' → Q fl' s') :
    wpAny c.M A (execs ((bodyS (methS 6 7)).drop 2) (callEnv asFd L 106)) Q E s := by
  have N := as_fn L
  have e1 : (sizeLine : Nat) = 16777216 := sizeLine_eq
  have hvl : vs.length = 2 * cs.length := by rw [← fl_len, ← hvs, List.length_map]
  have hxl : (strValues vs).length = 2 * cs.length := by rw [← hvl]; simp [strValues]
  have d0 : Apart σ (upd (fun _ => none) pa (lObj (strValues vs) n)) := fun b o e => by
    rw [upd_ne]; intro q'; rw [q', hpa] at e; cases e
  have S0 : Sq (join σ (upd (fun _ => none) pa (lObj (strValues vs) n))) pa (.type "list") none (strValues vs) n := ⟨join_r d0 (upd_same ..), .list⟩
  refine wpAny_execs_cons ?_
  refine wpAny_For ?_
  refine r_callN ?_
  refine r_bi B N F (zip_bi _) zip_boot ?_
  refine ks_call (P := fun h => (KM c.w.params).In h) rfl (kpr_type _) (ks_lone ?_)
  refine wpAny_BinOp ?_
  refine r_list ?_
  refine r_arg ?_
  refine r_callN ?_
  refine r_bi B N F (iter_bi _) iter_boot ?_
  refine r_callW (kpr_builtin _) ?_
  refine r_arg ?_
  refine r_ld N F 4 rfl rfl ?_
  refine r_args0 ?_
  refine ⟨F.ok.kx B, ?_⟩
  refine F.specA (spec_iterFn B S0) ?_
  intro it σ1 s hAll F
  have hit0 := hAll.1
  have hit := hAll.2.1
  have m1 := hAll.2.2
  clear hAll
  refine r_args0 ?_
  refine F.specA (spec_list B (by size_fits)) ?_
  intro ll σ2 s hAll F
  have hll := hAll.2.1
  have m2 := hAll.2.2
  clear hAll
  refine F.specT spec_const_int ?_
  intro t2 s F
  refine F.specA (spec_mul2 B hll) ?_
  intro l2 σ3 s hAll F
  have hl2 := hAll.2.1
  have m3 := hAll.2.2
  clear hAll
  refine star_list F hl2 (by rw [e1]; show 2 ≤ _; omega) ?_
  intro s F
  refine ⟨F.ok.kx B, ?_⟩
  have m03 := (m1.trans m2).trans m3
  refine F.specR3 (spec_zipIt B (m3.get (m2.get hit)) (S0.mod0 m03)) ?_
  intro z TI TO σ4 s hAll F
  have Z := hAll.1
  have hz0 := hAll.2.1
  have hTI0 := hAll.2.2.1
  have hTO0 := hAll.2.2.2.1
  have m4 := hAll.2.2.2.2
  clear hAll
  have m04 := m03.trans m4
  refine F.specE (spec_iterZ Z) ?_
  intro s F
  -- the zip's own objects apart
  have fz : σ z = none := (join_none (m03.fresh hz0)).1
  have fTI : σ TI = none := (join_none (m03.fresh hTI0)).1
  have fTO : σ TO = none := (join_none (m03.fresh hTO0)).1
  have fit : σ it = none := (join_none hit0).1
  let σZ : Hp := fun b => if b = z ∨ b = TI ∨ b = TO ∨ b = it ∨ b = pa then σ4 b else none
  have zs : ∀ b o, σZ b = some o → σ4 b = some o ∧ σ b = none := fun b o e => by
    show _ ∧ _
    have e' : (if b = z ∨ b = TI ∨ b = TO ∨ b = it ∨ b = pa then σ4 b else none) = some o := e
    split at e'
    · rename_i h
      refine ⟨e', ?_⟩
      rcases h with rfl | rfl | rfl | rfl | rfl
      · exact fz
      · exact fTI
      · exact fTO
      · exact fit
      · exact hpa
    · cases e'
  have dZ : Apart σ σZ := fun b o e => by
    cases r : σZ b with
    | none => rfl
    | some o' => rw [(zs b o' r).2] at e; cases e
  have F0 : Fm c φ (join σ σZ) L asNames [some (.ref f), v1, v2, v3, some (.ref pa), v5] s := F.sub fun b o e => by
    rcases join_some e with e | e
    · exact m04.get (join_l e)
    · exact (zs b o e).1
  have ZZ : ZSt σZ z TI TO it pa (strValues vs) n 0 .none := by
    obtain ⟨x1, x2, hto⟩ := Z.to
    obtain ⟨oi, hi, hci, hdi⟩ := Z.it
    exact ⟨(if_pos (.inl rfl)).trans Z.z, (if_pos (.inr (.inl rfl))).trans Z.ti, ⟨x1, x2, (if_pos (.inr (.inr (.inl rfl)))).trans hto⟩, ⟨oi, (if_pos (.inr (.inr (.inr (.inl rfl))))).trans hi, hci, hdi⟩, ⟨(if_pos (.inr (.inr (.inr (.inr rfl))))).trans Z.ls.at_, .list⟩, Z.ne⟩
  clear_value σZ
  refine as_for (y := ⟨f, df, l, a, d, mx, ws, ch, st, cs, k, v2, v3, pa, vs, n, z, TI, TO, it⟩) ?_ ⟨σ, σZ, st, v1, v5, dZ, H, rfl, hk, ZZ, Mod.refl, F0⟩
  intro i σF σZ st' v1' v5' s E' hi dd HF hst hbk Z mF F
  dsimp only at hi HF hst hbk Z mF F
  by_cases hlt : i < cs.length
  · obtain ⟨p, hp⟩ : ∃ p, cs[i]? = some p := ⟨_, List.getElem?_eq_getElem hlt⟩
    obtain ⟨hx, hy⟩ := fl_at hp
    rw [← hvs, List.getElem?_map, Option.map_eq_some_iff] at hx hy
    obtain ⟨⟨x, tx⟩, hx1, hx2⟩ := hx
    obtain ⟨⟨y, ty⟩, hy1, hy2⟩ := hy
    have hx3 : (strValues vs)[2 * i]? = some (.str (toS p).1 tx) := by simp only [strValues, List.getElem?_map, hx1, Option.map_some, ← hx2]
    have hy3 : (strValues vs)[2 * i + 1]? = some (.str (toS p).2 ty) := by simp only [strValues, List.getElem?_map, hy1, Option.map_some, ← hy2]
    refine r_nextZ B F dd Z hx3 hy3 ?_
    intro T σZ1 s hT0 hT Z1 dd1 F
    dsimp only
    refine r_goZ B F dd1 Z1 ?_
    intro _ σZ2 s Z2 mz dd2 F
    have hTz : T ≠ z := fun e => by rw [e, Z.z] at hT0; cases hT0
    have hT2 := mz T _ (by simpa using hTz) hT
    refine r_asgT2 B R.hd N F (i := 1) (j := 5) (join_r dd2 hT2) rfl rfl rfl rfl ?_
    intro s F
    refine wpAny_execs_cons ?_
    refine wpAny_Expr_any ?_
    refine r_method ?_
    refine r_ld N F 0 rfl rfl ?_
    intro pl
    refine exi4 HF.dict ?_
    intro u1 u2 u3 u4 If
    refine r_eqL F dd2 (spec_method B If (cls116 _) (f := 113) (by kernel_rfl) (by kernel_rfl) (fv_none _ _ _ _ _ _ _ _ _ (by decide))) ?_
    intro s F
    refine r_callW (kpr_ref (by kernel_rfl)) ?_
    refine r_arg ?_
    refine r_ld N F 1 rfl rfl ?_
    refine r_arg ?_
    refine r_ld N F 5 rfl rfl ?_
    refine r_args0 ?_
    refine ⟨F.ok.kx B, ?_⟩
    have hpl : (toS p).1.length + (toS p).2.length ≤ 9 := by
      have := hl p (List.mem_of_getElem? hp)
      show p.1.toArray.size + p.2.toArray.size ≤ 9
      rw [List.size_toArray, List.size_toArray]; exact this
    refine r_valL F dd2 (ac_spec B (R.le (by decide)) hch HF (hbk.sm (by omega) hpl) (hbk.sml (by omega)) hbk.i0 hbk.i1) ?_
    intro σF' s hAll dd3 F
    have HF' := hAll.1
    have mF' := hAll.2
    clear hAll
    refine r_nil ?_
    refine ⟨rfl, hlt, σF', σZ2, acF mx ch st' (toS p).1 (toS p).2, _, _, dd3, HF', ?_, hbk.step hpl, Z2, mF.trans mF', F⟩
    dsimp only
    rw [hst, List.take_add_one, hp]
    simp [feedF]
  · have hin : i = cs.length := by omega
    subst hin
    refine r_endZ B R.hd F dd Z (by rw [List.getElem?_eq_none]; omega) ?_
    intro σZ1 s F
    refine r_nil (r_nil ?_)
    rw [List.take_length] at hst
    subst hst
    exact q _ _ _ rfl HF mF (F.ok.sub fun b o e => join_l e)
end


theorem Sq.lobj {σ : Hp} {a : Addr} {xs : List Value} {n : Nat} (S : Sq σ a (.type "list") none xs n) : σ a = some (lObj xs n) := S.at_
theorem sq_of {σ : Hp} {a : Addr} {xs : List Value} {n : Nat} (h : σ a = some (lObj xs n)) : Sq σ a (.type "list") none xs n := ⟨h, .list⟩
theorem emp_eq : emp = ⟨#[]⟩ := by decide +kernel
theorem put_front {α : Type} {xs ys : List α} : xs.take (sStart none xs.length) ++ ys ++ xs.drop (max (sStart none xs.length) (sStop (some 0) xs.length)) = ys ++ xs := by
  simp [sStart, sStop]

section
variable {c : Cx} {A : Around} {φ σ : Hp} {L : Addr} {s : Shared} {f df l a d : Addr} {mx : Int} {ws : Str} {ch : Nat} {st : FS} {E : Value → Shared → Prop}
theorem as_spec (B : Bs c) {fw x : Str} {t1 t2 : Tok} {sc : Value} {k : Nat} {cs : List (List Nat × List Nat)} (R : Rm A 61) (hch : ch < 128) (H : Fmt σ f df l a d mx ws ⟨#[ch]⟩ st.lines st.init st.ps) (hcs : CGood cs) (hx : (fw ++ x).cps.toList = flat cs) (hk : Bk k st) (hkc : k + cs.length ≤ 100) (hl : ∀ p ∈ cs, p.1.length + p.2.length ≤ 9) :
    Spec c A σ (call (.ref 106) [.ref f, .str fw t1, .str x t2, sc]) (fun v σ' => v = .none ∧ Fmt σ' f df l a d mx ws ⟨#[ch]⟩ (feedF mx ch st (cs.map toS)).lines (feedF mx ch st (cs.map toS)).init (feedF mx ch st (cs.map toS)).ps ∧ Mod [a, d, l] σ σ') := by
  have e1 : (sizeLine : Nat) = 16777216 := sizeLine_eq
  have hfl : ∀ (cs : List (List Nat × List Nat)), (∀ p ∈ cs, p.1.length + p.2.length ≤ 9) → (flat cs).length ≤ 9 * cs.length := by
    intro cs
    induction cs with
    | nil => intro _; simp [flat]
    | cons p cs ih =>
      intro h
      have h1 := h p (.head _)
      have h2 := ih fun p hp => h p (.tail _ hp)
      unfold flat at h2 ⊢
      simp only [List.flatMap_cons, List.length_append, List.length_cons] at h2 ⊢
      omega
  have hxl : (fw ++ x).length ≤ 900 := by
    have := hfl cs hl
    rw [← hx, Array.length_toList] at this
    show (fw ++ x).cps.size ≤ _
    omega
  have hxl2 : fw.length + x.length ≤ 900 := by rw [← app_length]; exact hxl
  refine spec_call (cspec_fn B R ["self", "fws", "string", "splitchars"] [.ref f, .str fw t1, .str x t2, sc] ["parts", "part"] (names := asNames) (vals := [some (.ref f), some (.str fw t1), some (.str x t2), some sc, none, none]) (fd := asFd) (body := bodyS (methS 6 7)) (by kernel_rfl) (by kernel_rfl) rfl (fun _ _ _ => BindsTo.of_eq (by kernel_rfl)) (by kernel_rfl) (by kernel_rfl) (by decide +kernel) ?_)
  intro φ L s Q E F q
  have N := as_fn L
  have R' : Rm (A.deeper (callEnv asFd L 106)) 60 := R.deeper
  -- the words by the split
  obtain ⟨w0, cs0, hx0, hw0, hc0, hpc⟩ : ∃ w0 cs0, (fw ++ x).cps.toList = w0 ++ flat cs0 ∧ NB w0 ∧ CG cs0 ∧ ((w0 ≠ [] ∧ fl cs = emp :: pieces w0 cs0) ∨ (w0 = [] ∧ pieces w0 cs0 = emp :: fl cs)) := by
    cases cs with
    | nil => exact ⟨[], [], by rw [hx]; rfl, (fun c h => nomatch h), (fun p h => nomatch h), .inr ⟨rfl, by rw [emp_eq]; rfl⟩⟩
    | cons p cs =>
      obtain ⟨f0, w⟩ := p
      have ha := hcs.all (f0, w) (.head _)
      have ht : CG cs := fun p hp => ⟨hcs.tail p hp, (hcs.all p (.tail _ hp)).1, (hcs.all p (.tail _ hp)).2⟩
      cases f0 with
      | nil => exact ⟨w, cs, by rw [hx]; simp [flat], ha.2.2, ht, .inl ⟨ha.2.1, by rw [emp_eq]; rfl⟩⟩
      | cons b f0 =>
        refine ⟨[], (b :: f0, w) :: cs, by rw [hx]; rfl, (fun c h => nomatch h), ?_, .inr ⟨rfl, by rw [emp_eq]; rfl⟩⟩
        intro p hp
        rcases List.mem_cons.mp hp with rfl | hp
        · exact ⟨by simp, ha.1, ha.2⟩
        · exact ht p hp
  refine r_seq ?_
  refine wpAny_Assign_Name ?_
  refine r_method ?_
  refine r_glob B N F (re1_g _) ?_
  intro pl
  refine getMethod_builtin (T := "re.Pattern") ⟨_, F.ok.kx B _ _ (km43 _), rfl⟩ plainAttrs_pat slot_split type_split (fun b hb => by cases hb; exact ⟨_, F.ok.kx B _ _ (km43 _), rfl⟩) ?_
  refine r_callW (kpr_builtin _) ?_
  refine r_arg ?_
  refine wpAny_BinOp ?_
  refine r_ld N F 1 rfl rfl ?_
  refine r_ld N F 2 rfl rfl ?_
  refine F.specT (spec_add_str (by omega)) ?_
  intro t3 s F
  refine r_args0 ?_
  refine ⟨F.ok.kx B, ?_⟩
  refine F.spec (spec_split B hx0 hw0 hc0 (by omega)) ?_
  rintro _ σ1 s ⟨pa, vs, rfl, hpa0, hpa, m1, hvs⟩ F
  refine r_st N F 4 rfl rfl B.sz ?_
  intro s F
  refine ⟨rfl, ?_⟩
  have hvl : vs.length ≤ 201 := by
    have : vs.length = (pieces w0 cs0).length := by rw [← hvs, List.length_map]
    rcases hpc with ⟨_, h⟩ | ⟨_, h⟩
    · have := congrArg List.length h
      rw [fl_len, List.length_cons] at this
      omega
    · rw [h, List.length_cons, fl_len] at this
      omega
  have fin : ∀ σ2 s vs' n' v5, Fm c φ σ2 L asNames [some (.ref f), some (.str fw t1), some (.str x t2), some sc, some (.ref pa), v5] s → σ2 pa = some (lObj (strValues vs') n') → Mod [] σ σ2 → vs'.map (·.1) = fl cs →
      wpAny c.M (A.deeper (callEnv asFd L 106)) (execs ((bodyS (methS 6 7)).drop 2) (callEnv asFd L 106)) Q E s := by
    intro σ2 s vs' n' v5 F h2 m2 hv'
    have F' : Fm c φ (join σ (upd (fun _ => none) pa (lObj (strValues vs') n'))) L asNames [some (.ref f), some (.str fw t1), some (.str x t2), some sc, some (.ref pa), v5] s := F.sub fun b o e => by
      rcases join_some e with e | e
      · exact m2.get e
      · unfold upd at e
        split at e
        · rename_i h; rw [h]; rw [h2]; exact e
        · cases e
    exact as_loop B R' hch F' H hpa0 hv' hk hkc hl fun fl' σ' s' h1 h2 h3 h4 => q fl' σ' s' ⟨h1, h2, h3⟩ h4
  obtain ⟨⟨y0, ty0⟩, vs0, rfl⟩ : ∃ y vs0, vs = y :: vs0 := by
    cases vs with
    | nil => cases hvs
    | cons y vs0 => exact ⟨y, vs0, rfl⟩
  have hy0 : y0 = ⟨w0.toArray⟩ := by
    have := congrArg List.head? hvs
    simpa [pieces] using this
  have S1 := sq_of hpa
  simp only [List.length_cons] at hvl
  refine r_seq ?_
  refine wpAny_If ?_
  refine wpAny_isTrue_value ?_
  refine Subscript_ ?_
  refine r_ld N F 4 rfl rfl ?_
  refine F.specT spec_const_int ?_
  intro t4 s F
  refine F.specE (spec_sub B S1 (spec_item B S1 (k := 0) rfl (v := .str y0 ty0) rfl (by simp [strValues]; omega))) ?_
  intro s F
  have hwl : w0.length ≤ 900 := by
    have := congrArg List.length hx0
    rw [Array.length_toList, List.length_append] at this
    have : (fw ++ x).cps.size ≤ 900 := hxl
    omega
  have hyl : y0.length = w0.length := by rw [hy0]; exact List.size_toArray
  refine F.specV (spec_truthy_str (by omega)) ?_
  intro s F
  rcases hpc with ⟨hne, hp⟩ | ⟨hnil, hp⟩
  · have hw1 : w0.length ≠ 0 := fun e => hne (List.length_eq_zero_iff.mp e)
    rw [if_pos (by simp; omega)]
    refine r_seq ?_
    refine wpAny_Assign_Subscript ?_
    refine r_list ?_
    refine r_arg ?_
    refine F.specT spec_const_str ?_
    intro t5 s F
    refine r_args0 ?_
    refine F.specA (spec_list B (by size_fits)) ?_
    intro e σ3 s hAll F
    have he := hAll.1
    have e2 := hAll.2.1
    have m3 := hAll.2.2
    clear hAll
    refine r_ld N F 4 rfl rfl ?_
    refine r_slice ?_
    refine ev_none ?_
    refine ev_some ?_
    refine F.specT spec_const_int ?_
    intro t6 s F
    refine F.specA (spec_slc B) ?_
    intro b2 σ4 s hAll F
    have hb2 := hAll.1
    have b3 := hAll.2.1
    have m4 := hAll.2.2
    clear hAll
    have S4 := (S1.mod0 m3).mod0 m4
    have hne2 : pa ≠ e := fun h => by rw [← h, hpa] at he; cases he
    refine F.specU (spec_setsl B S4 b3 .none (.int 0 t6 (by omega)) (m4.get e2) hne2 (by simp [strValues]; omega)) ?_
    intro _ n' σ5 s hAll F
    have S5 := hAll.1
    have m5 := hAll.2
    clear hAll
    rw [put_front] at S5
    refine ⟨rfl, r_nil ⟨rfl, ?_⟩⟩
    refine fin σ5 s ((emp, t5) :: (y0, ty0) :: vs0) n' _ F ?_ (((m1.trans m3).trans m4).skip m5 hpa0) ?_
    · exact S5.lobj
    · rw [hp, ← hvs]; rfl
  · have hw1 : w0.length = 0 := by rw [hnil]; rfl
    rw [if_neg (by simp; omega)]
    refine r_seq ?_
    refine wpAny_Expr_any ?_
    refine r_method ?_
    refine r_ld N F 4 rfl rfl ?_
    intro pl
    refine F.specE (spec_lmethod S1 PySem.F.slot_list_pop.lookup PySem.F.type_list_pop) ?_
    intro s F
    refine r_callW (kpr_builtin _) ?_
    refine r_arg ?_
    refine F.specT spec_const_int ?_
    intro t6 s F
    refine r_args0 ?_
    refine ⟨F.ok.kx B, ?_⟩
    refine F.spec (spec_pop0 B S1 (by simp; omega)) ?_
    rintro _ σ5 s ⟨rfl, n', S5, m5⟩ F
    refine ⟨rfl, r_nil ⟨rfl, ?_⟩⟩
    refine fin σ5 s vs0 n' _ F S5.lobj (m1.skip m5 hpa0) ?_
    rw [hp] at hvs
    simpa using (List.cons.inj hvs).2

abbrev fdFd : FuncData := fdM 6 5 (Str.ofString "_ValueFormatter.feed") [] .none 91 .none
def fdNames : List Str := ["self", "fws", "string", "charset"]
theorem fd_fn (L : Addr) : Fn (callEnv fdFd L 92) L fdNames := fn_of rfl (by decide +kernel) (by kernel_rfl) rfl rfl (by decide +kernel)
theorem fd_spec (B : Bs c) {fw x : Str} {t1 t2 : Tok} {k : Nat} {cs : List (List Nat × List Nat)} {pl dp : Addr} {m : Str → Option Value} {km : Nat} (R : Rm A 65) (hch : ch < 128) (H : Fmt σ f df l a d mx ws ⟨#[ch]⟩ st.lines st.init st.ps) (I : Inst σ pl 116 dp .plain m km) (hm : m "header_encoding" = some .none) (hcs : CGood cs) (hx : (fw ++ x).cps.toList = flat cs) (hk : Bk k st) (hkc : k + cs.length ≤ 100) (hl : ∀ p ∈ cs, p.1.length + p.2.length ≤ 9) :
    Spec c A σ (call (.ref 92) [.ref f, .str fw t1, .str x t2, .ref pl]) (fun v σ' => v = .none ∧ Fmt σ' f df l a d mx ws ⟨#[ch]⟩ (feedF mx ch st (cs.map toS)).lines (feedF mx ch st (cs.map toS)).init (feedF mx ch st (cs.map toS)).ps ∧ Mod [a, d, l] σ σ') := by
  refine spec_call (cspec_fn B R ["self", "fws", "string", "charset"] [.ref f, .str fw t1, .str x t2, .ref pl] [] (names := fdNames) (vals := [some (.ref f), some (.str fw t1), some (.str x t2), some (.ref pl)]) (fd := fdFd) (body := bodyS (methS 6 5)) (by kernel_rfl) (by kernel_rfl) rfl (fun _ _ _ => BindsTo.of_eq (by kernel_rfl)) (by kernel_rfl) (by kernel_rfl) (by decide +kernel) ?_)
  intro φ L s Q E F q
  have N := fd_fn L
  have R' : Rm (A.deeper (callEnv fdFd L 92)) 64 := R.deeper
  refine wpAny_execs_cons ?_
  refine wpAny_If ?_
  refine wpAny_isTrue_Compare1 ?_
  refine Attribute_name ?_
  refine r_ld N F 3 rfl rfl ?_
  refine F.specE (spec_getattr B I (cls116 _) (by kernel_rfl) hm rfl) ?_
  intro s F
  refine wpAny_Constant_none ?_
  refine is_none_gen ?_
  refine F.specV spec_truthy_bool ?_
  intro s F
  rw [if_pos (by decide)]
  refine r_seq ?_
  refine wpAny_Expr_any ?_
  refine r_method ?_
  refine r_ld N F 0 rfl rfl ?_
  intro pl
  refine exi4 H.dict ?_
  intro u1 u2 u3 u4 If
  refine F.specE (spec_method B If (cls116 _) (f := 106) (by kernel_rfl) (by kernel_rfl) (fv_none _ _ _ _ _ _ _ _ _ (by decide))) ?_
  intro s F
  refine r_callW (kpr_ref (by kernel_rfl)) ?_
  refine r_arg ?_
  refine r_ld N F 1 rfl rfl ?_
  refine r_arg ?_
  refine r_ld N F 2 rfl rfl ?_
  refine r_arg ?_
  refine r_signs B N F H rfl rfl ?_
  intro t5 s F
  refine r_args0 ?_
  refine ⟨F.ok.kx B, ?_⟩
  refine F.specG (as_spec B (R'.le (by decide : 61 ≤ 64)) hch H hcs hx hk hkc hl) ?_
  intro σ1 s hAll F
  have H1 := hAll.1
  have m1 := hAll.2
  clear hAll
  refine ⟨rfl, ?_⟩
  refine wpAny_execs_cons ?_
  refine wpAny_Return_none ?_
  exact q _ _ _ ⟨rfl, H1, m1⟩ F.ok

abbrev stFd : FuncData := fdM 6 1 (Str.ofString "_ValueFormatter._str") [] .none 63 .none
def stNames : List Str := ["self", "linesep"]
theorem st_fn (L : Addr) : Fn (callEnv stFd L 64) L stNames := fn_of rfl (by decide +kernel) (by kernel_rfl) rfl rfl (by decide +kernel)
theorem spec_joinL {l : Addr} {ys : List Str} {x : Str} {t : Tok} (T : Txts σ l ys) (hok : JoinOk x ys = true) : Spec c A σ (call (.builtin "str.join") [.str x t, .ref l]) (fun v σ' => IsS v (Txt.join x ys) ∧ σ = σ') := by
  intro φ s Q E K q
  obtain ⟨vs, n, S, rfl⟩ := T
  exact join_seq (K.own _ _ S.at_) rfl rfl hok fun t' k => q _ _ _ ⟨⟨_, rfl⟩, rfl⟩ (K.toks k)
theorem st_spec (B : Bs c) {sep : Str} {t1 : Tok} {k : Nat} (R : Rm A 50) (H : Fmt σ f df l a d mx ws ⟨#[ch]⟩ st.lines st.init st.ps) (hk : Bk k st) (hkc : k ≤ 100) (hs : sep.length ≤ 10) (hn : (nlLines st.lines st.init (nlPs st.ps)).length ≤ 200) (hm : ∀ x ∈ nlLines st.lines st.init (nlPs st.ps), x.length ≤ 10000) :
    Spec c A σ (call (.ref 64) [.ref f, .str sep t1]) (fun v σ' => IsS v (Txt.join sep (nlLines st.lines st.init (nlPs st.ps))) ∧ Fmt σ' f df l a d mx ws ⟨#[ch]⟩ (nlLines st.lines st.init (nlPs st.ps)) 0 [] ∧ Mod [a, d, l] σ σ') := by
  refine spec_call (cspec_fn B R ["self", "linesep"] [.ref f, .str sep t1] [] (names := stNames) (vals := [some (.ref f), some (.str sep t1)]) (fd := stFd) (body := bodyS (methS 6 1)) (by kernel_rfl) (by kernel_rfl) rfl (fun _ _ _ => BindsTo.of_eq (by kernel_rfl)) (by kernel_rfl) (by kernel_rfl) (by decide +kernel) ?_)
  intro φ L s Q E F q
  have N := st_fn L
  have R' : Rm (A.deeper (callEnv stFd L 64)) 49 := R.deeper
  refine r_seq ?_
  refine wpAny_Expr_any ?_
  refine r_method ?_
  refine r_ld N F 0 rfl rfl ?_
  intro pl
  refine exi4 H.dict ?_
  intro u1 u2 u3 u4 If
  refine F.specE (spec_method B If (cls116 _) (f := 78) (by kernel_rfl) (by kernel_rfl) (fv_none _ _ _ _ _ _ _ _ _ (by decide))) ?_
  intro s F
  refine r_callW0 (kpr_ref (by kernel_rfl)) (F.ok.kx B) ?_
  have h1 := hk.pn
  have h2 := hk.pl
  refine F.specG (nl_spec B (R'.le (by decide : 45 ≤ 49)) H ⟨by omega, by omega⟩ (hk.sml hkc) hk.i0 hk.i1) ?_
  intro σ1 s hAll F
  have H1 := hAll.1
  have m1 := hAll.2
  clear hAll
  refine ⟨rfl, ?_⟩
  refine wpAny_execs_cons ?_
  refine wpAny_Return_some ?_
  refine r_method ?_
  refine r_ld N F 1 rfl rfl ?_
  intro pl
  refine GM.join ?_
  refine r_callW (kpr_builtin _) ?_
  refine r_arg ?_
  refine r_lines B N F H1 rfl rfl ?_
  intro s F
  refine r_args0 ?_
  refine ⟨F.ok.kx B, ?_⟩
  have hsum : ∀ (ys : List Str), (∀ x ∈ ys, x.length ≤ 10000) → (ys.map (·.length)).sum ≤ 10000 * ys.length := by
    intro ys
    induction ys with
    | nil => intro _; simp
    | cons y ys ih =>
      intro h
      have := h y (.head _)
      have := ih fun x hx => h x (.tail _ hx)
      simp only [List.map_cons, List.sum_cons, List.length_cons]
      omega
  refine F.spec (spec_joinL H1.lns (joinOk_of ?_)) ?_
  · have := hsum _ hm
    have : (nlLines st.lines st.init (nlPs st.ps)).length * sep.length ≤ 200 * 10 := Nat.mul_le_mul hn hs
    omega
  rintro _ _ s ⟨h, rfl⟩ F
  exact q _ _ _ ⟨h, H1, m1⟩ F.ok
end


theorem Rm.under {A : Around} {n : Nat} {cd : Code} (r : Rm A (n + 1)) (hw : cd.weight = 1) (hu : cd.cUnits = 1) : Rm (A.under cd) n :=
  ⟨r.hd, by have := r.dp; show A.depth + cd.weight + n < 900; rw [hw]; omega, by have := r.un; show A.units + cd.cUnits + 4 * n < 9000; rw [hu]; omega⟩

/-- the accumulator's __init__ -/
abbrev aiFd : FuncData := fdM 7 0 (Str.ofString "_Accumulator.__init__") [(Str.ofString "__class__", 124)] (.ref 129) 136 (.ref 130)
def aiNames : List Str := ["self", "initial_size"]
theorem ai_fn (L : Addr) : Fn (callEnv aiFd L 137) L aiNames := fn_of rfl (by decide +kernel) (by kernel_rfl) rfl rfl (by decide +kernel)
theorem ai_sup (c : Cx) : SupFn c aiFd 137 136 := ⟨by kernel_rfl, by kernel_rfl, by kernel_rfl, by kernel_rfl, rfl, ⟨_, _, _, rfl, rfl, rfl⟩, by kernel_rfl⟩
theorem ai_129 (P : Params) : (KM P).lookup 129 = some ({ cls := .type "tuple", data := .seq #[.int 0 449] 0 } : Obj) := by kernel_rfl
theorem ai_binds {c : Cx} (B : Bs c) {φ σ : Hp} {s : Shared} {v w : Value} (K : Ok c φ σ s) : BindsTo s aiFd ⟨[v, w], []⟩ ((["self", "initial_size"] : List Str).zip [v, w]) :=
  BindsTo.of_defaults (T := 129) rfl (K.kx B _ _ (ai_129 _)) rfl (by rfl) (by kernel_rfl)
theorem ai_cspec {c : Cx} (B : Bs c) {A : Around} {σ : Hp} {x d : Addr} {n : Nat} {h : Int} {t : Tok} (R : Rm A 20) (hx : σ x = some ({ cls := .ref 200, dict := some d, data := .seq #[] n } : Obj)) (hd : σ d = some emptyDict) :
    CSpec c A σ (.call (.ref 137) ⟨[.ref x, .int h t], []⟩) (fun v σ' => v = .none ∧ Acc σ' x d h [] ∧ Mod [x, d] σ σ') := by
  have S : Sq σ x (.ref 200) (some d) [] n := ⟨hx, .acc d⟩
  have D : DNs σ d (fun _ => none) 0 := ⟨#[], 0, hd, fun e he => by simp at he, fun _ => rfl, Nat.le_refl _⟩
  have hxd : x ≠ d := ne_of_cls hx hd (by rfl)
  refine cspec_fnAt B R ["self", "initial_size"] [.ref x, .int h t] [] (names := aiNames) (vals := [some (.ref x), some (.int h t)]) (fd := aiFd) (body := bodyS (methS 7 0)) (by kernel_rfl) (by kernel_rfl) rfl (fun _ _ K => ai_binds B K) (by kernel_rfl) (by kernel_rfl) (by decide +kernel) ?_
  intro φ L s Q E F k
  have N := ai_fn L
  refine ks_wpAt_execs_cons (wpAt_of_wpAny ?_)
  refine plainObj_wpAny_Assign_Attribute ?_
  refine r_ld N F 1 rfl rfl ?_
  refine r_ld N F 0 rfl rfl ?_
  refine F.spec (spec_setattr B (inst_of S D) (cls200 _) (st200 _) (by kernel_rfl) hxd (by decide)) ?_
  rintro _ σ1 s ⟨o, e1, I1⟩ F
  have m1 : Mod [x, d] σ σ1 := by rw [e1]; exact Mod.upd (by simp)
  have S1 : Sq σ1 x (.ref 200) (some d) [] n := ⟨I1.at_, .acc d⟩
  have D1 : DNs σ1 d (vmap ["_initial_size"] [some (.int h t)]) 1 := by
    obtain ⟨es, ep, h1, h2, h3, h4⟩ := I1.ns
    refine ⟨es, ep, h1, h2, fun nm => (h3 nm).trans ?_, h4⟩
    simp only [vmap]
  refine ks_wpAt_execs_cons ?_
  refine ks_wpAt_Expr_any ?_
  refine r_super (P := fun v σ' => v = .none ∧ ∃ n', σ' = upd σ1 x (sqSet (.ref 200) (some d) [] n')) B N F (sup_init c) (ai_sup c) rfl rfl S1 ?_ ?_ ⟨_, rfl⟩
  · intro σ' sub
    have S' : Sq σ' x (.ref 200) (some d) [] n := ⟨sub _ _ S1.at_, S1.lc⟩
    intro φ s R K q
    refine cspec_init B S' φ s R K ?_
    rintro v _ s' ⟨rfl, n', rfl, S2⟩ K'
    refine q _ _ s' ⟨upd σ1 x (sqSet (.ref 200) (some d) [] n'), ⟨rfl, n', rfl⟩, fun b o z => ?_⟩ K'
    unfold upd at z ⊢
    split at z
    · rename_i e; rw [if_pos e]; exact z
    · rename_i e; rw [if_neg e]; exact sub _ _ z
  · rintro v _ s ⟨rfl, n', rfl⟩ F
    have m2 : Mod [x] σ1 (upd σ1 x (sqSet (.ref 200) (some d) [] n')) := Mod.upd (.head _)
    refine wpAt_of_wpAny (r_nil ?_)
    exact k _ _ _ ⟨rfl, ⟨[], n', t, ⟨upd_same .., .acc d⟩, trivial, D1.mod m2 (by simpa using Ne.symm hxd)⟩, m1.trans (m2.sub (by simp))⟩ F.ok

/-- list.__new__ for the accumulator's class -/
theorem cd200 (P : Params) : ∃ cd d sl, (KM P).lookup 200 = some ⟨.type "type", d, .cls cd, sl⟩ ∧ cd.abstract = false ∧ cd.hasDel = false ∧ (sl.toList[4]?).join = some (.builtin "list.__new__") ∧ cd.mro = [.ref 200, .type "list", .type "object"] := ⟨_, _, _, rfl, rfl, rfl, rfl, rfl⟩
theorem call200 (P : Params) : specialIn (KM P) (.ref 200) "__call__" = some (some (.builtin "type.__call__")) := by kernel_rfl
theorem typ200 (P : Params) : instIn (KM P) (.ref 200) (.type "type") = some true := by kernel_rfl
theorem ai200 (P : Params) : findIn (KM P) (.ref 200) "__init__" = some (some (.ref 137)) := by kernel_rfl
theorem fn137 (P : Params) : typeIn (KM P) (.ref 137) = some (.type "function") := by kernel_rfl
theorem w200 (rest : List Value) : (Code.builtin "type.__call__" ⟨.ref 200 :: rest, []⟩).weight = 1 := by kernel_rfl
theorem u200 (rest : List Value) : (Code.builtin "type.__call__" ⟨.ref 200 :: rest, []⟩).cUnits = 1 := by kernel_rfl
theorem self200 (P : Params) : mroIn (KM P) 200 (.ref 200) = some true := by kernel_rfl
abbrev accObj (d : Addr) : Obj := { cls := .ref 200, dict := some d, data := .seq #[] }
theorem made200 {M : Model} {P : Params} {h : Heap} (X : (KM P).In h) : Looks M h (Bind.madeBy (.ref 200)) (some "list.__new__") := by
  obtain ⟨cd, d, sl, ho, e1, e2, e3, e4⟩ := cd200 P
  have hc : clsIn (KM P) 200 = some cd := by unfold clsIn; rw [ho]
  have hm : Looks M h (mroOf (.ref 200)) cd.mro := (looks_clsIn X hc).andThen .now
  intro A Q E s k q
  unfold Bind.madeBy
  refine wpAny_bind (hm A _ E s k ?_)
  rw [e4, List.forIn_cons]
  refine wpAny_bind (wpAny_bind (wpAny_bind (wpAny_bind (wpAny_loadPart (k _ _ (X _ _ ho)) (wpAny_pure ?_)))))
  dsimp only
  rw [← Array.getElem?_toList, e3]
  exact wpAny_pure (wpAny_pure (wpAny_pure q))
theorem base200 {M : Model} {P : Params} {h : Heap} (X : (KM P).In h) : Looks M h (Bind.staticBase (.ref 200)) (.ref 200) := by
  obtain ⟨cd, d, sl, ho, e1, e2, e3, e4⟩ := cd200 P
  have hc : clsIn (KM P) 200 = some cd := by unfold clsIn; rw [ho]
  have hm : Looks M h (mroOf (.ref 200)) cd.mro := (looks_clsIn X hc).andThen .now
  intro A Q E s k q
  unfold Bind.staticBase
  refine wpAny_bind (hm A _ E s k ?_)
  rw [e4, List.forIn_cons]
  exact wpAny_bind (wpAny_bind (wpAny_bind (made200 X A _ E s k (wpAny_pure (wpAny_pure (wpAny_pure q))))))
theorem newKind : builtinKind "list.__new__" = some .builtinFn := by decide +kernel
theorem newSplit : splitId "list.__new__" = some ("list", "__new__") := by decide +kernel
theorem newArgs (v : Value) : argsOk "list.__new__" ⟨[.ref 200, v], []⟩ := by unfold argsOk; kernel_rfl
theorem newCanon : (Manifest.canonical "list.__new__" != Manifest.canonical "list.__new__") = false := by decide +kernel
theorem hasDict200 : typeHasDict (.ref 200) = true := rfl

section
variable {c : Cx} {A : Around} {R : Result → Shared → Prop} {h : Heap} {g : Array GenState} {d : Drawn} {t : Nat} {os : OsState}
theorem chk_new {Q : Unit → Shared → Prop} {E : Value → Shared → Prop} {v : Value} (X : (KM c.w.params).In h) (q : Q () ⟨h, g, d, t, os⟩) : wpAny c.M A (checkBuiltinCall "list.__new__" ⟨[.ref 200, v], []⟩) Q E ⟨h, g, d, t, os⟩ := by
  have typ := looks_instIn (M := c.M) X (typ200 _)
  have sub := looks_mroIn (M := c.M) X (mro200_list _)
  have made := made200 (M := c.M) X
  have base := base200 (M := c.M) X
  obtain ⟨cd, dd, sl, ho, e1, e2, e3, e4⟩ := cd200 c.w.params
  have isT : Looks c.M h (isType (.ref 200)) true := (Looks.ld (X _ _ ho)).andThen .now
  have hA := newArgs v
  simp only [checkBuiltinCall, newKind, newSplit]
  simp only [show (("__new__" : String) == "__new__") = true from rfl, if_true]
  refine wpAny_bind (isT.at ?_)
  simp only [Bool.not_true, Bool.false_eq_true, if_false]
  refine wpAny_bind (sub.at ?_)
  simp only [Bool.not_true, Bool.false_eq_true, if_false]
  refine wpAny_bind (base.at (wpAny_bind (made.at ?_)))
  simp only [newCanon, Bool.false_eq_true, if_false]
  cases hsig : Manifest.signature? "list.__new__" with
  | none => exact wpAny_pure q
  | some sig =>
    simp only [argsOk, hsig] at hA
    have h2 : Bind.checkArgs "list.__new__" sig ⟨[.ref 200, v], []⟩ = pure () := hA
    simp only [h2]
    exact wpAny_pure q
theorem new_L {v : Value} (X : (KM c.w.params).In h) (hq : R (.ok (.ret (.ref (h.objs.size + 1)))) ⟨(h.push emptyDict).push (accObj h.objs.size), g, d, t, os⟩) :
    codeAny c.M A (.call (.builtin "list.__new__") ⟨[.ref 200, v], []⟩) R ⟨h, g, d, t, os⟩ := by
  refine codeAny_of_tree ?_
  show wpAny _ A.in1 (do checkBuiltinCall "list.__new__" ⟨[.ref 200, v], []⟩; again (.builtin "list.__new__" ⟨[.ref 200, v], []⟩)) _ _ _
  refine wpAny_bind (chk_new X (wpAny_pure ⟨plainId_quiet F.plain_list_new _, codeAny_builtin_stack F.entry_list_new rfl fun p st => ?_⟩))
  rw [Around.under_plainId F.plain_list_new _]
  obtain ⟨cd, dd, sl, ho, e1, e2, e3, e4⟩ := cd200 c.w.params
  have isT : Looks c.M h (isType (.ref 200)) true := (Looks.ld (X _ _ ho)).andThen .now
  have sub := looks_mroIn (M := c.M) X (mro200_list _)
  simp only [owner_list_new]
  refine wpAny_bind (isT.at ?_)
  simp only [Bool.not_true, Bool.false_eq_true, if_false]
  refine wpAny_bind (sub.at ?_)
  simp only [Bool.not_true, Bool.false_eq_true, if_false]
  refine wpAny_bind (wpAny_pure ?_)
  simp only [hasDict200, Bool.not_true, Bool.false_eq_true, if_false]
  refine wpAny_bind (m := newDict) (wpAny_newObj_type ?_ (by size_fits))
  dsimp only
  refine wpAny_bind ?_
  show wpAny _ _ (newObjAsIs _ _ _) _ _ _
  unfold newObjAsIs classHasDel
  refine wpAny_bind (wpAny_alloc (wpAny_bind (wpAny_bind (wpAny_load (Heap.get?_push_of_some _ (Heap.get?_push_of_some _ (X _ _ ho))) (wpAny_pure ?_)))))
  dsimp only
  rw [e2]
  refine wpAny_pure (wpAny_pure ?_)
  show R _ _
  rw [Heap.size_push]
  exact hq
theorem make_L {v : Value} (X : (KM c.w.params).In h)
    (hq : codeAny c.M (A.under (.builtin "type.__call__" ⟨[.ref 200, v], []⟩)) (.call (.ref 137) ⟨[.ref (h.objs.size + 1), v], []⟩) (InitBack (h.objs.size + 1) R) ⟨(h.push emptyDict).push (accObj h.objs.size), g, d, t, os⟩) :
    codeAny c.M A (.call (.ref 200) ⟨[v], []⟩) R ⟨h, g, d, t, os⟩ := by
  obtain ⟨cd, dd, sl, ho, e1, e2, e3, e4⟩ := cd200 c.w.params
  have hC := X _ _ ho
  have call := looks_specialIn (M := c.M) X (call200 _)
  have typ := looks_instIn (M := c.M) X (typ200 _)
  have made := made200 (M := c.M) X
  have hi := looks_findIn (M := c.M) X (ai200 _)
  have hb := fun self => bind_fn (M := c.M) X self (fn137 _)
  have self := looks_mroIn (M := c.M) X (self200 _)
  refine codeAny_of_tree ?_
  show wpAny _ _ (callAny (.ref 200) _) _ _ _
  refine nd_load hC ?_
  show wpAny _ _ (callAny.viaDunder (.ref 200) _) _ _ _
  unfold callAny.viaDunder
  refine wpAny_bind (call.at ?_)
  dsimp only
  rw [tc_bind]
  refine wpAny_bind (wpAny_pure (wpAny_bind (wpAny_pure ?_)))
  refine wpAny_pure (a := Fin.again (.call (.builtin "type.__call__") ⟨[.ref 200, v], []⟩)) (And.intro rfl ?_)
  refine codeAny_call_builtin_at (Code.quiet_builtin _ (by decide +kernel)) entry_typeCall (check_slot tc_kind tc_split typ (tc_args _ _ _) ?_)
  unfold Builtin.«type.__call__»
  have e5 : cd.mro.isEmpty = false := by rw [e4]; rfl
  have hm : Looks c.M h (mroOf (.ref 200)) cd.mro := ((Looks.ld (part := none) hC).andThen .now).andThen .now
  repeat (first | simp only [e5, Bool.false_eq_true, if_false] | with_reducible refine wpAny_call ?_ | lk)
  refine new_L X ?_
  have k : ∀ b o, h.get? b = some o → ((h.push emptyDict).push (accObj h.objs.size)).get? b = some o := fun b o e => Heap.get?_push_of_some _ (Heap.get?_push_of_some _ e)
  have hx : ((h.push emptyDict).push (accObj h.objs.size)).get? (h.objs.size + 1) = some (accObj h.objs.size) := by heap_get
  have t1 : Looks c.M ((h.push emptyDict).push (accObj h.objs.size)) (typeOf (.ref (h.objs.size + 1))) (.ref 200) := (Looks.ld hx).andThen .now
  have s1 := self.keeps k
  have i1 := hi.keeps k
  have b1 := (hb (.ref (h.objs.size + 1))).keeps k
  unfold isInstance callSpecial? specialOf
  repeat (first | with_reducible refine wpAny_call ?_ | lk)
  refine codeAny_mono hq fun r s' z => ?_
  rcases r with e | (v | _ | _ | _) <;> first | exact z | exact z.elim | skip
  obtain ⟨rfl, z⟩ := z
  exact wpAny_pure (wpAny_pure z)
end
section
variable {c : Cx} {A : Around} {σ : Hp}
theorem acc_new (B : Bs c) {h : Int} {t : Tok} (R : Rm A 21) : Spec c A σ (call (.ref 200) [.int h t]) (fun v σ' => ∃ a d, v = .ref a ∧ σ a = none ∧ σ d = none ∧ Acc σ' a d h [] ∧ Mod [] σ σ') := by
  intro φ s Q E K q
  obtain ⟨hh, g, dr, tk, os⟩ := s
  have K1 := K.new B (o := emptyDict) rfl
  have K2 := K1.2.new B (o := accObj hh.objs.size) rfl
  have hsz : (hh.push emptyDict).objs.size = hh.objs.size + 1 := Heap.size_push ..
  refine wpAny_call (make_L (K.kx B) ?_)
  dsimp only at K1 K2
  rw [hsz] at K2
  have m1 : Mod [] σ (upd σ hh.objs.size emptyDict) := Mod.new K1.1
  have m2 : Mod [] (upd σ hh.objs.size emptyDict) (upd (upd σ hh.objs.size emptyDict) (hh.objs.size + 1) (accObj hh.objs.size)) := Mod.new K2.1
  have fx : σ (hh.objs.size + 1) = none := m1.fresh K2.1
  refine ai_cspec B (R.under (w200 _) (u200 _)) (upd_same ..) (by rw [upd_ne (Nat.ne_of_lt (Nat.lt_succ_self _)), upd_same]) φ _ _ K2.2 ?_
  rintro _ σ' s' ⟨rfl, A1, m3⟩ K'
  refine ⟨rfl, q _ _ _ ⟨_, _, rfl, fx, K1.1, A1, ?_⟩ K'⟩
  intro b o hb e
  refine m3 b o ?_ (m2.get (m1.get e))
  simp only [List.mem_cons, List.not_mem_nil, or_false, not_or]
  exact ⟨fun q => (by rw [q, fx] at e; cases e), fun q => (by rw [q, K1.1] at e; cases e)⟩
end


theorem mk116 (P : Params) : makesIn (KM P) 116 = true := by kernel_rfl
theorem fi116 (P : Params) : findIn (KM P) (.ref 116) "__init__" = some (some (.ref 57)) := by kernel_rfl
theorem fn57 (P : Params) : typeIn (KM P) (.ref 57) = some (.type "function") := by kernel_rfl
theorem w116 (rest : List Value) : (Code.builtin "type.__call__" ⟨.ref 116 :: rest, []⟩).weight = 1 := by kernel_rfl
theorem u116 (rest : List Value) : (Code.builtin "type.__call__" ⟨.ref 116 :: rest, []⟩).cUnits = 1 := by kernel_rfl
theorem acc_g (P : Params) : nsIn (KM P) mainGlobals "_Accumulator" = some (some (.ref 200)) := by kernel_rfl

abbrev fiFd : FuncData := fdM 6 0 (Str.ofString "_ValueFormatter.__init__") [] .none 56 .none
def fiNames : List Str := ["self", "headerlen", "maxlen", "continuation_ws", "splitchars"]
theorem fi_fn (L : Addr) : Fn (callEnv fiFd L 57) L fiNames := fn_of rfl (by decide +kernel) (by kernel_rfl) rfl rfl (by decide +kernel)

/-- names set one by one -/
def sets : List (Str × Value) → (Str → Option Value)
  | [] => fun _ => none
  | (n, v) :: r => fun x => if x = n then some v else sets r x
theorem Inst.ext {σ : Hp} {x C d : Addr} {dat : Data} {m m' : Str → Option Value} {k k' : Nat} (I : Inst σ x C d dat m k) (h : ∀ n, m n = m' n) (hk : k ≤ k') : Inst σ x C d dat m' k' := by
  obtain ⟨a, ⟨es, ep, h1, h2, h3, h4⟩, n⟩ := I
  exact ⟨a, ⟨es, ep, h1, h2, fun n => (h3 n).trans (h n), Nat.le_trans h4 hk⟩, n⟩
theorem Mod.del2 {σ σ' : Hp} {M : List Addr} (m : Mod M σ σ') (h : ∀ b ∈ M, σ b = none) : Mod [] σ σ' := fun b o _ e => m b o (fun q => by rw [h b q] at e; cases e) e

section
variable {c : Cx} {A : Around} {φ σ : Hp} {L : Addr} {s : Shared} {E : Value → Shared → Prop}
theorem spec_set (B : Bs c) {x d : Addr} {r : List (Str × Value)} {name : Str} {v : Value} (I : Inst σ x 116 d .plain (sets r) r.length) (hxd : x ≠ d) (hk : r.length ≤ 100) (hn : findIn (KM c.w.params) (.ref 116) name = some none) :
    Spec c A σ (setAttr (.ref x) name v) (fun _ σ' => Inst σ' x 116 d .plain (sets ((name, v) :: r)) ((name, v) :: r).length ∧ Mod [d] σ σ') := by
  refine (spec_setattr B I (cls116 _) (st116 _) hn hxd (by omega)).mono ?_
  rintro _ σ2 ⟨o, rfl, I2⟩
  refine ⟨I2.ext (fun n => rfl) ?_, Mod.upd (.head _)⟩
  split <;> simp
theorem sets_fmt (mx : Int) (ws sign : Str) (l a : Addr) (t1 t2 t3 t4 : Tok) (n : Str) :
    sets [("_current_line", .ref a), ("_lines", .ref l), ("_splitchars", .str sign t4), ("_continuation_ws_len", .int ws.length t3), ("_continuation_ws", .str ws t2), ("_maxlen", .int mx t1)] n = vmap fmtNames (fmtVals mx ws sign l a t1 t2 t3 t4) n := by
  by_cases h1 : n = "_maxlen"
  · subst h1; kernel_rfl
  by_cases h2 : n = "_continuation_ws"
  · subst h2; kernel_rfl
  by_cases h3 : n = "_continuation_ws_len"
  · subst h3; kernel_rfl
  by_cases h4 : n = "_splitchars"
  · subst h4; kernel_rfl
  by_cases h5 : n = "_lines"
  · subst h5; kernel_rfl
  by_cases h6 : n = "_current_line"
  · subst h6; kernel_rfl
  simp only [sets, vmap, fmtNames, fmtVals, h1, h2, h3, h4, h5, h6, if_false]

theorem fi_cspec (B : Bs c) {x df : Addr} {h mx : Int} {ws sign : Str} {t1 t2 t3 t4 : Tok} (R : Rm A 30) (hx : σ x = some (instObj 116 df)) (hd : σ df = some emptyDict) (hws : ws.length ≤ 100) :
    CSpec c A σ (.call (.ref 57) ⟨[.ref x, .int h t1, .int mx t2, .str ws t3, .str sign t4], []⟩) (fun v σ' => v = .none ∧ ∃ l a d, Fmt σ' x df l a d mx ws sign [] h [] ∧ σ l = none ∧ σ a = none ∧ σ d = none ∧ Mod [df] σ σ') := by
  have e1 : (sizeLine : Nat) = 16777216 := sizeLine_eq
  have hxd : x ≠ df := ne_of_cls hx hd (by rfl)
  have I0 : Inst σ x 116 df .plain (sets []) 0 := ⟨hx, ⟨#[], 0, hd, fun e he => by simp at he, fun _ => rfl, Nat.le_refl _⟩, rfl⟩
  refine cspec_fn B R ["self", "headerlen", "maxlen", "continuation_ws", "splitchars"] [.ref x, .int h t1, .int mx t2, .str ws t3, .str sign t4] [] (names := fiNames) (vals := [some (.ref x), some (.int h t1), some (.int mx t2), some (.str ws t3), some (.str sign t4)]) (fd := fiFd) (body := bodyS (methS 6 0)) (by kernel_rfl) (by kernel_rfl) rfl (fun _ _ _ => BindsTo.of_eq (by kernel_rfl)) (by kernel_rfl) (by kernel_rfl) (by decide +kernel) ?_
  intro φ L s Q E F k
  have N := fi_fn L
  have R' : Rm (A.deeper (callEnv fiFd L 57)) 29 := R.deeper
  refine r_seq ?_
  refine plainObj_wpAny_Assign_Attribute ?_
  refine r_ld N F 2 rfl rfl ?_
  refine r_ld N F 0 rfl rfl ?_
  refine F.spec (spec_set B I0 hxd (by simp) (by kernel_rfl)) ?_
  intro _ σ1 s hAll F
  have I1 := hAll.1
  have m1 := hAll.2
  clear hAll
  refine ⟨rfl, ?_⟩
  refine r_seq ?_
  refine plainObj_wpAny_Assign_Attribute ?_
  refine r_ld N F 3 rfl rfl ?_
  refine r_ld N F 0 rfl rfl ?_
  refine F.spec (spec_set B I1 hxd (by simp) (by kernel_rfl)) ?_
  intro _ σ2 s hAll F
  have I2 := hAll.1
  have m2 := hAll.2
  clear hAll
  refine ⟨rfl, ?_⟩
  refine r_seq ?_
  refine plainObj_wpAny_Assign_Attribute ?_
  refine r_callN ?_
  refine r_bi B N F (len_bi _) len_boot ?_
  refine r_callW (kpr_builtin _) ?_
  refine r_arg ?_
  refine r_ld N F 3 rfl rfl ?_
  refine r_args0 ?_
  refine ⟨F.ok.kx B, ?_⟩
  refine F.specT (spec_len_str (by omega)) ?_
  intro t5 s F
  refine r_ld N F 0 rfl rfl ?_
  refine F.spec (spec_set B I2 hxd (by simp) (by kernel_rfl)) ?_
  intro _ σ3 s hAll F
  have I3 := hAll.1
  have m3 := hAll.2
  clear hAll
  refine ⟨rfl, ?_⟩
  refine r_seq ?_
  refine plainObj_wpAny_Assign_Attribute ?_
  refine r_ld N F 4 rfl rfl ?_
  refine r_ld N F 0 rfl rfl ?_
  refine F.spec (spec_set B I3 hxd (by simp) (by kernel_rfl)) ?_
  intro _ σ4 s hAll F
  have I4 := hAll.1
  have m4 := hAll.2
  clear hAll
  refine ⟨rfl, ?_⟩
  have m04 : Mod [df] σ σ4 := ((m1.trans m2).trans m3).trans m4
  refine r_seq ?_
  refine plainObj_wpAny_Assign_Attribute ?_
  refine r_list ?_
  refine r_args0 ?_
  refine F.specA (spec_list B (by size_fits)) ?_
  intro l σ5 s hAll F
  have hl0 := hAll.1
  have hl := hAll.2.1
  have m5 := hAll.2.2
  clear hAll
  refine r_ld N F 0 rfl rfl ?_
  refine F.spec (spec_set B (I4.mod m5 (by simp) (by simp)) hxd (by simp) (by kernel_rfl)) ?_
  intro _ σ6 s hAll F
  have I6 := hAll.1
  have m6 := hAll.2
  clear hAll
  refine ⟨rfl, ?_⟩
  have hldf : l ≠ df := fun e => by
    obtain ⟨es, ep, h1, _⟩ := I4.ns
    rw [e, h1] at hl0; cases hl0
  have hl6 := m6 l _ (by simpa using hldf) hl
  have m06 : Mod [df] σ σ6 := (m04.trans m5.to).trans m6
  refine r_seq ?_
  refine plainObj_wpAny_Assign_Attribute ?_
  refine r_callN ?_
  refine r_glob B N F (acc_g _) ?_
  refine r_callW (kpr_ref (by kernel_rfl)) ?_
  refine r_arg ?_
  refine r_ld N F 1 rfl rfl ?_
  refine r_args0 ?_
  refine ⟨F.ok.kx B, ?_⟩
  refine F.spec (acc_new B (R'.le (by decide : 21 ≤ 29))) ?_
  rintro _ σ7 s ⟨a, d, rfl, ha0, hd0, A7, m7⟩ F
  refine r_ld N F 0 rfl rfl ?_
  refine F.spec (spec_set B (I6.mod m7 (by simp) (by simp)) hxd (by simp) (by kernel_rfl)) ?_
  intro _ σ8 s hAll F
  have I8 := hAll.1
  have m8 := hAll.2
  clear hAll
  refine ⟨rfl, r_nil ?_⟩
  have fresh : ∀ b, σ6 b = none → b ≠ df → σ b = none := fun b h hb => by
    cases q : σ b with
    | none => rfl
    | some o => rw [m06 b o (by simpa using hb) q] at h; cases h
  have hadf : a ≠ df := fun e => by
    obtain ⟨es, ep, h1, _⟩ := I6.ns
    rw [e, h1] at ha0; cases ha0
  have hddf : d ≠ df := fun e => by
    obtain ⟨es, ep, h1, _⟩ := I6.ns
    rw [e, h1] at hd0; cases hd0
  have fl : σ l = none := by
    cases q : σ l with
    | none => rfl
    | some o => rw [m04 l o (by simpa using hldf) q] at hl0; cases hl0
  have D8 : ∀ x ∈ [df], ∀ ts, σ7 x ≠ some (tObj ts) := by
    intro y hy ts e
    simp only [List.mem_singleton] at hy
    obtain ⟨es, ep, h1, _⟩ := (I6.mod m7 (by simp) (by simp)).ns
    rw [hy, h1] at e
    exact absurd (congrArg (fun o : Option Obj => match o with | some x => x.cls | none => .none) e) (show Value.type "dict" ≠ Value.type "tuple" by decide)
  refine k _ _ _ ⟨rfl, l, a, d, ⟨⟨t2, t3, t5, t4, I8.ext (sets_fmt _ _ _ _ _ _ _ _ _) (Nat.le_refl _)⟩, ⟨[], 0, ⟨m8 l _ (by simpa using hldf) (m7.get hl6), .list⟩, rfl⟩, A7.mod m8 (by simpa using hadf) (by simpa using hddf) D8, Ne.symm hddf⟩, fl, fresh a ha0 hadf, fresh d hd0 hddf, (m06.trans m7.to).trans m8⟩ F.ok

theorem fmt_new (B : Bs c) {h mx : Int} {ws sign : Str} {t1 t2 t3 t4 : Tok} (R : Rm A 31) (hws : ws.length ≤ 100) : Spec c A σ (call (.ref 116) [.int h t1, .int mx t2, .str ws t3, .str sign t4]) (fun v σ' => ∃ f df l a d, v = .ref f ∧ Fmt σ' f df l a d mx ws sign [] h [] ∧ σ f = none ∧ σ df = none ∧ σ l = none ∧ σ a = none ∧ σ d = none ∧ Mod [] σ σ') := by
  intro φ s Q E K q
  obtain ⟨hh, g, dr, tk, os⟩ := s
  have X := K.kx B
  have K1 := K.new B (o := emptyDict) rfl
  have K2 := K1.2.new B (o := instObj 116 hh.objs.size) rfl
  have hsz : (hh.push emptyDict).objs.size = hh.objs.size + 1 := Heap.size_push ..
  refine wpAny_call (make_core (makes_of X (mk116 _)) (looks_findIn X (fi116 _)) (fun self => bind_fn X self (fn57 _)) (.inl rfl) ?_)
  dsimp only at K1 K2
  rw [hsz] at K2
  have m1 : Mod [] σ (upd σ hh.objs.size emptyDict) := Mod.new K1.1
  have m2 : Mod [] (upd σ hh.objs.size emptyDict) (upd (upd σ hh.objs.size emptyDict) (hh.objs.size + 1) (instObj 116 hh.objs.size)) := Mod.new K2.1
  have m12 := m1.trans m2
  have fx : σ (hh.objs.size + 1) = none := m1.fresh K2.1
  refine fi_cspec B (R.under (w116 _) (u116 _)) (upd_same ..) (by rw [upd_ne (Nat.ne_of_lt (Nat.lt_succ_self _)), upd_same]) hws φ _ _ K2.2 ?_
  rintro _ σ' s' ⟨rfl, l, a, d, H, hl, ha, hd, m3⟩ K'
  refine ⟨rfl, q _ _ _ ⟨_, _, l, a, d, rfl, H, fx, K1.1, m12.fresh hl, m12.fresh ha, m12.fresh hd, ?_⟩ K'⟩
  intro b o hb e
  refine m3 b o ?_ (m12.get e)
  simp only [List.mem_singleton]
  exact fun q => (by rw [q, K1.1] at e; cases e)
end


section
variable {c : Cx} {A : Around} {σ φ : Hp} {L : Addr} {names : List Str} {vals : List (Option Value)} {s : Shared} {E : Value → Shared → Prop} {env : Env}
theorem spec_unpackL (B : Bs c) {b : Addr} {v1 v2 : Value} {n : Nat} (hh : A.handled = none) (hb : σ b = some (lObj [v1, v2] n)) : Spec c A σ (unpackItems (.ref b) 2 none) (fun r σ' => [v1, v2] = r ∧ Mod [] σ σ') := by
  intro φ s Q E K q
  have S := sq_of hb
  have T : s.TypeIs (.ref b) "list" := ⟨_, K.own _ _ hb, rfl⟩
  unfold unpackItems
  refine wpAny_bind ?_
  unfold notIterableAtAll
  refine wpAny_bind (wpAny_specialOf T F.slot_list_iter.lookup ?_)
  refine wpAny_pure ?_
  simp only [Bool.false_eq_true, if_false]
  refine wpAny_bind (wpAny_holding (spec_pyIter B S φ s _ E K ?_))
  rintro _ _ s ⟨it, rfl, hit0, rfl⟩ K
  have m1 : Mod [] σ (upd σ it (itObj (.ref b) 0)) := Mod.new hit0
  have S1 := S.mod0 m1
  refine wpAny_bind (wpAny_holding ?_)
  show wpAny _ _ (pyNext (.ref it) >>= _) _ _ _
  refine wpAny_bind (next_list B S1 (upd_same ..) (by simp) φ s _ E K ?_)
  rintro _ σ2 s ⟨v, rfl, hv, hit2, m2⟩ K
  have hbi : b ≠ it := fun e => by rw [e, hit0] at hb; cases hb
  have S2 := S1.mod m2 (by simpa using hbi)
  refine wpAny_bind (wpAny_holding ?_)
  show wpAny _ _ (pyNext (.ref it) >>= _) _ _ _
  refine wpAny_bind (next_list B S2 hit2 (by simp) φ s _ E K ?_)
  rintro _ σ3 s ⟨v', rfl, hv', hit3, m3⟩ K
  have S3 := S2.mod m3 (by simpa using hbi)
  refine wpAny_bind (wpAny_holding (wpAny_pure (wpAny_pure (wpAny_pure ?_))))
  rw [if_neg (by simp)]
  refine wpAny_bind (wpAny_holding (stop_list B hh S3 hit3 φ s _ E K ?_))
  rintro _ σ4 s ⟨rfl, m4⟩ K
  simp only [Option.isSome_none, Bool.false_eq_true, if_false]
  refine wpAny_pure (q _ _ _ ⟨?_, ((m1.skip m2 hit0).skip m3 hit0).skip m4 hit0⟩ K)
  simp at hv hv'
  rw [hv, hv']
/-- x, y = [v1, v2] -/
theorem r_asgL2 (B : Bs c) {x y : Str} {p1 p2 pos : Pos} {kk : Nat} {b : Addr} {v1 v2 : Value} {n i j : Nat} {vals' : List (Option Value)} {Q : Unit → Shared → Prop} (hh : A.handled = none) (N : Fn env L names) (F : Fm c φ σ L names vals s) (hb : σ b = some (lObj [v1, v2] n))
    (hi : names[i]? = some x) (hj : names[j]? = some y) (vi : vals[i]?.isSome = true) (vj : vals[j]?.isSome = true) (k : ∀ σ' s', Mod [] σ σ' → Fm c φ σ' L names vals' s' → Q () s')
    (e : (vals.set i (some v1)).set j (some v2) = vals' := by first | dsimp only [List.set_cons_succ, List.set_cons_zero] | rfl) :
    wpAny c.M A (assign (.Tuple [.Name x p1, .Name y p2] kk pos) env (.ref b)) Q E s := by
  subst e
  rw [arm_assign_Tuple]
  refine wpAny_bind (wpAny_standAt ?_)
  unfold unpack
  refine wpAny_bind (wpAny_holding ?_)
  refine F.spec (spec_unpackL B hh hb) ?_
  rintro _ σ1 s ⟨rfl, m1⟩ F
  show wpAny _ _ (do holding [v2] (assign (.Name x p1) env v1); do holding [] (assign (.Name y p2) env v2); pure ()) _ _ _
  refine wpAny_bind (wpAny_holding (wpAny_assign_Name (r_st N F i hi vi B.sz ?_)))
  intro s F
  refine wpAny_bind (wpAny_holding (wpAny_assign_Name (r_st N F j hj (set_some vj) B.sz ?_)))
  intro s F
  exact wpAny_pure (k _ s m1 F)
end

/-- a list of pairs, each a list -/
def PairL (σ : Hp) (v : Value) (p : Str × Str) : Prop := ∃ b n t1 t2, v = .ref b ∧ σ b = some (lObj [.str p.1 t1, .str p.2 t2] n)
inductive CIt (σ : Hp) : List Value → List (Str × Str) → Prop
  | nil : CIt σ [] []
  | cons {v vs p ps} : PairL σ v p → CIt σ vs ps → CIt σ (v :: vs) (p :: ps)
theorem CIt.mod {M : List Addr} {σ σ' : Hp} (m : Mod M σ σ') {vs : List Value} {ps : List (Str × Str)} (h : CIt σ vs ps) (hM : ∀ a ∈ M, a ∉ adrs vs) : CIt σ' vs ps := by
  induction h with
  | nil => exact .nil
  | cons p _ ih =>
    obtain ⟨b, n, t1, t2, rfl, g⟩ := p
    refine .cons ⟨b, n, t1, t2, rfl, m b _ (fun q => hM b q (.head _)) g⟩ (ih fun a ha h => hM a ha (.tail _ h))
theorem CIt.len {σ : Hp} {vs : List Value} {ps : List (Str × Str)} (h : CIt σ vs ps) : vs.length = ps.length := by
  induction h with
  | nil => rfl
  | cons _ _ ih => simp [ih]
theorem CIt.at {σ : Hp} {vs : List Value} {ps : List (Str × Str)} (h : CIt σ vs ps) : ∀ {i : Nat} {p : Str × Str}, ps[i]? = some p → ∃ v, vs[i]? = some v ∧ PairL σ v p := by
  induction h with
  | nil => intro i p e; simp at e
  | cons q _ ih =>
    intro i p e
    cases i with
    | zero => simp at e; subst e; exact ⟨_, rfl, q⟩
    | succ i => simp at e; exact ih e
structure Chk (σ : Hp) (ca : Addr) (ps : List (Str × Str)) : Prop where
  ex : ∃ vs n, Sq σ ca (.type "list") none vs n ∧ CIt σ vs ps ∧ (adrs vs).Nodup


/-- values of which Fv tells, one for each pair -/
inductive All2 {α : Type} (Fv : α → Value → Prop) : List α → List Value → Prop
  | nil : All2 Fv [] []
  | cons {p ps v vs} : Fv p v → All2 Fv ps vs → All2 Fv (p :: ps) (v :: vs)
theorem All2.snoc {α : Type} {Fv : α → Value → Prop} {ps : List α} {vs : List Value} {p : α} {v : Value} (h : All2 Fv ps vs) (hv : Fv p v) : All2 Fv (ps ++ [p]) (vs ++ [v]) := by
  induction h with
  | nil => exact .cons hv .nil
  | cons a _ ih => exact .cons a ih
theorem All2.len {α : Type} {Fv : α → Value → Prop} {ps : List α} {vs : List Value} (h : All2 Fv ps vs) : ps.length = vs.length := by
  induction h with
  | nil => rfl
  | cons _ _ ih => simp [ih]

/-- what holds between the turns -/
def LcI (c : Cx) (φ' σ2 : Hp) (CC I D ca : Addr) (x y : Str) (ps : List (Str × Str)) (Fv : Str × Str → Value → Prop) (i : Nat) (s' : Shared) : Prop :=
  ∃ σ' ys n' v1 v2, All2 Fv (ps.take i) ys ∧ σ' I = some (itObj (.ref ca) i) ∧ σ' D = some (lObj ys n') ∧ Mod [I, D] σ2 σ' ∧ Fm c φ' σ' CC [x, y] [v1, v2] s'
theorem lc_for {c : Cx} {A : Around} {φ' σ2 : Hp} {CC I D ca : Addr} {nx ny : Str} {ps : List (Str × Str)} {Fv : Str × Str → Value → Prop} {s : Shared} {elt iter : Expr} {elts : List Expr} {x1 : Nat} {tp : Pos} {scope : Scope} {pos : Pos} {it acc : Value} {env : Env} {R : Result → Shared → Prop}
    (turn : ∀ i σ' ys n' v1 v2 s (E' : Value → Shared → Prop), i ≤ ps.length → All2 Fv (ps.take i) ys → σ' I = some (itObj (.ref ca) i) → σ' D = some (lObj ys n') → Mod [I, D] σ2 σ' → Fm c φ' σ' CC [nx, ny] [v1, v2] s →
      wpAny c.M A (pyNext it) (fun r s₁ => match r with
        | none => R (.ok .next) s₁
        | some v => wpAny c.M A (letOwnedTupleGo (.Tuple elts x1 tp) it v) (fun _ s₁' => wpAny c.M A (assign (.Tuple elts x1 tp) env v) (fun _ s₂ => wpAny c.M A (eval elt env) (fun x s₄ =>
            wpAny c.M A (call (.builtin "list.append") [acc, x]) (fun _ s₅ => i < ps.length ∧ LcI c φ' σ2 CC I D ca nx ny ps Fv (i + 1) s₅) E' s₄) E' s₂) E' s₁') E' s₁) E' s)
    (h : LcI c φ' σ2 CC I D ca nx ny ps Fv 0 s) : codeAny c.M A (.compLoop (.ListComp elt [⟨.Tuple elts x1 tp, iter, [], 0⟩] scope pos) 0 it acc env) R s := by
  refine LCp.codeAny_compLoop_pair (fun m s => ∃ i, m = ps.length + 1 - i ∧ i ≤ ps.length ∧ LcI c φ' σ2 CC I D ca nx ny ps Fv i s) ?_ (ps.length + 1) ⟨0, rfl, Nat.zero_le _, h⟩
  rintro m s ⟨i, rfl, hi, σ', ys, n', v1, v2, hys, hIi, hDi, m3, F⟩
  refine wpAny_mono (turn i σ' ys n' v1 v2 s _ hi hys hIi hDi m3 F) (fun r s₁ h₁ => ?_) fun _ _ e => e
  cases r with
  | none => exact h₁
  | some v =>
    refine wpAny_mono h₁ (fun _ s₁' h₂ => wpAny_mono h₂ (fun _ s₂ h₃ => wpAny_mono h₃ (fun _ s₄ h₄ => wpAny_mono h₄ (fun _ s₅ h₅ => ?_) fun _ _ e => e) fun _ _ e => e) fun _ _ e => e) fun _ _ e => e
    exact ⟨ps.length + 1 - (i + 1), by omega, i + 1, rfl, h₅.1, h₅.2⟩
/-- [elt for x, y in list-of-pairs] -/
theorem r_lc {c : Cx} (B : Bs c) {A : Around} {φ σ : Hp} {L : Addr} {names : List Str} {vals : List (Option Value)} {s : Shared} {Q : Value → Shared → Prop} {E : Value → Shared → Prop} {env : Env} {elt iter : Expr} {x y : Str} {px py tp : Pos} {tk : Nat} {scope : Scope} {pos : Pos} {ca : Addr} {vs : List Value} {n : Nat} {ps : List (Str × Str)} {Fv : Str × Str → Value → Prop}
    (hh : A.handled = none) (N : Fn env L names) (F : Fm c φ σ L names vals s) (S : Sq σ ca (.type "list") none vs n) (C : CIt σ vs ps) (hz : ps.length + 1 ≤ sizeLine)
    (hfree : ∀ x ∈ scope.names, x.2 ≠ .free) (hcell : ∀ x ∈ scope.names, x.2 ≠ .cell) (hkind : scope.kind = .function) (hnames : ∀ x ∈ scope.names, x.2 = .local → scope.names.lookup x.1 = some .local)
    (hx : scope.names.lookup x = some .local) (hy : scope.names.lookup y = some .local) (hxy : decide ([x, y] : List Str).Nodup = true) (hdb : ([x, y] : List Str).contains ("__debug__" : Str) = false)
    (hit : ∀ Q : Value → Shared → Prop, Q (.ref ca) s → wpAny c.M A (eval iter env) Q E s)
    (helt : ∀ φ' σ' K s p t1 t2 (E' : Value → Shared → Prop) (Q' : Value → Shared → Prop) (cenv : Env), p ∈ ps → Fn cenv K [x, y] → Fm c φ' σ' K [x, y] [some (.str p.1 t1), some (.str p.2 t2)] s → (∀ v s', Fv p v → Fm c φ' σ' K [x, y] [some (.str p.1 t1), some (.str p.2 t2)] s' → Q' v s') → wpAny c.M A (eval elt cenv) Q' E' s)
    (h : ∀ D ys n' σ' s', All2 Fv ps ys → σ D = none → σ' D = some (lObj ys n') → Mod [] σ σ' → Fm c φ σ' L names vals s' → Q (.ref D) s')
    (hs : ∀ x, foldedSetIterable iter env x = pure x := by intro _; rfl) :
    wpAny c.M A (eval (.ListComp elt [⟨.Tuple [.Name x px, .Name y py] tk tp, iter, [], 0⟩] scope pos) env) Q E s := by
  have e1 : (sizeLine : Nat) = 16777216 := sizeLine_eq
  refine wpAny_ListComp hfree hkind hnames (hit _ ?_) hs
  refine F.specA (spec_pyIter B S) ?_
  intro I σ1 s hAll F
  have hI0 := hAll.1
  have e1' := hAll.2
  clear hAll
  have hI : σ1 I = some (itObj (.ref ca) 0) := by rw [e1']; exact upd_same ..
  have m1 : Mod [] σ σ1 := by rw [e1']; exact Mod.new hI0
  clear e1'
  refine F.specA (spec_list B (by size_fits)) ?_
  intro D σ2 s hAll F
  have hD0 := hAll.1
  have hD := hAll.2.1
  have m2 := hAll.2.2
  clear hAll
  obtain ⟨φ', K, back⟩ := F.opened
  refine wpAny_newFunctionEnv hcell (by intro y hy; simp at hy) (fun h' hns hsb => ?_) hkind
  have keep : ∀ b o, s.heap.get? b = some o → h'.get? b = some o := fun b o e => hsb.extBut b o (Nat.ne_of_lt (Heap.lt_size e)) (Heap.get?_push_of_some _ e)
  have K1 : Ok c φ' σ2 { s with heap := h', toks := s.toks + ([] : List (Str × Value)).length } := K.grow keep rfl rfl
  have nσ : ∀ σ' : Hp, σ' = σ2 → σ' s.heap.objs.size = none := fun σ' e => by
    subst e
    cases z : σ' s.heap.objs.size with
    | none => rfl
    | some x => exact absurd (Heap.lt_size (K.own _ _ z)) (Nat.lt_irrefl _)
  have nφ : φ' s.heap.objs.size = none := by
    cases z : φ' s.heap.objs.size with
    | none => rfl
    | some x => exact absurd (Heap.lt_size (K.fr _ _ z)) (Nat.lt_irrefl _)
  have FC : Fm c φ' σ2 s.heap.objs.size [x, y] [none, none] { s with heap := h', toks := s.toks + ([] : List (Str × Value)).length } := by
    refine ⟨K1, ?_, nσ _ rfl, nφ, K.ge B⟩
    obtain ⟨o, es, ep, a1, a2, a3, a4⟩ := hns
    refine ⟨o, es, ep, a1, a2, a3, fun z => (a4 z).trans ?_⟩
    simp only [vmap, List.reverse_nil, List.lookup_nil]
    split <;> (try split) <;> rfl
  have NC : Fn { newEnv scope s.heap.objs.size env.globals [] env.qual none .none (some env) 0 with scope := scope } s.heap.objs.size [x, y] :=
    ⟨hkind, rfl, of_decide_eq_true hxy, fun z hz => by
      simp only [List.mem_cons, List.not_mem_nil, or_false] at hz
      rcases hz with rfl | rfl
      · exact hx
      · exact hy, N.gl, N.bi, fun q => by rw [List.contains_iff_mem.mpr q] at hdb; cases hdb⟩
  generalize hC : s.heap.objs.size = CC at hns hsb nσ nφ FC NC ⊢
  generalize hE : ({ newEnv scope CC env.globals [] env.qual none .none (some env) 0 with scope := scope } : Env) = cenv at NC ⊢
  have S2 := (S.mod0 m1).mod0 m2
  have C2 := (C.mod m1 (by simp)).mod m2 (by simp)
  have hI2 := m2.get hI
  have hDI : D ≠ I := fun e => by rw [e, hI] at hD0; cases hD0
  have hDca : ca ≠ D := fun e => by
    have := (S.mod0 m1).at_
    rw [e, hD0] at this; cases this
  have hIca : ca ≠ I := fun e => by
    have := S.at_
    rw [e, hI0] at this; cases this
  have loop : codeAny c.M A (.compLoop (.ListComp elt [⟨.Tuple [.Name x px, .Name y py] tk tp, iter, [], 0⟩] scope pos) 0 (.ref I) (.ref D) cenv)
      (fun r s' => ∃ m, s'.heap.Ns CC m ∧ ∀ h', Heap.SameBut CC s'.heap h' → match r with | .ok _ => Q (.ref D) { s' with heap := h' } | .error x => wpAny c.M A (passOn "comprehension.variables-let-go" x cenv) Q E { s' with heap := h' }) { s with heap := h', toks := s.toks + ([] : List (Str × Value)).length } := by
    refine lc_for (σ2 := σ2) (I := I) (D := D) (ca := ca) (nx := x) (ny := y) (ps := ps) (Fv := Fv) (φ' := φ') (CC := CC) ?_ ⟨σ2, [], 0, none, none, .nil, hI2, hD, Mod.refl, FC⟩
    intro i σ' ys n' v1 v2 s' E' hi hys hIi hDi m3 F
    have S3 := S2.mod m3 (by simp [hIca, hDca])
    by_cases hlt : i < ps.length
    · obtain ⟨p, hp⟩ : ∃ p, ps[i]? = some p := ⟨_, List.getElem?_eq_getElem hlt⟩
      obtain ⟨v, hv, b, nb, t1, t2, rfl, hb⟩ := C.at hp
      have hb2 : σ2 b = some (lObj [.str p.1 t1, .str p.2 t2] nb) := m2.get (m1.get hb)
      have hbI : b ≠ I := fun e => by rw [e, hI0] at hb; cases hb
      have hbD : b ≠ D := fun e => by have := m1.get hb; rw [e, hD0] at this; cases this
      refine F.spec (next_list B S3 hIi (by rw [C.len]; exact hlt)) ?_
      rintro _ σ4 s ⟨v', rfl, hv', hI4, m4⟩ F
      rw [hv] at hv'
      cases hv'
      dsimp only
      have hb4 := m4 b _ (by simpa using hbI) (m3 b _ (by simp [hbI, hbD]) hb2)
      have hD4 := m4 D _ (by simpa using hDI) hDi
      refine wpAny_letOwnedTupleGo_listiter (l := ca) (i := i + 1) ⟨_, F.ok.own _ _ hI4, rfl, rfl⟩ ?_
      refine r_asgL2 B hh NC F (i := 0) (j := 1) hb4 rfl rfl rfl rfl ?_
      intro σ5 s m5 F
      refine helt φ' σ5 CC s p t1 t2 _ _ _ (List.mem_of_getElem? hp) NC F ?_
      intro w s hw F
      have S5 := sq_of (m5.get hD4)
      have hyl : ys.length = i := by have := hys.len; rw [List.length_take] at this; omega
      refine F.specN (spec_app B S5 (by rw [hyl]; omega)) ?_
      intro n6 σ6 s hAll F
      have S6 := hAll.1
      have m6 := hAll.2
      clear hAll
      refine ⟨hlt, σ6, ys ++ [w], n6, _, _, ?_, m6 I _ (by simpa using Ne.symm hDI) (m5.get hI4), S6.lobj, ((m3.trans (m4.sub (by simp))).trans m5.to).trans (m6.sub (by simp)), F⟩
      rw [List.take_add_one, hp]
      exact hys.snoc hw
    · have hin : i = ps.length := by omega
      subst hin
      refine F.spec (stop_list B hh S3 (by rw [C.len]; exact hIi)) ?_
      rintro _ σ4 s ⟨rfl, m4⟩ F
      dsimp only
      rw [List.take_length] at hys
      have hD4 := m4 D _ (by simpa using hDI) hDi
      refine ⟨_, F.ns, fun h'' hsb'' => ?_⟩
      have K5 : Ok c φ' σ4 { s with heap := h'' } := by
        have K := F.ok
        have n225 : ∀ b o, c.h.get? b = some o → b ≠ CC := fun b o e => Nat.ne_of_lt (Nat.lt_of_lt_of_le (Heap.lt_size e) (Nat.le_trans B.sz F.hi))
        refine ⟨fun b o a n => (hsb''.2 b (n225 b o a)).trans (K.old b o a n), fun b o a => (hsb''.2 b ?_).trans (K.fr b o a), fun b o a => (hsb''.2 b ?_).trans (K.own b o a), K.dj, K.newσ, K.newφ, fun P hP => ?_, K.gens, K.os⟩
        · intro q; rw [q, F.outφ] at a; cases a
        · intro q; rw [q, F.outσ] at a; cases a
        · obtain ⟨ps, h1, h2⟩ := K.tab P hP
          exact ⟨ps, (hsb''.2 P (Nat.ne_of_lt (Nat.lt_of_lt_of_le (tab_lt hP) F.hi))).trans h1, h2⟩
      refine h D ys n' σ4 _ hys (m1.fresh hD0) hD4 ?_ (back _ _ K5)
      have fD : σ D = none := m1.fresh hD0
      intro b o hb e
      refine m4 b o ?_ (m3 b o ?_ (m2.get (m1.get e)))
      · simp only [List.mem_singleton]; intro q; rw [q, hI0] at e; cases e
      · simp only [List.mem_cons, List.not_mem_nil, or_false, not_or]
        exact ⟨fun q => (by rw [q, hI0] at e; cases e), fun q => (by rw [q, fD] at e; cases e)⟩
  subst hE
  exact codeAny_compStart_list loop (wpAny_pyIter_listiter (l := ca) (i := 0) ⟨_, FC.ok.own _ _ hI2, rfl, rfl⟩ loop)


def lawMod : Value := .str (Str.ofString "law_dr0014_01") 533
abbrev fdT (i : Nat) (q : Str) (cd : Addr) : FuncData := fdOf (topS i) q [] .none lawMod (.ref cd) .none
abbrev ltFd : FuncData := fdT 9 (Str.ofString "_law_text") 208
theorem lt_fn (L : Addr) : Fn (callEnv ltFd L 209) L ["chunks"] := fn_of rfl (by decide +kernel) (by kernel_rfl) rfl rfl (by decide +kernel)
theorem all2_strs {ps : List (Str × Str)} {ys : List Value} (h : All2 (fun p v => ∃ t, v = .str (pcat p) t) ps ys) : ∃ l, ys = strValues l ∧ l.map (·.1) = ps.map pcat := by
  induction h with
  | nil => exact ⟨[], rfl, rfl⟩
  | cons a _ ih =>
    obtain ⟨t, rfl⟩ := a
    obtain ⟨l, rfl, h2⟩ := ih
    exact ⟨(pcat _, t) :: l, rfl, by simp [h2]⟩
theorem lt_spec {c : Cx} (B : Bs c) {A : Around} {σ : Hp} {ca : Addr} {vs : List Value} {n : Nat} {ps : List (Str × Str)} (R : Rm A 20) (S : Sq σ ca (.type "list") none vs n) (C : CIt σ vs ps) (hz : Sm ps) :
    Spec c A σ (call (.ref 209) [.ref ca]) (fun v σ' => IsS v (acat ps) ∧ Mod [] σ σ') := by
  have e1 : (sizeLine : Nat) = 16777216 := sizeLine_eq
  have hzn := hz.n
  have hzl := hz.l
  refine spec_call (cspec_fn B R ["chunks"] [.ref ca] [] (names := ["chunks"]) (fd := ltFd) (body := bodyS (topS 9)) (by kernel_rfl) (by kernel_rfl) rfl (fun _ _ _ => BindsTo.of_eq (by kernel_rfl)) (by kernel_rfl) (by kernel_rfl) (by decide +kernel) ?_)
  intro φ L s Q E F k
  have N := lt_fn L
  refine wpAny_execs_cons ?_
  refine wpAny_Return_some ?_
  refine r_method ?_
  refine F.specT spec_const_str ?_
  intro t1 s F
  intro pl
  refine GM.join ?_
  refine r_callW (kpr_builtin _) ?_
  refine r_arg ?_
  refine r_lc (Fv := fun p v => ∃ t, v = .str (pcat p) t) B R.hd N F S C (by omega) (by decide +kernel) (by decide +kernel) rfl (by decide +kernel) (by kernel_rfl) (by kernel_rfl) (by decide +kernel) (by decide +kernel) ?_ ?_ ?_
  · intro Q q
    exact r_ld N F 0 rfl rfl q
  · intro φ' σ' K s p t1 t2 E' Q' cenv hp NC F q
    have := alen_mem hp
    unfold plen at this
    refine wpAny_BinOp ?_
    refine r_ld NC F 0 rfl rfl ?_
    refine r_ld NC F 1 rfl rfl ?_
    refine F.specT (spec_add_str (by omega)) ?_
    intro t3 s F
    exact q _ _ ⟨t3, rfl⟩ F
  · intro D ys n' σ1 s hys hD0 hD m1 F
    refine r_args0 ?_
    refine ⟨F.ok.kx B, ?_⟩
    obtain ⟨l, rfl, hl⟩ := all2_strs hys
    refine F.spec (spec_joinL (ys := ps.map pcat) ⟨l, n', sq_of hD, hl⟩ (joinOk_of ?_)) ?_
    · have : (ps.map pcat).map (·.length) = ps.map plen := by rw [List.map_map]; exact List.map_congr_left fun p _ => pcat_length p
      rw [this]
      show alen ps + _ * 0 ≤ _
      omega
    rintro _ _ s ⟨h, rfl⟩ F
    exact k _ _ _ ⟨h, m1⟩ F.ok

/-- the law's own blocks -/
def cutB (ch : Nat) (ps : List (Str × Str)) (k : Nat) : Bool := decide (k = 0) || ((ps[k]?.any fun p => p.1.cps[0]? == some ch) || (ps[k - 1]?.any fun p => p.2.cps.back? == some ch))
def addLast (acc : List Str) (x : Str) : List Str := match acc.getLast? with
  | none => [x]
  | some y => acc.dropLast ++ [y ++ x]
def lbF (ch : Nat) (ps : List (Str × Str)) : Nat → List Str
  | 0 => []
  | k + 1 => match ps[k]? with
    | none => lbF ch ps k
    | some p => if cutB ch ps k then lbF ch ps k ++ [pcat p] else addLast (lbF ch ps k) (pcat p)
theorem addLast_len {acc : List Str} {x : Str} (h : acc ≠ []) : (addLast acc x).length = acc.length := by
  rcases List.eq_nil_or_concat acc with e | ⟨ys, y, e⟩
  · exact absurd e h
  · rw [List.concat_eq_append] at e
    subst e
    simp [addLast]
theorem lbF_len (ch : Nat) (ps : List (Str × Str)) : ∀ k, (lbF ch ps k).length ≤ k ∧ (0 < k → k ≤ ps.length → lbF ch ps k ≠ [])
  | 0 => ⟨Nat.le_refl _, fun h => absurd h (by omega)⟩
  | k + 1 => by
    have ih := lbF_len ch ps k
    unfold lbF
    split
    · rename_i h
      refine ⟨by omega, fun _ hk => ?_⟩
      rw [List.getElem?_eq_none_iff] at h; omega
    · rename_i p hp
      split
      · exact ⟨by simp; omega, fun _ _ => by simp⟩
      · rename_i h
        have hk0 : 0 < k := by
          rcases Nat.eq_zero_or_pos k with e | e
          · subst e; simp [cutB] at h
          · exact e
        have hkp : k ≤ ps.length := by
          have := (List.getElem?_eq_some_iff.mp hp).1
          omega
        have hne := ih.2 hk0 hkp
        refine ⟨by rw [addLast_len hne]; omega, fun _ _ e => ?_⟩
        have := addLast_len (x := pcat p) hne
        rw [e] at this
        exact hne (List.length_eq_zero_iff.mp this.symm)
theorem le_sum : ∀ {l : List Nat} {x : Nat}, x ∈ l → x ≤ l.sum
  | [], _, h => nomatch h
  | y :: l, x, h => by
    rcases List.mem_cons.mp h with rfl | h
    · simp
    · have := le_sum h; simp; omega
theorem sum_app (x y : List Nat) : (x ++ y).sum = x.sum + y.sum := List.sum_append
theorem lbF_sum (ch : Nat) (ps : List (Str × Str)) : ∀ k, ((lbF ch ps k).map (·.length)).sum ≤ alen (ps.take k)
  | 0 => Nat.le_refl _
  | k + 1 => by
    have ih := lbF_sum ch ps k
    unfold lbF
    split
    · rename_i h
      rw [List.take_add_one, h]
      simpa using ih
    · rename_i p hp
      have e : alen (ps.take (k + 1)) = alen (ps.take k) + plen p := by
        rw [List.take_add_one, hp, alen_app]
        simp [alen]
      split
      · rw [List.map_append, sum_app, e]
        simp only [List.map_cons, List.map_nil, List.sum_cons, List.sum_nil, pcat_length]
        omega
      · rw [e]
        rcases List.eq_nil_or_concat (lbF ch ps k) with h | ⟨ys, y, h⟩
        · rw [h]
          simp [addLast, pcat_length]
        · rw [List.concat_eq_append] at h
          rw [h, List.map_append, sum_app] at ih
          rw [h]
          simp only [addLast, List.getLast?_append, List.getLast?_singleton, Option.some_or, List.dropLast_concat, List.map_append, sum_app, List.map_cons, List.map_nil, List.sum_cons, List.sum_nil, app_length, pcat_length] at ih ⊢
          omega
section
variable {c : Cx} {A : Around} {σ : Hp}
theorem spec_inTup {b : Addr} {x y z : Str} {t1 t2 t : Tok} (h : σ b = some (tObj [.str x t1, .str y t2])) : Spec c A σ (compareOp .In (.str z t) (.ref b)) (fun v σ' => v = .bool (decide (x = z) || decide (y = z)) ∧ σ = σ') := by
  intro φ s Q E K q
  refine SeqAt.in_tupleAt (items := #[.str x t1, .str y t2]) (fun v => match v with | .str u _ => u == z | _ => false) ⟨_, K.own _ _ h, rfl, _, rfl⟩ ?_ ?_
  · intro v hv
    simp only [List.mem_toArray, List.mem_cons, List.not_mem_nil, or_false] at hv
    rcases hv with rfl | rfl <;> exact SeqAt.EqAt.str_str _ _ _ _
  · have e : (#[Value.str x t1, Value.str y t2].any fun v => match v with | .str u _ => u == z | _ => false) = (decide (x = z) || decide (y = z)) := by
      rw [← Array.any_toList]
      by_cases h1 : x = z <;> by_cases h2 : y = z <;> simp [h1, h2]
    exact q _ _ _ ⟨by rw [← e], rfl⟩ K
abbrev lbFd : FuncData := fdT 10 (Str.ofString "_law_blocks") 215
def lbNames : List Str := ["chunks", "sign", "blocks", "k", "fws", "word"]
theorem lb_fn (L : Addr) : Fn (callEnv lbFd L 216) L lbNames := fn_of rfl (by decide +kernel) (by kernel_rfl) rfl rfl (by decide +kernel)
/-- chunks as the law holds them: behind the first none without blanks, none without letters -/
def CkOk (ps : List (Str × Str)) : Prop := (∀ p ∈ ps, p.2.length ≠ 0) ∧ (∀ p ∈ ps.tail, p.1.length ≠ 0)
theorem small_up {b : Int} (hb : 0 ≤ b) (hb' : b ≤ 100000) : Builtin.Range.small 0 b 1 = true := small_one (by omega) (by omega) (by omega) (by omega)
def lbIfS : List Stmt := match bodyS (topS 10) with | _ :: .For _ _ (_ :: .If _ a _ _ :: _) _ _ :: _ => a | _ => []
def lbElS : List Stmt := match bodyS (topS 10) with | _ :: .For _ _ (_ :: .If _ _ a _ :: _) _ _ :: _ => a | _ => []
theorem Mod.fresh' {σ σ1 : Hp} {it : Addr} (_ : Mod [] σ σ1) (h : σ it = none) : σ it = none := h
theorem lb_app (B : Bs c) {φ : Hp} {L : Addr} {s : Shared} {E : Value → Shared → Prop} {v0 v1 v3 : Option Value} {l : Addr} {f w : Str} {t2 t3 : Tok} {acc : List Str} {Q : Flow → Shared → Prop} (F : Fm c φ σ L lbNames [v0, v1, some (.ref l), v3, some (.str f t2), some (.str w t3)] s) (T : Txts σ l acc) (ha : acc.length ≤ 1000) (hw : f.length + w.length ≤ 100000)
    (k : ∀ σ' s', Txts σ' l (acc ++ [pcat (f, w)]) → Mod [l] σ σ' → Fm c φ σ' L lbNames [v0, v1, some (.ref l), v3, some (.str f t2), some (.str w t3)] s' → Q .next s') : wpAny c.M A (execs lbIfS (callEnv lbFd L 216)) Q E s := by
  have e1 : (sizeLine : Nat) = 16777216 := sizeLine_eq
  have N := lb_fn L
  refine exi2 (T) ?_
  intro us nu hAll
  have Su := hAll.1
  have hu := hAll.2
  clear hAll
  have hul : (strValues us).length = acc.length := by rw [← hu]; simp [strValues]
  refine r_seq ?_
  refine wpAny_Expr_any ?_
  refine r_method ?_
  refine r_ld N F 2 rfl rfl ?_
  intro pl
  refine F.specE (spec_lmethod Su PySem.F.slot_list_append.lookup PySem.F.type_list_append) ?_
  intro s F
  refine r_callW (kpr_builtin _) ?_
  refine r_arg ?_
  refine wpAny_BinOp ?_
  refine r_ld N F 4 rfl rfl ?_
  refine r_ld N F 5 rfl rfl ?_
  refine F.specT (spec_add_str (by omega)) ?_
  intro u1 s F
  refine r_args0 ?_
  refine ⟨F.ok.kx B, ?_⟩
  refine F.specN (spec_app B Su (by omega)) ?_
  intro n1 σ1 s hAll F
  have S1 := hAll.1
  have m1 := hAll.2
  clear hAll
  refine ⟨rfl, r_nil ?_⟩
  exact k _ _ ⟨us ++ [(f ++ w, u1)], n1, by simpa [strValues] using S1, by rw [List.map_append, hu]; rfl⟩ m1 F
theorem lb_addS (B : Bs c) {φ : Hp} {L : Addr} {s : Shared} {E : Value → Shared → Prop} {v0 v1 v3 : Option Value} {l : Addr} {f w : Str} {t2 t3 : Tok} {acc : List Str} {Q : Flow → Shared → Prop} (F : Fm c φ σ L lbNames [v0, v1, some (.ref l), v3, some (.str f t2), some (.str w t3)] s) (T : Txts σ l acc) (hne : acc ≠ []) (ha : acc.length ≤ 1000) (hal : ∀ x ∈ acc, x.length ≤ 100000) (hw : f.length + w.length ≤ 100000)
    (k : ∀ σ' s', Txts σ' l (addLast acc (pcat (f, w))) → Mod [l] σ σ' → Fm c φ σ' L lbNames [v0, v1, some (.ref l), v3, some (.str f t2), some (.str w t3)] s' → Q .next s') : wpAny c.M A (execs lbElS (callEnv lbFd L 216)) Q E s := by
  have e1 : (sizeLine : Nat) = 16777216 := sizeLine_eq
  have N := lb_fn L
  refine exi2 (T) ?_
  intro us nu hAll
  have Su := hAll.1
  have hu := hAll.2
  clear hAll
  have hul : (strValues us).length = acc.length := by rw [← hu]; simp [strValues]
  obtain ⟨us', y, ty, rfl⟩ : ∃ us' y ty, us = us' ++ [(y, ty)] := by
    rcases List.eq_nil_or_concat us with h | ⟨us', p, h⟩
    · subst h; exact absurd hu.symm hne
    · exact ⟨us', p.1, p.2, by rw [h, List.concat_eq_append]⟩
  have hacc : acc = us'.map (·.1) ++ [y] := by rw [← hu]; simp
  have hyl := hal y (by rw [hacc]; simp)
  refine r_seq ?_
  refine wpAny_AugAssign_SubscriptAny ?_
  refine r_ld N F 2 rfl rfl ?_
  refine wpAny_UnaryOp ?_
  refine F.specT spec_const_int ?_
  intro t4 s F
  refine F.specT spec_neg_int ?_
  intro t5 s F
  refine F.specE (spec_getItem B Su (spec_last B Su (v := .str y ty) (by simp [strValues]) (by omega))) ?_
  intro s F
  refine wpAny_BinOp ?_
  refine r_ld N F 4 rfl rfl ?_
  refine r_ld N F 5 rfl rfl ?_
  refine F.specT (spec_add_str (by omega)) ?_
  intro u1 s F
  refine F.specT (spec_iadd_str (by rw [app_length]; omega)) ?_
  intro u2 s F
  refine F.spec (spec_setItem B Su (spec_setLast B Su (by rw [hul, hacc]; simp) (by omega))) ?_
  rintro _ σ1 s ⟨r, rfl, S1, m1⟩ F
  refine ⟨rfl, r_nil ?_⟩
  refine k _ _ ⟨us' ++ [(y ++ (f ++ w), u2)], nu, ?_, ?_⟩ m1 F
  · have e2 := set_last (xs := strValues (us' ++ [(y, ty)])) (x := Value.str (y ++ (f ++ w)) u2) (ys := strValues us') (y := .str y ty) (by simp [strValues])
    rw [e2] at S1
    simpa [strValues] using S1
  · rw [hacc]
    simp [addLast, pcat]
def lbB : List Stmt := match bodyS (topS 10) with | _ :: .For _ _ b _ _ :: _ => b | _ => []
theorem lb_turn (B : Bs c) {φ : Hp} {L : Addr} {s : Shared} {E : Value → Shared → Prop} {ca l : Addr} {vs : List Value} {n i : Nat} {ps : List (Str × Str)} {ch : Nat} {t ti : Tok} {v4 v5 : Option Value} {Q : Flow → Shared → Prop} (hh : A.handled = none) (F : Fm c φ σ L lbNames [some (.ref ca), some (.str ⟨#[ch]⟩ t), some (.ref l), some (.int ((i : Nat) : Int) ti), v4, v5] s)
    (S4 : Sq σ ca (.type "list") none vs n) (C4 : CIt σ vs ps) (T4 : Txts σ l (lbF ch ps i)) (hz : Sm ps) (hok : CkOk ps) (hi : i < ps.length)
    (k : ∀ v4 v5 σ' s', Txts σ' l (lbF ch ps (i + 1)) → Mod [l] σ σ' → Fm c φ σ' L lbNames [some (.ref ca), some (.str ⟨#[ch]⟩ t), some (.ref l), some (.int ((i : Nat) : Int) ti), v4, v5] s' → Q .next s') : wpAny c.M A (execs lbB (callEnv lbFd L 216)) Q E s := by
  have e1 : (sizeLine : Nat) = 16777216 := sizeLine_eq
  have hzn := hz.n
  have hzl := hz.l
  have hvl := C4.len
  have N := lb_fn L
  obtain ⟨p, hp⟩ : ∃ p, ps[i]? = some p := ⟨_, List.getElem?_eq_getElem hi⟩
  obtain ⟨vv, hvv, b, nb, t2, t3, rfl, hb⟩ := C4.at hp
  have hpl := alen_mem (List.mem_of_getElem? hp)
  unfold plen at hpl
  refine r_seq ?_
  refine Assign_Tuple ?_
  refine Subscript_ ?_
  refine r_ld N F 0 rfl rfl ?_
  refine r_ld N F 3 rfl rfl ?_
  refine F.specE (spec_sub B S4 (spec_item B S4 (k := i) rfl hvv (by omega))) ?_
  intro s F
  refine r_asgL2 B hh N F (i := 4) (j := 5) hb rfl rfl rfl rfl ?_
  intro σ5 s m5 F
  refine ⟨rfl, ?_⟩
  have T5 := T4.mod m5 (by simp)
  have S5 := S4.mod0 m5
  have C5 := C4.mod m5 (by simp)
  have hlb := lbF_len ch ps i
  have hsum := lbF_sum ch ps i
  have htk : alen (ps.take i) ≤ alen ps := by
    have := alen_app (ps.take i) (ps.drop i)
    rw [List.take_append_drop] at this
    omega
  have hlen1 : ∀ x ∈ lbF ch ps i, x.length ≤ 100000 := fun x hx => by
    have : x.length ≤ ((lbF ch ps i).map (·.length)).sum := le_sum (List.mem_map.mpr ⟨x, hx, rfl⟩)
    omega
  have hm : ∀ {σ6 : Hp}, Mod [l] σ5 σ6 → Mod [l] σ σ6 := fun m6 => m5.to.trans m6
  have yes : ∀ s (Q' : Flow → Shared → Prop), cutB ch ps i = true → Fm c φ σ5 L lbNames [some (.ref ca), some (.str ⟨#[ch]⟩ t), some (.ref l), some (.int ((i : Nat) : Int) ti), some (.str p.1 t2), some (.str p.2 t3)] s → (∀ s, Q .next s → Q' .next s) → wpAny c.M A (execs lbIfS (callEnv lbFd L 216)) Q' E s := by
    intro s Q' hc F hQ
    refine lb_app B F T5 (by omega) (by omega) ?_
    intro σ6 s6 T6 m6 F6
    refine hQ s6 (k _ _ σ6 s6 ?_ (hm m6) F6)
    unfold lbF
    rw [hp]
    dsimp only
    rw [if_pos hc]
    exact T6
  have no : ∀ s (Q' : Flow → Shared → Prop), cutB ch ps i = false → Fm c φ σ5 L lbNames [some (.ref ca), some (.str ⟨#[ch]⟩ t), some (.ref l), some (.int ((i : Nat) : Int) ti), some (.str p.1 t2), some (.str p.2 t3)] s → (∀ s, Q .next s → Q' .next s) → wpAny c.M A (execs lbElS (callEnv lbFd L 216)) Q' E s := by
    intro s Q' hc F hQ
    have hi0 : 0 < i := by
      rcases Nat.eq_zero_or_pos i with e | e
      · subst e; simp [cutB] at hc
      · exact e
    refine lb_addS B F T5 (hlb.2 hi0 (by omega)) (by omega) hlen1 (by omega) ?_
    intro σ6 s6 T6 m6 F6
    refine hQ s6 (k _ _ σ6 s6 ?_ (hm m6) F6)
    unfold lbF
    rw [hp]
    dsimp only
    rw [if_neg (by rw [hc]; decide)]
    exact T6
  refine r_seq ?_
  refine wpAny_If ?_
  refine wpAny_isTrue_BoolOp ?_
  refine wpAny_allTrue_Or_cons ?_
  refine wpAny_isTrue_Compare1 ?_
  refine r_ld N F 3 rfl rfl ?_
  refine F.specT spec_const_int ?_
  intro t6 s F
  refine F.specV spec_eq_int ?_
  intro s F
  refine F.specV spec_truthy_bool ?_
  intro s F
  by_cases hi0 : i = 0
  · rw [if_pos (by simpa using hi0), if_pos rfl]
    exact yes s _ (by simp [cutB, hi0]) F fun s h => ⟨rfl, r_nil h⟩
  · rw [if_neg (by simp; omega)]
    obtain ⟨p0, hp0⟩ : ∃ p, ps[i - 1]? = some p := ⟨_, List.getElem?_eq_getElem (by omega)⟩
    obtain ⟨vv0, hvv0, b0, nb0, t7, t8, rfl, hb0⟩ := C5.at hp0
    have hf : p.1.length ≠ 0 := hok.2 p (by
      have : ps.tail[i - 1]? = some p := by rw [List.getElem?_tail, show i - 1 + 1 = i by omega]; exact hp
      exact List.mem_of_getElem? this)
    have hw : p0.2.length ≠ 0 := hok.1 p0 (List.mem_of_getElem? hp0)
    obtain ⟨kf, hkf1, hkf2⟩ := first_index hf
    obtain ⟨kb, hkb1, hkb2⟩ := back_index hw
    refine wpAny_allTrue_Or_cons ?_
    refine wpAny_isTrue_Compare1 ?_
    refine r_ld N F 1 rfl rfl ?_
    refine r_tuple ?_
    refine r_arg ?_
    refine Subscript_ ?_
    refine r_ld N F 4 rfl rfl ?_
    refine F.specT spec_const_int ?_
    intro u1 s F
    refine F.specT (spec_strItem (k := kf) (by decide) hkf2) ?_
    intro u2 s F
    refine r_arg ?_
    refine Subscript_ ?_
    refine Subscript_ ?_
    refine Subscript_ ?_
    refine r_ld N F 0 rfl rfl ?_
    refine wpAny_BinOp ?_
    refine r_ld N F 3 rfl rfl ?_
    refine F.specT spec_const_int ?_
    intro u3 s F
    refine F.specT spec_sub_int ?_
    intro u4 s F
    refine F.specE (spec_sub B S5 (spec_item B S5 (k := i - 1) (by show ((i : Nat) : Int) - 1 = ((i - 1 : Nat) : Int); omega) hvv0 (by omega))) ?_
    intro s F
    refine F.specT spec_const_int ?_
    intro u5 s F
    refine F.specE (spec_sub B (sq_of hb0) (spec_item B (sq_of hb0) (k := 1) rfl rfl (by rw [e1]; show 2 ≤ _; omega))) ?_
    intro s F
    refine wpAny_UnaryOp ?_
    refine F.specT spec_const_int ?_
    intro u6 s F
    refine F.specT spec_neg_int ?_
    intro u7 s F
    refine F.specT (spec_strItem (k := kb) (by decide) hkb2) ?_
    intro u8 s F
    refine r_args0 ?_
    refine F.specA (spec_tup B (by size_fits)) ?_
    intro tt σ7 s hAll F
    have htt := hAll.2.1
    have m7 := hAll.2.2
    clear hAll
    refine F.specV (spec_inTup htt) ?_
    intro s F
    refine F.specV spec_truthy_bool ?_
    intro s F
    have F' := F.sub (fun b o e => m7.get e)
    have hcut : cutB ch ps i = (decide ((⟨#[kf]⟩ : Str) = ⟨#[ch]⟩) || decide ((⟨#[kb]⟩ : Str) = ⟨#[ch]⟩)) := by
      unfold cutB
      rw [hp, hp0, str_one, str_one, ← hkf1, ← hkb1]
      simp [hi0]
    rw [← hcut]
    cases hc : cutB ch ps i with
    | true =>
      rw [if_pos rfl, if_pos rfl]
      exact yes s _ hc F' fun s h => ⟨rfl, r_nil h⟩
    | false =>
      rw [if_neg (by decide)]
      refine wpAny_allTrue_Or_nil ?_
      rw [if_neg (by decide)]
      exact no s _ hc F' fun s h => ⟨rfl, r_nil h⟩
theorem lb_spec (B : Bs c) {ca : Addr} {vs : List Value} {n : Nat} {ps : List (Str × Str)} {ch : Nat} {t : Tok} (R : Rm A 20) (S : Sq σ ca (.type "list") none vs n) (C : CIt σ vs ps) (hz : Sm ps) (hok : CkOk ps) :
    Spec c A σ (call (.ref 216) [.ref ca, .str ⟨#[ch]⟩ t]) (fun v σ' => ∃ l, v = .ref l ∧ σ l = none ∧ Txts σ' l (lbF ch ps ps.length) ∧ Mod [] σ σ') := by
  have e1 : (sizeLine : Nat) = 16777216 := sizeLine_eq
  have hzn := hz.n
  have hzl := hz.l
  have hvl := C.len
  refine spec_call (cspec_fn B R ["chunks", "sign"] [.ref ca, .str ⟨#[ch]⟩ t] ["blocks", "k", "fws", "word"] (names := lbNames) (vals := [some (.ref ca), some (.str ⟨#[ch]⟩ t), none, none, none, none]) (fd := lbFd) (body := bodyS (topS 10)) (by kernel_rfl) (by kernel_rfl) rfl (fun _ _ _ => BindsTo.of_eq (by kernel_rfl)) (by kernel_rfl) (by kernel_rfl) (by decide +kernel) ?_)
  intro φ L s Q E F k
  have N := lb_fn L
  have hh : (A.deeper (callEnv lbFd L 216)).handled = none := R.hd
  refine r_seq ?_
  refine wpAny_Assign_Name ?_
  refine r_list ?_
  refine r_args0 ?_
  refine F.specA (spec_list B (by size_fits)) ?_
  intro l σ1 s hAll F
  have hl0 := hAll.1
  have hl := hAll.2.1
  have m1 := hAll.2.2
  clear hAll
  refine r_st N F 2 rfl rfl B.sz ?_
  intro s F
  refine ⟨rfl, ?_⟩
  have S1 := S.mod0 m1
  have hlca : ca ≠ l := fun e => by have := S.at_; rw [e, hl0] at this; cases this
  refine r_seq ?_
  refine wpAny_For ?_
  refine r_callN ?_
  refine r_bi B N F (range_bi _) range_boot ?_
  refine r_callW (kpr_type _) ?_
  refine r_arg ?_
  refine r_callN ?_
  refine r_bi B N F (len_bi _) len_boot ?_
  refine r_callW (kpr_builtin _) ?_
  refine r_arg ?_
  refine r_ld N F 0 rfl rfl ?_
  refine r_args0 ?_
  refine ⟨F.ok.kx B, ?_⟩
  refine F.specT (spec_lenL S1 (by omega)) ?_
  intro t1 s F
  refine r_args0 ?_
  refine ⟨F.ok.kx B, ?_⟩
  refine F.specR4 (spec_range1 B) ?_
  intro rg w1 w2 w3 σ2 s hAll F
  have hrg0 := hAll.1
  have hrg := hAll.2.1
  have m2 := hAll.2.2
  clear hAll
  refine F.specA (spec_iterR B hrg (small_up (by omega) (by omega))) ?_
  intro it σ3 s hAll F
  have hit0 := hAll.1
  have hit := hAll.2.1
  have m3 := hAll.2.2
  clear hAll
  have m13 : Mod [] σ1 σ3 := m2.trans m3
  have hit1 : σ1 it = none := m2.fresh hit0
  have hitσ : σ it = none := m1.fresh hit1
  have hlit : l ≠ it := fun e => by rw [e, hit1] at hl; cases hl
  have hsz : Builtin.Range.rangeSize 0 (vs.length : Int) 1 = ((ps.length : Nat) : Int) := by rw [rangeSize_one, hvl]; split <;> omega
  rw [hsz] at hit
  refine r_forG ps.length
    (fun i σ' vals' => σ' it = some (riObj (0 + (i : Nat) * 1) (((ps.length : Nat) : Int) - (i : Nat)) 1) ∧ Mod [] σ σ' ∧ Txts σ' l (lbF ch ps i) ∧ (∃ v3 v4 v5, vals' = [some (.ref ca), some (.str ⟨#[ch]⟩ t), some (.ref l), v3, v4, v5]))
    (RNX it 0 ps.length 1) (fun σ σ' => Mod [it] σ σ') ?_ ?_ ?_ ?_ ?_ F
  · rintro i σ' vals' hi ⟨h1, _⟩
    exact next_range B h1 hi
  · rintro σ' vals' ⟨h1, _⟩
    exact stop_range B hh h1
  · intro i σ' vals' v σ4 s' E' hi hJ hN F
    have h1 := hJ.1
    have h2 := hJ.2.1
    have h3 := hJ.2.2.1
    have hv0 := hN.1
    have h5 := hN.2.1
    have h6 := hN.2.2
    have hx0 := hJ.2.2.2
    clear hJ hN
    refine exi3 hx0 ?_
    intro v3 v4 v5 hy0
    clear hx0
    subst hy0
    obtain ⟨ti, rfl⟩ := hv0
    have ei : (0 : Int) + (i : Nat) * 1 = ((i : Nat) : Int) := by omega
    have m4 := h2.skip h6 hitσ
    have T4 := h3.mod h6 (by simpa using hlit)
    have S4 := S.mod0 m4
    have C4 := C.mod m4 (by simp)
    refine wpAny_assign_Name ?_
    refine r_st N F 3 rfl rfl B.sz ?_
    intro s F
    rw [ei] at F
    refine lb_turn B hh F S4 C4 T4 hz hok hi ?_
    intro v4 v5 σ6 s6 T6 m6 F6
    exact ⟨σ6, _, ⟨m6 it _ (by simp only [List.mem_singleton]; exact Ne.symm hlit) h5, m4.skip m6 (m1.fresh' hl0), T6, ⟨_, _, _, rfl⟩⟩, F6⟩
  · intro σ' vals' σ4 s' E' hJ h4 F
    have h1 := hJ.1
    have h2 := hJ.2.1
    have h3 := hJ.2.2.1
    have hx0 := hJ.2.2.2
    clear hJ
    refine exi3 hx0 ?_
    intro v3 v4 v5 hy0
    clear hx0
    subst hy0
    refine r_nil ⟨rfl, ?_⟩
    refine wpAny_execs_cons ?_
    refine wpAny_Return_some ?_
    refine r_ld N F 2 rfl rfl ?_
    exact k _ _ _ ⟨l, rfl, hl0, h3.mod h4 (by simpa using hlit), h2.skip h4 hitσ⟩ F.ok
  · exact ⟨by simpa using hit, m1.trans m13, ⟨[], 0, ⟨m13.get hl, .list⟩, rfl⟩, ⟨_, _, _, rfl⟩⟩
end


/-- a list of ints -/
def intVals (us : List (Int × Tok)) : List Value := us.map fun p => .int p.1 p.2
def Ints (σ : Hp) (l : Addr) (ns : List Int) : Prop := ∃ us n, Sq σ l (.type "list") none (intVals us) n ∧ us.map (·.1) = ns
theorem Ints.mod {M : List Addr} {σ σ' : Hp} {l : Addr} {ys : List Int} (x : Ints σ l ys) (m : Mod M σ σ') (h : l ∉ M) : Ints σ' l ys := let ⟨vs, n, S, e⟩ := x; ⟨vs, n, S.mod m h, e⟩
theorem ivl {us : List (Int × Tok)} : (intVals us).length = us.length := by simp [intVals]

section
variable {c : Cx} {A : Around} {σ : Hp}
theorem spec_addL (B : Bs c) {l b : Addr} {xs ys : List Value} {n m : Nat} (S : Sq σ l (.type "list") none xs n) (T : Sq σ b (.type "list") none ys m) (hz : xs.length + ys.length ≤ sizeLine) : Spec c A σ (binaryOp .Add (.ref l) (.ref b)) (fun v σ' => ∃ r, v = .ref r ∧ σ r = none ∧ σ' r = some (lObj (xs ++ ys)) ∧ Mod [] σ σ') := by
  intro φ s Q E K q
  have K' := K.new B (o := lObj (xs ++ ys)) rfl
  refine P.add_list (items := xs.toArray) (items2 := ys.toArray) (K.own _ _ S.at_) (K.own _ _ T.at_) ?_ (by simpa using hz)
  rw [List.append_toArray]
  exact q _ _ _ ⟨_, rfl, K'.1, upd_same .., Mod.new K'.1⟩ K'.2
theorem spec_mulS {x : Str} {n : Int} {t u : Tok} (hok : MulOk x n) : Spec c A σ (binaryOp .Mult (.str x t) (.int n u)) (fun v σ' => IsS v (Txt.mul x n) ∧ σ = σ') := by
  intro φ s Q E K q
  exact SB.mul hok fun t' k => q _ _ _ ⟨⟨_, rfl⟩, rfl⟩ (K.toks k)
theorem eqlist {us vs : List (Str × Tok)} (hl : us.length = vs.length) : (List.range (strValues us).toArray.size).all (fun j => (us[j]?.map (·.1)) == (vs[j]?.map (·.1))) = decide (us.map (·.1) = vs.map (·.1)) := by
  rw [List.size_toArray]
  rw [Bool.eq_iff_iff, List.all_eq_true, decide_eq_true_iff]
  constructor
  · intro h
    refine List.ext_getElem? fun i => ?_
    rw [List.getElem?_map, List.getElem?_map]
    by_cases hi : i < us.length
    · have := h i (by simpa [strValues] using hi)
      simpa using this
    · rw [List.getElem?_eq_none (by omega), List.getElem?_eq_none (by omega)]
  · intro h j hj
    have := congrArg (fun l : List Str => l[j]?) h
    simp only [List.getElem?_map] at this
    simpa using this
theorem spec_neTxts {l b : Addr} {xs ys : List Str} {k : Nat} (R : Rm A k) (S : Txts σ l xs) (T : Txts σ b ys) : Spec c A σ (compareOp .NotEq (.ref l) (.ref b)) (fun v σ' => v = .bool (decide (xs ≠ ys)) ∧ σ = σ') := by
  intro φ s Q E K q
  obtain ⟨us, n, S, rfl⟩ := S
  obtain ⟨vs, m, T, rfl⟩ := T
  by_cases hl : us.length = vs.length
  · have H := SeqAt.RcNeAt.lists (A := A) (s := s) (e := fun j => (us[j]?.map (·.1)) == (vs[j]?.map (·.1))) (S.isL K) (T.isL K) (by simpa [strValues] using hl) R.units (by
      intro j h1 h2
      have h1' : j < us.length := by simpa [strValues] using h1
      have h2' : j < vs.length := by simpa [strValues] using h2
      have := SeqAt.EqAt.str_str (A := A.in1) (s := s) us[j].1 us[j].2 vs[j].1 vs[j].2
      simpa [strValues, h1', h2'] using this)
    refine cmp_ofNotEq (H PR c.w E Q (q _ σ _ ⟨?_, rfl⟩ K))
    rw [eqlist hl]
    congr 1
    by_cases h : us.map (·.1) = vs.map (·.1) <;> simp [h]
  · have H := SeqAt.RcNeAt.lists_lengths (A := A) (s := s) (S.isL K) (T.isL K) (by simpa [strValues] using hl) R.units
    refine cmp_ofNotEq (H PR c.w E Q (q _ σ _ ⟨?_, rfl⟩ K))
    have : us.map (·.1) ≠ vs.map (·.1) := fun e => hl (by simpa using congrArg List.length e)
    simp [this]
theorem spec_eqTxts {l b : Addr} {xs ys : List Str} {k : Nat} (R : Rm A k) (S : Txts σ l xs) (T : Txts σ b ys) : Spec c A σ (compareOp .Eq (.ref l) (.ref b)) (fun v σ' => v = .bool (decide (xs = ys)) ∧ σ = σ') := by
  intro φ s Q E K q
  obtain ⟨us, n, S, rfl⟩ := S
  obtain ⟨vs, m, T, rfl⟩ := T
  by_cases hl : us.length = vs.length
  · have H := SeqAt.RcAt.lists (A := A) (s := s) (e := fun j => (us[j]?.map (·.1)) == (vs[j]?.map (·.1))) (S.isL K) (T.isL K) (by simpa [strValues] using hl) R.units (by
      intro j h1 h2
      have h1' : j < us.length := by simpa [strValues] using h1
      have h2' : j < vs.length := by simpa [strValues] using h2
      have := SeqAt.EqAt.str_str (A := A.in1) (s := s) us[j].1 us[j].2 vs[j].1 vs[j].2
      simpa [strValues, h1', h2'] using this)
    refine cmp_ofEq (H PR c.w E Q (q _ σ _ ⟨?_, rfl⟩ K))
    rw [eqlist hl]
  · have H := SeqAt.RcAt.lists_lengths (A := A) (s := s) (S.isL K) (T.isL K) (by simpa [strValues] using hl) R.units
    refine cmp_ofEq (H PR c.w E Q (q _ σ _ ⟨?_, rfl⟩ K))
    have : us.map (·.1) ≠ vs.map (·.1) := fun e => hl (by simpa using congrArg List.length e)
    simp [this]
/-- chunks against [] -/
theorem spec_neNil {l b : Addr} {xs : List Value} {n m k : Nat} (R : Rm A k) (S : Sq σ l (.type "list") none xs n) (T : Sq σ b (.type "list") none [] m) : Spec c A σ (compareOp .NotEq (.ref l) (.ref b)) (fun v σ' => v = .bool (decide (xs ≠ [])) ∧ σ = σ') := by
  intro φ s Q E K q
  by_cases hl : xs = []
  · subst hl
    have H := SeqAt.RcNeAt.lists (A := A) (s := s) (e := fun _ => true) (S.isL K) (T.isL K) rfl R.units (by intro j h1; simp at h1)
    exact cmp_ofNotEq (H PR c.w E Q (q _ σ _ ⟨rfl, rfl⟩ K))
  · have H := SeqAt.RcNeAt.lists_lengths (A := A) (s := s) (S.isL K) (T.isL K) (by simpa using hl) R.units
    exact cmp_ofNotEq (H PR c.w E Q (q _ σ _ ⟨by simp [hl], rfl⟩ K))
theorem spec_eqNil {l b : Addr} {xs : List Value} {n m k : Nat} (R : Rm A k) (S : Sq σ l (.type "list") none xs n) (T : Sq σ b (.type "list") none [] m) : Spec c A σ (compareOp .Eq (.ref l) (.ref b)) (fun v σ' => v = .bool (decide (xs = [])) ∧ σ = σ') := by
  intro φ s Q E K q
  by_cases hl : xs = []
  · subst hl
    have H := SeqAt.RcAt.lists (A := A) (s := s) (e := fun _ => true) (S.isL K) (T.isL K) rfl R.units (by intro j h1; simp at h1)
    exact cmp_ofEq (H PR c.w E Q (q _ σ _ ⟨rfl, rfl⟩ K))
  · have H := SeqAt.RcAt.lists_lengths (A := A) (s := s) (S.isL K) (T.isL K) (by simpa using hl) R.units
    exact cmp_ofEq (H PR c.w E Q (q _ σ _ ⟨by simp [hl], rfl⟩ K))
end


abbrev lwFd : FuncData := fdT 11 (Str.ofString "law") 222
def lwNames : List Str := ["script", "first", "width", "sign", "head", "chunks", "k", "a", "b", "plain", "formatter", "told", "rows", "blocks", "fit", "room", "row", "start", "ends", "block", "least", "ways", "j"]
theorem lw_fn (L : Addr) : Fn (callEnv lwFd L 223) L lwNames := fn_of rfl (by decide +kernel) (by kernel_rfl) rfl rfl (by decide +kernel)
abbrev lwS : List Stmt := bodyS (topS 11)

theorem fmod_range {a b : Int} (hb : 0 < b) : 0 ≤ a.fmod b ∧ a.fmod b < b := by
  rw [Int.fmod_eq_emod_of_nonneg _ (by omega)]
  exact ⟨Int.emod_nonneg _ (by omega), Int.emod_lt_of_pos _ hb⟩
def signs : Str := Str.ofString " \t;,"
theorem sign_at {i : Int} (h0 : 0 ≤ i) (h1 : i < 4) : ∃ ch, (seqIndex? i signs.length).bind (signs.cps[·]?) = some ch ∧ (ch = 32 ∨ ch = 9 ∨ ch = 59 ∨ ch = 44) := by
  obtain rfl | rfl | rfl | rfl : i = 0 ∨ i = 1 ∨ i = 2 ∨ i = 3 := by omega
  · exact ⟨32, by decide +kernel, .inl rfl⟩
  · exact ⟨9, by decide +kernel, .inr (.inl rfl)⟩
  · exact ⟨59, by decide +kernel, .inr (.inr (.inl rfl))⟩
  · exact ⟨44, by decide +kernel, .inr (.inr (.inr rfl))⟩

section
variable {c : Cx} {A : Around} {φ σ : Hp} {L : Addr} {s : Shared} {E : Value → Shared → Prop}
/-- the head of the law -/
theorem lw_a (B : Bs c) {ns : List Int} {sc : Addr} {n : Nat} {us : List (Int × Tok)} {r : List (Option Value)} {Q : Flow → Shared → Prop} (F : Fm c φ σ L lwNames (some (.ref sc) :: none :: none :: none :: none :: none :: r) s) (S : Sq σ sc (.type "list") none (intVals us) n) (hn : us.length ≤ 100000)
    (k : ∀ (us : List (Int × Tok)) sc' n' ca nc first width head ch t1 t2 t3 t4 σ' s', us.length ≤ 63 → Sq σ' sc' (.type "list") none (intVals us) n' → Sq σ' ca (.type "list") none [] nc → Mod [] σ σ' → σ sc' = none → σ ca = none → sc' ≠ ca → 0 ≤ width → width < 14 → 0 ≤ head → head ≤ 9 → (ch = 32 ∨ ch = 9 ∨ ch = 59 ∨ ch = 44) →
      Fm c φ σ' L lwNames (some (.ref sc') :: some (.int first t1) :: some (.int width t2) :: some (.str ⟨#[ch]⟩ t3) :: some (.int head t4) :: some (.ref ca) :: r) s' → wpAny c.M A (execs (lwS.drop 6) (callEnv lwFd L 223)) Q E s') :
    wpAny c.M A (execs lwS (callEnv lwFd L 223)) Q E s := by
  have e1 : (sizeLine : Nat) = 16777216 := sizeLine_eq
  have N := lw_fn L
  have hul : (intVals us).length = us.length := ivl
  refine r_seq ?_
  refine wpAny_Assign_Name ?_
  refine Subscript_ ?_
  refine r_ld N F 0 rfl rfl ?_
  refine r_slice ?_
  refine ev_none ?_
  refine ev_some ?_
  refine F.specT spec_const_int ?_
  intro u1 s F
  refine F.specA (spec_slc B) ?_
  intro b1 σ1 s hAll F
  have hb1 := hAll.1
  have g1 := hAll.2.1
  have m1 := hAll.2.2
  clear hAll
  refine F.spec (spec_getsl B (S.mod0 m1) g1 .none (.int 63 u1 (by omega)) (by omega)) ?_
  rintro _ σ2 s ⟨sc', rfl, hsc0, hsc, m2⟩ F
  refine r_st N F 0 rfl rfl B.sz ?_
  intro s F
  refine ⟨rfl, ?_⟩
  have ecut : cut (intVals us) none (some 63) = intVals (us.take 63) := by
    simp only [cut, sStart, sStop, Option.getD_none, Option.getD_some, Nat.zero_min, List.drop_zero, intVals, List.length_map, List.map_take]
    rcases Nat.le_total us.length 63 with h | h
    · rw [Nat.min_eq_right h, List.take_of_length_le (by simp), List.take_of_length_le (by simpa using h)]
    · rw [Nat.min_eq_left h]
  rw [ecut] at hsc
  have S2 := sq_of hsc
  have hul2 : (intVals (us.take 63)).length ≤ 63 := by rw [ivl, List.length_take]; omega
  have m02 := m1.trans m2
  have fsc : σ sc' = none := m1.fresh hsc0
  refine r_seq ?_
  refine wpAny_Assign_Name ?_
  refine Subscript_ ?_
  refine wpAny_BinOp ?_
  refine r_ld N F 0 rfl rfl ?_
  refine r_list ?_
  refine r_arg ?_
  refine F.specT spec_const_int ?_
  intro u2 s F
  refine r_args0 ?_
  refine F.specA (spec_list B (by size_fits)) ?_
  intro z σ3 s hAll F
  have hz0 := hAll.1
  have hz := hAll.2.1
  have m3 := hAll.2.2
  clear hAll
  refine F.specA (spec_addL B (S2.mod0 m3) (sq_of hz) (by simp; omega)) ?_
  intro y σ4 s hAll F
  have hy0 := hAll.1
  have hy := hAll.2.1
  have m4 := hAll.2.2
  clear hAll
  refine F.specT spec_const_int ?_
  intro u3 s F
  have Sy := sq_of hy
  obtain ⟨first, t1, hf⟩ : ∃ first t1, (intVals (us.take 63) ++ [Value.int 0 u2])[0]? = some (.int first t1) := by
    cases us.take 63 with
    | nil => exact ⟨0, u2, rfl⟩
    | cons p _ => exact ⟨p.1, p.2, rfl⟩
  refine F.specE (spec_sub B Sy (spec_item B Sy (k := 0) rfl hf (by simp; omega))) ?_
  intro s F
  refine r_st N F 1 rfl rfl B.sz ?_
  intro s F
  refine ⟨rfl, ?_⟩
  have m24 := m3.trans m4
  refine r_seq ?_
  refine wpAny_Assign_Name ?_
  refine wpAny_BinOp ?_
  refine r_ld N F 1 rfl rfl ?_
  refine F.specT spec_const_int ?_
  intro u4 s F
  refine F.specT (spec_mod_int (by decide)) ?_
  intro t2 s F
  refine r_st N F 2 rfl rfl B.sz ?_
  intro s F
  refine ⟨rfl, ?_⟩
  refine r_seq ?_
  refine wpAny_Assign_Name ?_
  refine Subscript_ ?_
  refine F.specT spec_const_str ?_
  intro u5 s F
  refine wpAny_BinOp ?_
  refine wpAny_BinOp ?_
  refine r_ld N F 1 rfl rfl ?_
  refine F.specT spec_const_int ?_
  intro u6 s F
  refine F.specT (spec_div_int (by decide) (by decide)) ?_
  intro u7 s F
  refine F.specT spec_const_int ?_
  intro u8 s F
  refine F.specT (spec_mod_int (by decide)) ?_
  intro u9 s F
  have r4 := fmod_range (a := first.fdiv 14) (b := 4) (by decide)
  obtain ⟨ch, hch, hch4⟩ := sign_at r4.1 r4.2
  generalize (first.fdiv 14).fmod 4 = i4 at hch r4
  refine F.specT (spec_strItem (x := signs) (k := ch) (by omega) hch) ?_
  intro t3 s F
  refine r_st N F 3 rfl rfl B.sz ?_
  intro s F
  refine ⟨rfl, ?_⟩
  refine r_seq ?_
  refine wpAny_Assign_Name ?_
  refine wpAny_BinOp ?_
  refine wpAny_BinOp ?_
  refine wpAny_BinOp ?_
  refine r_ld N F 1 rfl rfl ?_
  refine F.specT spec_const_int ?_
  intro v1 s F
  refine F.specT (spec_div_int (by decide) (by decide)) ?_
  intro v2 s F
  refine F.specT spec_const_int ?_
  intro v3 s F
  refine F.specT (spec_mod_int (by decide)) ?_
  intro v4 s F
  refine F.specT spec_const_int ?_
  intro v5 s F
  have r5 := fmod_range (a := first.fdiv 56) (b := 4) (by decide)
  generalize (first.fdiv 56).fmod 4 = i5 at r5
  refine F.specT (spec_mul_int (IntMulOk.of_right (by decide))) ?_
  intro t4 s F
  refine r_st N F 4 rfl rfl B.sz ?_
  intro s F
  refine ⟨rfl, ?_⟩
  refine r_seq ?_
  refine wpAny_Assign_Name ?_
  refine r_list ?_
  refine r_args0 ?_
  refine F.specA (spec_list B (by size_fits)) ?_
  intro ca σ5 s hAll F
  have hca0 := hAll.1
  have hca := hAll.2.1
  have m5 := hAll.2.2
  clear hAll
  refine r_st N F 5 rfl rfl B.sz ?_
  intro s F
  refine ⟨rfl, ?_⟩
  have m05 := (m02.trans m24).trans m5
  have r6 := fmod_range (a := first) (b := 14) (by decide)
  have hne : sc' ≠ ca := fun e => by
    have := m24.get hsc
    rw [e, hca0] at this; cases this
  exact k (us.take 63) sc' _ ca _ first _ _ ch t1 t2 t3 t4 σ5 s (by rw [List.length_take]; omega) ((S2.mod0 m24).mod0 m5) (sq_of hca) m05 fsc ((m02.trans m24).fresh hca0) hne r6.1 r6.2 (by omega) (by omega) hch4 F
end


/-- a chunk as the law builds it -/
structure CF (p : Str × Str) : Prop where
  bl : ∀ c ∈ p.1.cps.toList, isB c = true
  b2 : p.1.length ≤ 2
  wf : p.2.cps[0]? = some 119
  w6 : p.2.length ≤ 6
  nb : ∀ c ∈ p.2.cps.toList, isB c = false
def blanks4 : List Str := [Str.ofString " ", Str.ofString "\t", Str.ofString " \t", Str.ofString "\t "]
def tails3 : List Str := [Str.ofString "", Str.ofString ";", Str.ofString ","]
theorem cf_made (f t : Str) (m : Int) (hf : f ∈ blanks4) (ht : t ∈ tails3) (h0 : 1 ≤ m) (h1 : m ≤ 5) : CF (f, Txt.mul (Str.ofString "w") m ++ t) ∧ f.length ≠ 0 := by
  have key : ∀ f ∈ blanks4, ∀ t ∈ tails3, ∀ m ∈ ([1, 2, 3, 4, 5] : List Int),
      ((f.cps.toList.all isB) && decide (f.length ≤ 2) && decide (f.length ≠ 0) && ((Txt.mul (Str.ofString "w") m ++ t).cps[0]? == some 119) && decide ((Txt.mul (Str.ofString "w") m ++ t).length ≤ 6) && ((Txt.mul (Str.ofString "w") m ++ t).cps.toList.all fun c => !isB c)) = true := by decide +kernel
  have hm : m ∈ ([1, 2, 3, 4, 5] : List Int) := by
    obtain rfl | rfl | rfl | rfl | rfl : m = 1 ∨ m = 2 ∨ m = 3 ∨ m = 4 ∨ m = 5 := by omega
    all_goals simp
  have := key f hf t ht m hm
  simp only [Bool.and_eq_true, decide_eq_true_eq, List.all_eq_true, beq_iff_eq, Bool.not_eq_true'] at this
  obtain ⟨⟨⟨⟨⟨a1, a2⟩, a3⟩, a4⟩, a5⟩, a6⟩ := this
  exact ⟨⟨a1, a2, a4, a5, a6⟩, a3⟩
theorem mulOk_w {m : Int} (h0 : 1 ≤ m) (h1 : m ≤ 5) : MulOk (Str.ofString "w") m := by
  obtain rfl | rfl | rfl | rfl | rfl : m = 1 ∨ m = 2 ∨ m = 3 ∨ m = 4 ∨ m = 5 := by omega
  all_goals (unfold MulOk; decide +kernel)

theorem rangeSize_two (b : Int) : Builtin.Range.rangeSize 1 b 2 = if 1 < b then (b - 1 - 1) / 2 + 1 else 0 := by
  unfold Builtin.Range.rangeSize
  rw [if_pos (by decide)]
theorem small_two {b : Int} (h0 : 0 ≤ b) (h1 : b ≤ 1000) : Builtin.Range.small 1 b 2 = true := by
  unfold Builtin.Range.small
  rw [rangeSize_two]
  simp only [Builtin.Range.rangeFitsLong, Bool.and_eq_true, Bool.or_eq_true, decide_eq_true_eq, beq_iff_eq, show (2 : Int) > 0 by decide, if_true]
  split <;> omega


theorem take2 {ws : List (Int × Tok)} {u : Tok} (h : ws ≠ []) : ∃ a ta b tb, cut (intVals ws ++ [Value.int 0 u]) none (some 2) = [.int a ta, .int b tb] := by
  match ws, h with
  | [p], _ => exact ⟨p.1, p.2, 0, u, rfl⟩
  | p :: q :: r, _ =>
    refine ⟨p.1, p.2, q.1, q.2, ?_⟩
    simp [cut, sStart, sStop, intVals]
theorem cut_mid {us : List (Int × Tok)} {k : Nat} (h : k < us.length) : ∃ ws, cut (intVals us) (some k) (some (k + 2)) = intVals ws ∧ ws ≠ [] := by
  refine ⟨(us.take (min (k + 2) us.length)).drop (min k us.length), ?_, ?_⟩
  · simp [cut, sStart, sStop, intVals, List.map_take, List.map_drop]
  · intro e
    have := congrArg List.length e
    simp at this
    omega
theorem adrs_app : ∀ (xs ys : List Value), adrs (xs ++ ys) = adrs xs ++ adrs ys
  | [], _ => rfl
  | .ref b :: xs, ys => by simp [adrs, adrs_app xs ys]
  | .none :: xs, ys => by simp [adrs, adrs_app xs ys]
  | .bool _ :: xs, ys => by simp [adrs, adrs_app xs ys]
  | .int _ _ :: xs, ys => by simp [adrs, adrs_app xs ys]
  | .float _ _ :: xs, ys => by simp [adrs, adrs_app xs ys]
  | .str _ _ :: xs, ys => by simp [adrs, adrs_app xs ys]
  | .bytes _ _ :: xs, ys => by simp [adrs, adrs_app xs ys]
  | .type _ :: xs, ys => by simp [adrs, adrs_app xs ys]
  | .builtin _ :: xs, ys => by simp [adrs, adrs_app xs ys]
  | .ellipsis :: xs, ys => by simp [adrs, adrs_app xs ys]
  | .notImplemented :: xs, ys => by simp [adrs, adrs_app xs ys]
theorem CIt.app {σ : Hp} {vs ws : List Value} {ps qs : List (Str × Str)} (h : CIt σ vs ps) (h2 : CIt σ ws qs) : CIt σ (vs ++ ws) (ps ++ qs) := by
  induction h with
  | nil => exact h2
  | cons a _ ih => exact .cons a ih
theorem CIt.notin {σ : Hp} {vs : List Value} {ps : List (Str × Str)} (h : CIt σ vs ps) {x : Addr} {o : Obj} (hx : σ x = some o) (ho : o.cls ≠ .type "list") : x ∉ adrs vs := by
  induction h with
  | nil => intro h; cases h
  | cons a _ ih =>
    obtain ⟨b, nb, t1, t2, rfl, g⟩ := a
    intro hm
    rcases List.mem_cons.mp hm with e | hm
    · rw [← e, hx] at g
      cases g
      exact ho rfl
    · exact ih hm
theorem CIt.lt {σ : Hp} {vs : List Value} {ps : List (Str × Str)} (h : CIt σ vs ps) : ∀ b ∈ adrs vs, ∃ o, σ b = some o := by
  induction h with
  | nil => intro b h; cases h
  | cons a _ ih =>
    obtain ⟨b, nb, t1, t2, rfl, g⟩ := a
    intro b' hm
    rcases List.mem_cons.mp hm with e | hm
    · rw [e]; exact ⟨_, g⟩
    · exact ih b' hm
/-- what the law's chunks are known to be, beside the rest -/
structure CkSt (σ0 σ : Hp) (ca : Addr) (ps : List (Str × Str)) : Prop where
  ex : ∃ vs n, Sq σ ca (.type "list") none vs n ∧ CIt σ vs ps ∧ (adrs vs).Nodup ∧ ∀ b ∈ adrs vs, σ0 b = none

section
variable {c : Cx} {A : Around} {φ σ : Hp} {L : Addr} {s : Shared} {E : Value → Shared → Prop}
theorem item4 {t1 t2 t3 t4 : Tok} {i : Int} (h0 : 0 ≤ i) (h1 : i < 4) : ∃ k f t, i = Int.ofNat k ∧ f ∈ blanks4 ∧ ([Value.str (Str.ofString " ") t1, .str (Str.ofString "\t") t2, .str (Str.ofString " \t") t3, .str (Str.ofString "\t ") t4])[k]? = some (.str f t) := by
  obtain rfl | rfl | rfl | rfl : i = 0 ∨ i = 1 ∨ i = 2 ∨ i = 3 := by omega
  · exact ⟨0, _, _, rfl, by simp [blanks4], rfl⟩
  · exact ⟨1, _, _, rfl, by simp [blanks4], rfl⟩
  · exact ⟨2, _, _, rfl, by simp [blanks4], rfl⟩
  · exact ⟨3, _, _, rfl, by simp [blanks4], rfl⟩
theorem item3 {t1 t2 t3 : Tok} {i : Int} (h0 : 0 ≤ i) (h1 : i < 3) : ∃ k f t, i = Int.ofNat k ∧ f ∈ tails3 ∧ ([Value.str (Str.ofString "") t1, .str (Str.ofString ";") t2, .str (Str.ofString ",") t3])[k]? = some (.str f t) := by
  obtain rfl | rfl | rfl : i = 0 ∨ i = 1 ∨ i = 2 := by omega
  · exact ⟨0, _, _, rfl, by simp [tails3], rfl⟩
  · exact ⟨1, _, _, rfl, by simp [tails3], rfl⟩
  · exact ⟨2, _, _, rfl, by simp [tails3], rfl⟩
/-- [x, x, x, x], [x, x, x]: texts written out -/
theorem r_txt4 (B : Bs c) {σ : Hp} {vals : List (Option Value)} {x1 x2 x3 x4 : Str} {k1 k2 k3 k4 : Nat} {p1 p2 p3 p4 p : Pos} {Q : Value → Shared → Prop} (F : Fm c φ σ L lwNames vals s)
    (k : ∀ t1 t2 t3 t4 l σ' s', σ l = none ∧ σ' l = some (lObj [.str x1 t1, .str x2 t2, .str x3 t3, .str x4 t4]) ∧ Mod [] σ σ' → Fm c φ σ' L lwNames vals s' → Q (.ref l) s') : wpAny c.M A (eval (.List [.Constant (.str x1) k1 p1, .Constant (.str x2) k2 p2, .Constant (.str x3) k3 p3, .Constant (.str x4) k4 p4] p) (callEnv lwFd L 223)) Q E s := by
  refine r_list ?_
  refine r_arg ?_
  refine F.specT spec_const_str ?_
  intro t1 s F
  refine r_arg ?_
  refine F.specT spec_const_str ?_
  intro t2 s F
  refine r_arg ?_
  refine F.specT spec_const_str ?_
  intro t3 s F
  refine r_arg ?_
  refine F.specT spec_const_str ?_
  intro t4 s F
  refine r_args0 ?_
  refine F.specA (spec_list B (by size_fits)) ?_
  intro l σ' s h F
  exact k t1 t2 t3 t4 l σ' s h F
theorem r_txt3 (B : Bs c) {σ : Hp} {vals : List (Option Value)} {x1 x2 x3 : Str} {k1 k2 k3 : Nat} {p1 p2 p3 p : Pos} {Q : Value → Shared → Prop} (F : Fm c φ σ L lwNames vals s)
    (k : ∀ t1 t2 t3 l σ' s', σ l = none ∧ σ' l = some (lObj [.str x1 t1, .str x2 t2, .str x3 t3]) ∧ Mod [] σ σ' → Fm c φ σ' L lwNames vals s' → Q (.ref l) s') : wpAny c.M A (eval (.List [.Constant (.str x1) k1 p1, .Constant (.str x2) k2 p2, .Constant (.str x3) k3 p3] p) (callEnv lwFd L 223)) Q E s := by
  refine r_list ?_
  refine r_arg ?_
  refine F.specT spec_const_str ?_
  intro t1 s F
  refine r_arg ?_
  refine F.specT spec_const_str ?_
  intro t2 s F
  refine r_arg ?_
  refine F.specT spec_const_str ?_
  intro t3 s F
  refine r_args0 ?_
  refine F.specA (spec_list B (by size_fits)) ?_
  intro l σ' s h F
  exact k t1 t2 t3 l σ' s h F
/-- how many letters a word has -/
theorem r_let {vals : List (Option Value)} {σ : Hp} {av : Int} {ta : Tok} {k1 k2 k3 : Nat} {p0 p1 p2 p3 p4 p5 p6 : Pos} {Q : Value → Shared → Prop} (F : Fm c φ σ L lwNames vals s) (hv : vals[7]? = some (some (.int av ta)))
    (k : ∀ t s', Fm c φ σ L lwNames vals s' → Q (.int ((av.fdiv 4).fmod 5 + 1) t) s') : wpAny c.M A (eval (.BinOp (.BinOp (.BinOp (.Name "a" p0) .FloorDiv (.Constant (.int 4) k1 p1) p2) .Mod (.Constant (.int 5) k2 p3) p4) .Add (.Constant (.int 1) k3 p5) p6) (callEnv lwFd L 223)) Q E s := by
  have N := lw_fn L
  refine wpAny_BinOp ?_
  refine wpAny_BinOp ?_
  refine wpAny_BinOp ?_
  refine r_ld N F 7 rfl hv ?_
  refine F.specT spec_const_int ?_
  intro y2 s F
  refine F.specT (spec_div_int (by decide) (by decide)) ?_
  intro y3 s F
  refine F.specT spec_const_int ?_
  intro y4 s F
  refine F.specT (spec_mod_int (by decide)) ?_
  intro y5 s F
  refine F.specT spec_const_int ?_
  intro y6 s F
  refine F.specT spec_add_int ?_
  intro y7 s F
  exact k y7 s F
def b6 : List Stmt := match lwS.drop 6 with | .For _ _ b _ _ :: _ => b | _ => []
set_option maxHeartbeats 4000000 in
theorem lw_bt (B : Bs c) {us : List (Int × Tok)} {ps : List (Str × Str)} {sc ca : Addr} {n i : Nat} {σ3 : Hp} {ti : Tok} {v1 v2 v3 v4 v7 v8 : Option Value} {r : List (Option Value)} {Q : Flow → Shared → Prop} (hh : A.handled = none) (F : Fm c φ σ3 L lwNames (some (.ref sc) :: v1 :: v2 :: v3 :: v4 :: some (.ref ca) :: some (.int ((1 + i * 2 : Nat) : Int) ti) :: v7 :: v8 :: r) s)
    (hus : us.length ≤ 63) (hkl : 1 + i * 2 < us.length) (S3 : Sq σ3 sc (.type "list") none (intVals us) n) (K3 : CkSt σ σ3 ca ps) (hca : σ ca ≠ none) (m3 : Mod [ca] σ σ3) (hpl : ps.length ≤ 32)
    (k : ∀ p v7 v8 σ' s', CF p ∧ p.1.length ≠ 0 → CkSt σ σ' ca (ps ++ [p]) → Mod [ca] σ3 σ' → Fm c φ σ' L lwNames (some (.ref sc) :: v1 :: v2 :: v3 :: v4 :: some (.ref ca) :: some (.int ((1 + i * 2 : Nat) : Int) ti) :: v7 :: v8 :: r) s' → Q .next s') :
    wpAny c.M A (execs b6 (callEnv lwFd L 223)) Q E s := by
  have e1 : (sizeLine : Nat) = 16777216 := sizeLine_eq
  have N := lw_fn L
  have hul : (intVals us).length = us.length := ivl
  refine r_seq ?_
  refine Assign_Tuple ?_
  refine Subscript_ ?_
  refine wpAny_BinOp ?_
  refine Subscript_ ?_
  refine r_ld N F 0 rfl rfl ?_
  refine r_slice ?_
  refine ev_some (r_ld N F 6 rfl rfl ?_)
  refine ev_some ?_
  refine wpAny_BinOp ?_
  refine r_ld N F 6 rfl rfl ?_
  refine F.specT spec_const_int ?_
  intro u4 s F
  refine F.specT spec_add_int ?_
  intro u5 s F
  refine F.specA (spec_slc B) ?_
  intro b4 σ4 s hAll F
  have hb4 := hAll.1
  have g4 := hAll.2.1
  have m4 := hAll.2.2
  clear hAll
  rw [show ((1 + i * 2 : Nat) : Int) + 2 = ((1 + i * 2 + 2 : Nat) : Int) by omega] at g4
  refine F.specA (spec_getsl B (S3.mod0 m4) g4 (.int _ _ (by omega)) (.int _ _ (by omega)) (by omega)) ?_
  intro l5 σ5 s hAll F
  have hl50 := hAll.1
  have hl5 := hAll.2.1
  have m5 := hAll.2.2
  clear hAll
  obtain ⟨ws, hws, hwne⟩ := cut_mid hkl
  rw [hws] at hl5
  refine r_list ?_
  refine r_arg ?_
  refine F.specT spec_const_int ?_
  intro u6 s F
  refine r_args0 ?_
  refine F.specA (spec_list B (by size_fits)) ?_
  intro l6 σ6 s hAll F
  have hl60 := hAll.1
  have hl6 := hAll.2.1
  have m6 := hAll.2.2
  clear hAll
  have hwl : (intVals ws).length ≤ 63 := by
    rw [← hws]; simp only [cut, List.length_drop, List.length_take]; omega
  refine F.specA (spec_addL B ((sq_of hl5).mod0 m6) (sq_of hl6) (by simp; omega)) ?_
  intro l7 σ7 s hAll F
  have hl70 := hAll.1
  have hl7 := hAll.2.1
  have m7 := hAll.2.2
  clear hAll
  refine r_slice ?_
  refine ev_none ?_
  refine ev_some ?_
  refine F.specT spec_const_int ?_
  intro u7 s F
  refine F.specA (spec_slc B) ?_
  intro b8 σ8 s hAll F
  have hb8 := hAll.1
  have g8 := hAll.2.1
  have m8 := hAll.2.2
  clear hAll
  refine F.specA (spec_getsl B ((sq_of hl7).mod0 m8) g8 .none (.int 2 u7 (by omega)) (by simp; omega)) ?_
  intro l9 σ9 s hAll F
  have hl90 := hAll.1
  have hl9 := hAll.2.1
  have m9 := hAll.2.2
  clear hAll
  obtain ⟨av, ta, bv, tb, hab⟩ := take2 (u := u6) hwne
  rw [hab] at hl9
  refine r_asgL2 B hh N F (i := 7) (j := 8) hl9 rfl rfl rfl rfl ?_
  intro σ10 s m10 F
  refine ⟨rfl, ?_⟩
  have m310 : Mod [] σ3 σ10 := (((((m4.trans m5).trans m6).trans m7).trans m8).trans m9).trans m10
  obtain ⟨vs, nv, Sv, Cv, Nv, fv⟩ := K3.ex
  have Sv10 := Sv.mod0 m310
  have Cv10 := Cv.mod m310 (by simp)
  refine r_seq ?_
  refine wpAny_Expr_any ?_
  refine r_method ?_
  refine r_ld N F 5 rfl rfl ?_
  intro pl
  refine F.specE (spec_lmethod Sv10 PySem.F.slot_list_append.lookup PySem.F.type_list_append) ?_
  intro s F
  refine r_callW (kpr_builtin _) ?_
  refine r_arg ?_
  refine r_list ?_
  refine r_arg ?_
  refine Subscript_ ?_
  refine r_txt4 B F ?_
  intro x1 x2 x3 x4 l11 σ11 s hAll F
  have hl110 := hAll.1
  have hl11 := hAll.2.1
  have m11 := hAll.2.2
  clear hAll
  refine wpAny_BinOp ?_
  refine r_ld N F 7 rfl rfl ?_
  refine F.specT spec_const_int ?_
  intro x5 s F
  refine F.specT (spec_mod_int (by decide)) ?_
  intro x6 s F
  have ra := fmod_range (a := av) (b := 4) (by decide)
  obtain ⟨k4, f4, tf4, hk4, hf4, hi4⟩ := item4 (t1 := x1) (t2 := x2) (t3 := x3) (t4 := x4) ra.1 ra.2
  refine F.specE (spec_sub B (sq_of hl11) (spec_item B (sq_of hl11) (k := k4) hk4 hi4 (by rw [e1]; show 4 ≤ _; omega))) ?_
  intro s F
  refine r_arg ?_
  refine wpAny_BinOp ?_
  refine wpAny_BinOp ?_
  refine F.specT spec_const_str ?_
  intro y1 s F
  refine r_let F rfl ?_
  intro y7 s F
  have rb := fmod_range (a := av.fdiv 4) (b := 5) (by decide)
  obtain ⟨mm, hmm⟩ : ∃ mm, (av.fdiv 4).fmod 5 + 1 = mm := ⟨_, rfl⟩
  have hm01 : 1 ≤ mm := by omega
  have hm05 : mm ≤ 5 := by omega
  rw [hmm]
  clear hmm rb
  refine F.specT (spec_mulS (mulOk_w hm01 hm05)) ?_
  intro z1 s F
  refine Subscript_ ?_
  refine r_txt3 B F ?_
  intro z2 z3 z4 l12 σ12 s hAll F
  have hl120 := hAll.1
  have hl12 := hAll.2.1
  have m12 := hAll.2.2
  clear hAll
  refine wpAny_BinOp ?_
  refine r_ld N F 8 rfl rfl ?_
  refine F.specT spec_const_int ?_
  intro z5 s F
  refine F.specT (spec_mod_int (by decide)) ?_
  intro z6 s F
  have rc := fmod_range (a := bv) (b := 3) (by decide)
  obtain ⟨k3, f3, tf3, hk3, hf3, hi3⟩ := item3 (t1 := z2) (t2 := z3) (t3 := z4) rc.1 rc.2
  refine F.specE (spec_sub B (sq_of hl12) (spec_item B (sq_of hl12) (k := k3) hk3 hi3 (by rw [e1]; show 3 ≤ _; omega))) ?_
  intro s F
  obtain ⟨hcf, hcf1⟩ := cf_made f4 f3 mm hf4 hf3 hm01 hm05
  have hw6 := hcf.w6
  rw [app_length] at hw6
  refine F.specT (spec_add_str (by omega)) ?_
  intro z7 s F
  refine r_args0 ?_
  refine F.specA (spec_list B (by size_fits)) ?_
  intro l13 σ13 s hAll F
  have hl130 := hAll.1
  have hl13 := hAll.2.1
  have m13 := hAll.2.2
  clear hAll
  refine r_args0 ?_
  refine ⟨F.ok.kx B, ?_⟩
  have m1013 := (m11.trans m12).trans m13
  have Sv13 := Sv10.mod0 m1013
  have hvl := Cv.len
  refine F.specN (spec_app B Sv13 (by omega)) ?_
  intro n14 σ14 s hAll F
  have S14 := hAll.1
  have m14 := hAll.2
  clear hAll
  refine ⟨rfl, r_nil ?_⟩
  have m313 : Mod [] σ3 σ13 := m310.trans m1013
  have fl13 : σ l13 = none := by
    cases q : σ l13 with
    | none => rfl
    | some o =>
      by_cases hc : l13 = ca
      · have := (Sv10.mod0 (m11.trans m12)).at_
        rw [← hc, hl130] at this; cases this
      · have h' := ((m310.trans m11).trans m12).get (m3 l13 o (by simpa using hc) q)
        rw [hl130] at h'; cases h'
  have hl13ca : l13 ≠ ca := fun hc => by
    have := (Sv10.mod0 (m11.trans m12)).at_
    rw [← hc, hl130] at this; cases this
  have hca_v : ca ∉ adrs vs := fun hm => hca (fv ca hm)
  have hl13v : l13 ∉ adrs vs := fun hm => by
    obtain ⟨o, ho⟩ := (Cv10.mod (m11.trans m12) (by simp)).lt l13 hm
    rw [hl130] at ho; cases ho
  refine k (f4, Txt.mul (Str.ofString "w") mm ++ f3) _ _ σ14 s ⟨hcf, hcf1⟩ ⟨vs ++ [.ref l13], n14, S14, ?_, ?_, ?_⟩ (m313.to.trans m14) F
  · refine ((Cv10.mod m1013 (by simp)).mod m14 (by simpa using hca_v)).app (.cons ⟨l13, 0, _, _, rfl, m14 l13 _ (by simpa using hl13ca) hl13⟩ .nil)
  · rw [adrs_app]
    exact List.nodup_append.mpr ⟨Nv, by simp [adrs], fun a ha b hb => by
      simp only [adrs, List.mem_singleton] at hb
      subst hb
      exact fun e => hl13v (e ▸ ha)⟩
  · intro b hb
    rw [adrs_app] at hb
    rcases List.mem_append.mp hb with hb | hb
    · exact fv b hb
    · simp only [adrs, List.mem_singleton] at hb
      subst hb
      exact fl13
set_option maxHeartbeats 4000000 in
theorem lw_b (B : Bs c) {us : List (Int × Tok)} {sc ca : Addr} {n nc : Nat} {v1 v2 v3 v4 v6 v7 v8 : Option Value} {r : List (Option Value)} {Q : Flow → Shared → Prop} (hh : A.handled = none) (F : Fm c φ σ L lwNames (some (.ref sc) :: v1 :: v2 :: v3 :: v4 :: some (.ref ca) :: v6 :: v7 :: v8 :: r) s)
    (hus : us.length ≤ 63) (S : Sq σ sc (.type "list") none (intVals us) n) (T : Sq σ ca (.type "list") none [] nc) (hne : sc ≠ ca)
    (k : ∀ ps v6 v7 v8 σ' s', ps.length ≤ 32 → (∀ p ∈ ps, CF p ∧ p.1.length ≠ 0) → CkSt σ σ' ca ps → Mod [ca] σ σ' → Fm c φ σ' L lwNames (some (.ref sc) :: v1 :: v2 :: v3 :: v4 :: some (.ref ca) :: v6 :: v7 :: v8 :: r) s' → wpAny c.M A (execs (lwS.drop 7) (callEnv lwFd L 223)) Q E s') :
    wpAny c.M A (execs (lwS.drop 6) (callEnv lwFd L 223)) Q E s := by
  have e1 : (sizeLine : Nat) = 16777216 := sizeLine_eq
  have N := lw_fn L
  have hul : (intVals us).length = us.length := ivl
  refine r_seq ?_
  refine wpAny_For ?_
  refine r_callN ?_
  refine r_bi B N F (range_bi _) range_boot ?_
  refine r_callW (kpr_type _) ?_
  refine r_arg ?_
  refine F.specT spec_const_int ?_
  intro u1 s F
  refine r_arg ?_
  refine r_callN ?_
  refine r_bi B N F (len_bi _) len_boot ?_
  refine r_callW (kpr_builtin _) ?_
  refine r_arg ?_
  refine r_ld N F 0 rfl rfl ?_
  refine r_args0 ?_
  refine ⟨F.ok.kx B, ?_⟩
  refine F.specT (spec_lenL S (by omega)) ?_
  intro u2 s F
  refine r_arg ?_
  refine F.specT spec_const_int ?_
  intro u3 s F
  refine r_args0 ?_
  refine ⟨F.ok.kx B, ?_⟩
  refine F.specR4 (spec_range3 B (by decide) (PyProof.noPylong_small (by decide))) ?_
  intro rg w1 w2 w3 σ1 s hAll F
  have hrg0 := hAll.1
  have hrg := hAll.2.1
  have m1 := hAll.2.2
  clear hAll
  rw [hul] at hrg
  refine F.specA (spec_iterR B hrg (small_two (by omega) (by omega))) ?_
  intro it σ2 s hAll F
  have hit0 := hAll.1
  have hit := hAll.2.1
  have m2 := hAll.2.2
  clear hAll
  have m02 : Mod [] σ σ2 := m1.trans m2
  have hitσ : σ it = none := m1.fresh hit0
  have hitca : ca ≠ it := fun e => by have := T.at_; rw [e, hitσ] at this; cases this
  have hsz : ∃ m : Nat, Builtin.Range.rangeSize 1 (us.length : Int) 2 = (m : Int) ∧ 2 * m ≤ us.length ∧ m ≤ 32 := by
    rw [rangeSize_two]
    split
    · exact ⟨(us.length - 2) / 2 + 1, by omega, by omega, by omega⟩
    · exact ⟨0, rfl, by omega, by omega⟩
  obtain ⟨m, hm1, hm2, hm3⟩ := hsz
  rw [hm1] at hit
  refine r_forG m
    (fun i σ' vals' => σ' it = some (riObj (1 + (i : Nat) * 2) ((m : Int) - (i : Nat)) 2) ∧ Mod [ca] σ σ' ∧ (∃ v6 v7 v8, vals' = some (.ref sc) :: v1 :: v2 :: v3 :: v4 :: some (.ref ca) :: v6 :: v7 :: v8 :: r) ∧ ∃ ps, ps.length = i ∧ (∀ p ∈ ps, CF p ∧ p.1.length ≠ 0) ∧ CkSt σ σ' ca ps)
    (RNX it 1 m 2) (fun σ σ' => Mod [it] σ σ') ?_ ?_ ?_ ?_ ?_ F
  · rintro i σ' vals' hi ⟨h1, _⟩
    exact next_range B h1 hi
  · rintro σ' vals' ⟨h1, _⟩
    exact stop_range B hh h1
  · intro i σ' vals' v σ3 s' E' hi hJ hN F
    have h1 := hJ.1
    have h2 := hJ.2.1
    have hv0 := hN.1
    have h5 := hN.2.1
    have h6 := hN.2.2
    have hx0 := hJ.2.2.1
    have hx1 := hJ.2.2.2
    clear hJ hN
    refine exi3 hx0 ?_
    intro v6' v7' v8' hy0
    clear hx0
    subst hy0
    refine exi1 hx1 ?_
    intro ps hy1
    clear hx1
    have hpl := hy1.1
    have hps := hy1.2.1
    have hck := hy1.2.2
    clear hy1
    obtain ⟨ti, rfl⟩ := hv0
    have ei : (1 : Int) + (i : Nat) * 2 = ((1 + i * 2 : Nat) : Int) := by omega
    have hkl : 1 + i * 2 < us.length := by omega
    have m3 : Mod [ca] σ σ3 := h2.skip h6 hitσ
    have S3 := S.mod m3 (by simpa using hne)
    refine wpAny_assign_Name ?_
    refine r_st N F 6 rfl rfl B.sz ?_
    intro s F
    rw [ei] at F
    obtain ⟨vs, nv, Sv, Cv, Nv, fv⟩ := hck.ex
    have hitv : it ∉ adrs vs := Cv.notin h1 (show Value.type "range_iterator" ≠ Value.type "list" by decide)
    refine lw_bt B hh F hus hkl S3 ⟨vs, nv, Sv.mod h6 (by simpa using hitca), Cv.mod h6 (by simpa using hitv), Nv, fv⟩ (by rw [T.at_]; simp) m3 (by omega) ?_
    intro p v7 v8 σ4 s hp K4 m4 F
    refine ⟨σ4, _, ⟨m4 it _ (by simpa using Ne.symm hitca) h5, m3.trans m4, ⟨_, _, _, rfl⟩, ps ++ [p], by simp [hpl], ?_, K4⟩, F⟩
    intro q hq
    rcases List.mem_append.mp hq with hq | hq
    · exact hps q hq
    · rw [List.mem_singleton.mp hq]; exact hp
  · intro σ' vals' σ3 s' E' hJ h4 F
    have h1 := hJ.1
    have h2 := hJ.2.1
    have hx0 := hJ.2.2.1
    have hx1 := hJ.2.2.2
    clear hJ
    refine exi3 hx0 ?_
    intro v6' v7' v8' hy0
    clear hx0
    subst hy0
    refine exi1 hx1 ?_
    intro ps hy1
    clear hx1
    have hpl := hy1.1
    have hps := hy1.2.1
    have hck := hy1.2.2
    clear hy1
    refine r_nil ⟨rfl, ?_⟩
    obtain ⟨vs, nv, Sv, Cv, Nv, fv⟩ := hck.ex
    have hitv : it ∉ adrs vs := Cv.notin h1 (show Value.type "range_iterator" ≠ Value.type "list" by decide)
    exact k ps v6' v7' v8' σ3 s' (by omega) hps ⟨vs, nv, Sv.mod h4 (by simpa using hitca), Cv.mod h4 (by simpa using hitv), Nv, fv⟩ (h2.skip h4 hitσ) F
  · refine ⟨by simpa using hit, m02.to, ⟨_, _, _, rfl⟩, [], rfl, (fun p hp => nomatch hp), ⟨[], nc, T.mod0 m02, .nil, List.nodup_nil, (fun b hb => nomatch hb)⟩⟩
end


theorem CIt.cons_inv {σ : Hp} {vs : List Value} {p : Str × Str} {ps : List (Str × Str)} (h : CIt σ vs (p :: ps)) : ∃ b n t1 t2 vs', vs = .ref b :: vs' ∧ σ b = some (lObj [.str p.1 t1, .str p.2 t2] n) ∧ CIt σ vs' ps := by
  cases h with
  | cons a r =>
    obtain ⟨b, n, t1, t2, rfl, g⟩ := a
    exact ⟨b, n, t1, t2, _, rfl, g, r⟩
theorem CkSt.len {σ0 σ : Hp} {ca : Addr} {ps : List (Str × Str)} (h : CkSt σ0 σ ca ps) : ∃ vs n, Sq σ ca (.type "list") none vs n ∧ CIt σ vs ps ∧ vs.length = ps.length := by
  obtain ⟨vs, n, S, C, _, _⟩ := h.ex
  exact ⟨vs, n, S, C, C.len⟩
/-- the chunks are kept where others than they are turned -/
theorem CkSt.mod {σ0 σ σ' : Hp} {ca : Addr} {ps : List (Str × Str)} {M : List Addr} (h : CkSt σ0 σ ca ps) (m : Mod M σ σ') (hM : ∀ a ∈ M, σ a = none) : CkSt σ0 σ' ca ps := by
  obtain ⟨vs, n, S, C, N, f⟩ := h.ex
  have hc : ca ∉ M := fun q => by have := hM ca q; rw [S.at_] at this; cases this
  exact ⟨vs, n, S.mod m hc, C.mod m (fun a ha hv => by obtain ⟨o, ho⟩ := C.lt a hv; rw [hM a ha] at ho; cases ho), N, f⟩
theorem CkSt.mod0 {σ0 σ σ' : Hp} {ca : Addr} {ps : List (Str × Str)} (h : CkSt σ0 σ ca ps) (m : Mod [] σ σ') : CkSt σ0 σ' ca ps := h.mod m (by simp)
theorem CkSt.base {σ0 σ1 σ : Hp} {ca : Addr} {ps : List (Str × Str)} (h : CkSt σ0 σ ca ps) (e : ∀ b, σ0 b = none → σ1 b = none) : CkSt σ1 σ ca ps :=
  let ⟨vs, n, S, C, N, f⟩ := h.ex; ⟨vs, n, S, C, N, fun b hb => e b (f b hb)⟩

section
variable {c : Cx} {A : Around} {φ σ : Hp} {L : Addr} {s : Shared} {E : Value → Shared → Prop}
/-- chunks[0][0] = text -/
theorem r_set0 (B : Bs c) {σ0 : Hp} {vals : List (Option Value)} {ca : Addr} {p : Str × Str} {ps : List (Str × Str)} {value : Expr} {x : Str} {Q : Flow → Shared → Prop} {q0 q1 q2 q3 q4 pos : Pos} {k0 k1 : Nat} (F : Fm c φ σ L lwNames vals s) (H : CkSt σ0 σ ca (p :: ps)) (h0 : σ0 ca ≠ none) (hv : vals[5]? = some (some (.ref ca)))
    (hval : ∀ (s : Shared) (Q : Value → Shared → Prop), Fm c φ σ L lwNames vals s → (∀ t s', Fm c φ σ L lwNames vals s' → Q (.str x t) s') → wpAny c.M A (eval value (callEnv lwFd L 223)) Q E s) (hz : ps.length ≤ 1000)
    (hsw : swapsWith value (some (.Subscript (.Subscript (.Name "chunks" q0) (.Constant (.int 0) k0 q1) q2) (.Constant (.int 0) k1 q3) q4)) pos.line (callEnv lwFd L 223) = pure false)
    (k : ∀ b σ' s', CkSt σ0 σ' ca ((x, p.2) :: ps) → σ0 b = none → Mod [b] σ σ' → Fm c φ σ' L lwNames vals s' → Q .next s') :
    wpAny c.M A (exec (.Assign [.Subscript (.Subscript (.Name "chunks" q0) (.Constant (.int 0) k0 q1) q2) (.Constant (.int 0) k1 q3) q4] value pos) (callEnv lwFd L 223)) Q E s := by
  have e1 : (sizeLine : Nat) = 16777216 := sizeLine_eq
  have N := lw_fn L
  obtain ⟨vs, n, S, C, Nd, fr⟩ := H.ex
  obtain ⟨b, nb, t1, t2, vs', rfl, hb, C'⟩ := C.cons_inv
  have hl := C.len
  have hca : ca ≠ b := fun e => h0 (e ▸ fr b (.head _))
  refine wpAny_Assign_Subscript ?_ hsw
  refine hval s _ F ?_
  intro t s F
  refine Subscript_ ?_
  refine r_ld N F 5 rfl hv ?_
  refine F.specT spec_const_int ?_
  intro u1 s F
  refine F.specE (spec_sub B S (spec_item B S (k := 0) rfl rfl (by rw [hl]; simp; omega))) ?_
  intro s F
  refine F.specT spec_const_int ?_
  intro u2 s F
  refine F.spec (spec_setItem B (sq_of hb) (spec_setAt B (sq_of hb) (k := 0) rfl (by simp) (by rw [e1]; show 2 ≤ _; omega))) ?_
  rintro _ σ1 s ⟨r, rfl, S1, m1⟩ F
  have hnb : b ∉ adrs vs' := (List.nodup_cons.mp Nd).1
  refine k b σ1 s ⟨_, n, S.mod m1 (by simpa using hca), .cons ⟨b, nb, t, t2, rfl, S1.lobj⟩ (C'.mod m1 (by simpa using hnb)), Nd, fr⟩ (fr b (.head _)) m1 F

theorem lw_c (B : Bs c) {σ0 : Hp} {ca : Addr} {first : Int} {t1 : Tok} {v0 v2 v3 v4 : Option Value} {r : List (Option Value)} {ps : List (Str × Str)} {kk : Nat} {Q : Flow → Shared → Prop} (R : Rm A kk) (F : Fm c φ σ L lwNames (v0 :: some (.int first t1) :: v2 :: v3 :: v4 :: some (.ref ca) :: r) s)
    (H : CkSt σ0 σ ca ps) (h0 : σ0 ca ≠ none) (hpl : ps.length ≤ 32) (hps : ∀ p ∈ ps, CF p ∧ p.1.length ≠ 0)
    (k : ∀ ps' σ' s', ps'.length ≤ 32 → (∀ p ∈ ps', CF p) → (∀ p ∈ ps'.tail, p.1.length ≠ 0) → CkSt σ0 σ' ca ps' → (∀ b o, σ0 b = some o → σ b = some o → σ' b = some o) → Fm c φ σ' L lwNames (v0 :: some (.int first t1) :: v2 :: v3 :: v4 :: some (.ref ca) :: r) s' → wpAny c.M A (execs (lwS.drop 8) (callEnv lwFd L 223)) Q E s') :
    wpAny c.M A (execs (lwS.drop 7) (callEnv lwFd L 223)) Q E s := by
  have e1 : (sizeLine : Nat) = 16777216 := sizeLine_eq
  have N := lw_fn L
  obtain ⟨vs, n, S, C, hvl⟩ := H.len
  refine r_seq ?_
  refine wpAny_If ?_
  refine wpAny_isTrue_BoolOp ?_
  refine wpAny_allTrue_And_cons ?_
  refine wpAny_isTrue_Compare1 ?_
  refine r_ld N F 5 rfl rfl ?_
  refine r_list ?_
  refine r_args0 ?_
  refine F.specA (spec_list B (by size_fits)) ?_
  intro e σ1 s hAll F
  have he := hAll.1
  have ge := hAll.2.1
  have m1 := hAll.2.2
  clear hAll
  refine F.specV (spec_neNil R (S.mod0 m1) (sq_of ge)) ?_
  intro s F
  refine F.specV spec_truthy_bool ?_
  intro s F
  have H1 := H.mod0 m1
  have same : ∀ b o, σ0 b = some o → σ b = some o → σ1 b = some o := fun b o _ e => m1.get e
  have none : ∀ s, Fm c φ σ1 L lwNames (v0 :: some (.int first t1) :: v2 :: v3 :: v4 :: some (.ref ca) :: r) s → wpAny c.M A (execs (lwS.drop 8) (callEnv lwFd L 223)) Q E s := fun s F =>
    k ps σ1 s hpl (fun p hp => (hps p hp).1) (fun p hp => (hps p (List.mem_of_mem_tail hp)).2) H1 same F
  by_cases hne : vs = []
  · rw [if_neg (by simp [hne]), if_neg (by decide)]
    exact r_nil ⟨rfl, none s F⟩
  · rw [if_pos (by simp [hne])]
    refine wpAny_allTrue_And_cons ?_
    refine wpAny_isTrue_Compare1 ?_
    refine wpAny_BinOp ?_
    refine wpAny_BinOp ?_
    refine r_ld N F 1 rfl rfl ?_
    refine F.specT spec_const_int ?_
    intro u1 s F
    refine F.specT (spec_div_int (by decide) (by decide)) ?_
    intro u2 s F
    refine F.specT spec_const_int ?_
    intro u3 s F
    refine F.specT (spec_mod_int (by decide)) ?_
    intro u4 s F
    refine F.specT spec_const_int ?_
    intro u5 s F
    refine F.specV spec_eq_int ?_
    intro s F
    refine F.specV spec_truthy_bool ?_
    intro s F
    cases decide ((first.fdiv 224).fmod 2 = 0) with
    | false =>
      rw [if_neg (by decide), if_neg (by decide)]
      exact r_nil ⟨rfl, none s F⟩
    | true =>
      rw [if_pos rfl]
      refine wpAny_allTrue_And_nil ?_
      rw [if_pos rfl]
      cases ps with
      | nil => exact absurd (List.length_eq_zero_iff.mp hvl) hne
      | cons p ps =>
        refine r_seq ?_
        refine r_set0 (x := emp) B F H1 h0 rfl ?_ (by simp at hpl; omega) rfl ?_
        · intro s Q F q
          refine F.specT spec_const_str ?_
          intro t s F
          exact q t s F
        intro b σ2 s H2 hb m2 F
        refine ⟨rfl, r_nil ⟨rfl, ?_⟩⟩
        refine k ((emp, p.2) :: ps) σ2 s (by simpa using hpl) ?_ (fun q hq => (hps q (.tail _ hq)).2) H2 ?_ F
        · intro q hq
          rcases List.mem_cons.mp hq with rfl | hq
          · have := (hps p (.head _)).1
            exact ⟨fun c hc => by rw [emp_eq] at hc; simp at hc, by show emp.length ≤ 2; rw [emp_eq]; decide, this.wf, this.w6, this.nb⟩
          · exact (hps q (.tail _ hq)).1
        · intro b' o e0 e
          refine m2 b' o ?_ (m1.get e)
          simp only [List.mem_singleton]
          intro q
          rw [q, hb] at e0; cases e0
end


/-- texts laid end to end -/
def jn (xs : List Str) : Str := Txt.join (Str.ofString "") xs
theorem str_ext {x y : Str} (h : x.cps.toList = y.cps.toList) : x = y := by
  cases x; cases y
  congr 1
  exact Array.ext' h
theorem app_tx (x y : Str) : (x ++ y).cps.toList = x.cps.toList ++ y.cps.toList := by
  show (x.cps ++ y.cps).toList = _
  simp
theorem jn_tx : ∀ (xs : List Str), (jn xs).cps.toList = xs.flatMap fun x => x.cps.toList
  | [] => by
    have : jn [] = Str.empty := StrLaws.glued_eq_join _ []
    rw [this]; rfl
  | [x] => by
    have : jn [x] = x := StrLaws.glued_eq_join _ [x]
    rw [this]; simp
  | x :: y :: r => by
    have h1 : jn (x :: y :: r) = x ++ Str.ofString "" ++ jn (y :: r) := by
      unfold jn Txt.join
      rw [StrLaws.glued_eq_join, StrLaws.glued_eq_join]
      rfl
    have ih := jn_tx (y :: r)
    rw [h1, app_tx, app_tx, ih, show (Str.ofString "").cps.toList = [] by decide +kernel]
    simp
theorem jn_app (xs ys : List Str) : jn (xs ++ ys) = jn xs ++ jn ys := str_ext (by rw [app_tx, jn_tx, jn_tx, jn_tx, List.flatMap_append])
theorem jn_one (x : Str) : jn [x] = x := str_ext (by rw [jn_tx]; simp)
theorem jn_cons (x : Str) (xs : List Str) : jn (x :: xs) = x ++ jn xs := str_ext (by rw [app_tx, jn_tx, jn_tx]; simp)
theorem str_len (x : Str) : x.length = x.cps.toList.length := by simp [Str.length]
theorem jn_len (xs : List Str) : (jn xs).length = (xs.map (·.length)).sum := by
  induction xs with
  | nil => rw [str_len, jn_tx]; rfl
  | cons x xs ih => rw [jn_cons, app_length, ih]; simp
theorem acat_jn (ps : List (Str × Str)) : acat ps = jn (ps.map pcat) := rfl
theorem acat_len (ps : List (Str × Str)) : (acat ps).length = alen ps := by
  rw [acat_jn, jn_len, alen, List.map_map]
  congr 1
  exact List.map_congr_left fun p _ => pcat_length p
theorem acat_app (xs ys : List (Str × Str)) : acat (xs ++ ys) = acat xs ++ acat ys := by rw [acat_jn, List.map_append, jn_app]; rfl
theorem acat_one (p : Str × Str) : acat [p] = pcat p := jn_one _

/-- rows of whole blocks, as the law asks; r: the first row's room -/
inductive Pk (W : Int) : Int → List Str → List Str → Prop
  | nil {r : Int} : Pk W r [] []
  | cons {r : Int} {bs : List Str} {b : Str} {xs rest rows : List Str} (e : bs = (b :: xs) ++ rest) (h1 : xs = [] ∨ ((jn (b :: xs)).length : Int) ≤ r) (h2 : ∀ b', rest.head? = some b' → r < ((jn (b :: xs)).length : Int) + b'.length) (t : Pk W W rest rows) : Pk W r bs (jn (b :: xs) :: rows)

/-- where the k-th block begins -/
def ed (bs : List Str) (k : Nat) : Nat := ((bs.take k).map (·.length)).sum
theorem ed_zero (bs : List Str) : ed bs 0 = 0 := rfl
theorem ed_succ {bs : List Str} {k : Nat} {b : Str} (h : bs[k]? = some b) : ed bs (k + 1) = ed bs k + b.length := by
  unfold ed
  rw [List.take_add_one, h]
  simp
theorem ed_mono (bs : List Str) {j k : Nat} (h : j ≤ k) : ed bs j ≤ ed bs k := by
  unfold ed
  have : bs.take k = bs.take j ++ (bs.take k).drop j := by
    conv => lhs; rw [← List.take_append_drop j (bs.take k)]
    rw [List.take_take, Nat.min_eq_left h]
  rw [this, List.map_append, List.sum_append]
  omega
theorem ed_app {xs rest : List Str} {k : Nat} (h : xs.length ≤ k) : ed (xs ++ rest) k = (xs.map (·.length)).sum + ed rest (k - xs.length) := by
  unfold ed
  rw [List.take_append, List.take_of_length_le h, List.map_append, List.sum_append]

theorem pk1 {k n e : Nat} {r : Int} (hc : k = 0 + 1 ∨ (e : Int) - ((0 : Nat) : Int) ≤ r) (h : r < e) (hk : n < k) (hn : 1 ≤ n) : False := by omega
theorem pk2 {k j n ek ej en e' : Nat} {W : Int} (hc : k = j + 1 ∨ (ek : Int) - ej ≤ W) (h1 : ek = en + e') (h2 : ej ≤ en) (hj : j ≤ n) (hk : n < k) : k - n = 0 + 1 ∨ (e' : Int) - ((0 : Nat) : Int) ≤ W := by omega
theorem pk3 {k j n ek ej en e1 e2 : Nat} {W : Int} (hc : k = j + 1 ∨ (ek : Int) - ej ≤ W) (h1 : ek = en + e1) (h2 : ej = en + e2) (hj : n < j) : k - n = j - n + 1 ∨ (e1 : Int) - e2 ≤ W := by omega
theorem pk4 {k n ek en : Nat} {r : Int} (h1 : ek ≤ en) (h : n = 1 ∨ (en : Int) ≤ r) (h0 : 0 < k) (hk : k ≤ n) : k = 0 + 1 ∨ (ek : Int) - ((0 : Nat) : Int) ≤ r := by omega
theorem pk5 {k j n ek ej en e1 e2 : Nat} {W : Int} (hc : k - n = j + 1 ∨ (e1 : Int) - e2 ≤ W) (h1 : ek = en + e1) (h2 : ej = en + e2) (hk : n < k) : k = j + n + 1 ∨ (ek : Int) - ej ≤ W := by omega
theorem pk6 {k n m : Nat} (h : k ≤ n + m) : k - n ≤ m := by omega
theorem pk7 {k n a b : Nat} {r : Int} (h1 : r < (a : Int) + b) (h2 : k = a + n) (h3 : b ≤ n) : r < (k : Int) := by omega
theorem Pk.lvl {W r : Int} {bs rows : List Str} (p : Pk W r bs rows) : ∃ g : Nat → Nat, g 0 = 0 ∧ g bs.length = rows.length ∧
    (∀ j k, j < k → k ≤ bs.length → (k = j + 1 ∨ (ed bs k : Int) - ed bs j ≤ (if j = 0 then r else W)) → g k ≤ g j + 1) ∧
    (∀ k, 0 < k → k ≤ bs.length → ∃ j, j < k ∧ g k = g j + 1 ∧ (k = j + 1 ∨ (ed bs k : Int) - ed bs j ≤ (if j = 0 then r else W))) := by
  induction p with
  | nil => exact ⟨fun _ => 0, rfl, rfl, fun _ _ _ _ _ => Nat.zero_le _, fun k h0 h => by simp at h; omega⟩
  | @cons r bs b xs rest rows e h1 h2 t ih =>
    obtain ⟨g', z', l', lo, ac⟩ := ih
    obtain ⟨n, hn⟩ : ∃ n, n = (b :: xs).length := ⟨_, rfl⟩
    have hn1 : 1 ≤ n := by simp at hn; omega
    have hlen : bs.length = n + rest.length := by rw [e, List.length_append, hn]
    have hT : ∀ k, n ≤ k → ed bs k = ed bs n + ed rest (k - n) := fun k hk => by
      rw [e, hn, ed_app (by omega), ed_app (by omega), Nat.sub_self, ed_zero]; omega
    have hrow : (jn (b :: xs)).length = ed bs n := by rw [e, hn, ed_app (Nat.le_refl _), Nat.sub_self, ed_zero, jn_len]; omega
    have h2' : ∀ k, n < k → k ≤ bs.length → r < ed bs k := fun k hk hk' => by
      cases hr : rest with
      | nil =>
        rw [hr, List.length_nil] at hlen
        exact absurd hk' (Nat.not_le_of_lt (by rw [hlen]; exact hk))
      | cons b' rest' =>
        have a1 := h2 b' (by rw [hr]; rfl)
        rw [hrow] at a1
        have a4 : ed rest 1 = b'.length := by rw [hr]; simp [ed]
        rw [← a4] at a1
        exact pk7 a1 (hT k (Nat.le_of_lt hk)) (ed_mono _ (Nat.sub_pos_of_lt hk))
    have hW : ∀ j : Nat, (if j = 0 then W else W) = W := fun j => by split <;> rfl
    refine ⟨fun k => if k = 0 then 0 else if k ≤ n then 1 else 1 + g' (k - n), rfl, ?_, ?_, ?_⟩
    · dsimp only
      rw [hlen, if_neg (Nat.ne_of_gt (Nat.lt_of_lt_of_le hn1 (Nat.le_add_right n _))), List.length_cons]
      split
      · rename_i h
        have h0 : rest.length = 0 := Nat.le_zero.mp (Nat.le_of_add_le_add_left (a := n) h)
        rw [h0, z'] at l'
        rw [← l']
      · rw [Nat.add_sub_cancel_left, l', Nat.add_comm]
    · intro j k hjk hk hc
      dsimp only
      rw [if_neg (Nat.ne_of_gt (Nat.lt_of_le_of_lt (Nat.zero_le j) hjk))]
      rcases Nat.eq_zero_or_pos j with hj0 | hj0
      · subst hj0
        rw [if_pos rfl]
        by_cases hkn : k ≤ n
        · rw [if_pos hkn]
          exact Nat.le_refl _
        · rw [if_pos rfl] at hc
          exact (pk1 hc (h2' k (Nat.lt_of_not_le hkn) hk) (Nat.lt_of_not_le hkn) hn1).elim
      · rw [if_neg (Nat.ne_of_gt hj0)]
        rw [if_neg (Nat.ne_of_gt hj0)] at hc
        by_cases hkn : k ≤ n
        · rw [if_pos hkn]
          exact Nat.succ_le_succ (Nat.zero_le _)
        · have hkn' := Nat.lt_of_not_le hkn
          have hk' : k - n ≤ rest.length := pk6 (by rw [← hlen]; exact hk)
          rw [if_neg hkn]
          by_cases hjn : j ≤ n
          · rw [if_pos hjn]
            have := lo 0 (k - n) (Nat.sub_pos_of_lt hkn') hk' (by rw [hW]; exact pk2 hc (hT k (Nat.le_of_lt hkn')) (ed_mono bs hjn) hjn hkn')
            rw [z'] at this
            exact Nat.add_le_add_left this 1
          · have hjn' := Nat.lt_of_not_le hjn
            rw [if_neg hjn]
            have := lo (j - n) (k - n) (Nat.sub_lt_sub_right (Nat.le_of_lt hjn') hjk) hk' (by rw [hW]; exact pk3 hc (hT k (Nat.le_of_lt hkn')) (hT j (Nat.le_of_lt hjn')) hjn')
            exact Nat.add_le_add_left this 1
    · intro k hk0 hk
      by_cases hkn : k ≤ n
      · refine ⟨0, hk0, ?_, ?_⟩
        · dsimp only
          rw [if_neg (Nat.ne_of_gt hk0), if_pos hkn, if_pos rfl]
        · rw [if_pos rfl]
          refine pk4 (ed_mono bs hkn) ?_ hk0 hkn
          rcases h1 with h1 | h1
          · left; rw [hn, h1]; rfl
          · right; rw [← hrow]; exact h1
      · have hkn' := Nat.lt_of_not_le hkn
        obtain ⟨j, hj, hg, hc⟩ := ac (k - n) (Nat.sub_pos_of_lt hkn') (pk6 (by rw [← hlen]; exact hk))
        refine ⟨j + n, Nat.add_lt_of_lt_sub hj, ?_, ?_⟩
        · dsimp only
          rw [if_neg (Nat.ne_of_gt hk0), if_neg hkn, if_neg (Nat.ne_of_gt (Nat.lt_of_lt_of_le hn1 (Nat.le_add_left n j)))]
          split
          · rename_i h
            have h0 : j = 0 := Nat.le_zero.mp (Nat.le_of_add_le_add_right (b := n) (by rw [Nat.zero_add]; exact h))
            rw [h0, z'] at hg
            rw [hg]
          · rw [Nat.add_sub_cancel, hg]; rfl
        · rw [hW] at hc
          rw [if_neg (Nat.ne_of_gt (Nat.lt_of_lt_of_le hn1 (Nat.le_add_left n j)))]
          have h3 := hT (j + n) (Nat.le_add_left n j)
          rw [Nat.add_sub_cancel] at h3
          exact pk5 hc (hT k (Nat.le_of_lt hkn')) h3 hkn'


/-- does the sign part two chunks? -/
def cb (ch : Nat) (p q : Str × Str) : Bool := (q.1.cps[0]? == some ch) || (p.2.cps.back? == some ch)
def bkA (ch : Nat) : Str → Str × Str → List (Str × Str) → List Str
  | cur, _, [] => [cur]
  | cur, l, p :: ps => if cb ch l p then cur :: bkA ch (pcat p) p ps else bkA ch (cur ++ pcat p) p ps
def bk (ch : Nat) : List (Str × Str) → List Str
  | [] => []
  | p :: ps => bkA ch (pcat p) p ps

theorem bkA_ne (ch : Nat) : ∀ (ps : List (Str × Str)) (cur : Str) (l : Str × Str), bkA ch cur l ps ≠ []
  | [], _, _ => by simp [bkA]
  | p :: ps, cur, l => by
    unfold bkA
    split
    · simp
    · exact bkA_ne ch ps _ _
theorem addLast_cons {x y : Str} {l : List Str} (h : l ≠ []) : addLast (x :: l) y = x :: addLast l y := by
  rcases List.eq_nil_or_concat l with e | ⟨ys, z, e⟩
  · exact absurd e h
  · rw [List.concat_eq_append] at e
    subst e
    have e1 : (x :: (ys ++ [z])).getLast? = some z := by rw [← List.cons_append, List.getLast?_concat]
    have e2 : (x :: (ys ++ [z])).dropLast = x :: ys := by rw [← List.cons_append, List.dropLast_concat]
    unfold addLast
    rw [e1, List.getLast?_concat]
    dsimp only
    rw [e2, List.dropLast_concat]
    rfl
def ld {α : Type} : α → List α → α
  | l, [] => l
  | _, p :: ps => ld p ps
theorem ld_last {α : Type} : ∀ (xs : List α) (a : α), (a :: xs).getLast? = some (ld a xs)
  | [], a => rfl
  | x :: xs, a => by rw [List.getLast?_cons_cons, ld_last xs x]; rfl
theorem bkA_snoc (ch : Nat) (q : Str × Str) : ∀ (ps : List (Str × Str)) (cur : Str) (l : Str × Str), bkA ch cur l (ps ++ [q]) = if cb ch (ld l ps) q then bkA ch cur l ps ++ [pcat q] else addLast (bkA ch cur l ps) (pcat q)
  | [], cur, l => by
    simp [bkA, addLast, ld]
  | p :: ps, cur, l => by
    rw [List.cons_append]
    show _ = if cb ch (ld p ps) q = true then _ else _
    unfold bkA
    by_cases h : cb ch l p = true
    · rw [if_pos h, if_pos h, bkA_snoc ch q ps (pcat p) p]
      split
      · rfl
      · rw [addLast_cons (bkA_ne ch ps _ _)]
    · rw [if_neg h, if_neg h, bkA_snoc ch q ps _ p]
theorem bkA_app (ch : Nat) (y : Str × Str) (ys : List (Str × Str)) : ∀ (xs : List (Str × Str)) (cur : Str) (l : Str × Str), cb ch (ld l xs) y = true → bkA ch cur l (xs ++ y :: ys) = bkA ch cur l xs ++ bkA ch (pcat y) y ys
  | [], cur, l, h => by
    have h' : cb ch l y = true := h
    rw [List.nil_append]
    conv => lhs; unfold bkA
    rw [if_pos h']
    rfl
  | p :: ps, cur, l, h => by
    rw [List.cons_append]
    show (if cb ch l p = true then cur :: bkA ch (pcat p) p (ps ++ y :: ys) else bkA ch (cur ++ pcat p) p (ps ++ y :: ys)) = (if cb ch l p = true then cur :: bkA ch (pcat p) p ps else bkA ch (cur ++ pcat p) p ps) ++ _
    by_cases hc : cb ch l p = true
    · rw [if_pos hc, if_pos hc, bkA_app ch y ys ps (pcat p) p h, List.cons_append]
    · rw [if_neg hc, if_neg hc, bkA_app ch y ys ps (cur ++ pcat p) p h]
theorem bkA_jn (ch : Nat) : ∀ (ps : List (Str × Str)) (cur : Str) (l : Str × Str), jn (bkA ch cur l ps) = cur ++ acat ps
  | [], cur, l => by
    rw [bkA, jn_one]
    refine str_ext ?_
    rw [app_tx, acat_jn, jn_tx]
    simp
  | p :: ps, cur, l => by
    have e : acat (p :: ps) = pcat p ++ acat ps := by rw [acat_jn, List.map_cons, jn_cons]; rfl
    unfold bkA
    split
    · rw [jn_cons, bkA_jn ch ps _ _, e]
    · rw [bkA_jn ch ps _ _, e]
      exact str_ext (by simp [app_tx])
theorem bk_jn (ch : Nat) (ps : List (Str × Str)) : jn (bk ch ps) = acat ps := by
  cases ps with
  | nil => rfl
  | cons p ps =>
    unfold bk
    rw [bkA_jn, acat_jn (p :: ps), List.map_cons, jn_cons]; rfl
/-- nowhere parted -/
def NoCut (ch : Nat) (q : List (Str × Str)) : Prop := ∀ i p p', q[i]? = some p → q[i + 1]? = some p' → cb ch p p' = false
theorem NoCut.tail {ch : Nat} {p : Str × Str} {q : List (Str × Str)} (h : NoCut ch (p :: q)) : NoCut ch q := fun i a b h1 h2 => h (i + 1) a b h1 h2
theorem NoCut.hd {ch : Nat} {p p' : Str × Str} {q : List (Str × Str)} (h : NoCut ch (p :: p' :: q)) : cb ch p p' = false := h 0 p p' rfl rfl
theorem bkA_head (ch : Nat) (ys : List (Str × Str)) : ∀ (xs : List (Str × Str)) (cur : Str) (l : Str × Str), NoCut ch (l :: xs) → ∃ z zs, bkA ch cur l (xs ++ ys) = z :: zs ∧ cur.length + alen xs ≤ z.length ∧ (ys = [] → zs = [])
  | [], cur, l, _ => by
    rw [List.nil_append]
    have key : ∀ (ys : List (Str × Str)) (cur : Str) (l : Str × Str), ∃ z zs, bkA ch cur l ys = z :: zs ∧ cur.length ≤ z.length ∧ (ys = [] → zs = []) := by
      intro ys
      induction ys with
      | nil => intro cur l; exact ⟨cur, [], rfl, Nat.le_refl _, fun _ => rfl⟩
      | cons y ys ih =>
        intro cur l
        unfold bkA
        split
        · exact ⟨_, _, rfl, Nat.le_refl _, fun h => by simp at h⟩
        · obtain ⟨z, zs, h1, h2, _⟩ := ih (cur ++ pcat y) y
          rw [app_length] at h2
          exact ⟨z, zs, h1, by omega, fun h => by simp at h⟩
    obtain ⟨z, zs, h1, h2, h3⟩ := key ys cur l
    exact ⟨z, zs, h1, by simpa [alen] using h2, h3⟩
  | p :: xs, cur, l, h => by
    rw [List.cons_append]
    unfold bkA
    rw [if_neg (by rw [h.hd]; decide)]
    obtain ⟨z, zs, h1, h2, h3⟩ := bkA_head ch ys xs (cur ++ pcat p) p h.tail
    refine ⟨z, zs, h1, ?_, h3⟩
    rw [app_length, pcat_length] at h2
    simp only [alen, List.map_cons, List.sum_cons] at h2 ⊢
    omega
theorem bk_head {ch : Nat} {xs ys : List (Str × Str)} (hx : xs ≠ []) (h : NoCut ch xs) : ∃ z zs, bk ch (xs ++ ys) = z :: zs ∧ alen xs ≤ z.length ∧ (ys = [] → zs = []) := by
  cases xs with
  | nil => exact absurd rfl hx
  | cons p xs =>
    obtain ⟨z, zs, h1, h2, h3⟩ := bkA_head ch ys xs (pcat p) p h
    refine ⟨z, zs, h1, ?_, h3⟩
    rw [pcat_length] at h2
    simpa [alen] using h2
theorem bk_app {ch : Nat} {xs ys : List (Str × Str)} {p q : Str × Str} (h1 : xs.getLast? = some p) (h2 : ys.head? = some q) (h : cb ch p q = true) : bk ch (xs ++ ys) = bk ch xs ++ bk ch ys := by
  cases xs with
  | nil => simp at h1
  | cons a xs =>
    cases ys with
    | nil => simp at h2
    | cons y ys =>
      simp only [List.head?_cons, Option.some.injEq] at h2
      subst h2
      have : ld a xs = p := by
        rw [ld_last] at h1
        exact Option.some.inj h1
      exact bkA_app ch y ys xs (pcat a) a (by rw [this]; exact h)
theorem bk_snoc {ch : Nat} {xs : List (Str × Str)} {p q : Str × Str} (h1 : xs.getLast? = some p) : bk ch (xs ++ [q]) = if cb ch p q then bk ch xs ++ [pcat q] else addLast (bk ch xs) (pcat q) := by
  cases xs with
  | nil => simp at h1
  | cons a xs =>
    have h2 : ld a xs = p := by
      rw [ld_last] at h1
      exact Option.some.inj h1
    have := bkA_snoc ch q xs (pcat a) a
    rw [h2] at this
    exact this
/-- the law's own blocks are these -/
theorem lbF_bk (ch : Nat) (ps : List (Str × Str)) : ∀ k, k ≤ ps.length → lbF ch ps k = bk ch (ps.take k)
  | 0, _ => rfl
  | k + 1, h => by
    have ih := lbF_bk ch ps k (by omega)
    obtain ⟨p, hp⟩ : ∃ p, ps[k]? = some p := ⟨_, List.getElem?_eq_getElem h⟩
    have et : ps.take (k + 1) = ps.take k ++ [p] := by rw [List.take_add_one, hp]; rfl
    unfold lbF
    rw [hp]
    dsimp only
    rw [et]
    rcases Nat.eq_zero_or_pos k with e | e
    · subst e
      simp [cutB, lbF, bk, bkA]
    · obtain ⟨p0, hp0⟩ : ∃ p, ps[k - 1]? = some p := ⟨_, List.getElem?_eq_getElem (by omega)⟩
      have hl : (ps.take k).getLast? = some p0 := by
        rw [List.getLast?_eq_getElem?, List.length_take, Nat.min_eq_left (by omega), List.getElem?_take_of_lt (by omega)]
        exact hp0
      have hc : cutB ch ps k = cb ch p0 p := by
        unfold cutB cb
        rw [hp, hp0]
        have : decide (k = 0) = false := by simp; omega
        simp [this]
      rw [bk_snoc hl, hc, ih]
theorem lbF_all (ch : Nat) (ps : List (Str × Str)) : lbF ch ps ps.length = bk ch ps := by rw [lbF_bk ch ps _ (Nat.le_refl _), List.take_length]

/-- what is known of a chunk -/
structure CW (p : Str × Str) : Prop where
  bl : ∀ c ∈ p.1.cps.toList, isB c = true
  wf : p.2.cps[0]? = some 119
theorem CF.cw {p : Str × Str} (h : CF p) : CW p := ⟨h.bl, h.wf⟩
def Sg (ch : Nat) : Prop := ch = 32 ∨ ch = 9 ∨ ch = 59 ∨ ch = 44
theorem cutAt_cb {ch : Nat} (hs : Sg ch) {q : List (Str × Str)} {i : Nat} {p p' : Str × Str} (h1 : q[i]? = some p) (h2 : q[i + 1]? = some p') (hw : CW p') : cutAt ch q (i + 1) = cb ch p p' := by
  unfold cutAt cb
  rw [h2, Nat.add_sub_cancel, h1]
  simp only [Option.any_some]
  have key : (ch = 59 ∨ ch = 44) → (p'.1.cps[0]? == some ch) = false := by
    intro hc
    cases hx : p'.1.cps[0]? with
    | none => simp
    | some c =>
      have : c ∈ p'.1.cps.toList := by
        rw [← Array.getElem?_toList] at hx
        exact List.mem_of_getElem? hx
      have := hw.bl c this
      simp only [isB, Bool.or_eq_true, beq_iff_eq] at this
      rw [show (some c == some ch) = false from by simp; omega]
  have s1 : Txt.isspace ⟨#[32]⟩ = true := by decide +kernel
  have s2 : Txt.isspace ⟨#[9]⟩ = true := by decide +kernel
  rcases hs with rfl | rfl | h | h
  · rw [s1, Bool.true_and]
  · rw [s2, Bool.true_and]
  · rw [key (.inl h), Bool.and_false]
  · rw [key (.inr h), Bool.and_false]
theorem findCut_none {ch : Nat} {q : List (Str × Str)} : ∀ {n : Nat}, findCut ch q n = none → ∀ i, 1 ≤ i → i ≤ n → cutAt ch q i = false
  | 0, _, i, h1, h2 => by omega
  | n + 1, h, i, h1, h2 => by
    unfold findCut at h
    split at h
    · cases h
    · rename_i hc
      rcases Nat.lt_or_ge n i with hi | hi
      · have : i = n + 1 := by omega
        subst this
        simpa using hc
      · exact findCut_none h i h1 hi
theorem findCut_some {ch : Nat} {q : List (Str × Str)} : ∀ {n i : Nat}, findCut ch q n = some i → 1 ≤ i ∧ i ≤ n ∧ cutAt ch q i = true ∧ ∀ j, i < j → j ≤ n → cutAt ch q j = false
  | 0, _, h => by cases h
  | n + 1, i, h => by
    unfold findCut at h
    split at h
    · rename_i hc
      cases h
      exact ⟨by omega, Nat.le_refl _, hc, fun j h1 h2 => by omega⟩
    · rename_i hc
      obtain ⟨h1, h2, h3, h4⟩ := findCut_some h
      refine ⟨h1, by omega, h3, fun j hj hn => ?_⟩
      rcases Nat.lt_or_ge n j with hi | hi
      · have : j = n + 1 := by omega
        subst this
        simpa using hc
      · exact h4 j hj hi
theorem isspace_no {ps : List (Str × Str)} {p : Str × Str} (h : p ∈ ps) (hw : CW p) : Txt.isspace (acat ps) = false := by
  have hm : 119 ∈ (acat ps).cps.toList := by
    rw [acat_jn, jn_tx]
    refine List.mem_flatMap.mpr ⟨pcat p, List.mem_map.mpr ⟨p, h, rfl⟩, ?_⟩
    unfold pcat
    rw [app_tx]
    refine List.mem_append_right _ ?_
    have := hw.wf
    rw [← Array.getElem?_toList] at this
    exact List.mem_of_getElem? this
  unfold Txt.isspace
  rw [show (acat ps).cps.all Unicode.isSpace = false from ?_, Bool.and_false]
  rw [← Array.all_toList]
  rw [Bool.eq_false_iff]
  intro ha
  have := List.all_eq_true.mp ha 119 hm
  exact absurd this (by decide +kernel)
theorem CW.pos {p : Str × Str} (h : CW p) : 0 < p.2.length := by
  have := h.wf
  have := (Array.getElem?_eq_some_iff.mp this).1
  exact this
/-- the end of the text -/
def finF (st : FS) : List Str := nlLines st.lines st.init (nlPs st.ps)
theorem fin_ok {lines : List Str} {init : Int} {ps : List (Str × Str)} (hne : ps ≠ []) (hw : ∀ p ∈ ps, CW p) (hi : 0 ≤ init) : finF ⟨lines, init, ps⟩ = lines ++ [acat ps] := by
  obtain ⟨qs, p, e⟩ : ∃ qs p, ps = qs ++ [p] := by
    rcases List.eq_nil_or_concat ps with e | ⟨qs, p, e⟩
    · exact absurd e hne
    · exact ⟨qs, p, by rw [e, List.concat_eq_append]⟩
  have hp : p ∈ ps := by rw [e]; simp
  have hpos := (hw p hp).pos
  have e1 : nlPs ps = ps := by
    rw [e, nlPs_snoc, if_neg]
    intro h
    have : p.2 = emp := congrArg Prod.snd h
    rw [this, emp_eq] at hpos
    exact absurd hpos (by decide)
  have hal : 0 < alen ps := by
    have := alen_mem hp
    unfold plen at this
    omega
  unfold finF
  dsimp only
  rw [e1]
  unfold nlLines
  rw [if_pos (by omega)]
  have : onlyws init ps = false := by
    unfold onlyws
    rw [isspace_no hp (hw p hp), show decide (alen ps = 0) = false from by simp; omega]
    simp
  rw [this]


theorem alen_take (ps : List (Str × Str)) (i : Nat) : alen (ps.take i) + alen (ps.drop i) = alen ps := by
  rw [← alen_app, List.take_append_drop]
theorem bk_ne {ch : Nat} {ps : List (Str × Str)} (h : ps ≠ []) : ∃ b xs, bk ch ps = b :: xs := by
  cases ps with
  | nil => exact absurd rfl h
  | cons p ps =>
    have := bkA_ne ch ps (pcat p) p
    unfold bk
    cases e : bkA ch (pcat p) p ps with
    | nil => exact absurd e this
    | cons b xs => exact ⟨b, xs, e⟩
theorem bk_len (ch : Nat) (ps : List (Str × Str)) : ((bk ch ps).map (·.length)).sum = alen ps := by rw [← jn_len, bk_jn, acat_len]
theorem last_take {α : Type} {q : List α} {i : Nat} {p : α} (h0 : 1 ≤ i) (h : i ≤ q.length) (hp : q[i - 1]? = some p) : (q.take i).getLast? = some p := by
  rw [List.getLast?_eq_getElem?, List.length_take, Nat.min_eq_left h, List.getElem?_take_of_lt (by omega)]
  exact hp
/-- a list with no cut found -/
theorem nocut_of {ch : Nat} (hs : Sg ch) {q : List (Str × Str)} (hw : ∀ p ∈ q, CW p) (i0 : Nat) (h : ∀ j, i0 < j → j ≤ q.length - 1 → cutAt ch q j = false) : NoCut ch (q.drop i0) := by
  intro j p p' h1 h2
  rw [List.getElem?_drop] at h1 h2
  have hl := (List.getElem?_eq_some_iff.mp h2).1
  have h2' : q[i0 + j + 1]? = some p' := by rw [← h2]; congr 1
  rw [← cutAt_cb hs h1 h2' (hw p' (List.mem_of_getElem? h2))]
  exact h _ (by omega) (by omega)
theorem feed_main {W : Int} {ch : Nat} (hs : Sg ch) : ∀ (Q ps : List (Str × Str)) (init : Int) (lines : List Str), ps ++ Q ≠ [] → (∀ p ∈ ps ++ Q, CW p) → 0 ≤ init → (init + (alen ps : Nat) ≤ W ∨ NoCut ch ps) →
    (0 < init → ∃ z zs, bk ch (ps ++ Q) = z :: zs ∧ init + (z.length : Nat) ≤ W) → ∃ rows, finF (feedF W ch ⟨lines, init, ps⟩ Q) = lines ++ rows ∧ Pk W (W - init) (bk ch (ps ++ Q)) rows
  | [], ps, init, lines, hne, hw, hi, inv, _ => by
    rw [List.append_nil] at hne hw ⊢
    obtain ⟨b, xs, hb⟩ := bk_ne (ch := ch) hne
    refine ⟨[acat ps], fin_ok hne hw hi, ?_⟩
    rw [hb, ← bk_jn ch ps, hb]
    refine Pk.cons (rest := []) (by simp) ?_ (by simp) .nil
    rcases inv with h | h
    · right
      rw [← hb, bk_jn, acat_len]; omega
    · left
      obtain ⟨z, zs, h1, _, h3⟩ := bk_head (ys := []) hne h
      rw [List.append_nil, hb] at h1
      rw [(List.cons.inj h1).2]
      exact h3 rfl
  | p :: Q, ps, init, lines, hne, hw, hi, inv, hfit => by
    have eq0 : ps ++ p :: Q = (ps ++ [p]) ++ Q := by simp
    rw [eq0] at hw hfit ⊢
    have hqne : ps ++ [p] ≠ [] := by simp
    have hwq : ∀ x ∈ ps ++ [p], CW x := fun x hx => hw x (List.mem_append_left _ hx)
    show ∃ rows, finF (feedF W ch (acF W ch ⟨lines, init, ps⟩ p.1 p.2) Q) = _ ∧ _
    have ep : (p.1, p.2) = p := rfl
    unfold acF
    dsimp only
    rw [ep]
    have hql : (ps ++ [p]).length = ps.length + 1 := by simp
    by_cases hov : init + ((alen (ps ++ [p]) : Nat) : Int) > W
    · rw [if_pos hov]
      cases hfc : findCut ch (ps ++ [p]) ((ps ++ [p]).length - 1) with
      | some i =>
        dsimp only
        obtain ⟨i1, i2, hc, haft⟩ := findCut_some hfc
        rw [hql] at i2
        obtain ⟨p1, hp1⟩ : ∃ x, (ps ++ [p])[i - 1]? = some x := ⟨_, List.getElem?_eq_getElem (by rw [hql]; omega)⟩
        obtain ⟨p2, hp2⟩ : ∃ x, (ps ++ [p])[i]? = some x := ⟨_, List.getElem?_eq_getElem (by rw [hql]; omega)⟩
        have hcb : cb ch p1 p2 = true := by
          have := cutAt_cb hs (i := i - 1) hp1 (by rw [Nat.sub_add_cancel i1]; exact hp2) (hwq p2 (List.mem_of_getElem? hp2))
          rw [Nat.sub_add_cancel i1] at this
          rw [← this]; exact hc
        have hnc : NoCut ch ((ps ++ [p]).drop i) := nocut_of hs hwq i haft
        have hdne : (ps ++ [p]).drop i ≠ [] := by
          intro e
          have := congrArg List.length e
          rw [List.length_drop, hql] at this
          simp at this; omega
        have htne : (ps ++ [p]).take i ≠ [] := by
          intro e
          have := congrArg List.length e
          rw [List.length_take, hql] at this
          simp at this; omega
        have hsub : ∀ x ∈ (ps ++ [p]).drop i ++ Q, CW x := by
          intro x hx
          rcases List.mem_append.mp hx with hx | hx
          · exact hwq x (List.mem_of_mem_drop hx)
          · exact hw x (List.mem_append_right _ hx)
        obtain ⟨rows, hr, hpk⟩ := feed_main (W := W) hs Q ((ps ++ [p]).drop i) 0 (lines ++ [acat ((ps ++ [p]).take i)]) (by simp [hdne]) hsub (Int.le_refl _) (.inr hnc) (fun h => absurd h (by decide))
        obtain ⟨b, xs, hb⟩ := bk_ne (ch := ch) htne
        have hrow : acat ((ps ++ [p]).take i) = jn (b :: xs) := by rw [← bk_jn ch, hb]
        have hsplit : bk ch ((ps ++ [p]) ++ Q) = bk ch ((ps ++ [p]).take i) ++ bk ch ((ps ++ [p]).drop i ++ Q) := by
          have e : (ps ++ [p]) ++ Q = (ps ++ [p]).take i ++ ((ps ++ [p]).drop i ++ Q) := by rw [← List.append_assoc, List.take_append_drop]
          rw [e]
          refine bk_app (last_take i1 (by rw [hql]; omega) hp1) ?_ hcb
          rw [List.head?_append, List.head?_drop, hp2]; rfl
        refine ⟨acat ((ps ++ [p]).take i) :: rows, by rw [hr]; simp, ?_⟩
        rw [hsplit, hb, hrow]
        have hal := alen_take (ps ++ [p]) i
        have hlen : (jn (b :: xs)).length = alen ((ps ++ [p]).take i) := by rw [← hrow, acat_len]
        refine Pk.cons rfl ?_ ?_ (by rw [Int.sub_zero] at hpk; exact hpk)
        · have htk : (ps ++ [p]).take i = ps.take i := List.take_append_of_le_length i2
          rcases inv with h | h
          · right
            rw [hlen, htk]
            have := alen_take ps i
            omega
          · left
            rcases Nat.lt_or_ge i ps.length with hlt | hge
            · have g1 : ps[i - 1]? = some p1 := by rw [← hp1, List.getElem?_append_left (by omega)]
              have g2 : ps[i - 1 + 1]? = some p2 := by rw [Nat.sub_add_cancel i1, ← hp2, List.getElem?_append_left hlt]
              rw [h _ _ _ g1 g2] at hcb; cases hcb
            · have e : (ps ++ [p]).take i = ps := by rw [htk, List.take_of_length_le hge]
              rw [e] at hb htne
              obtain ⟨z, zs, h1, _, h3⟩ := bk_head (ys := []) htne h
              rw [List.append_nil, hb] at h1
              rw [(List.cons.inj h1).2]
              exact h3 rfl
        · intro b' hb'
          obtain ⟨z, zs, h1, h2, _⟩ := bk_head (ys := Q) hdne hnc
          rw [h1] at hb'
          simp only [List.head?_cons, Option.some.injEq] at hb'
          subst hb'
          rw [hlen]
          omega
      | none =>
        dsimp only
        have hnc : NoCut ch (ps ++ [p]) := by
          have := nocut_of hs hwq 0 (fun j h1 h2 => findCut_none hfc j h1 h2)
          simpa using this
        by_cases hpos : init > 0
        · obtain ⟨z, zs, h1, h2⟩ := hfit hpos
          obtain ⟨z', zs', h3, h4, _⟩ := bk_head (ys := Q) hqne hnc
          rw [h1] at h3
          have := (List.cons.inj h3).1
          subst this
          omega
        · rw [if_neg hpos]
          exact feed_main hs Q (ps ++ [p]) init lines (by simp) hw hi (.inr hnc) hfit
    · rw [if_neg hov]
      exact feed_main hs Q (ps ++ [p]) init lines (by simp) hw hi (.inl (by omega)) hfit

theorem least_of {P : Nat → Prop} [DecidablePred P] : ∀ n, P n → ∃ k, k ≤ n ∧ P k ∧ ∀ i, i < k → ¬ P i
  | 0, h => ⟨0, Nat.le_refl _, h, fun i hi => by omega⟩
  | n + 1, h => by
    by_cases h0 : P 0
    · exact ⟨0, by omega, h0, fun i hi => by omega⟩
    · obtain ⟨k, h1, h2, h3⟩ := least_of (P := fun k => P (k + 1)) n h
      refine ⟨k + 1, by omega, h2, fun i hi => ?_⟩
      cases i with
      | zero => exact h0
      | succ i => exact h3 i (by omega)
theorem feed_take {W H : Int} {ch : Nat} {ps : List (Str × Str)} {fit : Nat} (hf : fit ≤ ps.length) (h : ∀ i, i < fit → H + (alen (ps.take (i + 1)) : Nat) ≤ W) : ∀ k, k ≤ fit → feedF W ch ⟨[], H, []⟩ (ps.take k) = ⟨[], H, ps.take k⟩
  | 0, _ => rfl
  | k + 1, hk => by
    obtain ⟨p, hp⟩ : ∃ p, ps[k]? = some p := ⟨_, List.getElem?_eq_getElem (by omega)⟩
    have et : ps.take (k + 1) = ps.take k ++ [p] := by rw [List.take_add_one, hp]; rfl
    have := h k (by omega)
    rw [et] at this ⊢
    unfold feedF
    rw [List.foldl_append]
    have ih := feed_take (ch := ch) hf h k (by omega)
    unfold feedF at ih
    rw [ih]
    show acF W ch ⟨[], H, ps.take k⟩ p.1 p.2 = _
    unfold acF
    dsimp only
    rw [show (p.1, p.2) = p from rfl, if_neg (by omega)]
theorem acat_nl {ps : List (Str × Str)} (hw : ∀ p ∈ ps, CW p) : acat (nlPs ps) = acat ps := by
  rcases List.eq_nil_or_concat ps with e | ⟨qs, p, e⟩
  · rw [e]; decide +kernel
  · rw [List.concat_eq_append] at e
    have hpos := (hw p (by rw [e]; simp)).pos
    rw [e, nlPs_snoc, if_neg]
    intro h
    have : p.2 = emp := congrArg Prod.snd h
    rw [this, emp_eq] at hpos
    exact absurd hpos (by decide)
theorem blank_b : ∀ c ∈ blank.cps.toList, isB c = true := by decide +kernel
theorem feed_two {W H : Int} {ch : Nat} (hs : Sg ch) {ps : List (Str × Str)} (hw : ∀ p ∈ ps, CW p) (hH : 0 < H) {z : Str} {zs : List Str} (hz : bk ch ps = z :: zs) (hov : W < H + (z.length : Nat)) :
    ∃ fit p rows, ps[fit]? = some p ∧ (∀ i, i < fit → H + (alen (ps.take (i + 1)) : Nat) ≤ W) ∧ W < H + (alen (ps.take (fit + 1)) : Nat) ∧
      finF (feedF W ch ⟨[], H, []⟩ ps) = acat (ps.take fit) :: rows ∧ Pk W W (bk ch ((if p.1 = emp then blank else p.1, p.2) :: ps.drop (fit + 1))) rows := by
  have hne : ps ≠ [] := by intro e; rw [e] at hz; cases hz
  have hlen : 0 < ps.length := List.length_pos_iff.mpr hne
  obtain ⟨fit, hf1, hf2, hf3⟩ := least_of (P := fun k => W < H + (alen (ps.take (k + 1)) : Nat)) (ps.length - 1) (by
    rw [Nat.sub_add_cancel hlen, List.take_length]
    have := bk_len ch ps
    rw [hz] at this
    simp only [List.map_cons, List.sum_cons] at this
    omega)
  have hf3' : ∀ i, i < fit → H + (alen (ps.take (i + 1)) : Nat) ≤ W := fun i hi => by have := hf3 i hi; omega
  have hfl : fit < ps.length := Nat.lt_of_le_of_lt hf1 (Nat.sub_lt hlen Nat.one_pos)
  obtain ⟨p, hp⟩ : ∃ p, ps[fit]? = some p := ⟨_, List.getElem?_eq_getElem hfl⟩
  have et : ps.take (fit + 1) = ps.take fit ++ [p] := by rw [List.take_add_one, hp]; rfl
  have hwp := hw p (List.mem_of_getElem? hp)
  have hwt : ∀ x ∈ ps.take (fit + 1), CW x := fun x hx => hw x (List.mem_of_mem_take hx)
  have htl : (ps.take (fit + 1)).length = fit + 1 := by rw [List.length_take]; exact Nat.min_eq_left hfl
  have hnone : findCut ch (ps.take (fit + 1)) ((ps.take (fit + 1)).length - 1) = none := by
    cases hfc : findCut ch (ps.take (fit + 1)) ((ps.take (fit + 1)).length - 1) with
    | none => rfl
    | some i =>
      exfalso
      obtain ⟨i1, i2, hc, _⟩ := findCut_some hfc
      rw [htl, Nat.add_sub_cancel] at i2
      have hil : i < ps.length := Nat.lt_of_le_of_lt i2 hfl
      obtain ⟨p1, hp1⟩ : ∃ x, ps[i - 1]? = some x := ⟨_, List.getElem?_eq_getElem (Nat.lt_of_le_of_lt (Nat.sub_le i 1) hil)⟩
      obtain ⟨p2, hp2⟩ : ∃ x, ps[i]? = some x := ⟨_, List.getElem?_eq_getElem hil⟩
      have hcb : cb ch p1 p2 = true := by
        have := cutAt_cb hs (q := ps.take (fit + 1)) (i := i - 1) (p := p1) (p' := p2) (by rw [List.getElem?_take_of_lt (Nat.lt_succ_of_le (Nat.le_trans (Nat.sub_le i 1) i2))]; exact hp1) (by rw [Nat.sub_add_cancel i1, List.getElem?_take_of_lt (Nat.lt_succ_of_le i2)]; exact hp2) (hw p2 (List.mem_of_getElem? hp2))
        rw [Nat.sub_add_cancel i1] at this
        rw [← this]; exact hc
      have hsp : bk ch ps = bk ch (ps.take i) ++ bk ch (ps.drop i) := by
        conv => lhs; rw [← List.take_append_drop i ps]
        exact bk_app (last_take i1 (Nat.le_of_lt hil) hp1) (by rw [List.head?_drop, hp2]) hcb
      obtain ⟨b, xs, hb⟩ := bk_ne (ch := ch) (ps := ps.take i) (by
        intro e
        have := congrArg List.length e
        rw [List.length_take, List.length_nil] at this
        omega)
      rw [hz, hb] at hsp
      have hzb : z = b := (List.cons.inj hsp).1
      have := bk_len ch (ps.take i)
      rw [hb] at this
      simp only [List.map_cons, List.sum_cons] at this
      have h5 := hf3' (i - 1) (Nat.lt_of_lt_of_le (Nat.sub_lt i1 Nat.one_pos) i2)
      rw [Nat.sub_add_cancel i1] at h5
      rw [hzb] at hov
      omega
  have hfeed : feedF W ch ⟨[], H, []⟩ ps = feedF W ch ⟨[acat (ps.take fit)], 0, [(if p.1 = emp then blank else p.1, p.2)]⟩ (ps.drop (fit + 1)) := by
    have e : ps = ps.take fit ++ (p :: ps.drop (fit + 1)) := by
      conv => lhs; rw [← List.take_append_drop fit ps]
      rw [List.drop_eq_getElem_cons hfl]
      rw [List.getElem?_eq_getElem hfl] at hp
      rw [Option.some.inj hp]
    conv => lhs; rw [e]
    unfold feedF
    rw [List.foldl_append]
    have ih := feed_take (ch := ch) (Nat.le_of_lt hfl) hf3' fit (Nat.le_refl _)
    unfold feedF at ih
    rw [ih, List.foldl_cons]
    congr 1
    show acF W ch ⟨[], H, ps.take fit⟩ p.1 p.2 = _
    unfold acF
    dsimp only
    rw [show (p.1, p.2) = p from rfl, ← et, if_pos (by omega), hnone]
    dsimp only
    rw [if_pos hH, nlLines_pos hH, acat_nl fun x hx => hw x (List.mem_of_mem_take hx)]
    rfl
  have hwp' : CW (if p.1 = emp then blank else p.1, p.2) := by
    refine ⟨?_, hwp.wf⟩
    dsimp only
    split
    · exact blank_b
    · exact hwp.bl
  obtain ⟨rows, hr, hpk⟩ := feed_main (W := W) hs (ps.drop (fit + 1)) [(if p.1 = emp then blank else p.1, p.2)] 0 [acat (ps.take fit)] (by simp) (by
    intro x hx
    rcases List.mem_append.mp hx with hx | hx
    · rw [List.mem_singleton.mp hx]; exact hwp'
    · exact hw x (List.mem_of_mem_drop hx)) (Int.le_refl _) (.inr (by intro i a b _ h2; simp at h2)) (fun h => absurd h (by decide))
  refine ⟨fit, p, rows, hp, hf3', hf2, by rw [hfeed, hr]; rfl, ?_⟩
  rw [Int.sub_zero] at hpk
  exact hpk
theorem feed_nil {W H : Int} {ch : Nat} : finF (feedF W ch ⟨[], H, []⟩ []) = if H > 0 then [emp] else [] := by
  show nlLines [] H (nlPs []) = _
  have e : nlPs [] = [(emp, emp)] := rfl
  have ea : alen [(emp, emp)] = 0 := by decide +kernel
  by_cases h : H > 0
  · rw [if_pos h, nlLines_pos h, e, show acat [(emp, emp)] = emp by decide +kernel]; rfl
  · rw [if_neg h]
    unfold nlLines
    rw [e, ea, if_neg (by omega)]


/-- the chunks as lists of signs -/
def toN (p : Str × Str) : List Nat × List Nat := (p.1.cps.toList, p.2.cps.toList)
theorem toS_toN (ps : List (Str × Str)) : (ps.map toN).map toS = ps := by
  rw [List.map_map]
  have : ∀ p ∈ ps, (toS ∘ toN) p = id p := fun p _ => by simp [toS, toN]
  rw [List.map_congr_left this, List.map_id]
theorem flat_toN (ps : List (Str × Str)) : flat (ps.map toN) = (acat ps).cps.toList := by
  rw [acat_jn, jn_tx, flat, List.flatMap_map, List.flatMap_map]
  congr 1
  funext p
  unfold pcat
  rw [app_tx]; rfl
theorem good_toN {ps : List (Str × Str)} (h : ∀ p ∈ ps, CF p) (ht : ∀ p ∈ ps.tail, p.1.length ≠ 0) : CGood (ps.map toN) := by
  constructor
  · intro q hq
    obtain ⟨p, hp, rfl⟩ := List.mem_map.mp hq
    have := h p hp
    refine ⟨this.bl, ?_, this.nb⟩
    intro e
    have hw := this.wf
    rw [← Array.getElem?_toList] at hw
    rw [show p.2.cps.toList = [] from e] at hw
    cases hw
  · intro q hq
    rw [← List.map_tail] at hq
    obtain ⟨p, hp, rfl⟩ := List.mem_map.mp hq
    intro e
    have := ht p hp
    rw [str_len, show p.1.cps.toList = [] from e] at this
    exact this rfl
theorem feed_bk {W H : Int} {ch : Nat} (hH : 0 ≤ H) (hH2 : H ≤ 9) : ∀ (ps : List (Str × Str)) (k : Nat) (st : FS), Bk k st → (∀ p ∈ ps, CF p) → Bk (k + ps.length) (feedF W ch st ps)
  | [], _, _, h, _ => h
  | p :: ps, k, st, h, hc => by
    have hp := hc p (.head _)
    have := hp.b2
    have := hp.w6
    have h1 := Bk.step (mx := W) (ch := ch) (f := p.1) (w := p.2) h (by omega)
    have := feed_bk (W := W) (ch := ch) hH hH2 ps (k + 1) _ h1 fun q hq => hc q (.tail _ hq)
    rw [List.length_cons, show k + (ps.length + 1) = k + 1 + ps.length by omega]
    exact this
theorem CF.len {p : Str × Str} (h : CF p) : p.1.length + p.2.length ≤ 8 := by have := h.b2; have := h.w6; omega
theorem alen_cf : ∀ {ps : List (Str × Str)}, (∀ p ∈ ps, CF p) → alen ps ≤ 8 * ps.length
  | [], _ => by simp [alen]
  | p :: ps, h => by
    have := alen_cf fun q hq => h q (.tail _ hq)
    have := (h p (.head _)).len
    have e : alen (p :: ps) = (p.1.length + p.2.length) + alen ps := by simp [alen, plen]
    rw [e, List.length_cons]
    omega
theorem cf_sm {ps : List (Str × Str)} (h : ∀ p ∈ ps, CF p) (hl : ps.length ≤ 32) : Sm ps := ⟨by omega, by have := alen_cf h; omega⟩
/-- the told lines stay small -/
theorem nl_small {k : Nat} {st : FS} (h : Bk k st) (hk : k ≤ 100) : (finF st).length ≤ 200 ∧ ∀ x ∈ finF st, x.length ≤ 10000 := by
  have a1 := h.pl
  have a2 := h.ln
  have a3 := nlPs_alen st.ps
  have a4 := acat_length (nlPs st.ps)
  have a5 := h.ll
  unfold finF nlLines
  split
  · split
    · rename_i y hy e
      have hym : y ∈ st.lines := List.mem_of_getLast? e
      have := a5 y hym
      refine ⟨by rw [List.length_append, List.length_dropLast]; simp; omega, fun x hx => ?_⟩
      rcases List.mem_append.mp hx with hx | hx
      · have := a5 x (List.dropLast_subset _ hx); omega
      · rw [List.mem_singleton.mp hx, app_length]; omega
    · refine ⟨by rw [List.length_append]; simp; omega, fun x hx => ?_⟩
      rcases List.mem_append.mp hx with hx | hx
      · have := a5 x hx; omega
      · rw [List.mem_singleton.mp hx]; omega
  · exact ⟨by omega, fun x hx => by have := a5 x hx; omega⟩
theorem vf_g (P : Params) : nsIn (KM P) mainGlobals "_ValueFormatter" = some (some (.ref 116)) := by kernel_rfl
theorem lt_g (P : Params) : nsIn (KM P) mainGlobals "_law_text" = some (some (.ref 209)) := by kernel_rfl
theorem lb_g (P : Params) : nsIn (KM P) mainGlobals "_law_blocks" = some (some (.ref 216)) := by kernel_rfl
def bar : Str := Str.ofString "|"

section
variable {c : Cx} {A : Around} {φ σ : Hp} {L : Addr} {s : Shared} {E : Value → Shared → Prop}
set_option maxHeartbeats 4000000 in
theorem lw_d (B : Bs c) {ca : Addr} {ps : List (Str × Str)} {W H : Int} {ch : Nat} {t2 t3 t4 : Tok} {v0 v1 v6 v7 v8 : Option Value} {r : List (Option Value)} {Q : Flow → Shared → Prop} (R : Rm A 100) (F : Fm c φ σ L lwNames (v0 :: v1 :: some (.int W t2) :: some (.str ⟨#[ch]⟩ t3) :: some (.int H t4) :: some (.ref ca) :: v6 :: v7 :: v8 :: none :: none :: none :: none :: r) s)
    (hs : Sg ch) (hH : 0 ≤ H) (hH2 : H ≤ 9) {vs : List Value} {n : Nat} (S : Sq σ ca (.type "list") none vs n) (C : CIt σ vs ps) (hpl : ps.length ≤ 32) (hps : ∀ p ∈ ps, CF p) (htl : ∀ p ∈ ps.tail, p.1.length ≠ 0)
    (k : ∀ v9 v10 lr t σ' s', Txts σ' lr (finF (feedF W ch ⟨[], H, []⟩ ps)) → σ lr = none → Mod [] σ σ' → Fm c φ σ' L lwNames (v0 :: v1 :: some (.int W t2) :: some (.str ⟨#[ch]⟩ t3) :: some (.int H t4) :: some (.ref ca) :: v6 :: v7 :: v8 :: v9 :: v10 :: some (.str (Txt.join bar (finF (feedF W ch ⟨[], H, []⟩ ps))) t) :: some (.ref lr) :: r) s' → wpAny c.M A (execs (lwS.drop 14) (callEnv lwFd L 223)) Q E s') :
    wpAny c.M A (execs (lwS.drop 8) (callEnv lwFd L 223)) Q E s := by
  have e1 : (sizeLine : Nat) = 16777216 := sizeLine_eq
  have N := lw_fn L
  refine r_seq ?_
  refine wpAny_Assign_Name ?_
  refine r_callN ?_
  refine r_glob B N F (vf_g _) ?_
  refine r_callW (kpr_ref (by kernel_rfl)) ?_
  refine r_arg ?_
  refine F.specT spec_const_int ?_
  intro u1 s F
  refine r_arg ?_
  refine F.specT spec_const_int ?_
  intro u2 s F
  refine r_arg ?_
  refine F.specT spec_const_str ?_
  intro u3 s F
  refine r_arg ?_
  refine F.specT spec_const_str ?_
  intro u4 s F
  refine r_args0 ?_
  refine ⟨F.ok.kx B, ?_⟩
  refine F.specR5 (fmt_new B (R.le (by decide : 31 ≤ 100)) (by decide +kernel)) ?_
  intro pl dp l0 a0 d0 σ1 s hAll F
  have H1 := hAll.1
  have hpl0 := hAll.2.1
  have hdp0 := hAll.2.2.1
  have hl00 := hAll.2.2.2.1
  have ha00 := hAll.2.2.2.2.1
  have hd00 := hAll.2.2.2.2.2.1
  have m1 := hAll.2.2.2.2.2.2
  clear hAll
  refine r_st N F 9 rfl rfl B.sz ?_
  intro s F
  refine ⟨rfl, ?_⟩
  refine r_seq ?_
  refine exi4 H1.dict ?_
  intro x1 x2 x3 x4 I1
  obtain ⟨es, ep, hdes, _⟩ := I1.ns
  have hxd : pl ≠ dp := ne_of_cls I1.at_ hdes rfl
  refine plainObj_wpAny_Assign_Attribute ?_
  refine wpAny_Constant_none ?_
  refine r_ld N F 9 rfl rfl ?_
  refine F.spec (spec_setattr B I1 (cls116 _) (st116 _) (by kernel_rfl) hxd (by decide)) ?_
  rintro _ σ2 s ⟨o2, e2, I2⟩ F
  have m2 : Mod [dp] σ1 σ2 := by rw [e2]; exact Mod.upd (.head _)
  have m02 : Mod [] σ σ2 := m1.skip m2 hdp0
  refine ⟨rfl, ?_⟩
  refine r_seq ?_
  refine wpAny_Assign_Name ?_
  refine r_callN ?_
  refine r_glob B N F (vf_g _) ?_
  refine r_callW (kpr_ref (by kernel_rfl)) ?_
  refine r_arg ?_
  refine r_ld N F 4 rfl rfl ?_
  refine r_arg ?_
  refine r_ld N F 2 rfl rfl ?_
  refine r_arg ?_
  refine F.specT spec_const_str ?_
  intro u5 s F
  refine r_arg ?_
  refine r_ld N F 3 rfl rfl ?_
  refine r_args0 ?_
  refine ⟨F.ok.kx B, ?_⟩
  refine F.specR5 (fmt_new B (R.le (by decide : 31 ≤ 100)) (by decide +kernel)) ?_
  intro f df l a d σ3 s hAll F
  have H3 := hAll.1
  have hf0 := hAll.2.1
  have hdf0 := hAll.2.2.1
  have hl0 := hAll.2.2.2.1
  have ha0 := hAll.2.2.2.2.1
  have hd0 := hAll.2.2.2.2.2.1
  have m3 := hAll.2.2.2.2.2.2
  clear hAll
  refine r_st N F 10 rfl rfl B.sz ?_
  intro s F
  refine ⟨rfl, ?_⟩
  have m03 := m02.trans m3
  have I3 := I2.mod m3 (by simp) (by simp)
  have S3 := S.mod0 m03
  have C3 := C.mod m03 (by simp)
  refine r_seq ?_
  refine wpAny_Expr_any ?_
  refine r_method ?_
  refine r_ld N F 10 rfl rfl ?_
  intro pl'
  refine exi4 H3.dict ?_
  intro y1 y2 y3 y4 If
  refine F.specE (spec_method B If (cls116 _) (f := 92) (by kernel_rfl) (by kernel_rfl) (fv_none _ _ _ _ _ _ _ _ _ (by decide))) ?_
  intro s F
  refine r_callW (kpr_ref (by kernel_rfl)) ?_
  refine r_arg ?_
  refine F.specT spec_const_str ?_
  intro u6 s F
  refine r_arg ?_
  refine r_callN ?_
  refine r_glob B N F (lt_g _) ?_
  refine r_callW (kpr_ref (by kernel_rfl)) ?_
  refine r_arg ?_
  refine r_ld N F 5 rfl rfl ?_
  refine r_args0 ?_
  refine ⟨F.ok.kx B, ?_⟩
  refine F.specTM (lt_spec B (R.le (by decide : 20 ≤ 100)) S3 C3 (cf_sm hps hpl)) ?_
  intro u7 σ4 s m4 F
  refine r_arg ?_
  refine r_ld N F 9 rfl rfl ?_
  refine r_args0 ?_
  refine ⟨F.ok.kx B, ?_⟩
  have H4 := H3.mod0 m4
  have I4 := I3.mod m4 (by simp) (by simp)
  have hb0 : Bk 0 (⟨[], H, []⟩ : FS) := ⟨by simp, by simp [alen], by simp, (fun x hx => nomatch hx), hH, by show H ≤ 1000; omega⟩
  have hch : ch < 128 := by rcases hs with rfl | rfl | rfl | rfl <;> decide
  refine F.spec (fd_spec B (st := ⟨[], H, []⟩) (cs := ps.map toN) (R.le (by decide : 65 ≤ 100)) hch H4 I4 (by rfl) (good_toN hps htl) (by rw [app_tx, flat_toN]; rfl) hb0 (by simp; omega) (by
    intro q hq
    obtain ⟨p, hp, rfl⟩ := List.mem_map.mp hq
    have := (hps p hp).len
    rw [str_len, str_len] at this
    show p.1.cps.toList.length + p.2.cps.toList.length ≤ 9
    omega)) ?_
  rintro _ σ5 s ⟨rfl, H5, m5⟩ F
  rw [toS_toN] at H5
  refine ⟨rfl, ?_⟩
  refine r_seq ?_
  refine wpAny_Assign_Name ?_
  refine r_method ?_
  refine r_ld N F 10 rfl rfl ?_
  intro pl'
  refine exi4 H5.dict ?_
  intro z1 z2 z3 z4 If5
  refine F.specE (spec_method B If5 (cls116 _) (f := 64) (by kernel_rfl) (by kernel_rfl) (fv_none _ _ _ _ _ _ _ _ _ (by decide))) ?_
  intro s F
  refine r_callW (kpr_ref (by kernel_rfl)) ?_
  refine r_arg ?_
  refine F.specT spec_const_str ?_
  intro u8 s F
  refine r_args0 ?_
  refine ⟨F.ok.kx B, ?_⟩
  have hbk := feed_bk (W := W) (ch := ch) hH hH2 ps 0 _ hb0 hps
  rw [Nat.zero_add] at hbk
  have hsm := nl_small hbk (by omega)
  refine F.specTM (st_spec B (sep := bar) (R.le (by decide : 50 ≤ 100)) H5 hbk (by omega) (by decide +kernel) hsm.1 hsm.2) ?_
  intro u9 σ6 s hAll F
  have H6 := hAll.1
  have m6 := hAll.2
  clear hAll
  refine r_st N F 11 rfl rfl B.sz ?_
  intro s F
  refine ⟨rfl, ?_⟩
  refine r_seq ?_
  refine wpAny_Assign_Name ?_
  refine Attribute_name ?_
  refine r_ld N F 10 rfl rfl ?_
  refine exi4 H6.dict ?_
  intro w1 w2 w3 w4 If6
  refine F.specE (spec_getattr B If6 (cls116 _) (by kernel_rfl) (fv_lines _ _ _ _ _ _ _ _ _) rfl) ?_
  intro s F
  refine r_st N F 12 rfl rfl B.sz ?_
  intro s F
  refine ⟨rfl, ?_⟩
  have m46 : Mod [a, d, l] σ4 σ6 := m5.trans m6
  have m26 : Mod [] σ2 σ6 := Mod.del2 (((m3.trans m4).to (M := [a, d, l])).trans m46) (by
    intro b hb
    simp only [List.mem_cons, List.not_mem_nil, or_false] at hb
    rcases hb with rfl | rfl | rfl <;> assumption)
  exact k _ _ l u9 σ6 s H6.lns (m02.fresh hl0) (m02.trans m26) F
end


section
variable {c : Cx} {A : Around} {φ σ : Hp} {L : Addr} {s : Shared} {E : Value → Shared → Prop}
theorem sum_le {m : Nat} : ∀ {ys : List Str}, (∀ x ∈ ys, x.length ≤ m) → (ys.map (·.length)).sum ≤ m * ys.length
  | [], _ => by simp
  | y :: ys, h => by
    have h1 := h y (.head _)
    have h2 := sum_le fun x hx => h x (.tail _ hx)
    simp only [List.map_cons, List.sum_cons, List.length_cons, Nat.mul_add]
    omega
theorem cf_ck {ps : List (Str × Str)} (hps : ∀ p ∈ ps, CF p) (htl : ∀ p ∈ ps.tail, p.1.length ≠ 0) : CkOk ps := ⟨fun p hp => by have := (hps p hp).cw.pos; omega, htl⟩
set_option maxHeartbeats 4000000 in
theorem lw_e (B : Bs c) {ca lr : Addr} {ps : List (Str × Str)} {W H : Int} {ch : Nat} {t t2 t3 t4 : Tok} {v0 v1 v6 v7 v8 v9 v10 : Option Value} {r : List (Option Value)} {rows : List Str} {Q : Flow → Shared → Prop} (R : Rm A 100) (F : Fm c φ σ L lwNames (v0 :: v1 :: some (.int W t2) :: some (.str ⟨#[ch]⟩ t3) :: some (.int H t4) :: some (.ref ca) :: v6 :: v7 :: v8 :: v9 :: v10 :: some (.str (Txt.join bar rows) t) :: some (.ref lr) :: none :: r) s)
    {vs : List Value} {n : Nat} (S : Sq σ ca (.type "list") none vs n) (C : CIt σ vs ps) (hpl : ps.length ≤ 32) (hps : ∀ p ∈ ps, CF p) (htl : ∀ p ∈ ps.tail, p.1.length ≠ 0) (T : Txts σ lr rows) (hr1 : rows.length ≤ 200) (hr2 : ∀ x ∈ rows, x.length ≤ 10000)
    (hnil : ps = [] → rows = if H > 0 then [emp] else [])
    (q : ∀ σ' vals' s', Fm c φ σ' L lwNames vals' s' → Q (.ret (.bool true)) s')
    (k : ∀ lb σ' s', ps ≠ [] → Txts σ' lb (bk ch ps) → σ lb = none → Mod [] σ σ' → Fm c φ σ' L lwNames (v0 :: v1 :: some (.int W t2) :: some (.str ⟨#[ch]⟩ t3) :: some (.int H t4) :: some (.ref ca) :: v6 :: v7 :: v8 :: v9 :: v10 :: some (.str (Txt.join bar rows) t) :: some (.ref lr) :: some (.ref lb) :: r) s' → wpAny c.M A (execs (lwS.drop 17) (callEnv lwFd L 223)) Q E s') :
    wpAny c.M A (execs (lwS.drop 14) (callEnv lwFd L 223)) Q E s := by
  have e1 : (sizeLine : Nat) = 16777216 := sizeLine_eq
  have N := lw_fn L
  have hvl := C.len
  refine r_seq ?_
  refine wpAny_If ?_
  refine wpAny_isTrue_Compare1 ?_
  refine r_ld N F 11 rfl rfl ?_
  refine r_method ?_
  refine F.specT spec_const_str ?_
  intro u1 s F
  intro pl
  refine GM.join ?_
  refine r_callW (kpr_builtin _) ?_
  refine r_arg ?_
  refine r_ld N F 12 rfl rfl ?_
  refine r_args0 ?_
  refine ⟨F.ok.kx B, ?_⟩
  refine F.spec (spec_joinL (x := bar) T (joinOk_of ?_)) ?_
  · have h1 := sum_le hr2
    have h2 : bar.length = 1 := by decide +kernel
    rw [h2]; omega
  rintro _ _ s ⟨⟨u2, rfl⟩, rfl⟩ F
  refine F.specV spec_ne_str ?_
  intro s F
  refine F.specV spec_truthy_bool ?_
  intro s F
  rw [if_neg (by simp)]
  refine r_nil ⟨rfl, ?_⟩
  refine wpAny_execs_cons ?_
  refine wpAny_If ?_
  refine wpAny_isTrue_Compare1 ?_
  refine r_ld N F 5 rfl rfl ?_
  refine r_list ?_
  refine r_args0 ?_
  refine F.specA (spec_list B (by size_fits)) ?_
  intro e σ1 s hAll F
  have he := hAll.1
  have ge := hAll.2.1
  have m1 := hAll.2.2
  clear hAll
  refine F.specV (spec_eqNil R (S.mod0 m1) (sq_of ge)) ?_
  intro s F
  refine F.specV spec_truthy_bool ?_
  intro s F
  have T1 := T.mod m1 (by simp)
  by_cases hne : vs = []
  · rw [if_pos (by simp [hne])]
    have hps0 : ps = [] := by rw [hne] at hvl; exact List.length_eq_zero_iff.mp hvl.symm
    have hrows := hnil hps0
    refine wpAny_execs_cons ?_
    refine wpAny_Return_some ?_
    refine wpAny_Compare1 ?_
    refine r_ld N F 12 rfl rfl ?_
    refine wpAny_IfExp ?_
    refine wpAny_isTrue_Compare1 ?_
    refine r_ld N F 4 rfl rfl ?_
    refine F.specT spec_const_int ?_
    intro u3 s F
    refine F.specV spec_gt_int ?_
    intro s F
    refine F.specV spec_truthy_bool ?_
    intro s F
    by_cases hH : H > 0
    · rw [if_pos hH] at hrows
      rw [if_pos (by simpa using hH)]
      refine r_list ?_
      refine r_arg ?_
      refine F.specT spec_const_str ?_
      intro u4 s F
      refine r_args0 ?_
      refine F.specA (spec_list B (by size_fits)) ?_
      intro e2 σ2 s hAll F
      have he2 := hAll.1
      have ge2 := hAll.2.1
      have m2 := hAll.2.2
      clear hAll
      refine F.specV (spec_eqTxts (ys := [emp]) R (T1.mod m2 (by simp)) ⟨[(emp, u4)], 0, sq_of ge2, rfl⟩) ?_
      intro s F
      rw [decide_eq_true hrows]
      exact q _ _ _ F
    · rw [if_neg hH] at hrows
      rw [if_neg (by simpa using hH)]
      refine r_list ?_
      refine r_args0 ?_
      refine F.specA (spec_list B (by size_fits)) ?_
      intro e2 σ2 s hAll F
      have he2 := hAll.1
      have ge2 := hAll.2.1
      have m2 := hAll.2.2
      clear hAll
      refine F.specV (spec_eqTxts (ys := []) R (T1.mod m2 (by simp)) ⟨[], 0, sq_of ge2, rfl⟩) ?_
      intro s F
      rw [decide_eq_true hrows]
      exact q _ _ _ F
  · rw [if_neg (by simp [hne])]
    refine r_nil ?_
    refine r_seq ?_
    refine wpAny_Assign_Name ?_
    refine r_callN ?_
    refine r_glob B N F (lb_g _) ?_
    refine r_callW (kpr_ref (by kernel_rfl)) ?_
    refine r_arg ?_
    refine r_ld N F 5 rfl rfl ?_
    refine r_arg ?_
    refine r_ld N F 3 rfl rfl ?_
    refine r_args0 ?_
    refine ⟨F.ok.kx B, ?_⟩
    refine F.specA (lb_spec B (R.le (by decide : 20 ≤ 100)) (S.mod0 m1) (C.mod m1 (by simp)) (cf_sm hps hpl) (cf_ck hps htl)) ?_
    intro lb σ2 s hAll F
    have hlb0 := hAll.1
    have hlb := hAll.2.1
    have m2 := hAll.2.2
    clear hAll
    refine r_st N F 13 rfl rfl B.sz ?_
    intro s F
    refine ⟨rfl, ?_⟩
    rw [lbF_all] at hlb
    exact k lb σ2 s (fun e => hne (List.length_eq_zero_iff.mp (by rw [hvl, e]; rfl))) hlb (m1.fresh hlb0) (m1.trans m2) F
end


theorem CIt.take {σ : Hp} {vs : List Value} {ps : List (Str × Str)} (h : CIt σ vs ps) : ∀ k, CIt σ (vs.take k) (ps.take k) := by
  induction h with
  | nil => intro k; rw [List.take_nil, List.take_nil]; exact .nil
  | cons a _ ih =>
    intro k
    cases k with
    | zero => exact .nil
    | succ k => exact .cons a (ih k)
theorem CIt.drop {σ : Hp} {vs : List Value} {ps : List (Str × Str)} (h : CIt σ vs ps) : ∀ k, CIt σ (vs.drop k) (ps.drop k) := by
  induction h with
  | nil => intro k; rw [List.drop_nil, List.drop_nil]; exact .nil
  | cons a r ih =>
    intro k
    cases k with
    | zero => exact .cons a r
    | succ k => exact ih k
theorem cut_to {α : Type} {xs : List α} {k : Nat} : cut xs none (some k) = xs.take k := by
  simp only [cut, sStart, sStop, Option.getD_none, Option.getD_some, Nat.zero_min, List.drop_zero]
  rcases Nat.le_total k xs.length with h | h
  · rw [Nat.min_eq_left h]
  · rw [Nat.min_eq_right h, List.take_of_length_le (Nat.le_refl _), List.take_of_length_le h]
theorem txts_cut {σ : Hp} {a : Addr} {us : List (Str × Tok)} {n : Nat} (h : σ a = some (lObj ((strValues us).take n) 0)) : Txts σ a ((us.map (·.1)).take n) :=
  ⟨us.take n, 0, sq_of (by rw [h]; simp [strValues, List.map_take]), by rw [List.map_take]⟩
theorem txts_drop {σ : Hp} {a : Addr} {us : List (Str × Tok)} {n : Nat} (h : σ a = some (lObj ((strValues us).drop n) 0)) : Txts σ a ((us.map (·.1)).drop n) :=
  ⟨us.drop n, 0, sq_of (by rw [h]; simp [strValues, List.map_drop]), by rw [List.map_drop]⟩

/-- a while loop; J m: the measure -/
theorem r_while {c : Cx} {A : Around} {φ σ : Hp} {L : Addr} {names : List Str} {vals : List (Option Value)} {s : Shared} {env : Env} {test : Expr} {body orelse : List Stmt} {R : Result → Shared → Prop} (J : Nat → Hp → List (Option Value) → Prop)
    (turn : ∀ m σ vals s (E : Value → Shared → Prop), J m σ vals → Fm c φ σ L names vals s → wpAny c.M A (isTrue test env (eval test env)) (fun b s₂ =>
      if b then wpAny c.M A (execs body env) (fun f s₃ => match f with
        | .next | .cont => ∃ m' σ' vals', m' < m ∧ J m' σ' vals' ∧ Fm c φ σ' L names vals' s₃
        | .brk => R (.ok .next) s₃
        | .ret v => R (.ok (.ret v)) s₃) E s₂
      else wpAny c.M A (execs orelse env) (fun f s₃ => R (.ok f) s₃) E s₂) E s)
    (m : Nat) (h : J m σ vals) (F : Fm c φ σ L names vals s) : codeAny c.M A (.whileLoop test body orelse env) R s := by
  refine codeAny_whileLoop (fun m s => ∃ σ vals, J m σ vals ∧ Fm c φ σ L names vals s) ?_ m ⟨σ, vals, h, F⟩
  rintro m s ⟨σ, vals, hJ, F⟩
  refine wpAny_mono (turn m σ vals s _ hJ F) (fun b s₂ h₂ => ?_) fun _ _ e => e
  cases b with
  | false => exact h₂
  | true =>
    rw [if_pos rfl] at h₂ ⊢
    refine wpAny_mono h₂ (fun f s₃ h₃ => ?_) fun _ _ e => e
    cases f with
    | next => obtain ⟨m', σ', vals', h1, h2, h3⟩ := h₃; exact ⟨m', h1, σ', vals', h2, h3⟩
    | cont => obtain ⟨m', σ', vals', h1, h2, h3⟩ := h₃; exact ⟨m', h1, σ', vals', h2, h3⟩
    | brk => exact h₃
    | ret v => exact h₃
/-- a name's load, bare -/
theorem r_ldN {c : Cx} {A : Around} {φ σ : Hp} {L : Addr} {names : List Str} {vals : List (Option Value)} {s : Shared} {env : Env} {x : Str} {v : Value} {Q : Value → Shared → Prop} {E : Value → Shared → Prop}
    (N : Fn env L names) (F : Fm c φ σ L names vals s) (i : Nat) (hx : names[i]? = some x) (hv : vals[i]? = some (some v)) (h : Q v s) : wpAny c.M A (loadName env x) Q E s :=
  wpAny_loadName_local N.kind (N.lk x (List.mem_of_getElem? hx)) (N.loc ▸ F.ns) (vmap_get N.nd hx hv) h

/-- blocks and rows stay small -/
structure SmB (bs rows : List Str) : Prop where
  bn : bs.length ≤ 32
  bl : (bs.map (·.length)).sum ≤ 300
  bp : ∀ b ∈ bs, 0 < b.length
  rn : rows.length ≤ 200
  rl : ∀ x ∈ rows, x.length ≤ 10000
theorem bkA_pos (ch : Nat) : ∀ (ps : List (Str × Str)) (cur : Str) (l : Str × Str), 0 < cur.length → (∀ p ∈ ps, CW p) → ∀ b ∈ bkA ch cur l ps, 0 < b.length
  | [], cur, l, h, _, b, hb => by
    rw [bkA, List.mem_singleton] at hb
    rw [hb]; exact h
  | p :: ps, cur, l, h, hw, b, hb => by
    have hp : 0 < (pcat p).length := by
      rw [pcat_length]
      have := (hw p (.head _)).pos
      unfold plen
      omega
    unfold bkA at hb
    split at hb
    · rcases List.mem_cons.mp hb with rfl | hb
      · exact h
      · exact bkA_pos ch ps _ _ hp (fun q hq => hw q (.tail _ hq)) b hb
    · exact bkA_pos ch ps _ _ (by rw [app_length]; omega) (fun q hq => hw q (.tail _ hq)) b hb
theorem bk_pos {ch : Nat} {ps : List (Str × Str)} (hw : ∀ p ∈ ps, CW p) : ∀ b ∈ bk ch ps, 0 < b.length := by
  cases ps with
  | nil => intro b hb; cases hb
  | cons p ps =>
    refine bkA_pos ch ps _ _ ?_ fun q hq => hw q (.tail _ hq)
    rw [pcat_length]
    have := (hw p (.head _)).pos
    unfold plen
    omega
theorem bkA_count (ch : Nat) : ∀ (ps : List (Str × Str)) (cur : Str) (l : Str × Str), (bkA ch cur l ps).length ≤ ps.length + 1
  | [], _, _ => by simp [bkA]
  | p :: ps, cur, l => by
    have h1 := bkA_count ch ps (pcat p) p
    have h2 := bkA_count ch ps (cur ++ pcat p) p
    unfold bkA
    split <;> simp <;> omega
theorem bk_count (ch : Nat) (ps : List (Str × Str)) : (bk ch ps).length ≤ ps.length := by
  cases ps with
  | nil => exact Nat.le_refl _
  | cons p ps => exact bkA_count ch ps _ _
theorem smB_of {ch : Nat} {ps : List (Str × Str)} {rows : List Str} (hps : ∀ p ∈ ps, CF p) (hl : ps.length ≤ 32) (h1 : rows.length ≤ 200) (h2 : ∀ x ∈ rows, x.length ≤ 10000) : SmB (bk ch ps) rows :=
  ⟨Nat.le_trans (bk_count ch ps) hl, by rw [bk_len]; have := alen_cf hps; omega, bk_pos fun p hp => (hps p hp).cw, h1, h2⟩

def g17 : List Stmt := match lwS.drop 17 with | .If _ b _ _ :: _ => b | _ => []

section
variable {c : Cx} {A : Around} {φ σ : Hp} {L : Addr} {s : Shared} {E : Value → Shared → Prop}
/-- the branch's end: blocks, rows, head -/
theorem lw_g2 (B : Bs c) {ca lr lb : Addr} {ps2 : List (Str × Str)} {row : Str} {rows : List Str} {W H : Int} {ch fit : Nat} {t2 t3 t4 tf : Tok} {v0 v1 v6 v7 v8 v9 v10 v11 : Option Value} {r : List (Option Value)} {Q : Flow → Shared → Prop} (R : Rm A 100) (F : Fm c φ σ L lwNames (v0 :: v1 :: some (.int W t2) :: some (.str ⟨#[ch]⟩ t3) :: some (.int H t4) :: some (.ref ca) :: v6 :: v7 :: v8 :: v9 :: v10 :: v11 :: some (.ref lr) :: some (.ref lb) :: some (.int (fit : Int) tf) :: r) s)
    {vs : List Value} {n : Nat} (S : Sq σ ca (.type "list") none vs n) (C : CIt σ vs ps2) (hf : fit ≤ ps2.length) (hpl : ps2.length ≤ 32) (hps : ∀ p ∈ ps2.drop fit, CF p) (htl : ∀ p ∈ (ps2.drop fit).tail, p.1.length ≠ 0) (T : Txts σ lr (row :: rows)) (hr1 : rows.length ≤ 200)
    (k : ∀ lr' lb' t4' σ' s', Txts σ' lr' rows → Txts σ' lb' (bk ch (ps2.drop fit)) → Fm c φ σ' L lwNames (v0 :: v1 :: some (.int W t2) :: some (.str ⟨#[ch]⟩ t3) :: some (.int 0 t4') :: some (.ref ca) :: v6 :: v7 :: v8 :: v9 :: v10 :: v11 :: some (.ref lr') :: some (.ref lb') :: some (.int (fit : Int) tf) :: r) s' → Q .next s') :
    wpAny c.M A (execs (g17.drop 4) (callEnv lwFd L 223)) Q E s := by
  have e1 : (sizeLine : Nat) = 16777216 := sizeLine_eq
  have N := lw_fn L
  have hvl := C.len
  refine r_seq ?_
  refine wpAny_Assign_Name ?_
  refine r_callN ?_
  refine r_glob B N F (lb_g _) ?_
  refine r_callW (kpr_ref (by kernel_rfl)) ?_
  refine r_arg ?_
  refine Subscript_ ?_
  refine r_ld N F 5 rfl rfl ?_
  refine r_slice ?_
  refine ev_some (r_ld N F 14 rfl rfl ?_)
  refine ev_none ?_
  refine F.specA (spec_slc B) ?_
  intro b1 σ1 s hAll F
  have hb1 := hAll.1
  have g1 := hAll.2.1
  have m1 := hAll.2.2
  clear hAll
  refine F.specA (spec_getsl B (S.mod0 m1) g1 (.int fit tf (by omega)) .none (by omega)) ?_
  intro l2 σ2 s hAll F
  have hl20 := hAll.1
  have hl2 := hAll.2.1
  have m2 := hAll.2.2
  clear hAll
  rw [cut_from (by omega)] at hl2
  have C2 := ((C.mod m1 (by simp)).mod m2 (by simp)).drop fit
  refine r_arg ?_
  refine r_ld N F 3 rfl rfl ?_
  refine r_args0 ?_
  refine ⟨F.ok.kx B, ?_⟩
  refine F.spec (lb_spec B (R.le (by decide : 20 ≤ 100)) (sq_of hl2) C2 (cf_sm hps (by rw [List.length_drop]; omega)) (cf_ck hps htl)) ?_
  rintro _ σ3 s ⟨lb', rfl, hlb0, hlb, m3⟩ F
  rw [lbF_all] at hlb
  refine r_st N F 13 rfl rfl B.sz ?_
  intro s F
  refine ⟨rfl, ?_⟩
  refine exi2 (T.mod ((m1.trans m2).trans m3) (by simp)) ?_
  intro us nu hAll
  have Su := hAll.1
  have hu := hAll.2
  clear hAll
  have hul : (strValues us).length = rows.length + 1 := by
    have := congrArg List.length hu
    simpa [strValues] using this
  refine r_seq ?_
  refine wpAny_Assign_Name ?_
  refine Subscript_ ?_
  refine r_ld N F 12 rfl rfl ?_
  refine r_slice ?_
  refine ev_some ?_
  refine F.specT spec_const_int ?_
  intro u1 s F
  refine ev_none ?_
  refine F.specA (spec_slc B) ?_
  intro b4 σ4 s hAll F
  have hb4 := hAll.1
  have g4 := hAll.2.1
  have m4 := hAll.2.2
  clear hAll
  refine F.specA (spec_getsl B (Su.mod0 m4) g4 (.int 1 u1 (by omega)) .none (by omega)) ?_
  intro l5 σ5 s hAll F
  have hl50 := hAll.1
  have hl5 := hAll.2.1
  have m5 := hAll.2.2
  clear hAll
  rw [cut_from (by omega)] at hl5
  have T5 := txts_drop hl5
  rw [hu, List.drop_one, List.tail_cons] at T5
  refine r_st N F 12 rfl rfl B.sz ?_
  intro s F
  refine ⟨rfl, ?_⟩
  refine r_seq ?_
  refine wpAny_Assign_Name ?_
  refine F.specT spec_const_int ?_
  intro u2 s F
  refine r_st N F 4 rfl rfl B.sz ?_
  intro s F
  refine ⟨rfl, r_nil ?_⟩
  exact k l5 lb' u2 σ5 s T5 ((hlb.mod m4 (by simp)).mod m5 (by simp)) F
end


theorem fix_cf {p : Str × Str} (h : CF p) : CF (if p.1 = emp then blank else p.1, p.2) := by
  refine ⟨?_, ?_, h.wf, h.w6, h.nb⟩
  · dsimp only
    split
    · exact blank_b
    · exact h.bl
  · dsimp only
    split
    · decide +kernel
    · exact h.b2
theorem emp_len {x : Str} : x = emp ↔ x.length = 0 := by
  constructor
  · intro h; rw [h, emp_eq]; rfl
  · intro h
    refine str_ext ?_
    rw [emp_eq]
    rw [str_len] at h
    rw [List.length_eq_zero_iff.mp h]
theorem drop_at {α : Type} {xs : List α} {i : Nat} {x : α} (h : xs[i]? = some x) : xs.drop i = x :: xs.drop (i + 1) := by
  obtain ⟨hi, e⟩ := List.getElem?_eq_some_iff.mp h
  rw [List.drop_eq_getElem_cons hi, e]

/-- the chunks lie apart from what came later -/
theorem CkSt.apart {σ0 σ : Hp} {ca x : Addr} {o : Obj} {ps : List (Str × Str)} (h : CkSt σ0 σ ca ps) (hx : σ x = none) : CkSt (upd σ0 x o) σ ca ps := by
  obtain ⟨vs, n, S, C, N, f⟩ := h.ex
  refine ⟨vs, n, S, C, N, fun b hb => ?_⟩
  obtain ⟨ob, hob⟩ := C.lt b hb
  rw [upd_ne]
  · exact f b hb
  · intro e; rw [e, hx] at hob; cases hob

section
variable {c : Cx} {A : Around} {φ σ : Hp} {L : Addr} {s : Shared} {E : Value → Shared → Prop}
def g17s (i : Nat) : Stmt := (g17[i]?).getD (.Pass default)
/-- how many words fit -/
theorem lw_w (B : Bs c) {ca lr lb : Addr} {ps : List (Str × Str)} {W H : Int} {ch fit : Nat} {tf : Tok} {t2 t3 t4 : Tok} {v0 v1 v6 v7 v8 v9 v10 v11 : Option Value} {r : List (Option Value)} {Q : Flow → Shared → Prop} (R : Rm A 100) (F : Fm c φ σ L lwNames (v0 :: v1 :: some (.int W t2) :: some (.str ⟨#[ch]⟩ t3) :: some (.int H t4) :: some (.ref ca) :: v6 :: v7 :: v8 :: v9 :: v10 :: v11 :: some (.ref lr) :: some (.ref lb) :: some (.int ((0 : Nat) : Int) tf) :: r) s)
    {vs : List Value} {n : Nat} (S : Sq σ ca (.type "list") none vs n) (C : CIt σ vs ps) (hpl : ps.length ≤ 32) (hps : ∀ p ∈ ps, CF p) (hfl : fit < ps.length) (hlo : ∀ i, i < fit → H + (alen (ps.take (i + 1)) : Nat) ≤ W) (hhi : W < H + (alen (ps.take (fit + 1)) : Nat))
    (k : ∀ ti σ' s', Mod [] σ σ' → Fm c φ σ' L lwNames (v0 :: v1 :: some (.int W t2) :: some (.str ⟨#[ch]⟩ t3) :: some (.int H t4) :: some (.ref ca) :: v6 :: v7 :: v8 :: v9 :: v10 :: v11 :: some (.ref lr) :: some (.ref lb) :: some (.int (fit : Int) ti) :: r) s' → Q .next s') : wpAny c.M A (exec (g17s 1) (callEnv lwFd L 223)) Q E s := by
  have e1 : (sizeLine : Nat) = 16777216 := sizeLine_eq
  have N := lw_fn L
  have hvl := C.len
  refine wpAny_While ?_
  refine r_while (fun m σ' vals' => ∃ (i : Nat) (ti : Tok), m = fit - i ∧ i ≤ fit ∧ Mod [] σ σ' ∧ vals' = v0 :: v1 :: some (.int W t2) :: some (.str ⟨#[ch]⟩ t3) :: some (.int H t4) :: some (.ref ca) :: v6 :: v7 :: v8 :: v9 :: v10 :: v11 :: some (.ref lr) :: some (.ref lb) :: some (.int (i : Int) ti) :: r) ?_ (fit - 0) ⟨0, tf, rfl, Nat.zero_le _, Mod.refl, rfl⟩ F
  rintro m σ1 vals1 s E' ⟨i, ti, rfl, hi, m1, rfl⟩ F
  have S1 := S.mod0 m1
  have C1 := C.mod m1 (by simp)
  refine wpAny_isTrue_Compare1 ?_
  refine wpAny_BinOp ?_
  refine r_ld N F 4 rfl rfl ?_
  refine r_callN ?_
  refine r_bi B N F (len_bi _) len_boot ?_
  refine r_callW (kpr_builtin _) ?_
  refine r_arg ?_
  refine r_callN ?_
  refine r_glob B N F (lt_g _) ?_
  refine r_callW (kpr_ref (by kernel_rfl)) ?_
  refine r_arg ?_
  refine Subscript_ ?_
  refine r_ld N F 5 rfl rfl ?_
  refine r_slice ?_
  refine ev_none ?_
  refine ev_some ?_
  refine wpAny_BinOp ?_
  refine r_ld N F 14 rfl rfl ?_
  refine F.specT spec_const_int ?_
  intro w1 s F
  refine F.specT spec_add_int ?_
  intro w2 s F
  refine F.specA (spec_slc B) ?_
  intro b2 σ2 s hAll F
  have hb2 := hAll.1
  have g2 := hAll.2.1
  have m2 := hAll.2.2
  clear hAll
  refine F.specA (spec_getsl B (S1.mod0 m2) g2 .none (.int (i + 1) w2 (by omega)) (by omega)) ?_
  intro l3 σ3 s hAll F
  have hl30 := hAll.1
  have hl3 := hAll.2.1
  have m3 := hAll.2.2
  clear hAll
  rw [cut_to] at hl3
  have C3 := ((C1.mod m2 (by simp)).mod m3 (by simp)).take (i + 1)
  have hpst : ∀ q ∈ ps.take (i + 1), CF q := fun q hq => hps q (List.mem_of_mem_take hq)
  have hptl : (ps.take (i + 1)).length ≤ 32 := by rw [List.length_take]; omega
  refine r_args0 ?_
  refine ⟨F.ok.kx B, ?_⟩
  refine F.specTM (lt_spec B (R.le (by decide : 20 ≤ 100)) (sq_of hl3) C3 (cf_sm hpst hptl)) ?_
  intro w3 σ4 s m4 F
  have hal := alen_cf hpst
  refine r_args0 ?_
  refine ⟨F.ok.kx B, ?_⟩
  refine F.specT (spec_len_str (by rw [acat_len]; omega)) ?_
  intro w4 s F
  rw [acat_len]
  refine F.specT spec_add_int ?_
  intro w5 s F
  refine r_ld N F 2 rfl rfl ?_
  refine F.specV spec_le_int ?_
  intro s F
  refine F.specV spec_truthy_bool ?_
  intro s F
  have m14 := (m2.trans m3).trans m4
  by_cases hif : i < fit
  · rw [if_pos (by simpa using hlo i hif)]
    refine r_seq ?_
    refine wpAny_AugAssign_Name ?_
    refine r_ldN N F 14 rfl rfl ?_
    refine F.specT spec_const_int ?_
    intro w6 s F
    refine F.specT spec_iadd_int ?_
    intro w7 s F
    refine r_st N F 14 rfl rfl B.sz ?_
    intro s F
    refine ⟨rfl, r_nil ?_⟩
    exact ⟨fit - (i + 1), σ4, _, by omega, ⟨i + 1, w7, rfl, hif, m1.trans m14, rfl⟩, F⟩
  · have hie : i = fit := by omega
    subst hie
    rw [if_neg (by simp; omega)]
    exact r_nil (k ti σ4 s (m1.trans m14) F)
/-- the first row -/
theorem lw_ck (B : Bs c) {ca lr lb : Addr} {ps : List (Str × Str)} {rows rows' : List Str} {W H : Int} {ch i : Nat} {ti : Tok} {t2 t3 t4 : Tok} {v0 v1 v6 v7 v8 v9 v10 v11 : Option Value} {r : List (Option Value)} {Q : Flow → Shared → Prop} (R : Rm A 100) (F : Fm c φ σ L lwNames (v0 :: v1 :: some (.int W t2) :: some (.str ⟨#[ch]⟩ t3) :: some (.int H t4) :: some (.ref ca) :: v6 :: v7 :: v8 :: v9 :: v10 :: v11 :: some (.ref lr) :: some (.ref lb) :: some (.int (i : Int) ti) :: r) s)
    {vs : List Value} {n : Nat} (S : Sq σ ca (.type "list") none vs n) (C : CIt σ vs ps) (hpl : ps.length ≤ 32) (hps : ∀ p ∈ ps, CF p) (hfl : i < ps.length) (T : Txts σ lr rows) (hr1 : rows.length ≤ 200) (hfin : rows = acat (ps.take i) :: rows')
    (k : ∀ σ' s', Mod [] σ σ' → Fm c φ σ' L lwNames (v0 :: v1 :: some (.int W t2) :: some (.str ⟨#[ch]⟩ t3) :: some (.int H t4) :: some (.ref ca) :: v6 :: v7 :: v8 :: v9 :: v10 :: v11 :: some (.ref lr) :: some (.ref lb) :: some (.int (i : Int) ti) :: r) s' → Q .next s') : wpAny c.M A (exec (g17s 2) (callEnv lwFd L 223)) Q E s := by
  have e1 : (sizeLine : Nat) = 16777216 := sizeLine_eq
  have N := lw_fn L
  have hvl := C.len
  refine exi2 (T) ?_
  intro ur nr hAll
  have Sr := hAll.1
  have hur := hAll.2
  clear hAll
  have hurl : (strValues ur).length = rows.length := by rw [← hur]; simp [strValues]
  refine wpAny_If ?_
  refine wpAny_isTrue_Compare1 ?_
  refine Subscript_ ?_
  refine r_ld N F 12 rfl rfl ?_
  refine r_slice ?_
  refine ev_none ?_
  refine ev_some ?_
  refine F.specT spec_const_int ?_
  intro x1 s F
  refine F.specA (spec_slc B) ?_
  intro b5 σ5 s hAll F
  have hb5 := hAll.1
  have g5 := hAll.2.1
  have m5 := hAll.2.2
  clear hAll
  refine F.specA (spec_getsl B (Sr.mod0 m5) g5 .none (.int 1 x1 (by omega)) (by omega)) ?_
  intro l6 σ6 s hAll F
  have hl60 := hAll.1
  have hl6 := hAll.2.1
  have m6 := hAll.2.2
  clear hAll
  rw [cut_to] at hl6
  have T6 := txts_cut hl6
  rw [hur] at T6
  refine r_list ?_
  refine r_arg ?_
  refine r_callN ?_
  refine r_glob B N F (lt_g _) ?_
  refine r_callW (kpr_ref (by kernel_rfl)) ?_
  refine r_arg ?_
  refine Subscript_ ?_
  refine r_ld N F 5 rfl rfl ?_
  refine r_slice ?_
  refine ev_none ?_
  refine ev_some (r_ld N F 14 rfl rfl ?_)
  refine F.specA (spec_slc B) ?_
  intro b7 σ7 s hAll F
  have hb7 := hAll.1
  have g7 := hAll.2.1
  have m7 := hAll.2.2
  clear hAll
  have m47 := (m5.trans m6).trans m7
  refine F.specA (spec_getsl B (S.mod0 m47) g7 .none (.int i ti (by omega)) (by omega)) ?_
  intro l8 σ8 s hAll F
  have hl80 := hAll.1
  have hl8 := hAll.2.1
  have m8 := hAll.2.2
  clear hAll
  rw [cut_to] at hl8
  have C8 := ((C.mod m47 (by simp)).mod m8 (by simp)).take i
  refine r_args0 ?_
  refine ⟨F.ok.kx B, ?_⟩
  refine F.specTM (lt_spec B (R.le (by decide : 20 ≤ 100)) (sq_of hl8) C8 (cf_sm (fun q hq => hps q (List.mem_of_mem_take hq)) (by rw [List.length_take]; omega))) ?_
  intro x2 σ9 s m9 F
  refine r_args0 ?_
  refine F.specA (spec_list B (by size_fits)) ?_
  intro l10 σ10 s hAll F
  have hl100 := hAll.1
  have hl10 := hAll.2.1
  have m10 := hAll.2.2
  clear hAll
  have m610 := ((m7.trans m8).trans m9).trans m10
  refine F.specV (spec_neTxts (ys := [acat (ps.take i)]) R (T6.mod m610 (by simp)) ⟨[(acat (ps.take i), x2)], 0, sq_of hl10, rfl⟩) ?_
  intro s F
  refine F.specV spec_truthy_bool ?_
  intro s F
  rw [if_neg (by simp [hfin])]
  refine r_nil (k σ10 s ((m5.trans m6).trans m610) F)
/-- chunks[0][0] = chunks[0][0] or ' ' -/
theorem lw_fx (B : Bs c) {σ0 : Hp} {ca lr lb : Addr} {ps : List (Str × Str)} {p : Str × Str} {rows : List Str} {W H : Int} {ch i : Nat} {ti : Tok} {t2 t3 t4 : Tok} {v0 v1 v6 v7 v8 v9 v10 v11 : Option Value} {r : List (Option Value)} {Q : Flow → Shared → Prop} (F : Fm c φ σ L lwNames (v0 :: v1 :: some (.int W t2) :: some (.str ⟨#[ch]⟩ t3) :: some (.int H t4) :: some (.ref ca) :: v6 :: v7 :: v8 :: v9 :: v10 :: v11 :: some (.ref lr) :: some (.ref lb) :: some (.int (i : Int) ti) :: r) s)
    (K10 : CkSt σ0 σ ca ps) (h0 : σ0 ca ≠ none) (hl0 : σ0 lr ≠ none) (hpl : ps.length ≤ 32) (hps : ∀ p ∈ ps, CF p) (htl : ∀ p ∈ ps.tail, p.1.length ≠ 0) (hne : ps ≠ []) (hp : ps[i]? = some p) (T : Txts σ lr rows)
    (k : ∀ ps2 σ' s', (∃ σ0, CkSt σ0 σ' ca ps2) → ps2.length = ps.length → ps2.drop i = (if p.1 = emp then blank else p.1, p.2) :: ps.drop (i + 1) → Txts σ' lr rows → Fm c φ σ' L lwNames (v0 :: v1 :: some (.int W t2) :: some (.str ⟨#[ch]⟩ t3) :: some (.int H t4) :: some (.ref ca) :: v6 :: v7 :: v8 :: v9 :: v10 :: v11 :: some (.ref lr) :: some (.ref lb) :: some (.int (i : Int) ti) :: r) s' → Q .next s') : wpAny c.M A (exec (g17s 3) (callEnv lwFd L 223)) Q E s := by
  have e1 : (sizeLine : Nat) = 16777216 := sizeLine_eq
  have N := lw_fn L
  refine wpAny_If ?_
  refine wpAny_isTrue_Compare1 ?_
  refine r_ld N F 14 rfl rfl ?_
  refine F.specT spec_const_int ?_
  intro x3 s F
  refine F.specV spec_eq_int ?_
  intro s F
  refine F.specV spec_truthy_bool ?_
  intro s F
  by_cases hi0 : i = 0
  · subst hi0
    rw [if_pos (by simp)]
    obtain ⟨p', ps', hpe⟩ : ∃ p' ps', ps = p' :: ps' := by
      cases ps with
      | nil => exact absurd rfl hne
      | cons p' ps' => exact ⟨p', ps', rfl⟩
    have hpp : p' = p := by rw [hpe] at hp; simpa using hp
    subst hpp
    rw [hpe] at K10
    refine r_seq ?_
    refine r_set0 (x := if p'.1 = emp then blank else p'.1) B F K10 h0 rfl ?_ (by rw [hpe] at hpl; simp at hpl; omega) rfl ?_
    · intro s Q F q
      obtain ⟨vs10, n10, S10, C10, _⟩ := K10.len
      obtain ⟨b, nb, y1, y2, vs', rfl, hb, _⟩ := C10.cons_inv
      have hvl10 := C10.len
      refine BoolOp_or ?_
      refine Subscript_ ?_
      refine Subscript_ ?_
      refine r_ld N F 5 rfl rfl ?_
      refine F.specT spec_const_int ?_
      intro x4 s F
      refine F.specE (spec_sub B S10 (spec_item B S10 (k := 0) rfl rfl (by rw [hvl10, ← hpe]; omega))) ?_
      intro s F
      refine F.specT spec_const_int ?_
      intro x5 s F
      refine F.specE (spec_sub B (sq_of hb) (spec_item B (sq_of hb) (k := 0) rfl rfl (by rw [e1]; show 2 ≤ _; omega))) ?_
      intro s F
      have hb2 := (hps p' (by rw [hpe]; exact .head _)).b2
      refine F.specV (spec_truthy_str (by omega)) ?_
      intro s F
      by_cases hem : p'.1 = emp
      · rw [if_pos hem] at q
        rw [if_neg (by simpa using emp_len.mp hem)]
        refine BoolOp_one ?_
        refine F.specT spec_const_str ?_
        intro x6 s F
        exact q x6 s F
      · rw [if_neg hem] at q
        rw [if_pos (by simpa using fun h => hem (emp_len.mpr h))]
        exact q y1 s F
    · intro b σ11 s K11 hb0 m11 F
      refine ⟨rfl, r_nil ?_⟩
      refine k _ σ11 s ⟨σ0, K11⟩ (by rw [hpe]; rfl) (by rw [hpe]; rfl) (T.mod m11 ?_) F
      simp only [List.mem_singleton]
      intro e
      exact hl0 (e ▸ hb0)
  · rw [if_neg (by simp; omega)]
    have hpne : p.1 ≠ emp := by
      intro e
      refine htl p ?_ (emp_len.mp e)
      have : ps.tail[i - 1]? = some p := by rw [List.getElem?_tail, show i - 1 + 1 = i by omega]; exact hp
      exact List.mem_of_getElem? this
    exact r_nil (k ps σ s ⟨σ0, K10⟩ rfl (by rw [if_neg hpne]; exact drop_at hp) T F)
set_option maxHeartbeats 4000000 in
theorem lw_g (B : Bs c) {σ0 : Hp} {ca lr lb : Addr} {ps : List (Str × Str)} {W H : Int} {ch : Nat} {t2 t3 t4 : Tok} {v0 v1 v6 v7 v8 v9 v10 v11 : Option Value} {r : List (Option Value)} {rows : List Str} {Q : Flow → Shared → Prop} (R : Rm A 100) (F : Fm c φ σ L lwNames (v0 :: v1 :: some (.int W t2) :: some (.str ⟨#[ch]⟩ t3) :: some (.int H t4) :: some (.ref ca) :: v6 :: v7 :: v8 :: v9 :: v10 :: v11 :: some (.ref lr) :: some (.ref lb) :: none :: r) s)
    (hs : Sg ch) (hH0 : 0 ≤ H) (K : CkSt σ0 σ ca ps) (h0 : σ0 ca ≠ none) (hl0 : σ0 lr ≠ none) (hpl : ps.length ≤ 32) (hps : ∀ p ∈ ps, CF p) (htl : ∀ p ∈ ps.tail, p.1.length ≠ 0) (hne : ps ≠ []) (T : Txts σ lr rows) (Tb : Txts σ lb (bk ch ps)) (hr1 : rows.length ≤ 200) (hr2 : ∀ x ∈ rows, x.length ≤ 10000)
    (hrows : rows = finF (feedF W ch ⟨[], H, []⟩ ps))
    (k : ∀ H' lr' lb' t4' v14 rows' bs' σ' s', Pk W (W - H') bs' rows' → 0 ≤ H' → SmB bs' rows' → Txts σ' lr' rows' → Txts σ' lb' bs' → Fm c φ σ' L lwNames (v0 :: v1 :: some (.int W t2) :: some (.str ⟨#[ch]⟩ t3) :: some (.int H' t4') :: some (.ref ca) :: v6 :: v7 :: v8 :: v9 :: v10 :: v11 :: some (.ref lr') :: some (.ref lb') :: v14 :: r) s' → wpAny c.M A (execs (lwS.drop 18) (callEnv lwFd L 223)) Q E s') :
    wpAny c.M A (execs (lwS.drop 17) (callEnv lwFd L 223)) Q E s := by
  have e1 : (sizeLine : Nat) = 16777216 := sizeLine_eq
  have N := lw_fn L
  obtain ⟨vs, n, S, C, hvl⟩ := K.len
  have hw : ∀ p ∈ ps, CW p := fun p hp => (hps p hp).cw
  obtain ⟨z, zs, hz⟩ := bk_ne (ch := ch) hne
  have hzl : z.length ≤ 300 := by
    have h1 := bk_len ch ps
    have h2 := alen_cf hps
    rw [hz] at h1
    simp only [List.map_cons, List.sum_cons] at h1
    omega
  -- the plain case
  have plain : (0 < H → H + (z.length : Nat) ≤ W) → ∀ σ' s', Mod [] σ σ' → Fm c φ σ' L lwNames (v0 :: v1 :: some (.int W t2) :: some (.str ⟨#[ch]⟩ t3) :: some (.int H t4) :: some (.ref ca) :: v6 :: v7 :: v8 :: v9 :: v10 :: v11 :: some (.ref lr) :: some (.ref lb) :: none :: r) s' → wpAny c.M A (execs (lwS.drop 18) (callEnv lwFd L 223)) Q E s' := by
    intro hfit σ' s' m F
    obtain ⟨rows', hr, hpk⟩ := feed_main (W := W) hs ps [] H [] (by simpa using hne) (by simpa using hw) hH0 (.inr (by intro i a b h1 _; simp at h1)) (fun h => ⟨z, zs, by simpa using hz, hfit h⟩)
    rw [List.nil_append] at hr hpk
    rw [← hr, ← hrows] at hpk
    exact k H lr lb t4 none rows (bk ch ps) σ' s' hpk hH0 (smB_of hps hpl hr1 hr2) (T.mod m (by simp)) (Tb.mod m (by simp)) F
  refine r_seq ?_
  refine wpAny_If ?_
  refine wpAny_isTrue_BoolOp ?_
  refine wpAny_allTrue_And_cons ?_
  refine wpAny_isTrue_Compare1 ?_
  refine r_ld N F 4 rfl rfl ?_
  refine F.specT spec_const_int ?_
  intro u1 s F
  refine F.specV spec_gt_int ?_
  intro s F
  refine F.specV spec_truthy_bool ?_
  intro s F
  by_cases hH : H > 0
  · rw [if_pos (by simpa using hH)]
    refine wpAny_allTrue_And_cons ?_
    refine wpAny_isTrue_Compare1 ?_
    refine wpAny_BinOp ?_
    refine r_ld N F 4 rfl rfl ?_
    refine r_callN ?_
    refine r_bi B N F (len_bi _) len_boot ?_
    refine r_callW (kpr_builtin _) ?_
    refine r_arg ?_
    refine Subscript_ ?_
    refine r_ld N F 13 rfl rfl ?_
    refine F.specT spec_const_int ?_
    intro u2 s F
    refine exi2 (Tb) ?_
    intro us nu hAll
    have Su := hAll.1
    have hu := hAll.2
    clear hAll
    obtain ⟨tz, us', rfl⟩ : ∃ tz us', us = (z, tz) :: us' := by
      rw [hz] at hu
      cases us with
      | nil => cases hu
      | cons x us' => exact ⟨x.2, us', by rw [← (List.cons.inj hu).1]⟩
    have hul : (strValues ((z, tz) :: us')).length ≤ 32 := by
      have h1 := congrArg List.length hu
      have h2 := bk_count ch ps
      simp only [strValues, List.length_map] at h1 ⊢
      omega
    refine F.specE (spec_sub B Su (spec_item B Su (k := 0) rfl rfl (by omega))) ?_
    intro s F
    refine r_args0 ?_
    refine ⟨F.ok.kx B, ?_⟩
    refine F.specT (spec_len_str (by show z.length ≤ _; omega)) ?_
    intro u3 s F
    refine F.specT spec_add_int ?_
    intro u4 s F
    refine r_ld N F 2 rfl rfl ?_
    refine F.specV spec_gt_int ?_
    intro s F
    refine F.specV spec_truthy_bool ?_
    intro s F
    by_cases hov : H + (z.length : Nat) > W
    · rw [if_pos (by simpa using hov)]
      refine wpAny_allTrue_And_nil ?_
      rw [if_pos rfl]
      obtain ⟨fit, p, rows', hp, hlo, hhi, hfin, hpk⟩ := feed_two (W := W) hs hw hH hz hov
      have hfl : fit < ps.length := (List.getElem?_eq_some_iff.mp hp).1
      rw [← hrows] at hfin
      -- the branch
      refine r_seq ?_
      refine wpAny_Assign_Name ?_
      refine F.specT spec_const_int ?_
      intro u5 s F
      refine r_st N F 14 rfl rfl B.sz ?_
      intro s F
      refine ⟨rfl, ?_⟩
      refine r_seq ?_
      refine lw_w B R F S C hpl hps hfl hlo hhi ?_
      intro ti σ4 s m4 F
      refine ⟨rfl, r_seq ?_⟩
      refine lw_ck B R F (S.mod0 m4) (C.mod m4 (by simp)) hpl hps hfl (T.mod m4 (by simp)) hr1 hfin ?_
      intro σ5 s m5 F
      refine ⟨rfl, r_seq ?_⟩
      have T5 := T.mod (m4.trans m5) (by simp)
      rw [hfin] at T5 hr1 hr2
      refine lw_fx B F (K.mod0 (m4.trans m5)) h0 hl0 hpl hps htl hne hp T5 ?_
      intro ps2 σ6 s hK hl2 hd2 T6 F
      refine ⟨rfl, ?_⟩
      obtain ⟨σ0', K'⟩ := hK
      obtain ⟨vs', n', S', C', _⟩ := K'.len
      have hcf : ∀ q ∈ ps2.drop fit, CF q := by
        intro q hq
        rw [hd2] at hq
        rcases List.mem_cons.mp hq with rfl | hq
        · exact fix_cf (hps p (List.mem_of_getElem? hp))
        · exact hps q (List.mem_of_mem_drop hq)
      refine lw_g2 B R F S' C' (by omega) (by omega) hcf ?_ T6 (by simp at hr1; omega) ?_
      · rw [hd2, List.tail_cons]
        intro q hq
        refine htl q ?_
        rw [← List.drop_one]
        have : ps.drop (fit + 1) = (ps.drop 1).drop fit := by rw [List.drop_drop, Nat.add_comm]
        rw [this] at hq
        exact List.mem_of_mem_drop hq
      · intro lr' lb' t4' σ'' s'' Tr Tb' F''
        rw [hd2] at Tb' hcf
        refine ⟨rfl, k 0 lr' lb' t4' _ rows' _ σ'' s'' (by rw [Int.sub_zero]; exact hpk) (Int.le_refl _) (smB_of hcf ?_ ?_ ?_) Tr Tb' F''⟩
        · have := congrArg List.length hd2
          rw [List.length_drop, hl2] at this
          rw [← this]; omega
        · simp at hr1; omega
        · intro x hx; exact hr2 x (.tail _ hx)
    · rw [if_neg (by simpa using hov), if_neg (by decide)]
      exact r_nil ⟨rfl, plain (fun _ => by omega) _ s Mod.refl F⟩
  · rw [if_neg (by simpa using hH), if_neg (by decide)]
    exact r_nil ⟨rfl, plain (fun h => absurd h hH) _ s Mod.refl F⟩
end


theorem txts_mid {σ : Hp} {a : Addr} {us : List (Str × Tok)} {bs : List Str} (hu : us.map (·.1) = bs) {k0 k1 : Nat} (h0 : k0 ≤ k1) (h1 : k1 ≤ bs.length) (h : σ a = some (lObj (cut (strValues us) (some k0) (some k1)) 0)) : Txts σ a ((bs.take k1).drop k0) := by
  have hl : (strValues us).length = bs.length := by rw [← hu]; simp [strValues]
  refine ⟨(us.take k1).drop k0, 0, sq_of ?_, ?_⟩
  · rw [h]
    simp only [cut, sStart, sStop, Option.getD_some, hl, Nat.min_eq_left h1, Nat.min_eq_left (Nat.le_trans h0 h1)]
    simp [strValues, List.map_take, List.map_drop]
  · rw [← hu, List.map_drop, List.map_take]
theorem mid_take {bs ys rest : List Str} {kk i : Nat} (h : bs.drop kk = ys ++ rest) (hi : i ≤ ys.length) : (bs.take (kk + i)).drop kk = ys.take i := by
  rw [List.drop_take, h, Nat.add_sub_cancel_left, List.take_append_of_le_length hi]
theorem jn_take_ne {ys : List Str} (hp : ∀ b ∈ ys, 0 < b.length) {i : Nat} (hi : i < ys.length) : jn (ys.take i) ≠ jn ys := by
  intro e
  have h1 := congrArg Str.length e
  have h2 : jn ys = jn (ys.take i) ++ jn (ys.drop i) := by rw [← jn_app, List.take_append_drop]
  rw [h2, app_length] at h1
  obtain ⟨y, hy⟩ : ∃ y, ys[i]? = some y := ⟨_, List.getElem?_eq_getElem hi⟩
  rw [drop_at hy, jn_cons, app_length] at h1
  have := hp y (List.mem_of_getElem? hy)
  omega
def h19 : List Stmt := match lwS.drop 19 with | .For _ _ b _ _ :: _ => b | _ => []
theorem sum_sub {bs : List Str} {k0 k1 : Nat} : (((bs.take k1).drop k0).map (·.length)).sum ≤ (bs.map (·.length)).sum := by
  have h1 : bs = bs.take k1 ++ bs.drop k1 := (List.take_append_drop ..).symm
  have h2 : bs.take k1 = (bs.take k1).take k0 ++ (bs.take k1).drop k0 := (List.take_append_drop ..).symm
  have e1 := congrArg (fun l : List Str => (l.map (·.length)).sum) h1
  have e2 := congrArg (fun l : List Str => (l.map (·.length)).sum) h2
  simp only [List.map_append, List.sum_append] at e1 e2
  omega

section
variable {c : Cx} {A : Around} {φ σ : Hp} {L : Addr} {s : Shared} {E : Value → Shared → Prop}
/-- ''.join(blocks[start:k]) -/
theorem r_jb (B : Bs c) {vals : List (Option Value)} {lb : Addr} {bs : List Str} {k0 k1 : Nat} {t0 t1 : Tok} {kc : Nat} {p1 p2 p3 p4 p5 p6 p7 p8 : Pos} {Q : Value → Shared → Prop} (F : Fm c φ σ L lwNames vals s) (hb : vals[13]? = some (some (.ref lb))) (hs : vals[17]? = some (some (.int (k0 : Int) t0))) (hk : vals[6]? = some (some (.int (k1 : Int) t1)))
    (T : Txts σ lb bs) (hn : bs.length ≤ 32) (hsum : (bs.map (·.length)).sum ≤ 300) (h0 : k0 ≤ k1) (h1 : k1 ≤ bs.length)
    (k : ∀ t σ' s', Mod [] σ σ' → Fm c φ σ' L lwNames vals s' → Q (.str (jn ((bs.take k1).drop k0)) t) s') (hline : (p2.endLine == p8.line) = true := by rfl) :
    wpAny c.M A (eval (.Call (.Attribute (.Constant (.str (Str.ofString "")) kc p1) "join" p2) [.Subscript (.Name "blocks" p3) (.Slice (some (.Name "start" p4)) (some (.Name "k" p5)) none p6) p7] [] p8) (callEnv lwFd L 223)) Q E s := by
  have e1 : (sizeLine : Nat) = 16777216 := sizeLine_eq
  have N := lw_fn L
  refine exi2 (T) ?_
  intro us nu hAll
  have Su := hAll.1
  have hu := hAll.2
  clear hAll
  have hul : (strValues us).length = bs.length := by rw [← hu]; simp [strValues]
  refine r_method ?_ (hline := hline)
  refine F.specT spec_const_str ?_
  intro u1 s F
  intro pl
  refine GM.join ?_
  refine r_callW (kpr_builtin _) ?_
  refine r_arg ?_
  refine Subscript_ ?_
  refine r_ld N F 13 rfl hb ?_
  refine r_slice ?_
  refine ev_some (r_ld N F 17 rfl hs ?_)
  refine ev_some (r_ld N F 6 rfl hk ?_)
  refine F.specA (spec_slc B) ?_
  intro b1 σ1 s hAll F
  have hb1 := hAll.1
  have g1 := hAll.2.1
  have m1 := hAll.2.2
  clear hAll
  refine F.specA (spec_getsl B (Su.mod0 m1) g1 (.int k0 t0 (by omega)) (.int k1 t1 (by omega)) (by omega)) ?_
  intro l2 σ2 s hAll F
  have hl20 := hAll.1
  have hl2 := hAll.2.1
  have m2 := hAll.2.2
  clear hAll
  have T2 := txts_mid hu h0 h1 hl2
  refine r_args0 ?_
  refine ⟨F.ok.kx B, ?_⟩
  refine F.spec (spec_joinL (x := Str.ofString "") T2 (joinOk_of ?_)) ?_
  · have h2 : (Str.ofString "").length = 0 := by decide +kernel
    rw [h2]
    have := sum_sub (bs := bs) (k0 := k0) (k1 := k1)
    omega
  rintro _ _ s ⟨⟨u2, rfl⟩, rfl⟩ F
  exact k u2 σ2 s (m1.trans m2) F
set_option maxHeartbeats 4000000 in
theorem lw_row (B : Bs c) {lb : Addr} {bs xs rest : List Str} {b : Str} {kk : Nat} {room : Int} {tk tr tw : Tok} {v0 v1 v2 v3 v4 v5 v7 v8 v9 v10 v11 v12 v14 v17 : Option Value} {r : List (Option Value)} {rows : List Str} {Q : Flow → Shared → Prop} (F : Fm c φ σ L lwNames (v0 :: v1 :: v2 :: v3 :: v4 :: v5 :: some (.int (kk : Int) tk) :: v7 :: v8 :: v9 :: v10 :: v11 :: v12 :: some (.ref lb) :: v14 :: some (.int room tr) :: some (.str (jn (b :: xs)) tw) :: v17 :: r) s)
    (T : Txts σ lb bs) (hsm : SmB bs rows) (hkk : kk ≤ bs.length) (hd : bs.drop kk = (b :: xs) ++ rest) (h1 : xs = [] ∨ ((jn (b :: xs)).length : Int) ≤ room) (h2 : ∀ b', rest.head? = some b' → room < ((jn (b :: xs)).length : Int) + b'.length)
    (k : ∀ tk v17 σ' s', Mod [] σ σ' → Fm c φ σ' L lwNames (v0 :: v1 :: v2 :: v3 :: v4 :: v5 :: some (.int ((kk + (xs.length + 1) : Nat) : Int) tk) :: v7 :: v8 :: v9 :: v10 :: v11 :: v12 :: some (.ref lb) :: v14 :: some (.int room tr) :: some (.str (jn (b :: xs)) tw) :: v17 :: r) s' → Q .next s') :
    wpAny c.M A (execs (h19.drop 1) (callEnv lwFd L 223)) Q E s := by
  have e1 : (sizeLine : Nat) = 16777216 := sizeLine_eq
  have N := lw_fn L
  have hbn := hsm.bn
  have hbl := hsm.bl
  have hsz : bs.length ≤ sizeLine := by omega
  have hlen : bs.length = kk + (xs.length + 1) + rest.length := by
    have := congrArg List.length hd
    rw [List.length_drop, List.length_append, List.length_cons] at this
    omega
  have hpos : ∀ y ∈ b :: xs, 0 < y.length := fun y hy => hsm.bp y (List.mem_of_mem_drop (hd ▸ List.mem_append_left _ hy))
  have hrow : (jn (b :: xs)).length ≤ 300 := by
    have := sum_sub (bs := bs) (k0 := kk) (k1 := kk + (xs.length + 1))
    rw [mid_take (i := xs.length + 1) hd (by simp), List.take_of_length_le (by simp), ← jn_len] at this
    omega
  refine r_seq ?_
  refine wpAny_Assign_Name ?_
  refine r_ld N F 6 rfl rfl ?_
  refine r_st N F 17 rfl rfl B.sz ?_
  intro s F
  refine ⟨rfl, ?_⟩
  refine r_seq ?_
  refine wpAny_While ?_
  refine r_while (fun m σ' vals' => ∃ (i : Nat) (ti : Tok), m = xs.length + 1 - i ∧ i ≤ xs.length + 1 ∧ Mod [] σ σ' ∧ vals' = v0 :: v1 :: v2 :: v3 :: v4 :: v5 :: some (.int ((kk + i : Nat) : Int) ti) :: v7 :: v8 :: v9 :: v10 :: v11 :: v12 :: some (.ref lb) :: v14 :: some (.int room tr) :: some (.str (jn (b :: xs)) tw) :: some (.int (kk : Int) tk) :: r) ?_ (xs.length + 1 - 0) ⟨0, tk, rfl, Nat.zero_le _, Mod.refl, rfl⟩ F
  rintro m σ1 vals1 s E' ⟨i, ti, rfl, hi, m1, rfl⟩ F
  have T1 := T.mod m1 (by simp)
  refine exi2 (T1) ?_
  intro us nu hAll
  have Su := hAll.1
  have hu := hAll.2
  clear hAll
  have hul : (strValues us).length = bs.length := by rw [← hu]; simp [strValues]
  have hmid : (bs.take (kk + i)).drop kk = (b :: xs).take i := mid_take hd (by simpa using hi)
  -- the loop's end
  have done : ∀ σ' s (Q' : Flow → Shared → Prop), i = xs.length + 1 → Mod [] σ σ' → Fm c φ σ' L lwNames (v0 :: v1 :: v2 :: v3 :: v4 :: v5 :: some (.int ((kk + i : Nat) : Int) ti) :: v7 :: v8 :: v9 :: v10 :: v11 :: v12 :: some (.ref lb) :: v14 :: some (.int room tr) :: some (.str (jn (b :: xs)) tw) :: some (.int (kk : Int) tk) :: r) s →
      (∀ s, Q .next s → Q' .next s) → wpAny c.M A (execs (h19.drop 3) (callEnv lwFd L 223)) Q' E s := by
    intro σ2 s Q' hie m2 F hQ
    subst hie
    have T2 := T.mod m2 (by simp)
    have hfull : (bs.take (kk + (xs.length + 1))).drop kk = b :: xs := by rw [hmid, List.take_of_length_le (by simp)]
    refine r_seq ?_
    refine wpAny_If ?_
    refine wpAny_isTrue_BoolOp ?_
    refine wpAny_allTrue_Or_cons ?_
    refine wpAny_isTrue_Compare1 ?_
    refine r_ld N F 6 rfl rfl ?_
    refine r_ld N F 17 rfl rfl ?_
    refine F.specV spec_eq_int ?_
    intro s F
    refine F.specV spec_truthy_bool ?_
    intro s F
    rw [if_neg (by simp; omega)]
    refine wpAny_allTrue_Or_cons ?_
    refine wpAny_isTrue_Compare1 ?_
    refine r_jb B F rfl rfl rfl T2 hbn hbl (Nat.le_add_right _ _) (by rw [hlen]; exact Nat.le_add_right _ _) ?_
    intro x1 σ3 s m3 F
    rw [hfull]
    refine r_ld N F 16 rfl rfl ?_
    refine F.specV spec_ne_str ?_
    intro s F
    refine F.specV spec_truthy_bool ?_
    intro s F
    rw [if_neg (by simp)]
    refine wpAny_allTrue_Or_nil ?_
    rw [if_neg (by decide)]
    refine r_nil ⟨rfl, ?_⟩
    have T3 := T2.mod m3 (by simp)
    refine exi2 (T3) ?_
    intro us3 nu3 hAll
    have Su3 := hAll.1
    have hu3 := hAll.2
    clear hAll
    have hul3 : (strValues us3).length = bs.length := by rw [← hu3]; simp [strValues]
    -- the third question
    have last : ∀ s, Fm c φ σ3 L lwNames (v0 :: v1 :: v2 :: v3 :: v4 :: v5 :: some (.int ((kk + (xs.length + 1) : Nat) : Int) ti) :: v7 :: v8 :: v9 :: v10 :: v11 :: v12 :: some (.ref lb) :: v14 :: some (.int room tr) :: some (.str (jn (b :: xs)) tw) :: some (.int (kk : Int) tk) :: r) s →
        wpAny c.M A (execs (h19.drop 5) (callEnv lwFd L 223)) Q' E s := by
      intro s F
      refine r_seq ?_
      refine wpAny_If ?_
      refine wpAny_isTrue_BoolOp ?_
      refine wpAny_allTrue_And_cons ?_
      refine wpAny_isTrue_Compare1 ?_
      refine r_ld N F 6 rfl rfl ?_
      refine r_callN ?_
      refine r_bi B N F (len_bi _) len_boot ?_
      refine r_callW (kpr_builtin _) ?_
      refine r_arg ?_
      refine r_ld N F 13 rfl rfl ?_
      refine r_args0 ?_
      refine ⟨F.ok.kx B, ?_⟩
      refine F.specT (spec_lenL Su3 (Nat.le_trans (Nat.le_of_eq hul3) hsz)) ?_
      intro x2 s F
      refine F.specV spec_lt_int ?_
      intro s F
      refine F.specV spec_truthy_bool ?_
      intro s F
      rw [hul3]
      cases hrest : rest with
      | nil =>
        rw [hrest] at hlen
        rw [if_neg (by simp at hlen ⊢; omega), if_neg (by decide)]
        refine r_nil ⟨rfl, r_nil (hQ s ?_)⟩
        exact k _ _ σ3 s (m2.trans m3) F
      | cons b' rest' =>
        rw [if_pos (by rw [hrest] at hlen; simp at hlen ⊢; omega)]
        have hat : bs[kk + (xs.length + 1)]? = some b' := by
          have : (bs.drop kk)[xs.length + 1]? = some b' := by
            rw [hd, hrest, List.getElem?_append_right (by simp)]; simp
          rw [List.getElem?_drop] at this
          exact this
        obtain ⟨tb, hat3⟩ : ∃ tb, (strValues us3)[kk + (xs.length + 1)]? = some (.str b' tb) := by
          rw [← hu3, List.getElem?_map] at hat
          cases hq : us3[kk + (xs.length + 1)]? with
          | none => rw [hq] at hat; cases hat
          | some y =>
            rw [hq] at hat
            refine ⟨y.2, ?_⟩
            rw [strValues, List.getElem?_map, hq]
            simp only [Option.map_some, Option.some.injEq] at hat ⊢
            rw [hat]
        have hb'l : b'.length ≤ 300 := by
          have : b'.length ≤ (bs.map (·.length)).sum := le_sum (List.mem_map.mpr ⟨b', List.mem_of_getElem? hat, rfl⟩)
          omega
        refine wpAny_allTrue_And_cons ?_
        refine wpAny_isTrue_Compare1 ?_
        refine r_callN ?_
        refine r_bi B N F (len_bi _) len_boot ?_
        refine r_callW (kpr_builtin _) ?_
        refine r_arg ?_
        refine wpAny_BinOp ?_
        refine r_ld N F 16 rfl rfl ?_
        refine Subscript_ ?_
        refine r_ld N F 13 rfl rfl ?_
        refine r_ld N F 6 rfl rfl ?_
        refine F.specE (spec_sub B Su3 (spec_item B Su3 (k := kk + (xs.length + 1)) rfl hat3 (Nat.le_trans (Nat.le_of_eq hul3) hsz))) ?_
        intro s F
        refine F.specT (spec_add_str (by omega)) ?_
        intro x3 s F
        refine r_args0 ?_
        refine ⟨F.ok.kx B, ?_⟩
        refine F.specT (spec_len_str (by rw [app_length]; omega)) ?_
        intro x4 s F
        refine r_ld N F 15 rfl rfl ?_
        refine F.specV spec_le_int ?_
        intro s F
        refine F.specV spec_truthy_bool ?_
        intro s F
        have hgt := h2 b' (by rw [hrest]; rfl)
        rw [if_neg (by rw [app_length]; simp; omega), if_neg (by decide)]
        refine r_nil ⟨rfl, r_nil (hQ s ?_)⟩
        exact k _ _ σ3 s (m2.trans m3) F
    refine r_seq ?_
    refine wpAny_If ?_
    refine wpAny_isTrue_BoolOp ?_
    refine wpAny_allTrue_And_cons ?_
    refine wpAny_isTrue_Compare1 ?_
    refine wpAny_BinOp ?_
    refine r_ld N F 6 rfl rfl ?_
    refine r_ld N F 17 rfl rfl ?_
    refine F.specT spec_sub_int ?_
    intro x5 s F
    refine F.specT spec_const_int ?_
    intro x6 s F
    refine F.specV spec_gt_int ?_
    intro s F
    refine F.specV spec_truthy_bool ?_
    intro s F
    by_cases hx : xs = []
    · have hx0 : xs.length = 0 := by rw [hx]; rfl
      rw [if_neg (by simp; omega), if_neg (by decide)]
      exact r_nil ⟨rfl, last s F⟩
    · have hx0 : 0 < xs.length := List.length_pos_iff.mpr hx
      have hle : ((jn (b :: xs)).length : Int) ≤ room := by rcases h1 with h | h; exact absurd h hx; exact h
      rw [if_pos (by simp; omega)]
      refine wpAny_allTrue_And_cons ?_
      refine wpAny_isTrue_Compare1 ?_
      refine r_callN ?_
      refine r_bi B N F (len_bi _) len_boot ?_
      refine r_callW (kpr_builtin _) ?_
      refine r_arg ?_
      refine r_ld N F 16 rfl rfl ?_
      refine r_args0 ?_
      refine ⟨F.ok.kx B, ?_⟩
      refine F.specT (spec_len_str (by omega)) ?_
      intro x7 s F
      refine r_ld N F 15 rfl rfl ?_
      refine F.specV spec_gt_int ?_
      intro s F
      refine F.specV spec_truthy_bool ?_
      intro s F
      rw [if_neg (by simp; omega), if_neg (by decide)]
      exact r_nil ⟨rfl, last s F⟩
  refine wpAny_isTrue_BoolOp ?_
  refine wpAny_allTrue_And_cons ?_
  refine wpAny_isTrue_Compare1 ?_
  refine r_ld N F 6 rfl rfl ?_
  refine r_callN ?_
  refine r_bi B N F (len_bi _) len_boot ?_
  refine r_callW (kpr_builtin _) ?_
  refine r_arg ?_
  refine r_ld N F 13 rfl rfl ?_
  refine r_args0 ?_
  refine ⟨F.ok.kx B, ?_⟩
  refine F.specT (spec_lenL Su (Nat.le_trans (Nat.le_of_eq hul) hsz)) ?_
  intro w1 s F
  refine F.specV spec_lt_int ?_
  intro s F
  refine F.specV spec_truthy_bool ?_
  intro s F
  rw [hul]
  by_cases hlt : kk + i < bs.length
  · rw [if_pos (by simp; omega)]
    refine wpAny_allTrue_And_cons ?_
    refine wpAny_isTrue_Compare1 ?_
    refine r_jb B F rfl rfl rfl ⟨us, nu, Su, hu⟩ hbn hbl (Nat.le_add_right _ _) (Nat.le_of_lt hlt) ?_
    intro w2 σ2 s m2 F
    rw [hmid]
    refine r_ld N F 16 rfl rfl ?_
    refine F.specV spec_ne_str ?_
    intro s F
    refine F.specV spec_truthy_bool ?_
    intro s F
    by_cases hif : i < xs.length + 1
    · rw [if_pos (by simpa using jn_take_ne hpos (by simpa using hif))]
      refine wpAny_allTrue_And_nil ?_
      rw [if_pos rfl]
      refine r_seq ?_
      refine wpAny_AugAssign_Name ?_
      refine r_ldN N F 6 rfl rfl ?_
      refine F.specT spec_const_int ?_
      intro w3 s F
      refine F.specT spec_iadd_int ?_
      intro w4 s F
      refine r_st N F 6 rfl rfl B.sz ?_
      intro s F
      refine ⟨rfl, r_nil ?_⟩
      exact ⟨xs.length + 1 - (i + 1), σ2, _, by omega, ⟨i + 1, w4, rfl, hif, m1.trans m2, rfl⟩, F⟩
    · have hie : i = xs.length + 1 := by omega
      rw [if_neg (by rw [List.take_of_length_le (by simp; omega)]; simp), if_neg (by decide)]
      refine r_nil ⟨rfl, ?_⟩
      exact done σ2 s _ hie (m1.trans m2) F fun _ h => h
  · rw [if_neg (by simp; omega), if_neg (by decide)]
    refine r_nil ⟨rfl, ?_⟩
    exact done σ1 s _ (by omega) m1 F fun _ h => h
end


theorem Pk.nil_inv {W r : Int} {bs : List Str} (h : Pk W r bs []) : bs = [] := by cases h; rfl
theorem Pk.cons_inv {W r : Int} {bs : List Str} {row : Str} {rows : List Str} (h : Pk W r bs (row :: rows)) : ∃ b xs rest, bs = (b :: xs) ++ rest ∧ row = jn (b :: xs) ∧ (xs = [] ∨ ((jn (b :: xs)).length : Int) ≤ r) ∧ (∀ b', rest.head? = some b' → r < ((jn (b :: xs)).length : Int) + b'.length) ∧ Pk W W rest rows := by
  cases h with
  | cons e h1 h2 t => exact ⟨_, _, _, e, rfl, h1, h2, t⟩

section
variable {c : Cx} {A : Around} {φ σ : Hp} {L : Addr} {s : Shared} {E : Value → Shared → Prop}
/-- room = .. -/
theorem lw_rm (B : Bs c) {W H : Int} {kk : Nat} {t2 t4 tk : Tok} {v0 v1 v3 v5 v7 v8 v9 v10 v11 v12 v13 v14 v15 : Option Value} {r : List (Option Value)} {Q : Flow → Shared → Prop} (F : Fm c φ σ L lwNames (v0 :: v1 :: some (.int W t2) :: v3 :: some (.int H t4) :: v5 :: some (.int (kk : Int) tk) :: v7 :: v8 :: v9 :: v10 :: v11 :: v12 :: v13 :: v14 :: v15 :: r) s)
    (k : ∀ tr s', Fm c φ σ L lwNames (v0 :: v1 :: some (.int W t2) :: v3 :: some (.int H t4) :: v5 :: some (.int (kk : Int) tk) :: v7 :: v8 :: v9 :: v10 :: v11 :: v12 :: v13 :: v14 :: some (.int (if kk = 0 then W - H else W) tr) :: r) s' → Q .next s') : wpAny c.M A (exec ((h19[0]?).getD (.Pass default)) (callEnv lwFd L 223)) Q E s := by
  have N := lw_fn L
  refine wpAny_Assign_Name ?_
  refine wpAny_IfExp ?_
  refine wpAny_isTrue_Compare1 ?_
  refine r_ld N F 6 rfl rfl ?_
  refine F.specT spec_const_int ?_
  intro w1 s F
  refine F.specV spec_eq_int ?_
  intro s F
  refine F.specV spec_truthy_bool ?_
  intro s F
  by_cases hk0 : kk = 0
  · rw [if_pos (by simpa using hk0)]
    refine wpAny_BinOp ?_
    refine r_ld N F 2 rfl rfl ?_
    refine r_ld N F 4 rfl rfl ?_
    refine F.specT spec_sub_int ?_
    intro w2 s F
    refine r_st N F 15 rfl rfl B.sz ?_
    intro s F
    exact k w2 s (by rw [if_pos hk0]; exact F)
  · rw [if_neg (by simp; omega)]
    refine r_ld N F 2 rfl rfl ?_
    refine r_st N F 15 rfl rfl B.sz ?_
    intro s F
    exact k t2 s (by rw [if_neg hk0]; exact F)
set_option maxHeartbeats 4000000 in
theorem lw_h (B : Bs c) {lr lb : Addr} {bs rows : List Str} {W H : Int} {t2 t4 : Tok} {v0 v1 v3 v5 v6 v7 v8 v9 v10 v11 v14 v15 v16 v17 : Option Value} {r : List (Option Value)} {Q : Flow → Shared → Prop} (hh : A.handled = none) (F : Fm c φ σ L lwNames (v0 :: v1 :: some (.int W t2) :: v3 :: some (.int H t4) :: v5 :: v6 :: v7 :: v8 :: v9 :: v10 :: v11 :: some (.ref lr) :: some (.ref lb) :: v14 :: v15 :: v16 :: v17 :: r) s)
    (hP : Pk W (W - H) bs rows) (hsm : SmB bs rows) (T : Txts σ lr rows) (Tb : Txts σ lb bs)
    (k : ∀ v6 v15 v16 v17 σ' s', Mod [] σ σ' → Fm c φ σ' L lwNames (v0 :: v1 :: some (.int W t2) :: v3 :: some (.int H t4) :: v5 :: v6 :: v7 :: v8 :: v9 :: v10 :: v11 :: some (.ref lr) :: some (.ref lb) :: v14 :: v15 :: v16 :: v17 :: r) s' → wpAny c.M A (execs (lwS.drop 21) (callEnv lwFd L 223)) Q E s') :
    wpAny c.M A (execs (lwS.drop 18) (callEnv lwFd L 223)) Q E s := by
  have e1 : (sizeLine : Nat) = 16777216 := sizeLine_eq
  have N := lw_fn L
  have hbn := hsm.bn
  have hrn := hsm.rn
  refine exi2 (T) ?_
  intro us nu hAll
  have Su := hAll.1
  have hu := hAll.2
  clear hAll
  have hul : (strValues us).length = rows.length := by rw [← hu]; simp [strValues]
  refine r_seq ?_
  refine wpAny_Assign_Name ?_
  refine F.specT spec_const_int ?_
  intro u1 s F
  refine r_st N F 6 rfl rfl B.sz ?_
  intro s F
  refine ⟨rfl, ?_⟩
  refine r_seq ?_
  refine wpAny_For ?_
  refine r_ld N F 12 rfl rfl ?_
  refine F.specA (spec_pyIter B Su) ?_
  intro it σ1 s hAll F
  have hit0 := hAll.1
  have hit' := hAll.2
  clear hAll
  have hit : σ1 it = some (itObj (.ref lr) 0) := by rw [hit']; exact upd_same ..
  have m1 : Mod [] σ σ1 := by rw [hit']; exact Mod.new hit0
  refine r_forG rows.length
    (fun i σ' vals' => σ' it = some (itObj (.ref lr) i) ∧ Mod [] σ σ' ∧ ∃ (kk : Nat) (tk : Tok) (v15 v16 v17 : Option Value), vals' = v0 :: v1 :: some (.int W t2) :: v3 :: some (.int H t4) :: v5 :: some (.int (kk : Int) tk) :: v7 :: v8 :: v9 :: v10 :: v11 :: some (.ref lr) :: some (.ref lb) :: v14 :: v15 :: v16 :: v17 :: r ∧ kk ≤ bs.length ∧ Pk W (if kk = 0 then W - H else W) (bs.drop kk) (rows.drop i))
    (LNX it lr (strValues us)) (fun σ σ' => Mod [it] σ σ') ?_ ?_ ?_ ?_ ?_ F
  · rintro i σ' vals' hi ⟨h1, h2, _⟩
    exact next_list B (Su.mod0 h2) h1 (by rw [hul]; exact hi)
  · rintro σ' vals' ⟨h1, h2, _⟩
    exact stop_list B hh (Su.mod0 h2) (by rw [hul]; exact h1)
  · intro i σ' vals' v σ2 s' E' hi hJ hN F
    have h1 := hJ.1
    have h2 := hJ.2.1
    have hv := hN.1
    have h5 := hN.2.1
    have h6 := hN.2.2
    have hx0 := hJ.2.2
    clear hJ hN
    refine exi5 hx0 ?_
    intro kk tk v15 v16 v17 hy0
    clear hx0
    have hkk := hy0.2.1
    have hpk := hy0.2.2
    replace hy0 := hy0.1
    subst hy0
    have m2 : Mod [] σ σ2 := h2.skip h6 hit0
    obtain ⟨row, hrow⟩ : ∃ row, rows[i]? = some row := ⟨_, List.getElem?_eq_getElem hi⟩
    obtain ⟨tw, rfl⟩ : ∃ tw, v = .str row tw := by
      rw [← hu, List.getElem?_map] at hrow
      cases hq : us[i]? with
      | none => rw [hq] at hrow; cases hrow
      | some y =>
        rw [hq] at hrow
        rw [strValues, List.getElem?_map, hq] at hv
        simp only [Option.map_some, Option.some.injEq] at hrow hv
        exact ⟨y.2, by rw [← hv, ← hrow]⟩
    rw [drop_at hrow] at hpk
    obtain ⟨b, xs, rest, hd, rfl, g1, g2, hpk'⟩ := hpk.cons_inv
    refine wpAny_assign_Name ?_
    refine r_st N F 16 rfl rfl B.sz ?_
    intro s F
    refine r_seq ?_
    refine lw_rm B F ?_
    intro tr s F
    refine ⟨rfl, ?_⟩
    refine lw_row B F (Tb.mod m2 (by simp)) hsm hkk hd g1 g2 ?_
    intro tk' v17' σ3 s' m3 F'
    have hl := congrArg List.length hd
    rw [List.length_drop, List.length_append, List.length_cons] at hl
    refine ⟨σ3, _, ⟨m3.get h5, m2.trans m3, kk + (xs.length + 1), tk', _, _, _, rfl, by omega, ?_⟩, F'⟩
    rw [if_neg (by omega), ← List.drop_drop, hd, List.drop_left' (by simp)]
    exact hpk'
  · intro σ' vals' σ2 s' E' hJ h4 F
    have h1 := hJ.1
    have h2 := hJ.2.1
    have hx0 := hJ.2.2
    clear hJ
    refine exi5 hx0 ?_
    intro kk tk v15 v16 v17 hy0
    clear hx0
    have hkk := hy0.2.1
    have hpk := hy0.2.2
    replace hy0 := hy0.1
    subst hy0
    rw [List.drop_length] at hpk
    have hke : kk = bs.length := by
      have := congrArg List.length hpk.nil_inv
      rw [List.length_drop, List.length_nil] at this
      omega
    have m2 : Mod [] σ σ2 := h2.skip h4 hit0
    refine exi2 (Tb.mod m2 (by simp)) ?_
    intro ub nb hAll
    have Sb := hAll.1
    have hub := hAll.2
    clear hAll
    have hbl : (strValues ub).length = bs.length := by rw [← hub]; simp [strValues]
    refine r_nil ⟨rfl, ?_⟩
    refine r_seq ?_
    refine wpAny_If ?_
    refine wpAny_isTrue_Compare1 ?_
    refine r_ld N F 6 rfl rfl ?_
    refine r_callN ?_
    refine r_bi B N F (len_bi _) len_boot ?_
    refine r_callW (kpr_builtin _) ?_
    refine r_arg ?_
    refine r_ld N F 13 rfl rfl ?_
    refine r_args0 ?_
    refine ⟨F.ok.kx B, ?_⟩
    refine F.specT (spec_lenL Sb (by omega)) ?_
    intro w3 s F
    refine F.specV spec_ne_int ?_
    intro s F
    refine F.specV spec_truthy_bool ?_
    intro s F
    rw [if_neg (by rw [hbl, hke]; simp)]
    exact r_nil ⟨rfl, k _ _ _ _ σ2 s m2 F⟩
  · exact ⟨hit, m1, 0, u1, v15, v16, v17, rfl, Nat.zero_le _, by rw [if_pos rfl, List.drop_zero, List.drop_zero]; exact hP⟩
end


theorem min_bi (P : Params) : nsIn (KM P) mainGlobals "min" = some none := by kernel_rfl
section
variable {c : Cx} {A : Around} {φ σ : Hp} {L : Addr} {s : Shared} {E : Value → Shared → Prop}
/-- min(list of ints) -/
theorem spec_min {l : Addr} {ns : List Int} (hh : A.handled = none) (T : Ints σ l ns) (hne : ns ≠ []) : Spec c A σ (call (.builtin "min") [.ref l]) (fun v σ' => (∃ M, IsI v M ∧ M ∈ ns ∧ ∀ a ∈ ns, M ≤ a) ∧ σ = σ') := by
  intro φ s Q E K q
  obtain ⟨us, n, S, rfl⟩ := T
  have hsz : 0 < us.toArray.size := by
    rw [List.size_toArray]
    exact List.length_pos_iff.mpr fun e => hne (by rw [e]; rfl)
  have hl := S.isL K
  have e : (intVals us).toArray = intItems us.toArray := by simp [intVals, intItems]
  rw [e] at hl
  refine min_intList hh hl hsz fun v h' tk hv hk => ?_
  obtain ⟨t, rfl⟩ := intItems_at hv
  obtain ⟨h1, h2⟩ := argBest_lt (numAt us.toArray) (us.toArray.size - 1)
  refine q _ σ _ ⟨⟨_, ⟨t, rfl⟩, ?_, fun a ha => ?_⟩, rfl⟩ (K.grow hk rfl rfl)
  · rw [numAt_eq]
    refine getD_mem ?_
    rw [List.length_map]
    refine Nat.lt_of_le_of_lt h1 ?_
    show us.toArray.size - 1 < us.length
    rw [List.size_toArray] at hsz ⊢
    omega
  · obtain ⟨j, hj, rfl⟩ := mem_getD ha
    have hj' : j < us.toArray.size := by rw [List.size_toArray]; simpa using hj
    have := h2 j (by omega)
    rw [numAt_eq (j := j)] at this
    exact this
/-- an item of a list of ints -/
theorem spec_intAt (B : Bs c) {value slice : Expr} {l : Addr} {ns : List Int} {k : Nat} {t : Tok} {x : Int} (T : Ints σ l ns) (hx : ns[k]? = some x) (hz : ns.length ≤ 1000)
    (hs : ∃ ops, subscripted slice false (.ref l) (.int (k : Int) t) = operate ops (getItem (.ref l) (.int (k : Int) t)) := by exact ⟨_, rfl⟩) : Spec c A σ (subscriptTail value slice (.ref l) (.int (k : Int) t)) (fun v σ' => IsI v x ∧ σ = σ') := by
  have e1 : (sizeLine : Nat) = 16777216 := sizeLine_eq
  obtain ⟨us, n, S, rfl⟩ := T
  rw [List.getElem?_map] at hx
  cases hq : us[k]? with
  | none => rw [hq] at hx; cases hx
  | some y =>
    rw [hq] at hx
    simp only [Option.map_some, Option.some.injEq] at hx
    refine (spec_sub B S (spec_item B S (k := k) (v := .int y.1 y.2) rfl (by rw [intVals, List.getElem?_map, hq]; rfl) (by rw [ivl]; simp at hz; omega)) hs).mono ?_
    rintro _ _ ⟨rfl, rfl⟩
    exact ⟨⟨y.2, by rw [hx]⟩, rfl⟩
theorem Ints.snoc {l : Addr} {us : List (Int × Tok)} {n : Nat} {x : Int} {t : Tok} (S : Sq σ l (.type "list") none (intVals us ++ [.int x t]) n) : Ints σ l (us.map (·.1) ++ [x]) :=
  ⟨us ++ [(x, t)], n, by simpa [intVals] using S, by simp⟩
theorem ed_next {bs : List Str} {i : Nat} {b : Str} (h : bs[i]? = some b) : ((List.range (i + 1)).map fun k => (ed bs k : Int)) ++ [(ed bs i : Int) + (b.length : Nat)] = (List.range (i + 2)).map fun k => (ed bs k : Int) := by
  rw [List.range_succ (n := i + 1), List.map_append, List.map_singleton, ed_succ h]
  simp
set_option maxHeartbeats 4000000 in
/-- ends -/
theorem lw_j (B : Bs c) {lr lb : Addr} {bs rows : List Str} {v0 v1 v2 v3 v4 v5 v6 v7 v8 v9 v10 v11 v14 v15 v16 v17 v18 v19 : Option Value} {r : List (Option Value)} {Q : Flow → Shared → Prop} (hh : A.handled = none) (F : Fm c φ σ L lwNames (v0 :: v1 :: v2 :: v3 :: v4 :: v5 :: v6 :: v7 :: v8 :: v9 :: v10 :: v11 :: some (.ref lr) :: some (.ref lb) :: v14 :: v15 :: v16 :: v17 :: v18 :: v19 :: r) s)
    (hsm : SmB bs rows) (Tb : Txts σ lb bs)
    (k : ∀ le v19 σ' s', Mod [] σ σ' → Ints σ' le ((List.range (bs.length + 1)).map fun k => (ed bs k : Int)) → Fm c φ σ' L lwNames (v0 :: v1 :: v2 :: v3 :: v4 :: v5 :: v6 :: v7 :: v8 :: v9 :: v10 :: v11 :: some (.ref lr) :: some (.ref lb) :: v14 :: v15 :: v16 :: v17 :: some (.ref le) :: v19 :: r) s' → wpAny c.M A (execs (lwS.drop 23) (callEnv lwFd L 223)) Q E s') :
    wpAny c.M A (execs (lwS.drop 21) (callEnv lwFd L 223)) Q E s := by
  have e1 : (sizeLine : Nat) = 16777216 := sizeLine_eq
  have N := lw_fn L
  have hbn := hsm.bn
  have hbl := hsm.bl
  refine r_seq ?_
  refine wpAny_Assign_Name ?_
  refine r_list ?_
  refine r_arg ?_
  refine F.specT spec_const_int ?_
  intro u1 s F
  refine r_args0 ?_
  refine F.specA (spec_list B (by size_fits)) ?_
  intro le σ1 s hAll F
  have hle0 := hAll.1
  have hle := hAll.2.1
  have m1 := hAll.2.2
  clear hAll
  refine r_st N F 18 rfl rfl B.sz ?_
  intro s F
  refine ⟨rfl, ?_⟩
  refine exi2 (Tb) ?_
  intro us nu hAll
  have Su := hAll.1
  have hu := hAll.2
  clear hAll
  have hul : (strValues us).length = bs.length := by rw [← hu]; simp [strValues]
  refine r_seq ?_
  refine wpAny_For ?_
  refine r_ld N F 13 rfl rfl ?_
  refine F.specA (spec_pyIter B (Su.mod0 m1)) ?_
  intro it σ2 s hAll F
  have hit0 := hAll.1
  have hit' := hAll.2
  clear hAll
  have hit : σ2 it = some (itObj (.ref lb) 0) := by rw [hit']; exact upd_same ..
  have m2 : Mod [] σ1 σ2 := by rw [hit']; exact Mod.new hit0
  have hitσ : σ it = none := m1.fresh hit0
  have hlit : le ≠ it := fun e => by rw [e, hit0] at hle; cases hle
  have m02 := m1.trans m2
  refine r_forG bs.length
    (fun i σ' vals' => σ' it = some (itObj (.ref lb) i) ∧ Mod [] σ σ' ∧ Ints σ' le ((List.range (i + 1)).map fun k => (ed bs k : Int)) ∧ ∃ (v19 : Option Value), vals' = v0 :: v1 :: v2 :: v3 :: v4 :: v5 :: v6 :: v7 :: v8 :: v9 :: v10 :: v11 :: some (.ref lr) :: some (.ref lb) :: v14 :: v15 :: v16 :: v17 :: some (.ref le) :: v19 :: r)
    (LNX it lb (strValues us)) (fun σ σ' => Mod [it] σ σ') ?_ ?_ ?_ ?_ ?_ F
  · rintro i σ' vals' hi ⟨h1, h2, _⟩
    exact next_list B (Su.mod0 h2) h1 (by rw [hul]; exact hi)
  · rintro σ' vals' ⟨h1, h2, _⟩
    exact stop_list B hh (Su.mod0 h2) (by rw [hul]; exact h1)
  · intro i σ' vals' v σ3 s' E' hi hJ hN F
    have h1 := hJ.1
    have h2 := hJ.2.1
    have h3 := hJ.2.2.1
    have hv := hN.1
    have h5 := hN.2.1
    have h6 := hN.2.2
    have hx0 := hJ.2.2.2
    clear hJ hN
    refine exi1 hx0 ?_
    intro v19 hy0
    clear hx0
    subst hy0
    have m3 : Mod [] σ σ3 := h2.skip h6 hitσ
    obtain ⟨b, hb⟩ : ∃ b, bs[i]? = some b := ⟨_, List.getElem?_eq_getElem hi⟩
    obtain ⟨tw, rfl⟩ : ∃ tw, v = .str b tw := by
      rw [← hu, List.getElem?_map] at hb
      cases hq : us[i]? with
      | none => rw [hq] at hb; cases hb
      | some y =>
        rw [hq] at hb
        rw [strValues, List.getElem?_map, hq] at hv
        simp only [Option.map_some, Option.some.injEq] at hb hv
        exact ⟨y.2, by rw [← hv, ← hb]⟩
    have hbl' : b.length ≤ 300 := by
      have : b.length ≤ (bs.map (·.length)).sum := le_sum (List.mem_map.mpr ⟨b, List.mem_of_getElem? hb, rfl⟩)
      omega
    refine exi2 (h3.mod h6 (by simpa using hlit)) ?_
    intro ue ne hAll
    have Se := hAll.1
    have hue := hAll.2
    clear hAll
    have huel : (intVals ue).length = i + 1 := by rw [ivl]; have := congrArg List.length hue; simpa using this
    obtain ⟨ue', te, rfl⟩ : ∃ ue' te, ue = ue' ++ [((ed bs i : Int), te)] := by
      rcases List.eq_nil_or_concat ue with h | ⟨ue', y, h⟩
      · rw [h] at huel; simp [intVals] at huel
      · rw [List.concat_eq_append] at h
        rw [h, List.range_succ, List.map_append, List.map_append] at hue
        have := (List.append_inj' hue rfl).2
        simp only [List.map_cons, List.map_nil, List.cons.injEq, and_true] at this
        exact ⟨ue', y.2, by rw [h, ← this]⟩
    refine wpAny_assign_Name ?_
    refine r_st N F 19 rfl rfl B.sz ?_
    intro s F
    refine r_seq ?_
    refine wpAny_Expr_any ?_
    refine r_method ?_
    refine r_ld N F 18 rfl rfl ?_
    intro pl
    refine F.specE (spec_lmethod Se PySem.F.slot_list_append.lookup PySem.F.type_list_append) ?_
    intro s F
    refine r_callW (kpr_builtin _) ?_
    refine r_arg ?_
    refine wpAny_BinOp ?_
    refine Subscript_ ?_
    refine r_ld N F 18 rfl rfl ?_
    refine wpAny_UnaryOp ?_
    refine F.specT spec_const_int ?_
    intro w1 s F
    refine F.specT spec_neg_int ?_
    intro w2 s F
    refine F.specE (spec_sub B Se (spec_last B Se (v := .int (ed bs i) te) (by simp [intVals]) (by omega))) ?_
    intro s F
    refine r_callN ?_
    refine r_bi B N F (len_bi _) len_boot ?_
    refine r_callW (kpr_builtin _) ?_
    refine r_arg ?_
    refine r_ld N F 19 rfl rfl ?_
    refine r_args0 ?_
    refine ⟨F.ok.kx B, ?_⟩
    refine F.specT (spec_len_str (by omega)) ?_
    intro w3 s F
    refine F.specT spec_add_int ?_
    intro w4 s F
    refine r_args0 ?_
    refine ⟨F.ok.kx B, ?_⟩
    refine F.specN (spec_app B Se (by omega)) ?_
    intro n4 σ4 s hAll F
    have S4 := hAll.1
    have m4 := hAll.2
    clear hAll
    refine ⟨rfl, r_nil ?_⟩
    have I4 := Ints.snoc S4
    rw [hue, ed_next hb] at I4
    exact ⟨σ4, _, ⟨m4 it _ (by simpa using Ne.symm hlit) h5, m3.skip m4 hle0, I4, _, rfl⟩, F⟩
  · intro σ' vals' σ3 s' E' hJ h4 F
    have h1 := hJ.1
    have h2 := hJ.2.1
    have h3 := hJ.2.2.1
    have hx0 := hJ.2.2.2
    clear hJ
    refine exi1 hx0 ?_
    intro v19 hy0
    clear hx0
    subst hy0
    refine r_nil ⟨rfl, ?_⟩
    exact k le v19 σ3 s' (h2.skip h4 hitσ) (h3.mod h4 (by simpa using hlit)) F
  · exact ⟨hit, m02, ⟨[(0, u1)], 0, sq_of (m2.get hle), rfl⟩, v19, rfl⟩
end


def cnd (W H : Int) (bs : List Str) (k j : Nat) : Bool := decide ((ed bs k : Int) - ed bs j ≤ (if j = 0 then W - H else W))
def wy (W H : Int) (bs : List Str) (g : Nat → Nat) (i j : Nat) : List Int := (g i : Int) :: ((List.range j).filter (cnd W H bs (i + 1))).map fun j => (g j : Int)
theorem wy_succ (W H : Int) (bs : List Str) (g : Nat → Nat) (i j : Nat) : wy W H bs g i (j + 1) = wy W H bs g i j ++ (if cnd W H bs (i + 1) j then [(g j : Int)] else []) := by
  unfold wy
  rw [List.range_succ, List.filter_append, List.map_append, List.cons_append]
  congr 2
  by_cases h : cnd W H bs (i + 1) j = true <;> simp [h]
/-- what the law's table is to hold -/
structure Lv (W H : Int) (bs : List Str) (n : Nat) (g : Nat → Nat) : Prop where
  z : g 0 = 0
  e : g bs.length = n
  lo : ∀ j k, j < k → k ≤ bs.length → (k = j + 1 ∨ (ed bs k : Int) - ed bs j ≤ (if j = 0 then W - H else W)) → g k ≤ g j + 1
  ac : ∀ k, 0 < k → k ≤ bs.length → ∃ j, j < k ∧ g k = g j + 1 ∧ (k = j + 1 ∨ (ed bs k : Int) - ed bs j ≤ (if j = 0 then W - H else W))
theorem Lv.step {W H : Int} {bs : List Str} {n : Nat} {g : Nat → Nat} (v : Lv W H bs n g) {i : Nat} (hi : i < bs.length) {M : Int} (hM : M ∈ wy W H bs g i i) (hl : ∀ a ∈ wy W H bs g i i, M ≤ a) : 1 + M = (g (i + 1) : Int) := by
  have h1 : (g (i + 1) : Int) ≤ M + 1 := by
    rcases List.mem_cons.mp hM with rfl | hM
    · have := v.lo i (i + 1) (by omega) hi (.inl rfl); omega
    · obtain ⟨j, hj, rfl⟩ := List.mem_map.mp hM
      obtain ⟨hj1, hj2⟩ := List.mem_filter.mp hj
      have hji := List.mem_range.mp hj1
      have := v.lo j (i + 1) (by omega) hi (.inr (by simpa [cnd] using hj2)); omega
  obtain ⟨j, hj, hg, hc⟩ := v.ac (i + 1) (by omega) hi
  have h2 : (g j : Int) ∈ wy W H bs g i i := by
    by_cases hji : j = i
    · subst hji; exact .head _
    · refine .tail _ (List.mem_map.mpr ⟨j, List.mem_filter.mpr ⟨List.mem_range.mpr (by omega), ?_⟩, rfl⟩)
      rcases hc with hc | hc
      · omega
      · simpa [cnd] using hc
  have := hl _ h2
  omega
theorem g_next (g : Nat → Nat) (i : Nat) : ((List.range (i + 1)).map fun k => (g k : Int)) ++ [(g (i + 1) : Int)] = (List.range (i + 2)).map fun k => (g k : Int) := by
  rw [List.range_succ (n := i + 1), List.map_append, List.map_singleton]
theorem range_at {f : Nat → Int} {n k : Nat} (h : k < n) : ((List.range n).map f)[k]? = some (f k) := by
  rw [List.getElem?_map, List.getElem?_range h]; rfl
def k24 : List Stmt := match lwS.drop 24 with | .For _ _ b _ _ :: _ => b | _ => []
def k24i : List Stmt := match k24 with | _ :: .For _ _ b _ _ :: _ => b | _ => []

section
variable {c : Cx} {A : Around} {φ σ : Hp} {L : Addr} {s : Shared} {E : Value → Shared → Prop}
set_option maxHeartbeats 4000000 in
/-- the inner loop's body -/
theorem lw_in (B : Bs c) {le ll lw : Addr} {bs : List Str} {g : Nat → Nat} {W H : Int} {i j : Nat} {t2 t4 tk tj : Tok} {v0 v1 v3 v5 v7 v8 v9 v10 v11 v12 v13 v14 v15 v16 v17 v19 : Option Value} {Q : Flow → Shared → Prop}
    (F : Fm c φ σ L lwNames [v0, v1, some (.int W t2), v3, some (.int H t4), v5, some (.int ((i + 1 : Nat) : Int) tk), v7, v8, v9, v10, v11, v12, v13, v14, v15, v16, v17, some (.ref le), v19, some (.ref ll), some (.ref lw), some (.int (j : Int) tj)] s)
    (hbn : bs.length ≤ 32) (hi : i < bs.length) (hj : j < i) (Te : Ints σ le ((List.range (bs.length + 1)).map fun k => (ed bs k : Int))) (Tl : Ints σ ll ((List.range (i + 1)).map fun k => (g k : Int))) (Tw : Ints σ lw (wy W H bs g i j))
    (k : ∀ σ' s', Mod [lw] σ σ' → Ints σ' lw (wy W H bs g i (j + 1)) → Fm c φ σ' L lwNames [v0, v1, some (.int W t2), v3, some (.int H t4), v5, some (.int ((i + 1 : Nat) : Int) tk), v7, v8, v9, v10, v11, v12, v13, v14, v15, v16, v17, some (.ref le), v19, some (.ref ll), some (.ref lw), some (.int (j : Int) tj)] s' → Q .next s') :
    wpAny c.M A (execs k24i (callEnv lwFd L 223)) Q E s := by
  have e1 : (sizeLine : Nat) = 16777216 := sizeLine_eq
  have N := lw_fn L
  have hwl : (wy W H bs g i j).length ≤ 32 := by
    unfold wy
    have := List.length_filter_le (cnd W H bs (i + 1)) (List.range j)
    simp at this ⊢
    omega
  rw [wy_succ] at k
  -- behind the test
  have app : ∀ s (E' : Value → Shared → Prop), cnd W H bs (i + 1) j = true → Fm c φ σ L lwNames [v0, v1, some (.int W t2), v3, some (.int H t4), v5, some (.int ((i + 1 : Nat) : Int) tk), v7, v8, v9, v10, v11, v12, v13, v14, v15, v16, v17, some (.ref le), v19, some (.ref ll), some (.ref lw), some (.int (j : Int) tj)] s →
      wpAny c.M A (execs (match k24i with | .If _ b _ _ :: _ => b | _ => []) (callEnv lwFd L 223)) (fun f s' => f = .next ∧ Q .next s') E' s := by
    intro s E' hc F
    rw [if_pos hc] at k
    refine exi2 (Tw) ?_
    intro uw nw hAll
    have Sw := hAll.1
    have huw := hAll.2
    clear hAll
    have huwl : (intVals uw).length ≤ 32 := by rw [ivl, ← List.length_map (f := (·.1)), huw]; exact hwl
    refine r_seq ?_
    refine wpAny_Expr_any ?_
    refine r_method ?_
    refine r_ld N F 21 rfl rfl ?_
    intro pl
    refine F.specE (spec_lmethod Sw PySem.F.slot_list_append.lookup PySem.F.type_list_append) ?_
    intro s F
    refine r_callW (kpr_builtin _) ?_
    refine r_arg ?_
    refine Subscript_ ?_
    refine r_ld N F 20 rfl rfl ?_
    refine r_ld N F 22 rfl rfl ?_
    refine F.specT (spec_intAt B Tl (k := j) (range_at (by omega)) (by simp; omega)) ?_
    intro w1 s F
    refine r_args0 ?_
    refine ⟨F.ok.kx B, ?_⟩
    refine F.specN (spec_app B Sw (by omega)) ?_
    intro n1 σ1 s hAll F
    have S1 := hAll.1
    have m1 := hAll.2
    clear hAll
    refine ⟨rfl, r_nil ⟨rfl, ?_⟩⟩
    have I1 := Ints.snoc S1
    rw [huw] at I1
    exact k σ1 s m1 I1 F
  have ask : ∀ s t (x : Int), x = (if j = 0 then W - H else W) → Fm c φ σ L lwNames [v0, v1, some (.int W t2), v3, some (.int H t4), v5, some (.int ((i + 1 : Nat) : Int) tk), v7, v8, v9, v10, v11, v12, v13, v14, v15, v16, v17, some (.ref le), v19, some (.ref ll), some (.ref lw), some (.int (j : Int) tj)] s →
      ∀ t', wpAny c.M A (compareOp .LtE (.int ((ed bs (i + 1) : Int) - (ed bs j : Int)) t') (.int x t)) (fun v s₁ => wpAny c.M A (truthy v) (fun b s₂ => b = cnd W H bs (i + 1) j ∧ Fm c φ σ L lwNames [v0, v1, some (.int W t2), v3, some (.int H t4), v5, some (.int ((i + 1 : Nat) : Int) tk), v7, v8, v9, v10, v11, v12, v13, v14, v15, v16, v17, some (.ref le), v19, some (.ref ll), some (.ref lw), some (.int (j : Int) tj)] s₂) E s₁) E s := by
    intro s t x hx F t'
    subst hx
    refine F.specV spec_le_int ?_
    intro s F
    refine F.specV spec_truthy_bool ?_
    intro s F
    exact ⟨rfl, F⟩
  refine r_seq ?_
  refine wpAny_If ?_
  have fin : ∀ b s, b = cnd W H bs (i + 1) j → Fm c φ σ L lwNames [v0, v1, some (.int W t2), v3, some (.int H t4), v5, some (.int ((i + 1 : Nat) : Int) tk), v7, v8, v9, v10, v11, v12, v13, v14, v15, v16, v17, some (.ref le), v19, some (.ref ll), some (.ref lw), some (.int (j : Int) tj)] s →
      if b = true then wpAny c.M A (execs (match k24i with | .If _ b _ _ :: _ => b | _ => []) (callEnv lwFd L 223)) (fun fl s' => fl = .next ∧ wpAny c.M A (execs [] (callEnv lwFd L 223)) Q E s') E s else wpAny c.M A (execs [] (callEnv lwFd L 223)) (fun fl s' => fl = .next ∧ wpAny c.M A (execs [] (callEnv lwFd L 223)) Q E s') E s := by
    intro b s hb F
    cases hc : cnd W H bs (i + 1) j with
    | true =>
      rw [hb, hc, if_pos rfl]
      refine wpAny_mono (app s E hc F) (fun f s' h => ⟨h.1, r_nil h.2⟩) fun _ _ e => e
    | false =>
      rw [hb, hc, if_neg (by decide)]
      rw [hc, if_neg (by decide), List.append_nil] at k
      exact r_nil ⟨rfl, r_nil (k σ s Mod.refl Tw F)⟩
  refine wpAny_isTrue_Compare1 ?_
  refine wpAny_BinOp ?_
  refine Subscript_ ?_
  refine r_ld N F 18 rfl rfl ?_
  refine r_ld N F 6 rfl rfl ?_
  refine F.specT (spec_intAt B Te (k := i + 1) (range_at (by omega)) (by simp; omega)) ?_
  intro x1 s F
  refine Subscript_ ?_
  refine r_ld N F 18 rfl rfl ?_
  refine r_ld N F 22 rfl rfl ?_
  refine F.specT (spec_intAt B Te (k := j) (range_at (by omega)) (by simp; omega)) ?_
  intro x2 s F
  refine F.specT spec_sub_int ?_
  intro x3 s F
  refine wpAny_IfExp ?_
  refine wpAny_isTrue_Compare1 ?_
  refine r_ld N F 22 rfl rfl ?_
  refine F.specT spec_const_int ?_
  intro x4 s F
  refine F.specV spec_eq_int ?_
  intro s F
  refine F.specV spec_truthy_bool ?_
  intro s F
  by_cases hj0 : j = 0
  · rw [if_pos (by simpa using hj0)]
    refine wpAny_BinOp ?_
    refine r_ld N F 2 rfl rfl ?_
    refine r_ld N F 4 rfl rfl ?_
    refine F.specT spec_sub_int ?_
    intro x5 s F
    refine wpAny_mono (ask s x5 (W - H) (by rw [if_pos hj0]) F x3) (fun v s₁ h₁ => wpAny_mono h₁ (fun b s₂ h₂ => fin b s₂ h₂.1 h₂.2) fun _ _ e => e) fun _ _ e => e
  · rw [if_neg (by simp; omega)]
    refine r_ld N F 2 rfl rfl ?_
    refine wpAny_mono (ask s t2 W (by rw [if_neg hj0]) F x3) (fun v s₁ h₁ => wpAny_mono h₁ (fun b s₂ h₂ => fin b s₂ h₂.1 h₂.2) fun _ _ e => e) fun _ _ e => e
end


section
variable {c : Cx} {A : Around} {φ σ : Hp} {L : Addr} {s : Shared} {E : Value → Shared → Prop}
set_option maxHeartbeats 4000000 in
/-- one turn of the table's loop -/
theorem lw_turn (B : Bs c) {le ll : Addr} {bs rows : List Str} {g : Nat → Nat} {W H : Int} {i : Nat} {t2 t4 tk : Tok} {v0 v1 v3 v5 v7 v8 v9 v10 v11 v12 v13 v14 v15 v16 v17 v19 v21 v22 : Option Value} {Q : Flow → Shared → Prop} (hh : A.handled = none)
    (F : Fm c φ σ L lwNames [v0, v1, some (.int W t2), v3, some (.int H t4), v5, some (.int ((i + 1 : Nat) : Int) tk), v7, v8, v9, v10, v11, v12, v13, v14, v15, v16, v17, some (.ref le), v19, some (.ref ll), v21, v22] s)
    (hbn : bs.length ≤ 32) (hi : i < bs.length) (V : Lv W H bs rows.length g) (Te : Ints σ le ((List.range (bs.length + 1)).map fun k => (ed bs k : Int))) (Tl : Ints σ ll ((List.range (i + 1)).map fun k => (g k : Int)))
    (k : ∀ v21 v22 σ' s', Mod [ll] σ σ' → Ints σ' ll ((List.range (i + 2)).map fun k => (g k : Int)) → Fm c φ σ' L lwNames [v0, v1, some (.int W t2), v3, some (.int H t4), v5, some (.int ((i + 1 : Nat) : Int) tk), v7, v8, v9, v10, v11, v12, v13, v14, v15, v16, v17, some (.ref le), v19, some (.ref ll), v21, v22] s' → Q .next s') :
    wpAny c.M A (execs k24 (callEnv lwFd L 223)) Q E s := by
  have e1 : (sizeLine : Nat) = 16777216 := sizeLine_eq
  have N := lw_fn L
  refine r_seq ?_
  refine wpAny_Assign_Name ?_
  refine r_list ?_
  refine r_arg ?_
  refine Subscript_ ?_
  refine r_ld N F 20 rfl rfl ?_
  refine wpAny_BinOp ?_
  refine r_ld N F 6 rfl rfl ?_
  refine F.specT spec_const_int ?_
  intro u1 s F
  refine F.specT spec_sub_int ?_
  intro u2 s F
  have ei : ((i + 1 : Nat) : Int) - 1 = ((i : Nat) : Int) := by omega
  rw [ei]
  refine F.specT (spec_intAt B Tl (k := i) (range_at (by omega)) (by simp; omega)) ?_
  intro u3 s F
  refine r_args0 ?_
  refine F.specA (spec_list B (by size_fits)) ?_
  intro lw σ1 s hAll F
  have hlw0 := hAll.1
  have hlw := hAll.2.1
  have m1 := hAll.2.2
  clear hAll
  refine r_st N F 21 rfl rfl B.sz ?_
  intro s F
  refine ⟨rfl, ?_⟩
  refine r_seq ?_
  refine wpAny_For ?_
  refine r_callN ?_
  refine r_bi B N F (range_bi _) range_boot ?_
  refine r_callW (kpr_type _) ?_
  refine r_arg ?_
  refine wpAny_BinOp ?_
  refine r_ld N F 6 rfl rfl ?_
  refine F.specT spec_const_int ?_
  intro u4 s F
  refine F.specT spec_sub_int ?_
  intro u5 s F
  rw [ei]
  refine r_args0 ?_
  refine ⟨F.ok.kx B, ?_⟩
  refine F.specR4 (spec_range1 B) ?_
  intro rg w1 w2 w3 σ2 s hAll F
  have hrg0 := hAll.1
  have hrg := hAll.2.1
  have m2 := hAll.2.2
  clear hAll
  refine F.specA (spec_iterR B hrg (small_up (by omega) (by omega))) ?_
  intro it σ3 s hAll F
  have hit0 := hAll.1
  have hit := hAll.2.1
  have m3 := hAll.2.2
  clear hAll
  have m13 : Mod [] σ1 σ3 := m2.trans m3
  have hit1 : σ1 it = none := m2.fresh hit0
  have hitσ : σ it = none := m1.fresh hit1
  have hlit : lw ≠ it := fun e => by rw [e, hit1] at hlw; cases hlw
  have hsz : Builtin.Range.rangeSize 0 ((i : Nat) : Int) 1 = ((i : Nat) : Int) := by rw [rangeSize_one]; split <;> omega
  rw [hsz] at hit
  refine r_forG i
    (fun j σ' vals' => σ' it = some (riObj (0 + (j : Nat) * 1) (((i : Nat) : Int) - (j : Nat)) 1) ∧ Mod [] σ σ' ∧ Ints σ' lw (wy W H bs g i j) ∧ ∃ v22, vals' = [v0, v1, some (.int W t2), v3, some (.int H t4), v5, some (.int ((i + 1 : Nat) : Int) tk), v7, v8, v9, v10, v11, v12, v13, v14, v15, v16, v17, some (.ref le), v19, some (.ref ll), some (.ref lw), v22])
    (RNX it 0 i 1) (fun σ σ' => Mod [it] σ σ') ?_ ?_ ?_ ?_ ?_ F
  · rintro j σ' vals' hj ⟨h1, _⟩
    exact next_range B h1 hj
  · rintro σ' vals' ⟨h1, _⟩
    exact stop_range B hh h1
  · intro j σ' vals' v σ4 s' E' hj hJ hN F
    have h1 := hJ.1
    have h2 := hJ.2.1
    have h3 := hJ.2.2.1
    have hv0 := hN.1
    have h5 := hN.2.1
    have h6 := hN.2.2
    have hx0 := hJ.2.2.2
    clear hJ hN
    refine exi1 hx0 ?_
    intro v22 hy0
    clear hx0
    subst hy0
    obtain ⟨ti, rfl⟩ := hv0
    have ej : (0 : Int) + (j : Nat) * 1 = ((j : Nat) : Int) := by omega
    have m4 := h2.skip h6 hitσ
    have T4 := h3.mod h6 (by simpa using hlit)
    refine wpAny_assign_Name ?_
    refine r_st N F 22 rfl rfl B.sz ?_
    intro s F
    rw [ej] at F
    refine lw_in B F hbn hi hj (Te.mod m4 (by simp)) (Tl.mod m4 (by simp)) T4 ?_
    intro σ5 s5 m5 T5 F
    exact ⟨σ5, _, ⟨m5 it _ (by simpa using Ne.symm hlit) h5, m4.skip m5 hlw0, T5, _, rfl⟩, F⟩
  · intro σ' vals' σ4 s' E' hJ h4 F
    have h1 := hJ.1
    have h2 := hJ.2.1
    have h3 := hJ.2.2.1
    have hx0 := hJ.2.2.2
    clear hJ
    refine exi1 hx0 ?_
    intro v22 hy0
    clear hx0
    subst hy0
    have m4 := h2.skip h4 hitσ
    have T4 := h3.mod h4 (by simpa using hlit)
    refine exi2 (Tl.mod m4 (by simp)) ?_
    intro ul nl hAll
    have Sl := hAll.1
    have hul := hAll.2
    clear hAll
    have hull : (intVals ul).length = i + 1 := by rw [ivl]; have := congrArg List.length hul; simpa using this
    refine r_nil ⟨rfl, ?_⟩
    refine r_seq ?_
    refine wpAny_Expr_any ?_
    refine r_method ?_
    refine r_ld N F 20 rfl rfl ?_
    intro pl
    refine F.specE (spec_lmethod Sl PySem.F.slot_list_append.lookup PySem.F.type_list_append) ?_
    intro s F
    refine r_callW (kpr_builtin _) ?_
    refine r_arg ?_
    refine wpAny_BinOp ?_
    refine F.specT spec_const_int ?_
    intro u6 s F
    refine r_callN ?_
    refine r_bi B N F (min_bi _) boot_min ?_
    refine r_callW (kpr_builtin _) ?_
    refine r_arg ?_
    refine r_ld N F 21 rfl rfl ?_
    refine r_args0 ?_
    refine ⟨F.ok.kx B, ?_⟩
    refine F.spec (spec_min hh T4 (by simp [wy])) ?_
    rintro _ _ s ⟨⟨M, ⟨u7, rfl⟩, hM1, hM2⟩, rfl⟩ F
    refine F.specT spec_add_int ?_
    intro u8 s F
    rw [V.step hi hM1 hM2]
    refine r_args0 ?_
    refine ⟨F.ok.kx B, ?_⟩
    refine F.specN (spec_app B Sl (by omega)) ?_
    intro n5 σ5 s hAll F
    have S5 := hAll.1
    have m5 := hAll.2
    clear hAll
    refine ⟨rfl, r_nil ?_⟩
    have I5 := Ints.snoc S5
    rw [hul, g_next] at I5
    exact k _ _ σ5 s (m4.to.trans m5) I5 F
  · exact ⟨by simpa using hit, m1.trans m13, ⟨[((g i : Int), u3)], 0, sq_of (m13.get hlw), rfl⟩, v22, rfl⟩
set_option maxHeartbeats 4000000 in
/-- least, and the answer -/
theorem lw_k (B : Bs c) {lr le : Addr} {bs rows : List Str} {g : Nat → Nat} {W H : Int} {t2 t4 : Tok} {v0 v1 v3 v5 v6 v7 v8 v9 v10 v11 v13 v14 v15 v16 v17 v19 v20 v21 v22 : Option Value} {Q : Flow → Shared → Prop} {kk : Nat} (R : Rm A kk)
    (F : Fm c φ σ L lwNames [v0, v1, some (.int W t2), v3, some (.int H t4), v5, v6, v7, v8, v9, v10, v11, some (.ref lr), v13, v14, v15, v16, v17, some (.ref le), v19, v20, v21, v22] s)
    (hsm : SmB bs rows) (V : Lv W H bs rows.length g) (T : Txts σ lr rows) (Te : Ints σ le ((List.range (bs.length + 1)).map fun k => (ed bs k : Int)))
    (q : ∀ σ' vals' s', Fm c φ σ' L lwNames vals' s' → Q (.ret (.bool true)) s') :
    wpAny c.M A (execs (lwS.drop 23) (callEnv lwFd L 223)) Q E s := by
  have e1 : (sizeLine : Nat) = 16777216 := sizeLine_eq
  have N := lw_fn L
  have hh := R.hd
  have hbn := hsm.bn
  have hrn := hsm.rn
  refine r_seq ?_
  refine wpAny_Assign_Name ?_
  refine r_list ?_
  refine r_arg ?_
  refine F.specT spec_const_int ?_
  intro u1 s F
  refine r_args0 ?_
  refine F.specA (spec_list B (by size_fits)) ?_
  intro ll σ1 s hAll F
  have hll0 := hAll.1
  have hll := hAll.2.1
  have m1 := hAll.2.2
  clear hAll
  refine r_st N F 20 rfl rfl B.sz ?_
  intro s F
  refine ⟨rfl, ?_⟩
  have Te1 := Te.mod m1 (by simp)
  refine exi2 (Te1) ?_
  intro ue ne hAll
  have Se := hAll.1
  have hue := hAll.2
  clear hAll
  have huel : (intVals ue).length = bs.length + 1 := by rw [ivl]; have := congrArg List.length hue; simpa using this
  refine wpAny_execs_cons ?_
  refine wpAny_For ?_
  refine r_callN ?_
  refine r_bi B N F (range_bi _) range_boot ?_
  refine r_callW (kpr_type _) ?_
  refine r_arg ?_
  refine F.specT spec_const_int ?_
  intro u2 s F
  refine r_arg ?_
  refine r_callN ?_
  refine r_bi B N F (len_bi _) len_boot ?_
  refine r_callW (kpr_builtin _) ?_
  refine r_arg ?_
  refine r_ld N F 18 rfl rfl ?_
  refine r_args0 ?_
  refine ⟨F.ok.kx B, ?_⟩
  refine F.specT (spec_lenL Se (by omega)) ?_
  intro u3 s F
  refine r_args0 ?_
  refine ⟨F.ok.kx B, ?_⟩
  refine F.specR4 (spec_range2 B) ?_
  intro rg w1 w2 w3 σ2 s hAll F
  have hrg0 := hAll.1
  have hrg := hAll.2.1
  have m2 := hAll.2.2
  clear hAll
  rw [huel] at hrg
  refine F.specA (spec_iterR B hrg (small_one (by decide) (by decide) (by omega) (by omega))) ?_
  intro it σ3 s hAll F
  have hit0 := hAll.1
  have hit := hAll.2.1
  have m3 := hAll.2.2
  clear hAll
  have m13 : Mod [] σ1 σ3 := m2.trans m3
  have hit1 : σ1 it = none := m2.fresh hit0
  have hitσ : σ it = none := m1.fresh hit1
  have hlit : ll ≠ it := fun e => by rw [e, hit1] at hll; cases hll
  have hsz : Builtin.Range.rangeSize 1 ((bs.length + 1 : Nat) : Int) 1 = ((bs.length : Nat) : Int) := by rw [rangeSize_one]; split <;> omega
  rw [hsz] at hit
  refine r_forG bs.length
    (fun i σ' vals' => σ' it = some (riObj (1 + (i : Nat) * 1) (((bs.length : Nat) : Int) - (i : Nat)) 1) ∧ Mod [] σ σ' ∧ Ints σ' ll ((List.range (i + 1)).map fun k => (g k : Int)) ∧ ∃ v6 v21 v22, vals' = [v0, v1, some (.int W t2), v3, some (.int H t4), v5, v6, v7, v8, v9, v10, v11, some (.ref lr), v13, v14, v15, v16, v17, some (.ref le), v19, some (.ref ll), v21, v22])
    (RNX it 1 bs.length 1) (fun σ σ' => Mod [it] σ σ') ?_ ?_ ?_ ?_ ?_ F
  · rintro j σ' vals' hj ⟨h1, _⟩
    exact next_range B h1 hj
  · rintro σ' vals' ⟨h1, _⟩
    exact stop_range B hh h1
  · intro i σ' vals' v σ4 s' E' hi hJ hN F
    have h1 := hJ.1
    have h2 := hJ.2.1
    have h3 := hJ.2.2.1
    have hv0 := hN.1
    have h5 := hN.2.1
    have h6 := hN.2.2
    have hx0 := hJ.2.2.2
    clear hJ hN
    refine exi3 hx0 ?_
    intro v6 v21 v22 hy0
    clear hx0
    subst hy0
    obtain ⟨ti, rfl⟩ := hv0
    have ej : (1 : Int) + (i : Nat) * 1 = ((i + 1 : Nat) : Int) := by omega
    have m4 := h2.skip h6 hitσ
    have T4 := h3.mod h6 (by simpa using hlit)
    refine wpAny_assign_Name ?_
    refine r_st N F 6 rfl rfl B.sz ?_
    intro s F
    rw [ej] at F
    refine lw_turn B hh F hbn hi V (Te.mod m4 (by simp)) T4 ?_
    intro v21' v22' σ5 s5 m5 T5 F
    exact ⟨σ5, _, ⟨m5 it _ (by simpa using Ne.symm hlit) h5, m4.skip m5 hll0, T5, _, _, _, rfl⟩, F⟩
  · intro σ' vals' σ4 s' E' hJ h4 F
    have h1 := hJ.1
    have h2 := hJ.2.1
    have h3 := hJ.2.2.1
    have hx0 := hJ.2.2.2
    clear hJ
    refine exi3 hx0 ?_
    intro v6 v21 v22 hy0
    clear hx0
    subst hy0
    have m4 := h2.skip h4 hitσ
    refine exi2 (h3.mod h4 (by simpa using hlit)) ?_
    intro ul nl hAll
    have Sl := hAll.1
    have hul := hAll.2
    clear hAll
    have hull : (intVals ul).length = bs.length + 1 := by rw [ivl]; have := congrArg List.length hul; simpa using this
    obtain ⟨ul', tl, rfl⟩ : ∃ ul' tl, ul = ul' ++ [((g bs.length : Int), tl)] := by
      rcases List.eq_nil_or_concat ul with h | ⟨ul', y, h⟩
      · rw [h] at hull; simp [intVals] at hull
      · rw [List.concat_eq_append] at h
        rw [h, List.range_succ, List.map_append, List.map_append] at hul
        have := (List.append_inj' hul rfl).2
        simp only [List.map_cons, List.map_nil, List.cons.injEq, and_true] at this
        exact ⟨ul', y.2, by rw [h, ← this]⟩
    refine exi2 (T.mod m4 (by simp)) ?_
    intro us nu hAll
    have Su := hAll.1
    have hu := hAll.2
    clear hAll
    have husl : (strValues us).length = rows.length := by rw [← hu]; simp [strValues]
    refine r_nil ?_
    refine wpAny_execs_cons ?_
    refine wpAny_Return_some ?_
    refine wpAny_Compare1 ?_
    refine r_callN ?_
    refine r_bi B N F (len_bi _) len_boot ?_
    refine r_callW (kpr_builtin _) ?_
    refine r_arg ?_
    refine r_ld N F 12 rfl rfl ?_
    refine r_args0 ?_
    refine ⟨F.ok.kx B, ?_⟩
    refine F.specT (spec_lenL Su (by omega)) ?_
    intro u4 s F
    refine Subscript_ ?_
    refine r_ld N F 20 rfl rfl ?_
    refine wpAny_UnaryOp ?_
    refine F.specT spec_const_int ?_
    intro u5 s F
    refine F.specT spec_neg_int ?_
    intro u6 s F
    refine F.specE (spec_sub B Sl (spec_last B Sl (v := .int (g bs.length) tl) (by simp [intVals]) (by omega))) ?_
    intro s F
    refine F.specV spec_eq_int ?_
    intro s F
    rw [husl, V.e, decide_eq_true rfl]
    exact q _ _ _ F
  · exact ⟨by simpa using hit, m1.trans m13, ⟨[(0, u1)], 0, sq_of (m13.get hll), by simp [V.z]⟩, v6, v21, v22, rfl⟩
end


/-- an own object put out of reach, and back -/
theorem Fm.hide1 {c : Cx} {φ σ : Hp} {L x : Addr} {o : Obj} {names : List Str} {vals : List (Option Value)} {s : Shared} (F : Fm c φ σ L names vals s) (hx : σ x = some o) : Fm c (upd φ x o) (del σ x) L names vals s := by
  have hL : L ≠ x := fun e => by have := F.outσ; rw [e, hx] at this; cases this
  refine ⟨⟨F.ok.old, fun b o' e => ?_, fun b o' e => F.ok.own b o' (del_some e).1, fun b o' e => ?_, fun b o' e => F.ok.newσ b o' (del_some e).1, fun b o' e => ?_, F.ok.tab, F.ok.gens, F.ok.os⟩, F.ns, ?_, ?_, F.hi⟩
  · unfold upd at e
    split at e
    · rename_i q; cases e; rw [q]; exact F.ok.own _ _ hx
    · exact F.ok.fr b o' e
  · rw [upd_ne (del_some e).2]; exact F.ok.dj b o' (del_some e).1
  · unfold upd at e
    split at e
    · rename_i q; rw [q]; exact F.ok.newσ _ _ hx
    · exact F.ok.newφ b o' e
  · unfold del; rw [if_neg hL]; exact F.outσ
  · rw [upd_ne hL]; exact F.outφ
theorem Ok.show1 {c : Cx} {φ σ : Hp} {x : Addr} {o : Obj} {s : Shared} (K : Ok c (upd φ x o) σ s) (hφ : φ x = none) : Ok c φ (upd σ x o) s := by
  refine ⟨K.old, fun b o' e => K.fr b o' ?_, fun b o' e => ?_, fun b o' e => ?_, fun b o' e => ?_, fun b o' e => K.newφ b o' ?_, K.tab, K.gens, K.os⟩
  · rw [upd_ne]; exact e
    intro q; rw [q, hφ] at e; cases e
  · unfold upd at e
    split at e
    · rename_i q; cases e; exact K.fr _ _ (by rw [q]; exact upd_same ..)
    · exact K.own b o' e
  · unfold upd at e
    split at e
    · rename_i q; rw [q]; exact hφ
    · have h := K.dj b o' e
      rw [upd_ne] at h
      · exact h
      · assumption
  · unfold upd at e
    split at e
    · rename_i q; rw [q]; exact K.newφ x o (upd_same ..)
    · exact K.newσ b o' e
  · rw [upd_ne]; exact e
    intro q; rw [q, hφ] at e; cases e
theorem del_at {σ : Hp} {a b : Addr} (h : b ≠ a) : del σ a b = σ b := if_neg h
theorem Sq.del {σ : Hp} {a x : Addr} {cl : Value} {d : Option Addr} {xs : List Value} {n : Nat} (S : Sq σ a cl d xs n) (h : a ≠ x) : Sq (Mine.del σ x) a cl d xs n := ⟨by rw [del_at h]; exact S.at_, S.lc⟩
theorem lw_body {c : Cx} {A : Around} {φ σ : Hp} {L : Addr} {s : Shared} {E : Value → Shared → Prop} (B : Bs c) {sc : Addr} {n : Nat} {us : List (Int × Tok)} {Q : Flow → Shared → Prop} (R : Rm A 100)
    (F : Fm c φ σ L lwNames [some (.ref sc), none, none, none, none, none, none, none, none, none, none, none, none, none, none, none, none, none, none, none, none, none, none] s)
    (S : Sq σ sc (.type "list") none (intVals us) n) (hn : us.length ≤ 100000)
    (q : ∀ σ' vals' s', Fm c (upd φ sc (lObj (intVals us) n)) σ' L lwNames vals' s' → Q (.ret (.bool true)) s') : wpAny c.M A (execs lwS (callEnv lwFd L 223)) Q E s := by
  refine lw_a B (ns := []) F S hn ?_
  intro us' sc' n' ca nc first W H ch t1 t2 t3 t4 σ1 s hus S1 T1 m1 hsc0 hca0 hne hW0 hW1 hH0 hH1 hch F
  have F := F.hide1 (m1.get S.lobj)
  have S1 := S1.del (x := sc) (fun e => by have := S.at_; rw [← e, hsc0] at this; cases this)
  have T1 := T1.del (x := sc) (fun e => by have := S.at_; rw [← e, hca0] at this; cases this)
  refine lw_b B R.hd F hus S1 T1 hne ?_
  intro ps v6 v7 v8 σ2 s hpl hps K2 m2 F
  have h0 : del σ1 sc ca ≠ none := by rw [T1.at_]; simp
  refine lw_c B R F K2 h0 hpl hps ?_
  intro ps σ3 s hpl hps htl K3 _ F
  obtain ⟨vs3, n3, S3, C3, _⟩ := K3.len
  refine lw_d B R F hch hH0 hH1 S3 C3 hpl hps htl ?_
  intro v9 v10 lr t σ4 s T4 hlr0 m4 F
  have hb0 : Bk 0 (⟨[], H, []⟩ : FS) := ⟨by simp, by simp [alen], by simp, (fun x hx => nomatch hx), hH0, by show H ≤ 1000; omega⟩
  have hbk := feed_bk (W := W) (ch := ch) hH0 hH1 ps 0 _ hb0 hps
  have hsm := nl_small hbk (by omega)
  have K3' := K3.apart (o := default) hlr0
  refine lw_e B R F (S3.mod0 m4) (C3.mod m4 (by simp)) hpl hps htl T4 hsm.1 hsm.2 ?_ q ?_
  · intro e; rw [e]; exact feed_nil
  intro lb σ5 s hne5 Tb5 hlb0 m5 F
  refine lw_g B R F hch hH0 ((K3'.mod0 m4).mod0 m5) ?_ (by rw [upd_same]; simp) hpl hps htl hne5 (T4.mod m5 (by simp)) Tb5 hsm.1 hsm.2 rfl ?_
  · by_cases e : ca = lr
    · rw [e, upd_same]; simp
    · rw [upd_ne e]; exact h0
  intro H' lr' lb' t4' v14 rows bs σ6 s hpk hH' hsb Tr Tb F
  refine lw_h B R.hd F hpk hsb Tr Tb ?_
  intro v6 v15 v16 v17 σ7 s m7 F
  refine lw_j B R.hd F hsb (Tb.mod m7 (by simp)) ?_
  intro le v19 σ8 s m8 Te F
  obtain ⟨g, g1, g2, g3, g4⟩ := hpk.lvl
  exact lw_k B R F hsb ⟨g1, g2, g3, g4⟩ ((Tr.mod m7 (by simp)).mod m8 (by simp)) Te q
theorem law_spec {c : Cx} {A : Around} {σ : Hp} (B : Bs c) {sc : Addr} {n : Nat} {us : List (Int × Tok)} (R : Rm A 101) (S : Sq σ sc (.type "list") none (intVals us) n) (hn : us.length ≤ 100000) :
    CSpec c A σ (.call (.ref 223) ⟨[.ref sc], []⟩) (fun v σ' => v = .bool true ∧ σ' sc = some (lObj (intVals us) n)) := by
  refine cspec_fn B R ["script"] [.ref sc] ["first", "width", "sign", "head", "chunks", "k", "a", "b", "plain", "formatter", "told", "rows", "blocks", "fit", "room", "row", "start", "ends", "block", "least", "ways", "j"] (names := lwNames) (vals := [some (.ref sc), none, none, none, none, none, none, none, none, none, none, none, none, none, none, none, none, none, none, none, none, none, none]) (fd := lwFd) (body := lwS) (by kernel_rfl) (by kernel_rfl) rfl (fun _ _ _ => BindsTo.of_eq (by kernel_rfl)) (by kernel_rfl) (by kernel_rfl) (by decide +kernel) ?_
  intro φ L s Q E F k
  refine lw_body B R.deeper F S hn ?_
  intro σ' vals' s' F'
  exact k _ _ s' ⟨rfl, upd_same ..⟩ (F'.ok.show1 (F.ok.dj _ _ S.at_))


theorem km_of {K : Frag} {h : Heap} {P : Params} (X : K.In h) (e : ((KM P).map (·.1)).map (fun a => K.lookup a) = (KM P).map (fun p => some p.2)) : (KM P).In h := by
  intro a o ha
  refine X a o ?_
  generalize KM P = M at e ha
  induction M with
  | nil => cases ha
  | cons p M ih =>
    rw [List.map_cons, List.map_cons, List.map_cons] at e
    injection e with e1 e2
    rw [List.lookup_cons] at ha
    cases hq : a == p.1 with
    | true =>
      rw [hq] at ha
      have hap := beq_iff_eq.mp hq
      simp only [Option.some.injEq] at ha
      rw [hap, ← ha]; exact e1
    | false =>
      rw [hq] at ha
      exact ih e2 ha
/-- the script is laid right behind the top's objects -/
theorem script_push {R : WRecords} {w : World} {s₀ s₁ : Shared} {ns : List Int} {a : Addr} {as : List Addr} (L : Laid R w s₀ s₁ [ofPy (PyData.list (ns.map PyData.int))] [.ref a] as) : ∃ o, s₁.heap = s₀.heap.push o := by
  obtain ⟨ord, _, e⟩ := L.laid
  simp only [ofPy, layAllW, layW] at e
  cases q : layAllW R (classAt s₀.heap) w.params ord (ofPys (List.map PyData.int ns)) s₀ with
  | none => rw [q] at e; cases e
  | some r =>
    rw [q] at e
    have hh := PySem.W.X.lay_ints ns s₀ r q
    simp only [Option.some.injEq, Prod.mk.injEq] at e
    rw [← e.2, ← hh]
    exact ⟨_, rfl⟩
abbrev tabObj : Obj := { cls := .none, data := .fields #[] }
theorem ints_us : ∀ {vs : List Value} {ns : List Int}, IntsAre vs ns → ∃ us : List (Int × Tok), vs = intVals us ∧ us.length = ns.length
  | _, _, .nil => ⟨[], rfl, rfl⟩
  | _, _, .cons n t h => by
    obtain ⟨us, h1, h2⟩ := ints_us h
    exact ⟨(n, t) :: us, by rw [h1]; rfl, by simp [h2]⟩
theorem law_done {w : World} {s₀ s₁ : Shared} {K : Frag} {vs : List Value} {ns : List Int} {mb : Str → Option Value} (X : K.In s₀.heap) (eK : ((KM w.params).map (·.1)).map (fun a => K.lookup a) = (KM w.params).map (fun p => some p.2)) (e162 : K.lookup 162 = some tabObj) (e169 : K.lookup 169 = some tabObj)
    (ZN : s₀.heap.objs.size = 224) (hp : ∃ o, s₁.heap = s₀.heap.push o) (hg : s₁.gens = #[]) (hb : s₁.heap.Ns builtinsNs mb) (hbb : ∀ x : Str, x ≠ "__name__" → mb x = bootBuiltins x) (hnl : s₁.heap.NoLimit)
    (hs : s₁.heap.get? 224 = some { cls := .type "list", data := .seq vs.toArray }) (hI : IntsAre vs ns) (hl : ns.length ≤ 100000) {Q : Value → Shared → Prop} {E : Value → Shared → Prop}
    (q : ∀ s', OldK s₁.heap s'.heap → s'.os = s₁.os → AllBare s'.gens → Q (.bool true) s') : wpAny (model PR w) callerA (call (.ref 223) [.ref 224]) Q E s₁ := by
  obtain ⟨us, rfl, hul⟩ := ints_us hI
  obtain ⟨o1, ho1⟩ := hp
  have keep : ∀ b o, s₀.heap.get? b = some o → s₁.heap.get? b = some o := fun b o e => by rw [ho1]; exact Heap.get?_push_of_some _ e
  have back : ∀ b o, b ≠ 224 → s₁.heap.get? b = some o → s₀.heap.get? b = some o := fun b o hb e => by
    rw [ho1] at e
    rcases Heap.get?_push_cases e with ⟨h, _⟩ | h
    · rw [ZN] at h; exact absurd h hb
    · exact h
  have KX : (KM w.params).In s₀.heap := km_of X eK
  obtain ⟨c, hc⟩ : ∃ c : Cx, c = ⟨w, s₀.heap, s₁.os⟩ := ⟨_, rfl⟩
  have hcw : c.w = w := by rw [hc]
  have B : Bs c := by
    subst hc
    refine ⟨KX, Nat.le_of_eq ZN, ⟨_, KX 223 _ (by rfl)⟩, ⟨mb, Ns.at hb fun o e => back _ o (by decide) e, hbb⟩, ?_⟩
    obtain ⟨mc, h1, h2⟩ := hnl
    exact ⟨mc, Ns.at h1 fun o e => back _ o (by decide) e, h2⟩
  have T162 := X 162 _ e162
  have T169 := X 169 _ e169
  obtain ⟨σ, hσ⟩ : ∃ σ : Hp, σ = upd (fun _ => none) 224 (lObj (intVals us)) := ⟨_, rfl⟩
  have hσ1 : ∀ b o, σ b = some o → b = 224 ∧ o = lObj (intVals us) := by
    intro b o e
    rw [hσ] at e
    unfold upd at e
    split at e
    · rename_i h; cases e; exact ⟨h, rfl⟩
    · cases e
  have K0 : Ok c (fun _ => none) σ s₁ := by
    subst hc
    refine ⟨fun b o e _ => keep b o e, (fun b o e => nomatch e), fun b o e => ?_, fun b o e => rfl, fun b o e => ?_, (fun b o e => nomatch e), fun P hP => ?_, .of_eq hg, rfl⟩
    · obtain ⟨rfl, rfl⟩ := hσ1 b o e; exact hs
    · obtain ⟨rfl, rfl⟩ := hσ1 b o e; exact Nat.le_refl _
    · simp only [tabs, List.mem_cons, List.not_mem_nil, or_false] at hP
      rcases hP with rfl | rfl
      · exact ⟨#[], keep _ _ T162, trivial⟩
      · exact ⟨#[], keep _ _ T169, trivial⟩
  have S : Sq σ 224 (.type "list") none (intVals us) 0 := by
    refine sq_of ?_
    rw [hσ]; exact upd_same ..
  have R : Rm callerA 101 := ⟨rfl, by decide, by decide⟩
  have H := spec_call (law_spec B R S (by omega))
  have hm : model PR w = c.M := by rw [← hcw]
  rw [hm]
  refine H (fun _ => none) s₁ Q E K0 ?_
  rintro _ σ' s' ⟨rfl, hsc⟩ K'
  subst hc
  refine q s' ?_ K'.os K'.gens
  have tabOk : ∀ T cd, CodeT w.params cd T → T ∈ tabs → s₀.heap.get? T = some tabObj → asItWas s₁.heap s'.heap T tabObj ∧ ∃ o', s'.heap.get? T = some o' := by
    intro T cd hT hm h0
    obtain ⟨o, vs, _, _, _, _, _, _, _, h1, h2, h3, h4, _⟩ := hT
    obtain ⟨ps, hps, _⟩ := K'.tab T hm
    refine ⟨.inr (.inl ⟨⟨cd, o, vs, keep _ _ (KX _ _ h1), h2, h3, h4⟩, rfl, #[], ps, rfl, ?_⟩), ⟨_, hps⟩⟩
    rw [hps]; simp
  have all : ∀ b o, s₁.heap.get? b = some o → asItWas s₁.heap s'.heap b o ∧ ∃ o', s'.heap.get? b = some o' := by
    intro b o e
    by_cases hb : b = 224
    · subst hb
      rw [hs] at e
      cases e
      have := K'.own _ _ hsc
      exact ⟨.inl this, ⟨_, this⟩⟩
    · have e0 := back b o hb e
      by_cases ht : b ∈ tabs
      · have ht' := ht
        simp only [tabs, List.mem_cons, List.not_mem_nil, or_false] at ht'
        rcases ht' with rfl | rfl
        · rw [T162] at e0
          cases e0
          exact tabOk 162 166 (codeT162 _) ht T162
        · rw [T169] at e0
          cases e0
          exact tabOk 169 173 (codeT169 _) ht T169
      · have := K'.old b o e0 ht
        exact ⟨.inl this, ⟨_, this⟩⟩
  exact ⟨fun b o e => (all b o e).1, fun b o e => (all b o e).2⟩

end Mine
set_option maxRecDepth 100000 in
set_option maxHeartbeats 0 in
theorem PySem.Challenge.cw_dr0014_01_holds : PySem.Challenge.rw_dr0014_01.Holds := by
  w_on; o_law; z_head; (case hw => w_witness2)
  k_fill
  intro w s₀ s₁ mg mb G y fa o pm cd doc dV kV ho hd hcd hD hmg hg args vals as L hpre hlay hrd hwl hlo
  z_open y L KX ZH ZN ZT
  have X0 := (PySem.W.X.z_facts (fun _ => by rfl) y).2.1
  refine Ground.open G ?_
  intro T B D TE TW
  wrow_args hpre hlay hrd hwl hlo
  obtain ⟨hat, hsz⟩ := PySem.W.X.script_at L
  have hp := Mine.script_push L
  rw [ZN] at hat hsz
  subst hat
  have hso := PySem.W.X.script_obj L (by assumption)
  x_fa T KX hmg
  refine Mine.law_done X0 (by kernel_rfl) (by kernel_rfl) (by kernel_rfl) ZN hp L.gens T.b T.builtins T.nolimit hso (by assumption) (by omega) ?_
  intro s' h1 h2 h3
  exact ⟨.inl ⟨_, _, [], rfl, fun _ => rfl, ReadsW.bool true, (by kernel_rfl), fun _ => ⟨List.nodup_nil, fun _ hm => nomatch hm⟩⟩, h1, h2, h3⟩
