import PyProof.Rows.All
import Wide.All
import OpenK.AllK
import Wide.FinOn
import PySem.Challenge.RW_wn0086_01
set_option Elab.async false
set_option maxRecDepth 100000
set_option linter.unusedVariables false
set_option pp.maxSteps 3000
section T86
open PySem PySem.W PyProof.Rows
set_option maxHeartbeats 8000000
namespace Mine
open_top hd for PySem.Challenge.rw_wn0086_01
end Mine
end T86

section A1
open PySem PySem.W PySem.Spec PySem.Calls PyProof.Rows
namespace Mine

/- what stands still: a part of the heap that nobody changes any more -/
noncomputable abbrev FZ := Addr → Option Obj

inductive D where
  | none
  | bool (b : Bool)
  | int (i : Int)
  | str (s : Str)
  | list (l : List D)
  | tuple (l : List D)
  | mat (s : Str) (spans : List Int)
  | obj (a : Addr)

noncomputable abbrev listO (vs : List Value) (n : Nat) : Obj := { cls := .type "list", data := .seq vs.toArray n }
noncomputable abbrev tupO (vs : List Value) (n : Nat) : Obj := { cls := .type "tuple", data := .seq vs.toArray n }

mutual
inductive Rep (fz : FZ) : Value → D → Prop
  | none : Rep fz .none .none
  | bool (b : Bool) : Rep fz (.bool b) (.bool b)
  | int (i : Int) (t : Tok) : Rep fz (.int i t) (.int i)
  | str (s : Str) (t : Tok) : Rep fz (.str s t) (.str s)
  | list {a : Addr} {vs : List Value} {n : Nat} {ds : List D} : fz a = some (listO vs n) → Reps fz vs ds → Rep fz (.ref a) (.list ds)
  | tuple {a : Addr} {vs : List Value} {n : Nat} {ds : List D} : fz a = some (tupO vs n) → Reps fz vs ds → Rep fz (.ref a) (.tuple ds)
  | mat {a b : Addr} {s : Str} {t : Tok} {p q r u : Value} {n : Nat} {sp : List Int} : fz a = some { cls := .type "re.Match", data := .fields #[.str s t, p, q, r, u, .ref b] } →
      fz b = some (tupO (sp.map rawInt) n) → Rep fz (.ref a) (.mat s sp)
  | obj (a : Addr) : Rep fz (.ref a) (.obj a)
inductive Reps (fz : FZ) : List Value → List D → Prop
  | nil : Reps fz [] []
  | cons {v : Value} {d : D} {vs : List Value} {ds : List D} : Rep fz v d → Reps fz vs ds → Reps fz (v :: vs) (d :: ds)
end

theorem len1 {α : Type} {vs : List α} (h : vs.length = 1) : ∃ a, vs = [a] := by
  cases vs with
  | nil => cases h
  | cons a r => cases r with
    | nil => exact ⟨a, rfl⟩
    | cons _ _ => cases h
theorem len2 {α : Type} {vs : List α} (h : vs.length = 2) : ∃ a b, vs = [a, b] := by
  cases vs with
  | nil => cases h
  | cons a r => obtain ⟨b, rfl⟩ := len1 (Nat.succ.inj h); exact ⟨a, b, rfl⟩
/- the heap is past the tables -/
def Big (s : Shared) : Prop := 95 < s.heap.objs.size
/- what stands for a datum, read off -/
def Rep.Inv (fz : FZ) (v : Value) : D → Prop
  | .none => v = .none
  | .bool b => v = .bool b
  | .int i => ∃ t, v = .int i t
  | .str s => ∃ t, v = .str s t
  | .list ds => ∃ (a : Addr) (vs : List Value) (n : Nat), v = .ref a ∧ fz a = some (listO vs n) ∧ Reps fz vs ds
  | .tuple ds => ∃ (a : Addr) (vs : List Value) (n : Nat), v = .ref a ∧ fz a = some (tupO vs n) ∧ Reps fz vs ds
  | .mat s sp => ∃ (a b : Addr) (t : Tok) (p q r u : Value) (n : Nat), v = .ref a ∧ fz a = some { cls := .type "re.Match", data := .fields #[.str s t, p, q, r, u, .ref b] } ∧ fz b = some (tupO (sp.map rawInt) n)
  | .obj a => v = .ref a
theorem Rep.inv {fz : FZ} {v : Value} {d : D} (r : Rep fz v d) : Rep.Inv fz v d := by
  cases r with
  | none => exact rfl
  | bool b => exact rfl
  | int i t => exact ⟨t, rfl⟩
  | str s t => exact ⟨t, rfl⟩
  | list e rs => exact ⟨_, _, _, rfl, e, rs⟩
  | tuple e rs => exact ⟨_, _, _, rfl, e, rs⟩
  | mat e g => exact ⟨_, _, _, _, _, _, _, _, rfl, e, g⟩
  | obj a => exact rfl
def Reps.Inv (fz : FZ) (vs : List Value) : List D → Prop
  | [] => vs = []
  | d :: ds => ∃ (v : Value) (us : List Value), vs = v :: us ∧ Rep fz v d ∧ Reps fz us ds
theorem Reps.inv {fz : FZ} {vs : List Value} {ds : List D} (r : Reps fz vs ds) : Reps.Inv fz vs ds := by
  cases r with
  | nil => exact rfl
  | cons a b => exact ⟨_, _, rfl, a, b⟩

noncomputable abbrev FZ.le (fz fz' : FZ) : Prop := ∀ a o, fz a = some o → fz' a = some o

mutual
theorem Rep.mono {fz fz' : FZ} (hk : FZ.le fz fz') : ∀ {v : Value} {d : D}, Rep fz v d → Rep fz' v d
  | _, _, .none => .none
  | _, _, .bool b => .bool b
  | _, _, .int i t => .int i t
  | _, _, .str s t => .str s t
  | _, _, .list h r => .list (hk _ _ h) (Reps.mono hk r)
  | _, _, .tuple h r => .tuple (hk _ _ h) (Reps.mono hk r)
  | _, _, .mat h g => .mat (hk _ _ h) (hk _ _ g)
  | _, _, .obj a => .obj a
theorem Reps.mono {fz fz' : FZ} (hk : FZ.le fz fz') : ∀ {vs : List Value} {ds : List D}, Reps fz vs ds → Reps fz' vs ds
  | _, _, .nil => .nil
  | _, _, .cons a b => .cons (Rep.mono hk a) (Reps.mono hk b)
end

theorem Reps.length {fz : FZ} : ∀ {vs : List Value} {ds : List D}, Reps fz vs ds → vs.length = ds.length
  | _, _, .nil => rfl
  | _, _, .cons _ b => by simp [Reps.length b]
theorem Reps.get {fz : FZ} : ∀ {vs : List Value} {ds : List D}, Reps fz vs ds → ∀ (i : Nat) (d : D), ds[i]? = some d → ∃ v, vs[i]? = some v ∧ Rep fz v d
  | _, _, .nil, i, d, h => by simp at h
  | _, _, .cons a b, 0, d, h => by simp at h; subst h; exact ⟨_, rfl, a⟩
  | _, _, .cons a b, i + 1, d, h => by simp at h; simpa using Reps.get b i d h
theorem Reps.get' {fz : FZ} : ∀ {vs : List Value} {ds : List D}, Reps fz vs ds → ∀ (i : Nat) (v : Value), vs[i]? = some v → ∃ d, ds[i]? = some d ∧ Rep fz v d
  | _, _, .nil, i, d, h => by simp at h
  | _, _, .cons a b, 0, d, h => by simp at h; subst h; exact ⟨_, rfl, a⟩
  | _, _, .cons a b, i + 1, d, h => by simp at h; simpa using Reps.get' b i d h
theorem Reps.append {fz : FZ} : ∀ {vs us : List Value} {ds es : List D}, Reps fz vs ds → Reps fz us es → Reps fz (vs ++ us) (ds ++ es)
  | _, _, _, _, .nil, h => h
  | _, _, _, _, .cons a b, h => .cons a (Reps.append b h)
theorem Reps.drop {fz : FZ} : ∀ (n : Nat) {vs : List Value} {ds : List D}, Reps fz vs ds → Reps fz (vs.drop n) (ds.drop n)
  | 0, _, _, h => h
  | n + 1, _, _, .nil => by simpa using Reps.nil
  | n + 1, _, _, .cons _ b => by simpa using Reps.drop n b
theorem Reps.take {fz : FZ} : ∀ (n : Nat) {vs : List Value} {ds : List D}, Reps fz vs ds → Reps fz (vs.take n) (ds.take n)
  | 0, _, _, h => by simpa using Reps.nil
  | n + 1, _, _, .nil => by simpa using Reps.nil
  | n + 1, _, _, .cons a b => by simpa using Reps.cons a (Reps.take n b)

/- ## the invariant -/

/- the places (line, col) of the two lambdas, their code's table and their name -/
structure Lam where
  tab : Addr
  line : Nat
  col : Nat
  qual : Str

noncomputable def TabOK (fz : FZ) (h : Heap) (x : Lam) : Prop :=
  h.get? x.tab = some (tabObj #[]) ∨
  ∃ c oc vs t, h.get? x.tab = some (tabObj #[rawInt x.line, rawInt x.col, .ref c]) ∧ fz c = some oc ∧ oc.data = .fields vs ∧ vs[1]? = some (.str x.qual t)

noncomputable abbrev lamS : Lam := ⟨78, 37, 49, Str.ofString "split_header_words.<locals>.<lambda>"⟩
noncomputable abbrev lamJ : Lam := ⟨95, 68, 50, Str.ofString "join_header_words.<locals>.<lambda>"⟩

structure Inv (G : Heap) (fz : FZ) (s : Shared) : Prop where
  base : ∀ a o, G.get? a = some o → fz a = some o
  le : ∀ a o, fz a = some o → s.heap.get? a = some o
  t78 : TabOK fz s.heap lamS
  t95 : TabOK fz s.heap lamJ
  f78 : fz 78 = none
  f95 : fz 95 = none
  gens : AllBare s.gens

structure Next (fz : FZ) (s : Shared) (fz' : FZ) (s' : Shared) : Prop where
  mono : FZ.le fz fz'
  old : ∀ a, a < s.heap.objs.size → fz a = none → fz' a = none
  size : s.heap.objs.size ≤ s'.heap.objs.size
  keep : ∀ a o, a ≠ 78 → a ≠ 95 → s.heap.get? a = some o → s'.heap.get? a = some o
  gens : ∀ (g : Nat) (x : GenState), s.gens[g]? = some x → s'.gens[g]? = some x
  os : s'.os = s.os

theorem Next.refl (fz : FZ) (s : Shared) : Next fz s fz s := ⟨fun _ _ h => h, fun _ _ h => h, Nat.le_refl _, fun _ _ _ _ h => h, fun _ _ h => h, rfl⟩
theorem Next.trans {fz fz' fz'' : FZ} {s s' s'' : Shared} (x : Next fz s fz' s') (y : Next fz' s' fz'' s'') : Next fz s fz'' s'' :=
  ⟨fun a o h => y.mono a o (x.mono a o h), fun a h e => y.old a (Nat.lt_of_lt_of_le h x.size) (x.old a h e), Nat.le_trans x.size y.size,
   fun a o h1 h2 h => y.keep a o h1 h2 (x.keep a o h1 h2 h), fun g z h => y.gens g z (x.gens g z h), y.os.trans x.os⟩

variable {G : Heap}

theorem Inv.lt {fz : FZ} {s : Shared} (I : Inv G fz s) {a : Addr} {o : Obj} (h : fz a = some o) : a < s.heap.objs.size := Heap.lt_size (I.le a o h)
theorem Inv.fresh {fz : FZ} {s : Shared} (I : Inv G fz s) {a : Addr} (h : s.heap.objs.size ≤ a) : fz a = none := by
  cases e : fz a with
  | none => rfl
  | some o => exact absurd (I.lt e) (Nat.not_lt.mpr h)
theorem Inv.ge {fz : FZ} {s : Shared} (I : Inv G fz s) {a : Addr} {o : Obj} (h : G.get? a = some o) : s.heap.get? a = some o := I.le _ _ (I.base _ _ h)
theorem TabOK.get {fz : FZ} {h : Heap} {x : Lam} (t : TabOK fz h x) : ∃ o, h.get? x.tab = some o := by
  rcases t with e | ⟨_, _, _, _, e, _⟩ <;> exact ⟨_, e⟩
theorem Inv.lt78 {fz : FZ} {s : Shared} (I : Inv G fz s) : 78 < s.heap.objs.size := let ⟨_, h⟩ := I.t78.get; Heap.lt_size h
theorem Inv.lt95 {fz : FZ} {s : Shared} (I : Inv G fz s) : 95 < s.heap.objs.size := let ⟨_, h⟩ := I.t95.get; Heap.lt_size h
theorem TabOK.mono {fz fz' : FZ} {h h' : Heap} {x : Lam} (t : TabOK fz h x) (hm : FZ.le fz fz') (hk : h.get? x.tab = h'.get? x.tab) : TabOK fz' h' x := by
  rcases t with e | ⟨c, oc, vs, tq, e, hc, r⟩
  · exact .inl (hk ▸ e)
  · exact .inr ⟨c, oc, vs, tq, hk ▸ e, hm _ _ hc, r⟩

/- nothing but the number of tokens -/
theorem Next.toks {fz : FZ} {s : Shared} (t : Nat) : Next fz s fz { s with toks := t } := ⟨fun _ _ h => h, fun _ _ h => h, Nat.le_refl _, fun _ _ _ _ h => h, fun _ _ h => h, rfl⟩
theorem Inv.toks {fz : FZ} {s : Shared} (I : Inv G fz s) (t : Nat) : Inv G fz { s with toks := t } := ⟨I.base, I.le, I.t78, I.t95, I.f78, I.f95, I.gens⟩

/- a heap that grew by an object -/
theorem Inv.push {fz : FZ} {s : Shared} (I : Inv G fz s) (o : Obj) (t : Nat) : Inv G fz { s with heap := s.heap.push o, toks := t } :=
  ⟨I.base, fun a o' h => Heap.get?_push_of_some _ (I.le a o' h),
   I.t78.mono (fun _ _ h => h) (let ⟨o', h⟩ := I.t78.get; by show s.heap.get? _ = (s.heap.push o).get? _; rw [h, Heap.get?_push_of_some _ h]),
   I.t95.mono (fun _ _ h => h) (let ⟨o', h⟩ := I.t95.get; by show s.heap.get? _ = (s.heap.push o).get? _; rw [h, Heap.get?_push_of_some _ h]), I.f78, I.f95, I.gens⟩
theorem Next.push {fz : FZ} {s : Shared} (o : Obj) (t : Nat) : Next fz s fz { s with heap := s.heap.push o, toks := t } :=
  ⟨fun _ _ h => h, fun _ _ h => h, by show _ ≤ (s.heap.push o).objs.size; rw [Heap.size_push]; (first | lia | omega), fun a o' _ _ h => Heap.get?_push_of_some _ h, fun _ _ h => h, rfl⟩

/- an object that stands still from here on -/
noncomputable def FZ.put (fz : FZ) (a : Addr) (o : Obj) : FZ := fun b => if b = a then some o else fz b
theorem FZ.put_self (fz : FZ) (a : Addr) (o : Obj) : fz.put a o a = some o := by unfold FZ.put; rw [if_pos rfl]
theorem FZ.put_ne (fz : FZ) {a b : Addr} (o : Obj) (h : b ≠ a) : fz.put a o b = fz b := by unfold FZ.put; rw [if_neg h]
theorem FZ.put_le {fz : FZ} {a : Addr} {o : Obj} (h : fz a = none) : FZ.le fz (fz.put a o) := fun b o' e => by
  unfold FZ.put
  split
  · rename_i q; subst q; rw [h] at e; cases e
  · exact e
theorem Inv.freeze {fz : FZ} {s : Shared} (I : Inv G fz s) {a : Addr} {o : Obj} (h : s.heap.get? a = some o) (hn : fz a = none) (h1 : a ≠ 78) (h2 : a ≠ 95) : Inv G (fz.put a o) s :=
  ⟨fun b o' e => FZ.put_le hn _ _ (I.base b o' e), fun b o' e => by
    unfold FZ.put at e
    split at e
    · rename_i q; subst q; cases e; exact h
    · exact I.le _ _ e,
   I.t78.mono (FZ.put_le hn) rfl, I.t95.mono (FZ.put_le hn) rfl, by rw [FZ.put_ne _ _ (Ne.symm h1)]; exact I.f78, by rw [FZ.put_ne _ _ (Ne.symm h2)]; exact I.f95, I.gens⟩
theorem Next.freeze {fz₀ fz : FZ} {s₀ s : Shared} (N : Next fz₀ s₀ fz s) {a : Addr} {o : Obj} (hn : fz a = none) (ha : s₀.heap.objs.size ≤ a) : Next fz₀ s₀ (fz.put a o) s :=
  ⟨fun b o' e => FZ.put_le hn _ _ (N.mono b o' e), fun b hb e => by rw [FZ.put_ne _ _ (fun q => by subst q; exact absurd hb (Nat.not_lt.mpr ha))]; exact N.old b hb e, N.size, N.keep, N.gens, N.os⟩

/- a new object that stands still at once -/
theorem new_fz {fz : FZ} {s : Shared} (I : Inv G fz s) (o : Obj) (t : Nat) (hf : o.isFreed = false) :
    Next fz s (fz.put s.heap.objs.size o) { s with heap := s.heap.push o, toks := t } ∧ Inv G (fz.put s.heap.objs.size o) { s with heap := s.heap.push o, toks := t } ∧
    (fz.put s.heap.objs.size o) s.heap.objs.size = some o := by
  have hn : fz s.heap.objs.size = none := I.fresh (Nat.le_refl _)
  refine ⟨(Next.push o t).freeze hn (Nat.le_refl _), (I.push o t).freeze (Heap.get?_push_size _ hf) hn ?_ ?_, FZ.put_self _ _ _⟩
  · exact Nat.ne_of_gt I.lt78
  · exact Nat.ne_of_gt I.lt95
end Mine
end A1

section A2
open PySem PySem.W PySem.Spec PySem.Calls PyProof.Rows
namespace Mine

noncomputable abbrev prog : Program := PySem.Challenge.rw_wn0086_01.row.prog

structure TopS (mg mb : Str → Option Value) (G : Heap) : Prop where
  g : G.Ns mainGlobals mg
  b : G.Ns builtinsNs mb
  nolimit : G.NoLimit
  builtins : ∀ x : Str, x ≠ "__name__" → mb x = bootBuiltins x
  bmain : ∃ bm ob, mg "__builtins__" = some (.ref bm) ∧ bm ≠ builtinsNs ∧ G.get? bm = some ob ∧ ob.cls = .type "module" ∧ ob.dict = some builtinsNs ∧ ob.data = .plain
structure Stat (w : World) (G : Heap) : Prop where
  k : (hd.heap_39 w.params).In G
  top : ∃ mg mb, TopS mg mb G
  c82 : CodeHd G 82 78
  c99 : CodeHd G 99 95

structure Room (A : Around) (k : Nat) : Prop where
  handled : A.handled = none
  depth : A.depth + k ≤ 900
  units : A.units + 10 * k ≤ 9000

theorem Room.le {A : Around} {k j : Nat} (R : Room A k) (h : j ≤ k) : Room A j := ⟨R.handled, by have := R.depth; (first | lia | omega), by have := R.units; (first | lia | omega)⟩
theorem Room.deeper {A : Around} {k : Nat} {env : Env} (R : Room A (k + 1)) : Room (A.deeper env) k :=
  ⟨R.handled, by have := R.depth; show A.depth + 1 + k ≤ 900; (first | lia | omega), by have := R.units; show A.units + 3 + 10 * k ≤ 9000; (first | lia | omega)⟩
theorem Room.in1 {A : Around} {k : Nat} (R : Room A (k + 1)) : Room A.in1 k :=
  ⟨R.handled, by have := R.depth; show A.depth + k ≤ 900; (first | lia | omega), by have := R.units; show A.units + 1 + 10 * k ≤ 9000; (first | lia | omega)⟩
theorem Room.mark {A : Around} {k : Nat} (R : Room A k) : Room (A.mark none) k := ⟨by show (none : Option Value).or A.handled = none; rw [R.handled]; rfl, R.depth, R.units⟩
theorem Room.dlt {A : Around} {k : Nat} (R : Room A k) : A.depth < recursionLimit := by have := R.depth; show _ < 1000; (first | lia | omega)
theorem Room.ult {A : Around} {k : Nat} (R : Room A k) : A.units < cLine := by have := R.units; show _ < 9900; (first | lia | omega)

set_option genInjectivity false in
set_option genSizeOf false in
structure Cx where
  w : World
  G : Heap
  A : Around
  env : Env
  fz₀ : FZ
  s₀ : Shared
  k : Nat
  st : Stat w G
  room : Room A k
  kind : env.scope.kind = .function
  glob : env.globals = mainGlobals
  bi : env.builtins = builtinsNs
  big : Big s₀
  kA : FZ := fun _ => none
  kG : Array GenState := #[]
  kN : Addr → Prop := fun _ => False

noncomputable abbrev Cx.M (c : Cx) : Model := model prog c.w

/- the name x is bound to v -/
noncomputable def Bound (env : Env) (h : Heap) (m : Str → Option Value) (x : Str) (v : Value) : Prop :=
  (env.kindOf x = some .local ∧ m x = some v) ∨
  (∃ q, (env.kindOf x = some .cell ∨ env.kindOf x = some .free) ∧ env.cells.lookup x = some q ∧ h.IsCell q (some v))

/- an object that the def alone holds: a list that grows, or something as it is -/
structure OPred where
  P : Heap → Addr → Prop
  stab : ∀ h h' a, (∀ o, h.get? a = some o → h'.get? a = some o) → P h a → P h' a
  get : ∀ h a, P h a → ∃ o, h.get? a = some o ∧ (∀ es n, o.data ≠ .dict es n) ∧ ∀ v, o.data ≠ .cell (some v)
inductive OwV where
  | list (ds : List D)
  | pr (p : OPred)
structure Ow where
  name : Option Str
  addr : Addr
  val : OwV

noncomputable def OwV.Holds (fz : FZ) (h : Heap) (a : Addr) : OwV → Prop
  | .list ds => ∃ vs n, h.get? a = some (listO vs n) ∧ Reps fz vs ds
  | .pr p => p.P h a

/- what the frame's work leaves as it is, by the reader's word: objects, generators; what never stands still -/
structure Kept (c : Cx) (ow : List Ow) (fz : FZ) (s : Shared) : Prop where
  obj : ∀ b o, c.kA b = some o → s.heap.get? b = some o ∧ b ≠ 78 ∧ b ≠ 95 ∧ b ≠ c.env.locals
  own : ∀ b o, c.kA b = some o → ∀ q ∈ ow, q.addr ≠ b
  gens : ∀ (g : Nat) (x : GenState), c.kG[g]? = some x → s.gens[g]? = some x
  loose : ∀ b, c.kN b → fz b = none ∧ (∀ q ∈ ow, q.addr ≠ b) ∧ ∃ b' o, b ≤ b' ∧ fz b' = some o

structure Frm (c : Cx) (ρ : List (Str × D)) (own : List Ow) (fz : FZ) (s : Shared) : Prop where
  nx : Next c.fz₀ c.s₀ fz s
  I : Inv c.G fz s
  ns : ∃ m, s.heap.Ns c.env.locals m ∧ (∀ x d, ρ.lookup x = some d → ∃ v, Bound c.env s.heap m x v ∧ Rep fz v d) ∧ (∀ q ∈ own, ∀ x, q.name = some x → c.env.kindOf x = some .local ∧ m x = some (.ref q.addr))
  lo : c.s₀.heap.objs.size ≤ c.env.locals ∧ fz c.env.locals = none
  ow : ∀ q ∈ own, c.s₀.heap.objs.size ≤ q.addr ∧ fz q.addr = none ∧ q.val.Holds fz s.heap q.addr
  nodup : (own.map (·.addr)).Nodup
  tk : 1 ≤ s.toks
  kp : Kept c own fz s

/- what an expression gives back -/
noncomputable def EV (c : Cx) (ρ : List (Str × D)) (own : List Ow) (e : PySem.Expr) (d : D) : Prop :=
  ∀ fz s, Frm c ρ own fz s → ∀ (Q : Value → Shared → Prop) (E : Value → Shared → Prop),
    (∀ v fz' s', Next fz s fz' s' → Frm c ρ own fz' s' → Rep fz' v d → Q v s') → wpAny c.M c.A (eval e c.env) Q E s

section
variable {c : Cx} {ρ : List (Str × D)} {own : List Ow} {fz fz' : FZ} {s s' : Shared}

theorem Kept.nx (K : Kept c own fz s) (I : Inv c.G fz s) (N : Next fz s fz' s') : Kept c own fz' s' :=
  ⟨fun b o e => let ⟨h, h1, h2, h3⟩ := K.obj b o e; ⟨N.keep _ _ h1 h2 h, h1, h2, h3⟩, K.own, fun g x e => N.gens _ _ (K.gens g x e),
   fun b h => let ⟨h1, h2, b', o, h3, h4⟩ := K.loose b h; ⟨N.old _ (Nat.lt_of_le_of_lt h3 (I.lt h4)) h1, h2, b', o, h3, N.mono _ _ h4⟩⟩
theorem Kept.but {x : Addr} {h' : Heap} {tk : Nat} (K : Kept c own fz s) (hs : Heap.ExtBut x s.heap h') (hx : ∀ b o, c.kA b = some o → b ≠ x) : Kept c own fz { s with heap := h', toks := tk } :=
  ⟨fun b o e => let ⟨h, r⟩ := K.obj b o e; ⟨hs b o (hx b o e) h, r⟩, K.own, K.gens, K.loose⟩
theorem Kept.sub {own' : List Ow} (K : Kept c own fz s) (h : ∀ q ∈ own', ∃ p ∈ own, p.addr = q.addr) : Kept c own' fz s :=
  ⟨K.obj, fun b o e q hq => by obtain ⟨p, hp, ea⟩ := h q hq; rw [← ea]; exact K.own b o e p hp, K.gens,
   fun b hb => let ⟨h1, h2, r⟩ := K.loose b hb; ⟨h1, fun q hq => by obtain ⟨p, hp, ea⟩ := h q hq; rw [← ea]; exact h2 p hp, r⟩⟩
theorem Kept.cons {q : Ow} (K : Kept c own fz s) (h : ∀ b o, c.kA b = some o → q.addr ≠ b) (h' : ∀ b, c.kN b → q.addr ≠ b) : Kept c (q :: own) fz s :=
  ⟨K.obj, fun b o e p hp => by rcases List.mem_cons.mp hp with rfl | hp; exact h b o e; exact K.own b o e p hp, K.gens,
   fun b hb => let ⟨h1, h2, r⟩ := K.loose b hb; ⟨h1, fun p hp => by rcases List.mem_cons.mp hp with rfl | hp; exact h' b hb; exact h2 p hp, r⟩⟩
theorem Kept.freeze {a : Addr} {o : Obj} (K : Kept c own fz s) (hf : fz a = none) (h : ∀ b, c.kN b → a ≠ b) : Kept c own (fz.put a o) s :=
  ⟨K.obj, K.own, K.gens, fun b hb => let ⟨h1, h2, b', o', h3, h4⟩ := K.loose b hb; ⟨by rw [FZ.put_ne _ _ (Ne.symm (h b hb))]; exact h1, h2, b', o', h3, FZ.put_le hf _ _ h4⟩⟩
theorem Kept.lt (K : Kept c own fz s) {b : Addr} {o : Obj} (e : c.kA b = some o) : b < s.heap.objs.size := Heap.lt_size (K.obj b o e).1
theorem Kept.ltN (K : Kept c own fz s) (I : Inv c.G fz s) {b : Addr} (e : c.kN b) : b < s.heap.objs.size := let ⟨_, _, _, _, h3, h4⟩ := K.loose b e; Nat.lt_of_le_of_lt h3 (I.lt h4)
theorem Kept.none (h : c.kA = fun _ => .none) (h2 : c.kG = #[]) (h3 : c.kN = fun _ => False) : Kept c own fz s :=
  ⟨fun b o e => by (rw [h] at e; cases e), fun b o e => by (rw [h] at e; cases e), fun g x e => by (rw [h2] at e; simp at e), fun b e => by (rw [h3] at e; exact e.elim)⟩

theorem IsCell_keep {h h' : Heap} {q : Addr} {v : Option Value} (x : h.IsCell q v) (hk : ∀ a o, a ≠ 78 → a ≠ 95 → h.get? a = some o → h'.get? a = some o)
    (t1 : TabOK fz h lamS) (t2 : TabOK fz h lamJ) : h'.IsCell q v := by
  obtain ⟨o, ho, hd⟩ := x
  refine ⟨o, hk _ _ ?_ ?_ ho, hd⟩
  · rintro rfl
    rcases t1 with e | ⟨_, _, _, _, e, _⟩ <;> (rw [show (78 : Addr) = lamS.tab from rfl, e] at ho; cases ho; cases hd)
  · rintro rfl
    rcases t2 with e | ⟨_, _, _, _, e, _⟩ <;> (rw [show (95 : Addr) = lamJ.tab from rfl, e] at ho; cases ho; cases hd)

theorem Frm.ne78 (_ : Frm c ρ own fz s) {a : Addr} (h : c.s₀.heap.objs.size ≤ a) : a ≠ 78 := Nat.ne_of_gt (Nat.lt_of_lt_of_le (Nat.lt_trans (by decide) c.big) h)
theorem Frm.ne95 (_ : Frm c ρ own fz s) {a : Addr} (h : c.s₀.heap.objs.size ≤ a) : a ≠ 95 := Nat.ne_of_gt (Nat.lt_of_lt_of_le c.big h)

theorem Ns_keep {h h' : Heap} {L : Addr} {m : Str → Option Value} (x : h.Ns L m) (h1 : L ≠ 78) (h2 : L ≠ 95) (hk : ∀ a o, a ≠ 78 → a ≠ 95 → h.get? a = some o → h'.get? a = some o) : h'.Ns L m :=
  let ⟨o, es, ep, e, r⟩ := x; ⟨o, es, ep, hk _ _ h1 h2 e, r⟩

theorem OwV.Holds.get {fz : FZ} {h : Heap} {a : Addr} {v : OwV} (x : v.Holds fz h a) : ∃ o, h.get? a = some o ∧ (∀ es n, o.data ≠ .dict es n) ∧ ∀ v, o.data ≠ .cell (some v) := by
  cases v with
  | list ds => obtain ⟨vs, n, e, _⟩ := x; exact ⟨_, e, (by intro es n h; cases h), (by intro v h; cases h)⟩
  | pr p => exact p.get _ _ x
theorem OwV.Holds.keep {fz fz' : FZ} {h h' : Heap} {a : Addr} {v : OwV} (x : v.Holds fz h a) (hm : FZ.le fz fz') (hk : ∀ o, h.get? a = some o → h'.get? a = some o) : v.Holds fz' h' a := by
  cases v with
  | list ds => obtain ⟨vs, n, e, r⟩ := x; exact ⟨vs, n, hk _ e, r.mono hm⟩
  | pr p => exact p.stab _ _ _ hk x
theorem Frm.next (F : Frm c ρ own fz s) (N : Next fz s fz' s') (I' : Inv c.G fz' s') (tk : 1 ≤ s'.toks) : Frm c ρ own fz' s' := by
  have h1 := F.ne78 F.lo.1
  have h2 := F.ne95 F.lo.1
  obtain ⟨m, hn, hr, ho⟩ := F.ns
  refine ⟨F.nx.trans N, I', ⟨m, Ns_keep hn h1 h2 N.keep, fun x d e => ?_, ho⟩, ⟨F.lo.1, N.old _ hn.lt F.lo.2⟩, fun q hq => ?_, F.nodup, tk, F.kp.nx F.I N⟩
  · obtain ⟨v, hb, r⟩ := hr x d e
    refine ⟨v, ?_, r.mono N.mono⟩
    rcases hb with hb | ⟨q, hk, hc, hv⟩
    · exact .inl hb
    · exact .inr ⟨q, hk, hc, IsCell_keep hv N.keep F.I.t78 F.I.t95⟩
  · obtain ⟨ha, hf, hv⟩ := F.ow q hq
    obtain ⟨o, hg, _⟩ := hv.get
    exact ⟨ha, N.old _ (Heap.lt_size hg) hf, hv.keep N.mono fun o e => N.keep _ _ (F.ne78 ha) (F.ne95 ha) e⟩

theorem EV.mk {e : PySem.Expr} {d : D} (h : ∀ fz s, Frm c ρ own fz s → ∀ (Q : Value → Shared → Prop) (E : Value → Shared → Prop),
    (∀ v fz' s', Next fz s fz' s' → Inv c.G fz' s' → Rep fz' v d → Q v s') → wpAny c.M c.A (eval e c.env) Q E s) : EV c ρ own e d :=
  fun fz s F Q E hQ => wpAny_mono (wpAny_with_toks (Q := fun v s' => Q v s') F.tk (h fz s F (fun v s' => 1 ≤ s'.toks → Q v s') (fun e s' => 1 ≤ s'.toks → E e s') fun v fz' s' N I r tk => hQ v fz' s' N (F.next N I tk) r)) (fun _ _ x => x) fun _ _ x => x

theorem EV.const {e : PySem.Expr} {d : D} (h : ∀ s (Q : Value → Shared → Prop) (E : Value → Shared → Prop), (∀ v t, (∀ fz, Rep fz v d) → Q v { s with toks := t }) → wpAny c.M c.A (eval e c.env) Q E s) :
    EV c ρ own e d := EV.mk fun fz s F Q E hQ => h s Q E fun v t r => hQ v fz _ (Next.toks t) (F.I.toks t) (r fz)

theorem ev_int {i : Int} {k pos} : EV c ρ own (.Constant (.int i) k pos) (.int i) :=
  EV.const fun s Q E hQ => wpAny_Constant_int (hQ _ _ fun _ => .int i _)
theorem ev_str {x : Str} {k pos} : EV c ρ own (.Constant (.str x) k pos) (.str x) :=
  EV.const fun s Q E hQ => Calls.Constant_str (hQ _ _ fun _ => .str x _)
theorem ev_none {k pos} : EV c ρ own (.Constant .none k pos) .none :=
  EV.const fun s Q E hQ => by
    show wpAny _ _ (pure Value.none) _ _ _
    exact wpAny_pure (hQ _ s.toks fun _ => .none)
theorem ev_bool {b : Bool} {k pos} : EV c ρ own (.Constant (.bool b) k pos) (.bool b) :=
  EV.const fun s Q E hQ => by
    show wpAny _ _ (pure (Value.bool b)) _ _ _
    exact wpAny_pure (hQ _ s.toks fun _ => .bool b)

theorem load_bound {x : Str} {m : Str → Option Value} {v : Value} {Q : Value → Shared → Prop} {E : Value → Shared → Prop} (hn : s.heap.Ns c.env.locals m) (hb : Bound c.env s.heap m x v) (h : Q v s)
    (hc : (x == ("__classdict__" : Str)) = false) : wpAny c.M c.A (loadName c.env x) Q E s := by
  rcases hb with ⟨hk, hv⟩ | ⟨q, hk | hk, hl, hv⟩
  · exact wpAny_loadName_local c.kind hk hn hv h
  · exact wpAny_loadName_cell c.kind hk hl hv h
  · exact wpAny_loadName_free c.kind hk hl hv h hc

theorem ev_name {x : Str} {pos} {d : D} (hx : ρ.lookup x = some d) (hd : (x == ("__debug__" : Str)) = false) (hc : (x == ("__classdict__" : Str)) = false) : EV c ρ own (.Name x pos) d :=
  fun fz s F Q E hQ => by
    obtain ⟨m, hn, hr, _⟩ := F.ns
    obtain ⟨v, hb, r⟩ := hr x d hx
    exact wpAny_Name (load_bound hn hb (hQ v fz s (Next.refl _ _) F r) hc) hd

theorem stat_name {w : World} {G : Heap} (S : Stat w G) {x : Str} {v : Value} (e : nsIn (hd.heap_39 w.params) mainGlobals x = some (some v)) : ∃ mg, G.Ns mainGlobals mg ∧ mg x = some v := by
  obtain ⟨mg, _, T⟩ := S.top
  exact ⟨mg, T.g, mg_of S.k T.g e⟩
theorem ev_global {x : Str} {pos} {a : Addr} (hx : c.env.kindOf x = some .globalImplicit) (e : nsIn (hd.heap_39 c.w.params) mainGlobals x = some (some (.ref a))) (hd : (x == ("__debug__" : Str)) = false) :
    EV c ρ own (.Name x pos) (.obj a) := fun fz s F Q E hQ => by
  obtain ⟨mg, hg, hv⟩ := stat_name c.st e
  exact Calls.Name_function_global c.kind hx (Calls.loadGlobal_global (by rw [c.glob]; exact hg.keeps fun a o h => F.I.ge h) hv (hQ _ fz s (Next.refl _ _) F (.obj a))) hd
theorem name_builtin {x : Str} {pos} {v : Value} {Q : Value → Shared → Prop} {E : Value → Shared → Prop} (F : Frm c ρ own fz s) (h : Q v s) (hx : c.env.kindOf x = some .globalImplicit) (e : nsIn (hd.heap_39 c.w.params) mainGlobals x = some none)
    (hv : bootBuiltins x = some v) (hn : x ≠ "__name__") (hd : (x == ("__debug__" : Str)) = false) : wpAny c.M c.A (eval (.Name x pos) c.env) Q E s := by
  obtain ⟨mg, mb, T⟩ := c.st.top
  exact Calls.Name_function_global c.kind hx (Calls.loadGlobal_builtin (by rw [c.glob]; exact T.g.keeps fun a o h => F.I.ge h) (mg_none_of c.st.k T.g e) (by rw [c.bi]; exact T.b.keeps fun a o h => F.I.ge h) ((T.builtins x hn).trans hv) h) hd
end
end Mine
end A2

section A3
open PySem PySem.W PySem.Spec PySem.Calls PyProof.Rows
namespace Mine

noncomputable def OP1 (c : Cx) (t : Value → Sem Value) (d₁ d : D) : Prop := ∀ fz s v₁, Inv c.G fz s → 1 ≤ s.toks → Rep fz v₁ d₁ → ∀ (Q E : Value → Shared → Prop),
  (∀ v fz' s', Next fz s fz' s' → Inv c.G fz' s' → Rep fz' v d → Q v s') → wpAny c.M c.A (t v₁) Q E s
noncomputable def OP2 (c : Cx) (t : Value → Value → Sem Value) (d₁ d₂ d : D) : Prop := ∀ fz s v₁ v₂, Inv c.G fz s → 1 ≤ s.toks → Rep fz v₁ d₁ → Rep fz v₂ d₂ → ∀ (Q E : Value → Shared → Prop),
  (∀ v fz' s', Next fz s fz' s' → Inv c.G fz' s' → Rep fz' v d → Q v s') → wpAny c.M c.A (t v₁ v₂) Q E s
noncomputable def OPs (c : Cx) (t : List Value → Sem Value) (ds : List D) (d : D) : Prop := ∀ fz s vs, Inv c.G fz s → 1 ≤ s.toks → Reps fz vs ds → ∀ (Q E : Value → Shared → Prop),
  (∀ v fz' s', Next fz s fz' s' → Inv c.G fz' s' → Rep fz' v d → Q v s') → wpAny c.M c.A (t vs) Q E s

section
variable {c : Cx} {ρ : List (Str × D)} {own : List Ow} {fz fz' : FZ} {s s' : Shared} {Q : Value → Shared → Prop} {d : D}

/- ends of a step: no new object; one new object -/
theorem fin0 {v : Value} (I : Inv c.G fz s) (hQ : ∀ v fz' s', Next fz s fz' s' → Inv c.G fz' s' → Rep fz' v d → Q v s') (r : Rep fz v d) (t : Nat) : Q v { s with toks := t } :=
  hQ v fz _ (Next.toks t) (I.toks t) r
theorem fin0' {v : Value} (I : Inv c.G fz s) (hQ : ∀ v fz' s', Next fz s fz' s' → Inv c.G fz' s' → Rep fz' v d → Q v s') (r : Rep fz v d) : Q v s :=
  hQ v fz _ (Next.refl _ _) I r
theorem finN {o : Obj} (I : Inv c.G fz s) (hQ : ∀ v fz' s', Next fz s fz' s' → Inv c.G fz' s' → Rep fz' v d → Q v s')
    (r : ∀ fz' : FZ, FZ.le fz fz' → fz' s.heap.objs.size = some o → Rep fz' (.ref s.heap.objs.size) d) (t : Nat) (hf : o.isFreed = false) : Q (.ref s.heap.objs.size) { s with heap := s.heap.push o, toks := t } := by
  obtain ⟨N, I', e⟩ := new_fz I o t hf
  exact hQ _ _ _ N I' (r _ N.mono e)

theorem ev_bin {op : Operator} {l r : PySem.Expr} {pos} {d₁ d₂ : D} (hl : EV c ρ own l d₁) (hr : EV c ρ own r d₂) (h : OP2 c (binaryOp op) d₁ d₂ d) : EV c ρ own (.BinOp l op r pos) d :=
  EV.mk fun fz s F Q E hQ => wpAny_BinOp (hl fz s F _ _ fun v₁ fz₁ s₁ N₁ F₁ r₁ => hr fz₁ s₁ F₁ _ _ fun v₂ fz₂ s₂ N₂ F₂ r₂ =>
    h fz₂ s₂ v₁ v₂ F₂.I F₂.tk (r₁.mono N₂.mono) r₂ Q E fun v fz' s' N I r => hQ v fz' s' ((N₁.trans N₂).trans N) I r)
theorem ev_cmp {op : CmpOp} {l r : PySem.Expr} {pos} {d₁ d₂ : D} (hl : EV c ρ own l d₁) (hr : EV c ρ own r d₂) (h : OP2 c (compareOp op) d₁ d₂ d) (hm : behindInMarks op r = false) :
    EV c ρ own (.Compare l [op] [r] pos) d :=
  EV.mk fun fz s F Q E hQ => wpAny_Compare1 (hl fz s F _ _ fun v₁ fz₁ s₁ N₁ F₁ r₁ => hr fz₁ s₁ F₁ _ _ fun v₂ fz₂ s₂ N₂ F₂ r₂ =>
    h fz₂ s₂ v₁ v₂ F₂.I F₂.tk (r₁.mono N₂.mono) r₂ Q E fun v fz' s' N I r => hQ v fz' s' ((N₁.trans N₂).trans N) I r) hm
theorem ev_un {op : UnaryOp} {e : PySem.Expr} {pos} {d₁ : D} (he : EV c ρ own e d₁) (h : OP1 c (unaryOp op) d₁ d) : EV c ρ own (.UnaryOp op e pos) d :=
  EV.mk fun fz s F Q E hQ => by
    show wpAny _ _ (do let v ← eval e c.env; standAt pos; holding [v] (unaryOp op v)) _ _ _
    exact wpAny_bind (he fz s F _ _ fun v₁ fz₁ s₁ N₁ F₁ r₁ => wpAny_bind (wpAny_standAt (wpAny_holding (h fz₁ s₁ v₁ F₁.I F₁.tk r₁ Q E fun v fz' s' N I r => hQ v fz' s' (N₁.trans N) I r))))

/- ints -/
theorem op_add {a b : Int} : OP2 c (binaryOp .Add) (.int a) (.int b) (.int (a + b)) := fun fz s v₁ v₂ I tk r₁ r₂ Q E hQ => by
  obtain ⟨_, rfl⟩ := r₁.inv; obtain ⟨_, rfl⟩ := r₂.inv; exact wpAny_add_int (fin0 I hQ (.int _ _) _)
theorem op_sub {a b : Int} : OP2 c (binaryOp .Sub) (.int a) (.int b) (.int (a - b)) := fun fz s v₁ v₂ I tk r₁ r₂ Q E hQ => by
  obtain ⟨_, rfl⟩ := r₁.inv; obtain ⟨_, rfl⟩ := r₂.inv; exact P.sub_int (fin0 I hQ (.int _ _) _)
theorem op_mod {a b : Int} (hb : b ≠ 0) : OP2 c (binaryOp .Mod) (.int a) (.int b) (.int (a.fmod b)) := fun fz s v₁ v₂ I tk r₁ r₂ Q E hQ => by
  obtain ⟨_, rfl⟩ := r₁.inv; obtain ⟨_, rfl⟩ := r₂.inv; exact mod_int' hb (fin0 I hQ (.int _ _) _)
theorem op_pow2 {n : Int} (h0 : 0 ≤ n) (h1 : n ≤ 1000000) : OP2 c (binaryOp .Pow) (.int 2) (.int n) (.int (2 ^ n.toNat)) := fun fz s v₁ v₂ I tk r₁ r₂ Q E hQ => by
  obtain ⟨_, rfl⟩ := r₁.inv; obtain ⟨_, rfl⟩ := r₂.inv; exact pow_int_small h0 h1 (by decide) (fin0 I hQ (.int _ _) _)
theorem op_neg {a : Int} : OP1 c (unaryOp .USub) (.int a) (.int (-a)) := fun fz s v₁ I tk r₁ Q E hQ => by
  obtain ⟨_, rfl⟩ := r₁.inv; exact P.neg_int (fin0 I hQ (.int _ _) _)
theorem op_lt {a b : Int} : OP2 c (compareOp .Lt) (.int a) (.int b) (.bool (decide (a < b))) := fun fz s v₁ v₂ I tk r₁ r₂ Q E hQ => by
  obtain ⟨_, rfl⟩ := r₁.inv; obtain ⟨_, rfl⟩ := r₂.inv; exact wpAny_lt_int (fin0' I hQ (.bool _))
theorem op_eqi {a b : Int} : OP2 c (compareOp .Eq) (.int a) (.int b) (.bool (a == b)) := fun fz s v₁ v₂ I tk r₁ r₂ Q E hQ => by
  obtain ⟨_, rfl⟩ := r₁.inv; obtain ⟨_, rfl⟩ := r₂.inv; exact wpAny_eq_int (fin0' I hQ (.bool _))
/- strs -/
theorem op_cat {x y : Str} (h : x.length + y.length ≤ sizeLine) : OP2 c (binaryOp .Add) (.str x) (.str y) (.str (x ++ y)) := fun fz s v₁ v₂ I tk r₁ r₂ Q E hQ => by
  obtain ⟨_, rfl⟩ := r₁.inv; obtain ⟨_, rfl⟩ := r₂.inv; exact SB.add (fun t' k => fin0 I hQ (.str _ _) _) h
theorem op_mul {x : Str} {n : Int} (h : MulOk x n) : OP2 c (binaryOp .Mult) (.str x) (.int n) (.str (Txt.mul x n)) := fun fz s v₁ v₂ I tk r₁ r₂ Q E hQ => by
  obtain ⟨_, rfl⟩ := r₁.inv; obtain ⟨_, rfl⟩ := r₂.inv; exact SB.mul h (fun t' k => fin0 I hQ (.str _ _) _)
theorem op_eqs {x y : Str} : OP2 c (compareOp .Eq) (.str x) (.str y) (.bool (x.cps.toList == y.cps.toList)) := fun fz s v₁ v₂ I tk r₁ r₂ Q E hQ => by
  obtain ⟨_, rfl⟩ := r₁.inv; obtain ⟨_, rfl⟩ := r₂.inv; exact P.eq_str (fin0' I hQ (.bool _))
theorem op_nes {x y : Str} : OP2 c (compareOp .NotEq) (.str x) (.str y) (.bool (x.cps.toList != y.cps.toList)) := fun fz s v₁ v₂ I tk r₁ r₂ Q E hQ => by
  obtain ⟨_, rfl⟩ := r₁.inv; obtain ⟨_, rfl⟩ := r₂.inv; exact P.ne_str (fin0' I hQ (.bool _))
theorem op_notin {x y : Str} : OP2 c (compareOp .NotIn) (.str y) (.str x) (.bool (!Txt.contains x y)) := fun fz s v₁ v₂ I tk r₁ r₂ Q E hQ => by
  obtain ⟨_, rfl⟩ := r₁.inv; obtain ⟨_, rfl⟩ := r₂.inv; exact SB.notContains (fin0' I hQ (.bool _))
/- is None -/
theorem op_isnot_none_str {x : Str} : OP2 c (compareOp .IsNot) (.str x) .none (.bool true) := fun fz s v₁ v₂ I tk r₁ r₂ Q E hQ => by
  obtain ⟨_, rfl⟩ := r₁.inv; obtain rfl := r₂.inv; exact wpAny_isNot_other rfl (by intro h; cases h) (fin0' I hQ (.bool _))
theorem op_isnot_none_none : OP2 c (compareOp .IsNot) .none .none (.bool false) := fun fz s v₁ v₂ I tk r₁ r₂ Q E hQ => by
  obtain rfl := r₁.inv; obtain rfl := r₂.inv; exact wpAny_isNot_self rfl (fin0' I hQ (.bool _))
theorem op_is_none_none : OP2 c (compareOp .Is) .none .none (.bool true) := fun fz s v₁ v₂ I tk r₁ r₂ Q E hQ => by
  obtain rfl := r₁.inv; obtain rfl := r₂.inv; exact wpAny_is_self rfl (fin0' I hQ (.bool _))
theorem op_is_none_str {x : Str} : OP2 c (compareOp .Is) (.str x) .none (.bool false) := fun fz s v₁ v₂ I tk r₁ r₂ Q E hQ => by
  obtain ⟨_, rfl⟩ := r₁.inv; obtain rfl := r₂.inv; exact wpAny_is_other rfl (by intro h; cases h) (fin0' I hQ (.bool _))
theorem op_is_none_int {x : Int} : OP2 c (compareOp .Is) (.int x) .none (.bool false) := fun fz s v₁ v₂ I tk r₁ r₂ Q E hQ => by
  obtain ⟨_, rfl⟩ := r₁.inv; obtain rfl := r₂.inv; exact wpAny_is_other rfl (by intro h; cases h) (fin0' I hQ (.bool _))
end
end Mine
end A3

section A4
open PySem PySem.W PySem.Spec PySem.Calls PyProof.Rows
namespace Mine
open PySem.F

theorem owner_pat : Manifest.owners.lookup (String.ofList ['n', 'r', 'e', 't', 't', 'a', 'P', '.', 'e', 'r'].reverse) = some Manifest.sig_re_Pattern := by kernel_rfl
theorem owner_mat : Manifest.owners.lookup (String.ofList ['h', 'c', 't', 'a', 'M', '.', 'e', 'r'].reverse) = some Manifest.sig_re_Match := by kernel_rfl
theorem plain_pat : PlainAttrs "re.Pattern" := ⟨⟨"object.__getattribute__", by rw [typeLookup_type, builtinLookup_eq_fast]; kernel_rfl, by decide +kernel⟩, by rw [typeLookup_type, builtinLookup_eq_fast]; kernel_rfl⟩
theorem plain_mat : PlainAttrs "re.Match" := ⟨⟨"object.__getattribute__", by rw [typeLookup_type, builtinLookup_eq_fast]; kernel_rfl, by decide +kernel⟩, by rw [typeLookup_type, builtinLookup_eq_fast]; kernel_rfl⟩
theorem slot_search : Slot "re.Pattern" "search" "re.Pattern.search" :=
  .of (owner := "re.Pattern") (n := "search") (by rw [typeLookup_type, builtinLookup_eq_fast]; kernel_rfl) (by decide +kernel) (by decide +kernel) (by decide +kernel)
    (by first | exact .inl (by decide +kernel) | exact .inr (by decide +kernel)) (by rw [isSubtype_type]; kernel_rfl)
theorem type_search : typeOf (.builtin "re.Pattern.search") = pure (.type "method_descriptor") := by show builtinType _ = _; rw [builtinType_eq_fast]; kernel_rfl
theorem entry_search : entryFor table "re.Pattern.search" = some Builtin.«re.Pattern.search» := entryFor_of_tree (by kernel_rfl)
theorem args_search (a b : Value) : argsOk "re.Pattern.search" ⟨[a, b], []⟩ := by
  unfold argsOk; rw [signature?_of (id := "re.Pattern.search") (n := ['h', 'c', 'r', 'a', 'e', 's']) (o := ['n', 'r', 'e', 't', 't', 'a', 'P', '.', 'e', 'r']) (by kernel_rfl) owner_pat]; kernel_rfl
theorem slot_fullmatch : Slot "re.Pattern" "fullmatch" "re.Pattern.fullmatch" :=
  .of (owner := "re.Pattern") (n := "fullmatch") (by rw [typeLookup_type, builtinLookup_eq_fast]; kernel_rfl) (by decide +kernel) (by decide +kernel) (by decide +kernel)
    (by first | exact .inl (by decide +kernel) | exact .inr (by decide +kernel)) (by rw [isSubtype_type]; kernel_rfl)
theorem type_fullmatch : typeOf (.builtin "re.Pattern.fullmatch") = pure (.type "method_descriptor") := by show builtinType _ = _; rw [builtinType_eq_fast]; kernel_rfl
theorem entry_fullmatch : entryFor table "re.Pattern.fullmatch" = some Builtin.«re.Pattern.fullmatch» := entryFor_of_tree (by kernel_rfl)
theorem args_fullmatch (a b : Value) : argsOk "re.Pattern.fullmatch" ⟨[a, b], []⟩ := by
  unfold argsOk; rw [signature?_of (id := "re.Pattern.fullmatch") (n := ['h', 'c', 't', 'a', 'm', 'l', 'l', 'u', 'f']) (o := ['n', 'r', 'e', 't', 't', 'a', 'P', '.', 'e', 'r']) (by kernel_rfl) owner_pat]; kernel_rfl
theorem slot_sub : Slot "re.Pattern" "sub" "re.Pattern.sub" :=
  .of (owner := "re.Pattern") (n := "sub") (by rw [typeLookup_type, builtinLookup_eq_fast]; kernel_rfl) (by decide +kernel) (by decide +kernel) (by decide +kernel)
    (by first | exact .inl (by decide +kernel) | exact .inr (by decide +kernel)) (by rw [isSubtype_type]; kernel_rfl)
theorem type_sub : typeOf (.builtin "re.Pattern.sub") = pure (.type "method_descriptor") := by show builtinType _ = _; rw [builtinType_eq_fast]; kernel_rfl
theorem entry_sub : entryFor table "re.Pattern.sub" = some Builtin.«re.Pattern.sub» := entryFor_of_tree (by kernel_rfl)
theorem args_sub (a b c : Value) : argsOk "re.Pattern.sub" ⟨[a, b, c], []⟩ := by
  unfold argsOk; rw [signature?_of (id := "re.Pattern.sub") (n := ['b', 'u', 's']) (o := ['n', 'r', 'e', 't', 't', 'a', 'P', '.', 'e', 'r']) (by kernel_rfl) owner_pat]; kernel_rfl
theorem entry_subloop : entryFor table "re.Pattern.sub.loop" = some Builtin.«re.Pattern.sub.loop» := entryFor_of_tree (by kernel_rfl)
theorem slot_subn : Slot "re.Pattern" "subn" "re.Pattern.subn" :=
  .of (owner := "re.Pattern") (n := "subn") (by rw [typeLookup_type, builtinLookup_eq_fast]; kernel_rfl) (by decide +kernel) (by decide +kernel) (by decide +kernel)
    (by first | exact .inl (by decide +kernel) | exact .inr (by decide +kernel)) (by rw [isSubtype_type]; kernel_rfl)
theorem type_subn : typeOf (.builtin "re.Pattern.subn") = pure (.type "method_descriptor") := by show builtinType _ = _; rw [builtinType_eq_fast]; kernel_rfl
theorem entry_subn : entryFor table "re.Pattern.subn" = some Builtin.«re.Pattern.subn» := entryFor_of_tree (by kernel_rfl)
theorem args_subn (a b c : Value) : argsOk "re.Pattern.subn" ⟨[a, b, c], []⟩ := by
  unfold argsOk; rw [signature?_of (id := "re.Pattern.subn") (n := ['n', 'b', 'u', 's']) (o := ['n', 'r', 'e', 't', 't', 'a', 'P', '.', 'e', 'r']) (by kernel_rfl) owner_pat]; kernel_rfl
theorem slot_group : Slot "re.Match" "group" "re.Match.group" :=
  .of (owner := "re.Match") (n := "group") (by rw [typeLookup_type, builtinLookup_eq_fast]; kernel_rfl) (by decide +kernel) (by decide +kernel) (by decide +kernel)
    (by first | exact .inl (by decide +kernel) | exact .inr (by decide +kernel)) (by rw [isSubtype_type]; kernel_rfl)
theorem type_group : typeOf (.builtin "re.Match.group") = pure (.type "method_descriptor") := by show builtinType _ = _; rw [builtinType_eq_fast]; kernel_rfl
theorem entry_group : entryFor table "re.Match.group" = some Builtin.«re.Match.group» := entryFor_of_tree (by kernel_rfl)
theorem args_group (a b : Value) : argsOk "re.Match.group" ⟨[a, b], []⟩ := by
  unfold argsOk; rw [signature?_of (id := "re.Match.group") (n := ['p', 'u', 'o', 'r', 'g']) (o := ['h', 'c', 't', 'a', 'M', '.', 'e', 'r']) (by kernel_rfl) owner_mat]; kernel_rfl
theorem slot_span : Slot "re.Match" "span" "re.Match.span" :=
  .of (owner := "re.Match") (n := "span") (by rw [typeLookup_type, builtinLookup_eq_fast]; kernel_rfl) (by decide +kernel) (by decide +kernel) (by decide +kernel)
    (by first | exact .inl (by decide +kernel) | exact .inr (by decide +kernel)) (by rw [isSubtype_type]; kernel_rfl)
theorem type_span : typeOf (.builtin "re.Match.span") = pure (.type "method_descriptor") := by show builtinType _ = _; rw [builtinType_eq_fast]; kernel_rfl
theorem entry_span : entryFor table "re.Match.span" = some Builtin.«re.Match.span» := entryFor_of_tree (by kernel_rfl)
theorem args_span (a b : Value) : argsOk "re.Match.span" ⟨[a, b], []⟩ := by
  unfold argsOk; rw [signature?_of (id := "re.Match.span") (n := ['n', 'a', 'p', 's']) (o := ['h', 'c', 't', 'a', 'M', '.', 'e', 'r']) (by kernel_rfl) owner_mat]; kernel_rfl
theorem look_string : typeLookup (.type "re.Match") "string" = pure (some (.builtin "re.Match.string")) := by rw [typeLookup_type, builtinLookup_eq_fast]; kernel_rfl
theorem entry_string : entryFor table "re.Match.string" = some Builtin.«re.Match.string» := entryFor_of_tree (by kernel_rfl)
theorem nobool_mat : typeLookup (.type "re.Match") "__bool__" = pure none := by rw [typeLookup_type, builtinLookup_eq_fast]; kernel_rfl
theorem nolen_mat : typeLookup (.type "re.Match") "__len__" = pure none := by rw [typeLookup_type, builtinLookup_eq_fast]; kernel_rfl
theorem call_look_function : typeLookup (.type "function") "__call__" = pure (some (.builtin "function.__call__")) := by rw [typeLookup_type, builtinLookup_eq_fast]; kernel_rfl
end Mine
end A4

section A5
open PySem PySem.W PySem.Spec PySem.Calls PyProof.Rows
namespace Mine

section
variable {c : Cx} {ρ : List (Str × D)} {own : List Ow} {fz fz' : FZ} {s s' : Shared} {d : D}

/- several expressions, in order -/
noncomputable def EVs (c : Cx) (ρ : List (Str × D)) (own : List Ow) (es : List PySem.Expr) (ds : List D) : Prop :=
  ∀ fz s, Frm c ρ own fz s → ∀ (Q : List Value → Shared → Prop) (E : Value → Shared → Prop) (pos : Pos),
    (∀ vs fz' s', Next fz s fz' s' → Frm c ρ own fz' s' → Reps fz' vs ds → Q vs s') → wpAny c.M c.A (spliced (backTo pos (starEach es c.env))) Q E s
theorem evs_nil : EVs c ρ own [] [] := fun fz s F Q E pos hQ => Calls.spliced_nil (hQ [] fz s (Next.refl _ _) F .nil)
theorem evs_cons {e : PySem.Expr} {es : List PySem.Expr} {ds : List D} (he : EV c ρ own e d) (hes : EVs c ρ own es ds)
    (hs : ∀ env, starEach (e :: es) env = (false, eval e env) :: starEach es env) : EVs c ρ own (e :: es) (d :: ds) :=
  fun fz s F Q E pos hQ => by
    rw [hs]
    show wpAny _ _ (spliced ((false, eval e c.env) :: backTo pos (starEach es c.env))) _ _ _
    exact Calls.spliced_cons (he fz s F _ _ fun v fz₁ s₁ N₁ F₁ r₁ => hes fz₁ s₁ F₁ _ _ _ fun vs fz₂ s₂ N₂ F₂ r₂ => hQ _ fz₂ s₂ (N₁.trans N₂) F₂ (.cons (r₁.mono N₂.mono) r₂))

theorem ev_list {es : List PySem.Expr} {ds : List D} {pos} (h : EVs c ρ own es ds) (hn : ds.length ≤ sizeLine) : EV c ρ own (.List es pos) (.list ds) :=
  EV.mk fun fz s F Q E hQ => List_ (h fz s F _ _ _ fun vs fz₁ s₁ N₁ F₁ r₁ => wpAny_newList
    (finN (hf := by rfl) F₁.I (fun v fz' s' N I r => hQ v fz' s' (N₁.trans N) I r) (fun fz' hl e => .list e (r₁.mono hl)) s₁.toks) (by rw [r₁.length]; exact hn))
theorem ev_tuple {es : List PySem.Expr} {ds : List D} {k : Nat} {pos} (h : EVs c ρ own es ds) (hn : ds.length ≤ sizeLine) : EV c ρ own (.Tuple es k pos) (.tuple ds) :=
  EV.mk fun fz s F Q E hQ => Tuple_ (h fz s F _ _ _ fun vs fz₁ s₁ N₁ F₁ r₁ => wpAny_newTuple
    (finN (hf := by rfl) F₁.I (fun v fz' s' N I r => hQ v fz' s' (N₁.trans N) I r) (fun fz' hl e => .tuple e (r₁.mono hl)) s₁.toks) (by rw [r₁.length]; exact hn))

/- truth -/
noncomputable def OPT (c : Cx) (d : D) (b : Bool) : Prop := ∀ fz s v, Inv c.G fz s → 1 ≤ s.toks → Rep fz v d → ∀ (Q : Bool → Shared → Prop) (E : Value → Shared → Prop),
  (∀ fz' s', Next fz s fz' s' → Inv c.G fz' s' → Q b s') → wpAny c.M c.A (truthy v) Q E s
noncomputable def TV (c : Cx) (ρ : List (Str × D)) (own : List Ow) (e : PySem.Expr) (b : Bool) : Prop :=
  ∀ fz s, Frm c ρ own fz s → ∀ (Q : Bool → Shared → Prop) (E : Value → Shared → Prop), (∀ fz' s', Next fz s fz' s' → Frm c ρ own fz' s' → Q b s') → wpAny c.M c.A (isTrue e c.env (eval e c.env)) Q E s

theorem TV.mk {e : PySem.Expr} {b : Bool} (h : ∀ fz s, Frm c ρ own fz s → ∀ (Q : Bool → Shared → Prop) (E : Value → Shared → Prop),
    (∀ fz' s', Next fz s fz' s' → Inv c.G fz' s' → Q b s') → wpAny c.M c.A (isTrue e c.env (eval e c.env)) Q E s) : TV c ρ own e b :=
  fun fz s F Q E hQ => wpAny_mono (wpAny_with_toks (Q := fun v s' => Q v s') F.tk (h fz s F (fun v s' => 1 ≤ s'.toks → Q v s') (fun e s' => 1 ≤ s'.toks → E e s') fun fz' s' N I tk => hQ fz' s' N (F.next N I tk))) (fun _ _ x => x) fun _ _ x => x

theorem tv_val {e : PySem.Expr} {b : Bool} (he : EV c ρ own e d) (h : OPT c d b) (hs : ∀ env whole, isTrue e env whole = (do let v ← whole; standAt e.pos; holding [v] (truthy v))) : TV c ρ own e b :=
  TV.mk fun fz s F Q E hQ => by
    rw [hs]
    exact wpAny_bind (he fz s F _ _ fun v fz₁ s₁ N₁ F₁ r₁ => wpAny_bind (wpAny_standAt (wpAny_holding (h fz₁ s₁ v F₁.I F₁.tk r₁ Q E fun fz' s' N I => hQ fz' s' (N₁.trans N) I))))
theorem tv_cmp {op : CmpOp} {l r : PySem.Expr} {pos} {d₁ d₂ : D} {b : Bool} (hl : EV c ρ own l d₁) (hr : EV c ρ own r d₂) (h : OP2 c (compareOp op) d₁ d₂ (.bool b)) (hm : behindInMarks op r = false) :
    TV c ρ own (.Compare l [op] [r] pos) b :=
  TV.mk fun fz s F Q E hQ => wpAny_isTrue_Compare1 (hl fz s F _ _ fun v₁ fz₁ s₁ N₁ F₁ r₁ => hr fz₁ s₁ F₁ _ _ fun v₂ fz₂ s₂ N₂ F₂ r₂ =>
    h fz₂ s₂ v₁ v₂ F₂.I F₂.tk (r₁.mono N₂.mono) r₂ _ E fun v fz' s' N I r => by obtain rfl := r.inv; exact wpAny_truthy_bool (hQ fz' s' ((N₁.trans N₂).trans N) I)) hm
theorem tv_not {e : PySem.Expr} {pos} {b : Bool} (h : TV c ρ own e b) : TV c ρ own (.UnaryOp .Not e pos) (!b) := fun fz s F Q E hQ => by
  show wpAny _ _ (do return !(← isTrue e c.env (eval e c.env))) _ _ _
  exact wpAny_bind (h fz s F _ _ fun fz' s' N F' => wpAny_pure (hQ fz' s' N F'))

/- all the tests of «and», «or» -/
noncomputable def TVs (c : Cx) (ρ : List (Str × D)) (own : List Ow) (op : BoolOp) (es : List PySem.Expr) (b : Bool) : Prop :=
  ∀ fz s, Frm c ρ own fz s → ∀ (Q : Bool → Shared → Prop) (E : Value → Shared → Prop), (∀ fz' s', Next fz s fz' s' → Frm c ρ own fz' s' → Q b s') → wpAny c.M c.A (allTrue op es c.env) Q E s
theorem tvs_nil {op : BoolOp} : TVs c ρ own op [] (op == .And) := fun fz s F Q E hQ => wpAny_pure (hQ fz s (Next.refl _ _) F)
theorem tvs_stop {op : BoolOp} {e : PySem.Expr} {es : List PySem.Expr} (h : TV c ρ own e (op == .Or)) : TVs c ρ own op (e :: es) (op == .Or) := fun fz s F Q E hQ => by
  rw [allTrue]
  refine wpAny_bind (h fz s F _ _ fun fz' s' N F' => ?_)
  cases op <;> exact wpAny_pure (hQ fz' s' N F')
theorem tvs_on {op : BoolOp} {e : PySem.Expr} {es : List PySem.Expr} {b : Bool} (h : TV c ρ own e (op == .And)) (hs : TVs c ρ own op es b) : TVs c ρ own op (e :: es) b := fun fz s F Q E hQ => by
  rw [allTrue]
  refine wpAny_bind (h fz s F _ _ fun fz' s' N F' => ?_)
  cases op <;> exact hs fz' s' F' _ _ fun fz'' s'' N' F'' => hQ fz'' s'' (N.trans N') F''
theorem tv_bool {op : BoolOp} {es : List PySem.Expr} {pos} {b : Bool} (h : TVs c ρ own op es b) : TV c ρ own (.BoolOp op es pos) b := h
theorem ev_ifexp {t a b : PySem.Expr} {pos} {x : Bool} (ht : TV c ρ own t x) (ha : x = true → EV c ρ own a d) (hb : x = false → EV c ρ own b d) : EV c ρ own (.IfExp t a b pos) d := fun fz s F Q E hQ => by
  show wpAny _ _ (do if ← isTrue t c.env (eval t c.env) then eval a c.env else eval b c.env) _ _ _
  refine wpAny_bind (ht fz s F _ _ fun fz' s' N F' => ?_)
  cases x
  · exact hb rfl fz' s' F' _ _ fun v fz'' s'' N' F'' r => hQ v fz'' s'' (N.trans N') F'' r
  · exact ha rfl fz' s' F' _ _ fun v fz'' s'' N' F'' r => hQ v fz'' s'' (N.trans N') F'' r

theorem opt_str {x : Str} (h : x.length ≤ sizeLine) : OPT c (.str x) ((x.length : Int) != 0) := fun fz s v I tk r Q E hQ => by
  obtain ⟨_, rfl⟩ := r.inv
  refine P.truthy_str ?_ (hQ fz _ (Next.toks _) (I.toks _))
  have : sizeLine = 16777216 := by decide
  (first | lia | omega)
theorem opt_int {i : Int} : OPT c (.int i) (i != 0) := fun fz s v I tk r Q E hQ => by
  obtain ⟨_, rfl⟩ := r.inv; exact P.truthy_int (hQ fz _ (Next.refl _ _) I)
theorem opt_bool {b : Bool} : OPT c (.bool b) b := fun fz s v I tk r Q E hQ => by
  obtain rfl := r.inv; exact wpAny_truthy_bool (hQ fz _ (Next.refl _ _) I)
theorem opt_none : OPT c .none false := fun fz s v I tk r Q E hQ => by
  obtain rfl := r.inv
  show wpAny _ _ (pure false) _ _ _
  exact wpAny_pure (hQ fz _ (Next.refl _ _) I)
theorem opt_list {ds : List D} (h : ds.length ≤ sizeLine) : OPT c (.list ds) (!ds.isEmpty) := fun fz s v I tk r Q E hQ => by
  obtain ⟨a, vs, n, rfl, e, rs⟩ := r.inv
  ·
    have hlen := rs.length
    have hsz : sizeLine = 16777216 := by decide
    refine wpAny_truthy_list ⟨_, I.le _ _ e, rfl, _, rfl⟩ (by simp only [List.size_toArray]; (first | lia | omega)) ?_
    have hb : vs.toArray.isEmpty = ds.isEmpty := by
      cases rs <;> rfl
    rw [hb]
    exact hQ fz _ (Next.toks _) (I.toks _)
theorem opt_mat {x : Str} {sp : List Int} : OPT c (.mat x sp) true := fun fz s v I tk r Q E hQ => by
  obtain ⟨_, _, _, _, _, _, _, _, rfl, e, g⟩ := r.inv
  ·
    have hT : s.TypeIs (.ref _) "re.Match" := ⟨_, I.le _ _ e, rfl⟩
    unfold truthy
    show wpAny _ _ (do
      match ← callSpecial? _ "__bool__" with
      | some (.bool b) => return b
      | some r => rule "truth.bool-not-bool"; raiseError "TypeError" s!"__bool__ should return bool, returned {← typeNameOf r}"
      | none => pure ()
      if (← specialOf _ "__len__").isNone then return true
      match ← runValue (.builtin "len" ⟨[_], []⟩) with
      | .int n _ => return n != 0
      | _ => unsupported "internal:truth.len") _ _ _
    refine wpAny_bind ?_
    unfold callSpecial?
    refine wpAny_bind (wpAny_specialOf hT nobool_mat (wpAny_pure ?_))
    refine wpAny_bind (wpAny_specialOf hT nolen_mat ?_)
    exact wpAny_pure (hQ fz _ (Next.refl _ _) I)

/- calls of the text's own defs -/
noncomputable def FnAt (w : World) (a : Addr) : Prop := ∃ o fd, (hd.heap_39 w.params).lookup a = some o ∧ o.data = .func fd
theorem ev_call {f : Str} {p pos : Pos} {a : Addr} {e : PySem.Expr} {es : List PySem.Expr} {ds : List D} (hx : c.env.kindOf f = some .globalImplicit) (hn : nsIn (hd.heap_39 c.w.params) mainGlobals f = some (some (.ref a)))
    (hf : FnAt c.w a) (hes : EVs c ρ own (e :: es) ds) (h : OPs c (fun vs => call (.ref a) vs) ds d)
    (hs : ∀ env, starEach (e :: es) env = (false, eval e env) :: starEach es env) (hd : (f == ("__debug__" : Str)) = false) :
    EV c ρ own (.Call (.Name f p) (e :: es) [] pos) d := EV.mk fun fz s F Q E hQ => by
  show wpAny _ _ (do callWith pos (← eval (.Name f p) c.env) [] (backTo pos (starEach (e :: es) c.env)) (backToKw pos (keywordEach [] c.env))) _ _ _
  refine wpAny_bind (ev_global (ρ := ρ) (own := own) hx hn hd fz s F _ _ fun v fz₁ s₁ N₁ F₁ r₁ => ?_)
  obtain ⟨o, fd, ho, hd'⟩ := hf
  have hv : v = .ref a := r₁.inv
  subst hv
  refine callWith_function (o := o) (fd := fd) ?_
  have key : wpAny c.M c.A (spliced (backTo pos (starEach (e :: es) c.env))) (fun vs s' => (s'.heap.get? a = some o ∧ o.data = .func fd) ∧ wpAny c.M c.A (call (.ref a) ([] ++ vs) []) Q E s') E s₁ :=
    hes fz₁ s₁ F₁ _ _ _ fun vs fz₂ s₂ N₂ F₂ r₂ => ⟨⟨F₂.I.ge (c.st.k a o ho), hd'⟩, h fz₂ s₂ vs F₂.I F₂.tk r₂ Q E fun v fz' s' N I r => hQ v fz' s' ((N₁.trans N₂).trans N) I r⟩
  rw [hs] at key ⊢
  exact evalArgs_plain (x := eval e c.env) (rest := backTo pos (starEach es c.env)) key
end
end Mine
end A5

section A6
open PySem PySem.W PySem.Spec PySem.Calls PyProof.Rows
namespace Mine

/- the heap never shrinks -/
theorem runs_size {M : Model} {Γ : PySem.Ctx} {p : Pos} {t : Sem Fin} {fs : List Frame} {s s' : Shared} {e : End} (h : Runs M Γ p t fs s e s') : s.heap.objs.size ≤ s'.heap.objs.size := by
  induction h <;> (try simp only [Shared.setGen, Heap.size_push, Heap.size_after_update] at *) <;> (first | lia | omega)
theorem wakes_size {M : Model} {Γ : PySem.Ctx} {p : Pos} {g : Nat} {r : Resume} {s s' : Shared} {res : GenResult} (h : Wakes M Γ p g r s res s') : s.heap.objs.size ≤ s'.heap.objs.size := by
  unfold Wakes at h
  split at h
  · exact h.elim
  · split at h
    · obtain ⟨e₁, s₁, hr, _, _, rfl⟩ := h; exact (runs_size hr : (s.setGen g .running).heap.objs.size ≤ s₁.heap.objs.size)
    · rw [h.2]; exact Nat.le_refl _
    · rw [h.2]; exact Nat.le_refl _
  · obtain ⟨e₁, s₁, hr, _, _, rfl⟩ := h; exact (runs_size hr : (s.setGen g .running).heap.objs.size ≤ s₁.heap.objs.size)
  · rw [h.2]; exact Nat.le_refl _
  · rw [h.2]; exact Nat.le_refl _
theorem wp_size {α : Type} (M : Model) (Γ : PySem.Ctx) (n : Nat) (t : Sem α) : ∀ (Q : α → Pos → Shared → Prop) (E : Value → Pos → Shared → Prop) (p : Pos) (s : Shared), n ≤ s.heap.objs.size → Sem.wp M Γ t Q E p s →
    Sem.wp M Γ t (fun a p' s' => n ≤ s'.heap.objs.size ∧ Q a p' s') (fun e p' s' => n ≤ s'.heap.objs.size ∧ E e p' s') p s := by
  induction t with
  | pure a => intro Q E p s hn h; exact ⟨hn, h⟩
  | raise e => intro Q E p s hn h; exact ⟨hn, h⟩
  | unsupported _ => intro Q E p s _ h; exact h
  | finish _ => intro Q E p s _ h; exact h
  | rule _ k ih => intro Q E p s hn h; exact ih () Q E p s hn h
  | «at» p' k ih => intro Q E p s hn h; exact ih () Q E p' s hn h
  | load a _ k ih => intro Q E p s hn h; obtain ⟨o, ho, h⟩ := h; exact ⟨o, ho, ih o Q E p s hn h⟩
  | update a _ f k ih => intro Q E p s hn h; exact ⟨h.1, ih () Q E p _ (by show n ≤ (s.heap.update a f).objs.size; rw [Heap.size_after_update]; exact hn) h.2⟩
  | loadIfAlive a k ih => intro Q E p s hn h; exact ih _ Q E p s hn h
  | point _ k ih => intro Q E p s hn h; exact ih () Q E p s hn h
  | register _ _ => intro Q E p s _ h; exact h
  | alloc o k ih => intro Q E p s hn h; exact ih _ Q E p _ (by show n ≤ (s.heap.push o).objs.size; rw [Heap.size_push]; (first | lia | omega)) h
  | fresh k ih => intro Q E p s hn h; exact ih _ Q E p _ hn h
  | ask k ih => intro Q E p s hn h; exact ih _ Q E p s hn h
  | choose src m k ih => intro Q E p s hn h; exact ⟨h.1, ih _ Q E p _ hn h.2⟩
  | os q _ k ih => intro Q E p s hn h; exact ih _ Q E p _ hn h
  | call c hd _ _ k ih => intro Q E p s hn h; obtain ⟨r, s', hr, h⟩ := h; exact ⟨r, s', hr, ih r Q E p s' (Nat.le_trans hn (runs_size hr)) h⟩
  | handled own k ih => intro Q E p s hn h; exact ih _ Q E p s hn h
  | genState g k ih => intro Q E p s hn h; obtain ⟨st, hs, h⟩ := h; exact ⟨st, hs, ih _ Q E p s hn h⟩
  | newGen c k ih => intro Q E p s hn h; exact ih _ Q E p _ hn h
  | resume g r _ k ih => intro Q E p s hn h; obtain ⟨res, s', hw, h⟩ := h; exact ⟨res, s', hw, ih res Q E p s' (Nat.le_trans hn (wakes_size hw)) h⟩
  | yield _ _ _ _ => intro Q E p s _ h; exact h
  | stack k ih => intro Q E p s hn h; exact ih _ Q E p s hn h
  | fork _ _ => intro Q E p s _ h; exact h
  | thread k ih => intro Q E p s hn h; exact ih _ Q E p s hn h
  | await _ _ _ _ _ => intro Q E p s _ h; exact h
theorem with_size {α : Type} {M : Model} {A : Around} {s : Shared} {t : Sem α} {Q : α → Shared → Prop} {E : Value → Shared → Prop}
    (h : wpAny M A t (fun a s' => s.heap.objs.size ≤ s'.heap.objs.size → Q a s') E s) : wpAny M A t Q E s :=
  wpAny_mono (Q := fun a s' => s.heap.objs.size ≤ s'.heap.objs.size ∧ (s.heap.objs.size ≤ s'.heap.objs.size → Q a s')) (E := fun e s' => s.heap.objs.size ≤ s'.heap.objs.size ∧ E e s')
    (fun Γ p hΓ => wp_size M Γ _ t _ _ p s (Nat.le_refl _) (h Γ p hΓ)) (fun _ _ x => x.2 x.1) (fun _ _ x => x.2)

section
variable {c : Cx} {ρ ρ' : List (Str × D)} {own own' : List Ow} {fz fz' : FZ} {s s' : Shared} {d : D}

/- a step that changes one object that is not still, and maybe makes new ones -/
theorem Inv.but {a : Addr} {h' : Heap} {tk : Nat} (I : Inv c.G fz s) (hs : Heap.ExtBut a s.heap h') (hn : fz a = none) (h1 : a ≠ 78) (h2 : a ≠ 95) : Inv c.G fz { s with heap := h', toks := tk } :=
  ⟨I.base, fun b o e => hs b o (fun q => by subst q; rw [hn] at e; cases e) (I.le b o e),
   I.t78.mono (fun _ _ e => e) (let ⟨o, e⟩ := I.t78.get; by show s.heap.get? _ = h'.get? _; rw [e, hs _ _ (Ne.symm h1) e]),
   I.t95.mono (fun _ _ e => e) (let ⟨o, e⟩ := I.t95.get; by show s.heap.get? _ = h'.get? _; rw [e, hs _ _ (Ne.symm h2) e]), I.f78, I.f95, I.gens⟩
/- .. a new one alone: nothing that was there changes -/
theorem ext_next {h' : Heap} {tk : Nat} (I : Inv c.G fz s) (hs : Heap.ExtBut s.heap.objs.size s.heap h') (hz : s.heap.objs.size ≤ h'.objs.size) :
    Next fz s fz { s with heap := h', toks := tk } ∧ Inv c.G fz { s with heap := h', toks := tk } :=
  ⟨⟨fun _ _ e => e, fun _ _ e => e, hz, fun b o _ _ e => hs b o (Nat.ne_of_lt (Heap.lt_size e)) e, fun _ _ e => e, rfl⟩,
   I.but hs (I.fresh (Nat.le_refl _)) (Nat.ne_of_gt I.lt78) (Nat.ne_of_gt I.lt95)⟩

theorem IsCell_ne {h : Heap} {q a : Addr} {v : Value} {o : Obj} (x : h.IsCell q (some v)) (ho : h.get? a = some o) (hd : ∀ v, o.data ≠ .cell (some v)) : q ≠ a := by
  rintro rfl
  obtain ⟨o', ho', hd'⟩ := x
  rw [ho] at ho'; cases ho'
  exact hd _ hd'
theorem Ns_ne {h : Heap} {L a : Addr} {m : Str → Option Value} {o : Obj} (x : h.Ns L m) (ho : h.get? a = some o) (hd : ∀ es n, o.data ≠ .dict es n) : a ≠ L := by
  rintro rfl
  obtain ⟨o', es, n, ho', hd', _⟩ := x
  rw [ho] at ho'; cases ho'
  exact hd _ _ hd'

theorem Frm.nxBut {a : Addr} {h' : Heap} {tk : Nat} (F : Frm c ρ own fz s) (hs : Heap.ExtBut a s.heap h') (ha : c.s₀.heap.objs.size ≤ a) (hz : c.s₀.heap.objs.size ≤ h'.objs.size) :
    Next c.fz₀ c.s₀ fz { s with heap := h', toks := tk } :=
  ⟨F.nx.mono, F.nx.old, hz, fun b o h1 h2 e => hs b o (Nat.ne_of_lt (Nat.lt_of_lt_of_le (Heap.lt_size e) ha)) (F.nx.keep b o h1 h2 e), F.nx.gens, F.nx.os⟩

/- a local name is bound anew -/
theorem store_local {x : Str} {v : Value} {Q : Unit → Shared → Prop} {E : Value → Shared → Prop} (F : Frm c ρ own fz s) (hx : c.env.kindOf x = some .local) (ho : (own.any fun q => q.name == some x) = false)
    (r : Rep fz v d) (h : ∀ s', Frm c ((x, d) :: ρ) own fz s' → Q () s') : wpAny c.M c.A (storeName c.env x v) Q E s := by
  obtain ⟨m, hn, hr, hw⟩ := F.ns
  have hp : (c.env.scope.kind == .class || (c.env.scope.kind == .module && c.env.locals != c.env.globals)) = false := by rw [c.kind]; rfl
  refine wpAny_storeName_local hx hn (fun h' hn' hs => ?_) hp
  have hs' : Heap.ExtBut c.env.locals s.heap h' := hs.extBut
  have hz : c.s₀.heap.objs.size ≤ h'.objs.size := by rw [hs.1]; exact F.nx.size
  refine h _ ⟨F.nxBut hs' F.lo.1 hz, F.I.but hs' F.lo.2 (F.ne78 F.lo.1) (F.ne95 F.lo.1), ⟨_, hn', fun y e hy => ?_, fun q hq y hy => ?_⟩, F.lo, fun q hq => ?_, F.nodup, Nat.le_succ_of_le F.tk, F.kp.but hs' fun b o e => (F.kp.obj b o e).2.2.2⟩
  · rw [List.lookup_cons] at hy
    by_cases hyx : y = x
    · subst hyx
      rw [beq_self_eq_true] at hy
      cases hy
      exact ⟨v, .inl ⟨hx, if_pos rfl⟩, r⟩
    · rw [beq_eq_false_iff_ne.mpr hyx] at hy
      obtain ⟨u, hb, ru⟩ := hr y e hy
      refine ⟨u, ?_, ru⟩
      rcases hb with ⟨hk, hm⟩ | ⟨q, hk, hl, hc⟩
      · exact .inl ⟨hk, by show (if y = x then _ else _) = _; rw [if_neg hyx]; exact hm⟩
      · obtain ⟨oL, _, _, e1, e2, _⟩ := hn
        exact .inr ⟨q, hk, hl, hc.sameBut hs (IsCell_ne hc e1 (by rw [e2]; intro v h; cases h))⟩
  · obtain ⟨hk, hm'⟩ := hw q hq y hy
    have hyx : y ≠ x := by
      rintro rfl
      have := List.any_eq_false.mp ho _ hq
      simp [hy] at this
    exact ⟨hk, by show (if y = x then _ else _) = _; rw [if_neg hyx]; exact hm'⟩
  · obtain ⟨ha, hf, hv⟩ := F.ow q hq
    obtain ⟨o, hg, h1, _⟩ := hv.get
    exact ⟨ha, hf, hv.keep (fun _ _ e => e) fun o' e => hs' _ _ (Ns_ne hn hg h1) e⟩
end
end Mine
end A6

section A7
open PySem PySem.W PySem.Spec PySem.Calls PyProof.Rows
namespace Mine

section
variable {c : Cx} {ρ ρ' : List (Str × D)} {own own' : List Ow} {fz fz' : FZ} {s s' : Shared} {d : D}

/- what statements do: R says what may come out -/
noncomputable def EX (c : Cx) (ρ : List (Str × D)) (own : List Ow) (ss : List Stmt) (R : Flow → FZ → Shared → Prop) : Prop :=
  ∀ fz s, Frm c ρ own fz s → ∀ (Q : Flow → Shared → Prop) (E : Value → Shared → Prop), (∀ f fz' s', FZ.le fz fz' → R f fz' s' → Q f s') → wpAny c.M c.A (execs ss c.env) Q E s
/- the def hands back d -/
noncomputable def RetR (c : Cx) (d : D) : Flow → FZ → Shared → Prop := fun f fz' s' => ∃ v, f = .ret v ∧ Next c.fz₀ c.s₀ fz' s' ∧ Inv c.G fz' s' ∧ Rep fz' v d
/- the statements end, the frame is so -/
noncomputable def NextR (c : Cx) (ρ : List (Str × D)) (own : List Ow) : Flow → FZ → Shared → Prop := fun f fz' s' => f = .next ∧ Frm c ρ own fz' s'

theorem Frm.weaken (F : Frm c ρ own fz s) (h : ∀ p ∈ ρ', ρ.lookup p.1 = some p.2) : Frm c ρ' own fz s := by
  obtain ⟨m, hn, hr, hw⟩ := F.ns
  refine ⟨F.nx, F.I, ⟨m, hn, fun x d e => hr x d ?_, hw⟩, F.lo, F.ow, F.nodup, F.tk, F.kp⟩
  have : (x, d) ∈ ρ' := by
    clear h
    induction ρ' with
    | nil => cases e
    | cons p r ih =>
      rw [List.lookup_cons] at e
      split at e
      · rename_i q
        cases e
        rw [beq_iff_eq.mp q]
        exact List.Mem.head _
      · exact List.Mem.tail _ (ih e)
  exact h _ this

theorem ex_nil {R : Flow → FZ → Shared → Prop} (h : ∀ fz s, Frm c ρ own fz s → R .next fz s) : EX c ρ own [] R := fun fz s F Q E hQ => wpAny_execs_nil (hQ _ fz s (fun _ _ e => e) (h fz s F))
theorem ex_done (h : ∀ p ∈ ρ', ρ.lookup p.1 = some p.2) : EX c ρ own [] (NextR c ρ' own) := ex_nil fun fz s F => ⟨rfl, F.weaken h⟩
theorem ex_return {e : PySem.Expr} {rest : List Stmt} {pos} (h : EV c ρ own e d) : EX c ρ own (.Return (some e) pos :: rest) (RetR c d) := fun fz s F Q E hQ =>
  wpAny_execs_cons (wpAny_Return_some (h fz s F _ _ fun v fz' s' N F' r => hQ _ fz' s' N.mono ⟨v, rfl, F'.nx, F'.I, r⟩))
theorem ex_assign {x : Str} {e : PySem.Expr} {rest : List Stmt} {p pos} {R : Flow → FZ → Shared → Prop} (he : EV c ρ own e d) (h : EX c ((x, d) :: ρ) own rest R)
    (hx : c.env.kindOf x = some .local) (ho : (own.any fun q => q.name == some x) = false) (hs : swapsWith e (some (.Name x p)) pos.line c.env = pure false) :
    EX c ρ own (.Assign [.Name x p] e pos :: rest) R := fun fz s F Q E hQ =>
  wpAny_execs_cons (wpAny_Assign_Name (he fz s F _ _ fun v fz₁ s₁ N₁ F₁ r₁ => store_local F₁ hx ho r₁ fun s₂ F₂ => h fz₁ s₂ F₂ Q E fun f fz' s' hl r => hQ f fz' s' (fun a o e => hl a o (N₁.mono a o e)) r) hs)

theorem execs_append (a b : List Stmt) (env : Env) : execs (a ++ b) env = (do match ← execs a env with | .next => execs b env | f => pure f) := by
  induction a with
  | nil => rfl
  | cons st r ih =>
    rw [List.cons_append, execs_cons, execs_cons, bind_assoc]
    congr 1
    funext f
    cases f <;> first | exact ih | rfl
theorem execs_if (t : PySem.Expr) (a o rest : List Stmt) (pos : Pos) (env : Env) : execs (.If t a o pos :: rest) env =
    (do standAt pos; let b ← isTrue t env (eval t env); if b then execs (a ++ rest) env else execs (o ++ rest) env) := by
  rw [execs_cons, exec_If]
  simp only [execs_append, bind_assoc]
  congr 1
  funext _
  congr 1
  funext b
  cases b <;> rfl
theorem ex_if {t : PySem.Expr} {a o rest : List Stmt} {pos} {R : Flow → FZ → Shared → Prop} {b : Bool} (ht : TV c ρ own t b) (ha : b = true → EX c ρ own (a ++ rest) R) (hb : b = false → EX c ρ own (o ++ rest) R) :
    EX c ρ own (.If t a o pos :: rest) R := fun fz s F Q E hQ => by
  rw [execs_if]
  refine wpAny_bind (wpAny_standAt (wpAny_bind (ht fz s F _ _ fun fz' s' N F' => ?_)))
  cases b
  · exact hb rfl fz' s' F' Q E fun f fz'' s'' hl r => hQ f fz'' s'' (fun a o e => hl a o (N.mono a o e)) r
  · exact ha rfl fz' s' F' Q E fun f fz'' s'' hl r => hQ f fz'' s'' (fun a o e => hl a o (N.mono a o e)) r
theorem ex_assert {t : PySem.Expr} {m : Option PySem.Expr} {rest : List Stmt} {pos} {R : Flow → FZ → Shared → Prop} (ht : TV c ρ own t true) (h : EX c ρ own rest R) : EX c ρ own (.Assert t m pos :: rest) R := fun fz s F Q E hQ =>
  wpAny_execs_cons (by
    show wpAny _ _ (do standAt pos; if ← isTrue t c.env (eval t c.env) then pure .next else assertFails t.pos (evalOpt m c.env)) _ _ _
    exact wpAny_bind (wpAny_standAt (wpAny_bind (ht fz s F _ _ fun fz' s' N F' => wpAny_pure (h fz' s' F' Q E fun f fz'' s'' hl r => hQ f fz'' s'' (fun a o e => hl a o (N.mono a o e)) r)))))

/- targets -/
noncomputable def AS (c : Cx) (ρ : List (Str × D)) (own : List Ow) (t : PySem.Expr) (d : D) (ρ' : List (Str × D)) : Prop :=
  ∀ fz s v, Frm c ρ own fz s → Rep fz v d → ∀ (Q : Unit → Shared → Prop) (E : Value → Shared → Prop), (∀ s', Frm c ρ' own fz s' → Q () s') → wpAny c.M c.A (assign t c.env v) Q E s
theorem as_name {x : Str} {p} (hx : c.env.kindOf x = some .local) (ho : (own.any fun q => q.name == some x) = false) : AS c ρ own (.Name x p) d ((x, d) :: ρ) := fun fz s v F r Q E hQ =>
  PyProof.Rows.assign_Name (store_local F hx ho r hQ)
theorem Frm.ext {h' : Heap} {tk : Nat} (F : Frm c ρ own fz s) (hs : Heap.ExtBut s.heap.objs.size s.heap h') (htk : 1 ≤ tk) : Frm c ρ own fz { s with heap := h', toks := tk } := by
  obtain ⟨m, hn, hr, hw⟩ := F.ns
  have hk : ∀ a o, s.heap.get? a = some o → h'.get? a = some o := fun a o e => hs a o (Nat.ne_of_lt (Heap.lt_size e)) e
  have hn' := hn.keeps hk
  refine ⟨⟨F.nx.mono, F.nx.old, Nat.le_of_lt (Nat.lt_of_le_of_lt F.lo.1 hn'.lt), fun a o h1 h2 e => hk _ _ (F.nx.keep a o h1 h2 e), F.nx.gens, F.nx.os⟩,
    F.I.but hs (F.I.fresh (Nat.le_refl _)) (Nat.ne_of_gt F.I.lt78) (Nat.ne_of_gt F.I.lt95), ⟨m, hn', fun x d e => ?_, hw⟩, F.lo, fun q hq => ?_, F.nodup, htk, F.kp.but hs fun b o e => Nat.ne_of_lt (F.kp.lt e)⟩
  · obtain ⟨v, hb, r⟩ := hr x d e
    refine ⟨v, ?_, r⟩
    rcases hb with hb | ⟨q, hk', hl, hc⟩
    · exact .inl hb
    · exact .inr ⟨q, hk', hl, hc.keeps hk⟩
  · obtain ⟨ha, hf, hv⟩ := F.ow q hq
    exact ⟨ha, hf, hv.keep (fun _ _ e => e) fun o e => hk _ _ e⟩
theorem as_pair {x y : Str} {p q k pos} {d₁ d₂ : D} (hx : c.env.kindOf x = some .local) (hox : (own.any fun q => q.name == some x) = false) (hy : c.env.kindOf y = some .local) (hoy : (own.any fun q => q.name == some y) = false) :
    AS c ρ own (.Tuple [.Name x p, .Name y q] k pos) (.tuple [d₁, d₂]) ((y, d₂) :: (x, d₁) :: ρ) := fun fz s v F r Q E hQ => by
  obtain ⟨_, _, _, rfl, e, rs⟩ := r.inv
  · obtain ⟨_, _, rfl, r₁, rs⟩ := rs.inv
    · obtain ⟨_, _, rfl, r₂, rs⟩ := rs.inv
      · obtain rfl := rs.inv
        ·
          refine wpAny_assign_Tuple c.room.handled ⟨_, F.I.le _ _ e, rfl, _, rfl⟩ rfl rfl fun h' hs => ?_
          show wpAny _ _ (assignInOrder [assign (.Name x p) c.env, assign (.Name y q) c.env] [_, _]) _ _ _
          refine wpAny_assignInOrder_more (PyProof.Rows.assign_Name (store_local (F.ext hs F.tk) hx hox r₁ fun s₁ F₁ => ?_))
          refine wpAny_assignInOrder_more (PyProof.Rows.assign_Name (store_local F₁ hy hoy r₂ fun s₂ F₂ => ?_))
          exact wpAny_assignInOrder_none (hQ s₂ F₂)
theorem ex_unpack {elts : List PySem.Expr} {k tpos} {e : PySem.Expr} {rest : List Stmt} {pos} {R : Flow → FZ → Shared → Prop} (he : EV c ρ own e d) (ha : AS c ρ own (.Tuple elts k tpos) d ρ') (h : EX c ρ' own rest R)
    (hs : swapsWithSole [.Tuple elts k tpos] e pos.line c.env = pure false) (hw : swappedStores [.Tuple elts k tpos] e c.env = pure none) :
    EX c ρ own (.Assign [.Tuple elts k tpos] e pos :: rest) R := fun fz s F Q E hQ =>
  wpAny_execs_cons (Assign_Tuple (he fz s F _ _ fun v fz₁ s₁ N₁ F₁ r₁ => ha fz₁ s₁ v F₁ r₁ _ _ fun s₂ F₂ => h fz₁ s₂ F₂ Q E fun f fz' s' hl r => hQ f fz' s' (fun a o e => hl a o (N₁.mono a o e)) r) hs hw)

/- lists that the def alone holds -/
noncomputable def ownGet (own : List Ow) (x : Str) : Option (Addr × List D) := match own.find? (fun q => q.name == some x) with
  | some ⟨_, a, .list ds⟩ => some (a, ds)
  | _ => none
theorem ownGet_mem {x : Str} {a : Addr} {ds : List D} (h : ownGet own x = some (a, ds)) : ⟨some x, a, .list ds⟩ ∈ own := by
  unfold ownGet at h
  split at h
  · rename_i n b es hf
    cases h
    have := List.find?_some hf
    have e : n = some x := beq_iff_eq.mp this
    subst e
    exact List.mem_of_find?_eq_some hf
  · cases h

/- the name x is bound to a new list -/
theorem ex_new {x : Str} {es : List PySem.Expr} {ds : List D} {lp p pos} {rest : List Stmt} {R : Flow → FZ → Shared → Prop} (he : EVs c ρ own es ds) (h : ∀ a, EX c ρ (⟨some x, a, .list ds⟩ :: own) rest R)
    (hx : c.env.kindOf x = some .local) (ho : (own.any fun q => q.name == some x) = false) (hr : (ρ.any fun q => q.1 == x) = false) (hn : ds.length ≤ sizeLine) :
    EX c ρ own (.Assign [.Name x p] (.List es lp) pos :: rest) R := fun fz s F Q E hQ =>
  wpAny_execs_cons (wpAny_Assign_Name (List_ (he fz s F _ _ _ fun vs fz₁ s₁ N₁ F₁ r₁ => wpAny_newList (by
    have hf : fz₁ s₁.heap.objs.size = none := F₁.I.fresh (Nat.le_refl _)
    have hge : c.s₀.heap.objs.size ≤ s₁.heap.objs.size := F₁.nx.size
    have F₂ : Frm c ρ own fz₁ { s₁ with heap := s₁.heap.push (listO vs 0), toks := s₁.toks } := F₁.ext (fun b o hb e => Heap.get?_push_of_some _ e) F₁.tk
    obtain ⟨m, hn', hr', hw⟩ := F₂.ns
    have hp : (c.env.scope.kind == .class || (c.env.scope.kind == .module && c.env.locals != c.env.globals)) = false := by rw [c.kind]; rfl
    refine wpAny_storeName_local hx hn' (fun h' hn'' hs => ?_) hp
    have hs' : Heap.ExtBut c.env.locals _ h' := hs.extBut
    have hnew : (s₁.heap.push (listO vs 0)).get? s₁.heap.objs.size = some (listO vs 0) := Heap.get?_push_size _ rfl
    refine h s₁.heap.objs.size fz₁ _ ⟨F₂.nxBut hs' F₂.lo.1 (by rw [hs.1]; exact F₂.nx.size), F₂.I.but hs' F₂.lo.2 (F₂.ne78 F₂.lo.1) (F₂.ne95 F₂.lo.1), ⟨_, hn'', fun y e hy => ?_, fun q hq y hy => ?_⟩, F₂.lo, fun q hq => ?_, ?_, Nat.le_succ_of_le F₁.tk, (F₂.kp.but hs' fun b o e => (F₂.kp.obj b o e).2.2.2).cons (fun b o e => Nat.ne_of_gt (F₁.kp.lt e)) fun b e => Nat.ne_of_gt (F₁.kp.ltN F₁.I e)⟩ Q E fun f fz' s' hl r => hQ f fz' s' (fun a o e => hl a o (N₁.mono a o e)) r
    · have hyx : y ≠ x := by
        rintro rfl
        have : ρ.lookup y = none := by
          rw [List.lookup_eq_none_iff]
          intro q hq
          have := List.any_eq_false.mp hr _ hq
          simpa [BEq.comm] using this
        rw [this] at hy; cases hy
      obtain ⟨u, hb, ru⟩ := hr' y e hy
      refine ⟨u, ?_, ru⟩
      rcases hb with ⟨hk, hm⟩ | ⟨q, hk, hl, hc⟩
      · exact .inl ⟨hk, by show (if y = x then _ else _) = _; rw [if_neg hyx]; exact hm⟩
      · obtain ⟨oL, _, _, e1, e2, _⟩ := hn'
        exact .inr ⟨q, hk, hl, hc.sameBut hs (IsCell_ne hc e1 (by rw [e2]; intro v h; cases h))⟩
    · rcases List.mem_cons.mp hq with rfl | hq'
      · cases hy
        exact ⟨hx, if_pos rfl⟩
      · obtain ⟨hk, hm'⟩ := hw q hq' y hy
        have hyx : y ≠ x := by
          rintro rfl
          have := List.any_eq_false.mp ho _ hq'
          simp [hy] at this
        exact ⟨hk, by show (if y = x then _ else _) = _; rw [if_neg hyx]; exact hm'⟩
    · rcases List.mem_cons.mp hq with rfl | hq
      · exact ⟨hge, hf, vs, 0, hs' _ _ (Ns_ne hn' hnew (by intro es n h; cases h)) hnew, r₁⟩
      · obtain ⟨ha, hf, hv⟩ := F₂.ow q hq
        obtain ⟨o, hg, h1, _⟩ := hv.get
        exact ⟨ha, hf, hv.keep (fun _ _ e => e) fun o' e => hs' _ _ (Ns_ne hn' hg h1) e⟩
    · rw [List.map_cons, List.nodup_cons]
      refine ⟨fun hm => ?_, F₁.nodup⟩
      obtain ⟨q, hq, e⟩ := List.mem_map.mp hm
      obtain ⟨o, hg, _⟩ := (F₁.ow q hq).2.2.get
      exact absurd (Heap.lt_size hg) (by rw [e]; exact Nat.lt_irrefl _)) (by rw [r₁.length]; exact hn))) (by rfl))
end
end Mine
end A7

section A8
open PySem PySem.W PySem.Spec PySem.Calls PyProof.Rows
namespace Mine

section
variable {c : Cx} {ρ ρ' : List (Str × D)} {own own' : List Ow} {fz fz' : FZ} {s s' : Shared} {d : D}

/- v has the built-in type T, and no dict of its own -/
noncomputable def TyIs (c : Cx) (d : D) (T : String) : Prop := ∀ fz s v, Inv c.G fz s → Rep fz v d → s.TypeIs v T ∧ ∀ a, v = .ref a → ∃ ob, s.heap.get? a = some ob ∧ ob.dict = none
theorem ty_str {x : Str} : TyIs c (.str x) "str" := fun fz s v I r => by obtain ⟨_, rfl⟩ := r.inv; exact ⟨typeIs_str _ _ _, fun _ e => nomatch e⟩
theorem ty_list {ds : List D} : TyIs c (.list ds) "list" := fun fz s v I r => by
  obtain ⟨_, _, _, rfl, e, _⟩ := r.inv
  · exact ⟨⟨_, I.le _ _ e, rfl⟩, fun a h => by cases h; exact ⟨_, I.le _ _ e, rfl⟩⟩
theorem ty_mat {x : Str} {sp : List Int} : TyIs c (.mat x sp) "re.Match" := fun fz s v I r => by
  obtain ⟨_, _, _, _, _, _, _, _, rfl, e, _⟩ := r.inv
  · exact ⟨⟨_, I.le _ _ e, rfl⟩, fun a h => by cases h; exact ⟨_, I.le _ _ e, rfl⟩⟩
theorem ty_obj {a : Addr} {o : Obj} {T : String} (h : (hd.heap_39 c.w.params).lookup a = some o) (hc : o.cls = .type T) (hd : o.dict = none) : TyIs c (.obj a) T := fun fz s v I r => by
  obtain rfl := r.inv
  have e := I.ge (c.st.k a o h)
  exact ⟨⟨_, e, hc⟩, fun b q => by cases q; exact ⟨_, e, hd⟩⟩

theorem args_any {f : Value} {es : List PySem.Expr} {pos : Pos} {Q : Args → Shared → Prop} {E : Value → Shared → Prop} (hp : ∀ x ∈ backTo pos (starEach es c.env), x.1 = false)
    (h : wpAny c.M c.A (spliced (backTo pos (starEach es c.env))) (fun vs s' => Q ⟨vs, []⟩ s') E s) : wpAny c.M c.A (evalArgs f true (backTo pos (starEach es c.env)) []) Q E s := by
  generalize hl : backTo pos (starEach es c.env) = l at h hp ⊢
  cases l with
  | nil =>
    unfold evalArgs
    show wpAny c.M c.A (spliced [] >>= _) Q E s
    refine wpAny_bind (wpAny_mono h (fun vs s' h' => ?_) fun _ _ x => x)
    refine wpAny_bind (wpAny_pure (wpAny_holding ?_))
    exact wpAny_bind (wpAny_pure (wpAny_bind (wpAny_pure (wpAny_pure h'))))
  | cons x r =>
    obtain ⟨b, t⟩ := x
    have : b = false := hp (b, t) (.head _)
    subst this
    exact evalArgs_plain h

theorem plain_args {es : List PySem.Expr} {pos : Pos} (h : (es.all fun e => match e with | .Starred .. => false | _ => true) = true) : ∀ x ∈ backTo pos (starEach es c.env), x.1 = false := by
  induction es with
  | nil => intro x hx; cases hx
  | cons e r ih =>
    rw [List.all_cons, Bool.and_eq_true] at h
    have he : starEach (e :: r) c.env = (false, eval e c.env) :: starEach r c.env := by
      cases e <;> first | rfl | (exact absurd h.1 Bool.false_ne_true)
    rw [he]
    intro x hx
    rcases List.mem_cons.mp (show x ∈ (false, eval e c.env) :: backTo pos (starEach r c.env) from hx) with rfl | hx
    · rfl
    · exact ih h.2 x hx

theorem ev_method {o : PySem.Expr} {name : Str} {apos pos : Pos} {es : List PySem.Expr} {T id : String} {d₀ : D} {ds : List D} (ho : EV c ρ own o d₀) (hes : EVs c ρ own es ds) (hT : TyIs c d₀ T)
    (pa : PlainAttrs T) (slot : Slot T name id) (hty : typeOf (.builtin id) = pure (.type "method_descriptor")) (op : OPs c (fun vs => call (.builtin id) vs) (d₀ :: ds) d)
    (hbase : attributeBase o name c.env (eval o c.env) = eval o c.env) (hpl : (es.all fun e => match e with | .Starred .. => false | _ => true) = true)
    (hln : es.length < 30) (hline : (apos.endLine == pos.line) = true) : EV c ρ own (.Call (.Attribute o name apos) es [] pos) d := EV.mk fun fz s F Q E hQ => by
  have hst := plain_args (c := c) (pos := pos) hpl
  refine wpAny_Call_method hbase ?_ hline pa slot hty ?_
  · rw [Bool.and_eq_true, Bool.and_eq_true]
    refine ⟨⟨List.all_eq_true.mpr fun x hx => by rw [hst x hx]; rfl, rfl⟩, ?_⟩
    simp only [List.length_nil, List.isEmpty_nil, if_true, Nat.add_zero]
    exact decide_eq_true hln
  refine ho fz s F _ _ fun v fz₁ s₁ N₁ F₁ r₁ => ?_
  obtain ⟨h1, h2⟩ := hT fz₁ s₁ v F₁.I r₁
  refine ⟨h1, h2, callWith_builtin (List.any_eq_false.mpr fun x hx => by rw [hst x hx]; exact Bool.false_ne_true) (args_any hst ?_)⟩
  exact hes fz₁ s₁ F₁ _ _ _ fun vs fz₂ s₂ N₂ F₂ r₂ => op fz₂ s₂ (v :: vs) F₂.I F₂.tk (.cons (r₁.mono N₂.mono) r₂) Q E fun v fz' s' N I r => hQ v fz' s' ((N₁.trans N₂).trans N) I r

/- the list of a name grows by one -/
noncomputable def ownSet (own : List Ow) (x : Str) (ds : List D) : List Ow := own.map fun q => if q.name == some x then { q with val := .list ds } else q
theorem ownSet_addr (own : List Ow) (x : Str) (ds : List D) : (ownSet own x ds).map (·.addr) = own.map (·.addr) := by
  unfold ownSet
  rw [List.map_map]
  congr 1
  funext q
  show (if (q.name == some x) = true then _ else _ : Ow).addr = q.addr
  split <;> rfl
theorem nodup_addr {own : List Ow} (h : (own.map (·.addr)).Nodup) {p q : Ow} (hp : p ∈ own) (hq : q ∈ own) (e : p.addr = q.addr) : p = q := by
  induction own with
  | nil => cases hp
  | cons a r ih =>
    rw [List.map_cons, List.nodup_cons] at h
    rcases List.mem_cons.mp hp with rfl | hp' <;> rcases List.mem_cons.mp hq with rfl | hq'
    · rfl
    · exact absurd (List.mem_map.mpr ⟨q, hq', e.symm⟩) h.1
    · exact absurd (List.mem_map.mpr ⟨p, hp', e⟩) h.1
    · exact ih h.2 hp' hq'

theorem ex_append {x : Str} {a : Addr} {ds : List D} {e : PySem.Expr} {np apos pos xpos} {rest : List Stmt} {R : Flow → FZ → Shared → Prop} (he : EV c ρ own e d) (hg : ownGet own x = some (a, ds)) (hu : (own.all fun q => q.name != some x || q.addr == a) = true)
    (h : EX c ρ (ownSet own x (ds ++ [d])) rest R) (hl : ds.length ≤ sizeLine)
    (hline : (apos.endLine == pos.line) = true) (hd : (x == ("__debug__" : Str)) = false)
    (hs : ∀ env, starEach [e] env = [(false, eval e env)]) : EX c ρ own (.Expr (.Call (.Attribute (.Name x np) "append" apos) [e] [] pos) xpos :: rest) R := fun fz s F Q E hQ => by
  have hm := ownGet_mem hg
  have hi : interactive c.env = false := by unfold interactive; rw [c.kind]; rfl
  refine wpAny_execs_cons (wpAny_Expr ?_ hi rfl)
  have htr : backTo pos (starEach [e] c.env) = [(false, eval e c.env)] := by rw [hs]; rfl
  refine wpAny_Call_append rfl (by rw [htr]; rfl) hline htr ?_
  obtain ⟨m, hn, hr, hw⟩ := F.ns
  obtain ⟨hk, hv⟩ := hw _ hm x rfl
  refine wpAny_Name (wpAny_loadName_local c.kind hk hn hv ?_) hd
  obtain ⟨ha, hf, vs, n, hg₁, r₁⟩ := F.ow _ hm
  refine ⟨a, vs.toArray, rfl, ⟨_, n, hg₁, rfl, rfl, rfl⟩, he fz s F _ _ fun v fz₁ s₁ N₁ F₁ r => ?_⟩
  obtain ⟨ha', hf', vs', n', hg', r₁'⟩ := F₁.ow _ hm
  refine wpAny_list_append_plain ⟨n', hg'⟩ (fun h' hl' hs' => ?_) (by rw [List.size_toArray, r₁'.length]; exact hl)
  obtain ⟨n₂, hg₂⟩ := hl'
  obtain ⟨m₁, hn₁, hr₁, hw₁⟩ := F₁.ns
  have hne : a ≠ c.env.locals := Ns_ne hn₁ hg' (by intro es n h; cases h)
  refine h fz₁ _ ⟨F₁.nxBut hs'.extBut ha' (by rw [hs'.1]; exact F₁.nx.size), F₁.I.but hs'.extBut hf' (F₁.ne78 ha') (F₁.ne95 ha'), ⟨m₁, hn₁.sameBut hs' (Ne.symm hne), fun y e hy => ?_, fun q hq y hy => ?_⟩, F₁.lo, fun q hq => ?_, ?_, F₁.tk, (F₁.kp.but hs'.extBut fun b o e => Ne.symm (F₁.kp.own b o e _ hm)).sub fun q hq => let ⟨p, hp, e⟩ := List.mem_map.mp hq; ⟨p, hp, by subst e; split <;> rfl⟩⟩ Q E fun f fz' s' hl r => hQ f fz' s' (fun a o e => hl a o (N₁.mono a o e)) r
  · obtain ⟨u, hb, ru⟩ := hr₁ y e hy
    refine ⟨u, ?_, ru⟩
    rcases hb with hb | ⟨q, hk, hl, hc⟩
    · exact .inl hb
    · exact .inr ⟨q, hk, hl, hc.sameBut hs' (IsCell_ne hc hg' (by intro v h; cases h))⟩
  · obtain ⟨p, hp, e⟩ := List.mem_map.mp hq
    subst e
    have hy' : p.name = some y := by
      split at hy <;> exact hy
    have := hw₁ p hp y hy'
    split <;> exact this
  · obtain ⟨p, hp, e⟩ := List.mem_map.mp hq
    subst e
    obtain ⟨h1, h2, h3⟩ := F₁.ow p hp
    by_cases hpx : (p.name == some x) = true
    · rw [if_pos hpx]
      have hpa : p.addr = a := by
        have := List.all_eq_true.mp hu p hp
        rw [Bool.or_eq_true] at this
        rcases this with q | q
        · rw [bne, hpx] at q; cases q
        · exact beq_iff_eq.mp q
      refine ⟨h1, h2, ?_⟩
      show ∃ vs n, _
      refine ⟨vs' ++ [v], n₂, ?_, (r₁'.append (.cons r .nil))⟩
      rw [hpa]
      simpa [List.push_toArray] using hg₂
    · rw [if_neg hpx]
      refine ⟨h1, h2, h3.keep (fun _ _ e => e) fun o e => ?_⟩
      refine (hs'.2 _ (fun q => ?_)).trans e
      have := nodup_addr F₁.nodup hp hm q
      rw [this] at hpx
      exact hpx (beq_self_eq_true _)
  · rw [ownSet_addr]; exact F₁.nodup

/- a list that grows no more -/
theorem ex_freeze {x : Str} {a : Addr} {ds : List D} {ss : List Stmt} {R : Flow → FZ → Shared → Prop} (hg : ownGet own x = some (a, ds)) (hr : (ρ.any fun q => q.1 == x) = false)
    (h : EX c ((x, .list ds) :: ρ) (own.filter fun q => q.addr != a) ss R) : EX c ρ own ss R := fun fz s F Q E hQ => by
  have hm := ownGet_mem hg
  obtain ⟨ha, hf, vs, n, hg₁, r₁⟩ := F.ow _ hm
  obtain ⟨m, hn, hr', hw⟩ := F.ns
  have hle := FZ.put_le (o := listO vs n) hf
  have hLa : c.env.locals ≠ a := Ne.symm (Ns_ne hn hg₁ (by intro es n h; cases h))
  refine h (fz.put a (listO vs n)) s ⟨F.nx.freeze hf ha, F.I.freeze hg₁ hf (F.ne78 ha) (F.ne95 ha), ⟨m, hn, fun y e hy => ?_, fun q hq => hw q (List.mem_filter.mp hq).1⟩, ⟨F.lo.1, by rw [FZ.put_ne _ _ hLa]; exact F.lo.2⟩, fun q hq => ?_, ?_, F.tk, (F.kp.sub fun q hq => ⟨q, (List.mem_filter.mp hq).1, rfl⟩).freeze hf fun b hb => (F.kp.loose b hb).2.1 _ hm⟩ Q E fun f fz' s' hl r => hQ f fz' s' (fun a o e => hl a o (hle a o e)) r
  · rw [List.lookup_cons] at hy
    split at hy
    · rename_i q
      cases hy
      rw [beq_iff_eq.mp q]
      obtain ⟨hk, hv⟩ := hw _ hm x rfl
      exact ⟨_, .inl ⟨hk, hv⟩, .list (FZ.put_self _ _ _) (r₁.mono hle)⟩
    · obtain ⟨u, hb, ru⟩ := hr' y e hy
      exact ⟨u, hb, ru.mono hle⟩
  · obtain ⟨hq', hqa⟩ := List.mem_filter.mp hq
    obtain ⟨h1, h2, h3⟩ := F.ow q hq'
    have hqa' : q.addr ≠ a := by simpa using hqa
    exact ⟨h1, by rw [FZ.put_ne _ _ hqa']; exact h2, h3.keep hle fun o e => e⟩
  · exact (List.filter_sublist.map _).nodup F.nodup
end
end Mine
end A8

section A9
open PySem PySem.W PySem.Spec PySem.Calls PyProof.Rows
namespace Mine

section
variable {c : Cx} {ρ ρ' : List (Str × D)} {own own' : List Ow} {fz fz' : FZ} {s s' : Shared} {d : D}

theorem Frm.drop {q : Ow} (F : Frm c ρ (q :: own) fz s) : Frm c ρ own fz s := by
  obtain ⟨m, hn, hr, hw⟩ := F.ns
  exact ⟨F.nx, F.I, ⟨m, hn, hr, fun p hp => hw p (.tail _ hp)⟩, F.lo, fun p hp => F.ow p (.tail _ hp), (List.nodup_cons.mp F.nodup).2, F.tk, F.kp.sub fun p hp => ⟨p, .tail _ hp, rfl⟩⟩

/- the object of the first entry changes -/
theorem Frm.upd {n : Option Str} {a : Addr} {v v' : OwV} {h' : Heap} (F : Frm c ρ (⟨n, a, v⟩ :: own) fz s) (hs : Heap.ExtBut a s.heap h') (hv : v'.Holds fz h' a) {tk : Nat} (htk : 1 ≤ tk) :
    Frm c ρ (⟨n, a, v'⟩ :: own) fz { s with heap := h', toks := tk } := by
  obtain ⟨m, hn, hr, hw⟩ := F.ns
  obtain ⟨ha, hf, hv₀⟩ := F.ow _ (.head _)
  obtain ⟨o, hg, hd1, hd2⟩ := hv₀.get
  have hne : a ≠ c.env.locals := Ns_ne hn hg hd1
  have hn' : h'.Ns c.env.locals m := hn.extBut hs (Ne.symm hne)
  refine ⟨F.nxBut hs ha (Nat.le_of_lt (Nat.lt_of_le_of_lt F.lo.1 hn'.lt)), F.I.but hs hf (F.ne78 ha) (F.ne95 ha), ⟨m, hn', fun y e hy => ?_, fun q hq y hy => ?_⟩, F.lo, fun q hq => ?_, F.nodup, htk, (F.kp.but hs fun b o e => Ne.symm (F.kp.own b o e _ (.head _))).sub fun p hp => by
    rcases List.mem_cons.mp hp with rfl | hp
    · exact ⟨_, .head _, rfl⟩
    · exact ⟨p, .tail _ hp, rfl⟩⟩
  · obtain ⟨u, hb, ru⟩ := hr y e hy
    refine ⟨u, ?_, ru⟩
    rcases hb with hb | ⟨q, hk, hl, hc⟩
    · exact .inl hb
    · obtain ⟨o', ho', hd'⟩ := id hc
      exact .inr ⟨q, hk, hl, o', hs _ _ (IsCell_ne hc hg hd2) ho', hd'⟩
  · rcases List.mem_cons.mp hq with rfl | hq'
    · exact hw _ (.head _) y hy
    · exact hw q (.tail _ hq') y hy
  · rcases List.mem_cons.mp hq with rfl | hq'
    · exact ⟨ha, hf, hv⟩
    · obtain ⟨h1, h2, h3⟩ := F.ow q (.tail _ hq')
      refine ⟨h1, h2, h3.keep (fun _ _ e => e) fun o' e => hs _ _ (fun e' => ?_) e⟩
      exact (List.nodup_cons.mp F.nodup).1 (List.mem_map.mpr ⟨q, hq', e'⟩)

/- .. and is let go -/
theorem Frm.dropBut {n : Option Str} {a : Addr} {v : OwV} {h' : Heap} (F : Frm c ρ (⟨n, a, v⟩ :: own) fz s) (hs : Heap.ExtBut a s.heap h') {tk : Nat} (htk : 1 ≤ tk) :
    Frm c ρ own fz { s with heap := h', toks := tk } := by
  obtain ⟨m, hn, hr, hw⟩ := F.ns
  obtain ⟨ha, hf, hv₀⟩ := F.ow _ (.head _)
  obtain ⟨o, hg, hd1, hd2⟩ := hv₀.get
  have hne : a ≠ c.env.locals := Ns_ne hn hg hd1
  have hn' : h'.Ns c.env.locals m := hn.extBut hs (Ne.symm hne)
  refine ⟨F.nxBut hs ha (Nat.le_of_lt (Nat.lt_of_le_of_lt F.lo.1 hn'.lt)), F.I.but hs hf (F.ne78 ha) (F.ne95 ha), ⟨m, hn', fun y e hy => ?_, fun q hq y hy => hw q (.tail _ hq) y hy⟩, F.lo, fun q hq => ?_, (List.nodup_cons.mp F.nodup).2, htk, (F.kp.but hs fun b o e => Ne.symm (F.kp.own b o e _ (.head _))).sub fun p hp => ⟨p, .tail _ hp, rfl⟩⟩
  · obtain ⟨u, hb, ru⟩ := hr y e hy
    refine ⟨u, ?_, ru⟩
    rcases hb with hb | ⟨q, hk, hl, hc⟩
    · exact .inl hb
    · obtain ⟨o', ho', hd'⟩ := id hc
      exact .inr ⟨q, hk, hl, o', hs _ _ (IsCell_ne hc hg hd2) ho', hd'⟩
  · obtain ⟨h1, h2, h3⟩ := F.ow q (.tail _ hq)
    refine ⟨h1, h2, h3.keep (fun _ _ e => e) fun o' e => hs _ _ (fun e' => ?_) e⟩
    exact (List.nodup_cons.mp F.nodup).1 (List.mem_map.mpr ⟨q, hq, e'⟩)

/- a new object that the def alone holds -/
theorem Frm.alloc {o : Obj} {v : OwV} (F : Frm c ρ own fz s) (hv : v.Holds fz (s.heap.push o) s.heap.objs.size) {tk : Nat} (htk : 1 ≤ tk) : Frm c ρ (⟨none, s.heap.objs.size, v⟩ :: own) fz { s with heap := s.heap.push o, toks := tk } := by
  have F' : Frm c ρ own fz { s with heap := s.heap.push o, toks := tk } := F.ext (fun b o' hb e => Heap.get?_push_of_some _ e) htk
  obtain ⟨m, hn, hr, hw⟩ := F'.ns
  refine ⟨F'.nx, F'.I, ⟨m, hn, hr, fun q hq y hy => ?_⟩, F'.lo, fun q hq => ?_, ?_, htk, F'.kp.cons (fun b o e => Nat.ne_of_gt (F.kp.lt e)) fun b e => Nat.ne_of_gt (F.kp.ltN F.I e)⟩
  · rcases List.mem_cons.mp hq with rfl | hq'
    · cases hy
    · exact hw q hq' y hy
  · rcases List.mem_cons.mp hq with rfl | hq'
    · exact ⟨F.nx.size, F.I.fresh (Nat.le_refl _), hv⟩
    · exact F'.ow q hq'
  · rw [List.map_cons, List.nodup_cons]
    refine ⟨fun hm => ?_, F.nodup⟩
    obtain ⟨q, hq, e⟩ := List.mem_map.mp hm
    obtain ⟨o, hg, _⟩ := (F.ow q hq).2.2.get
    exact absurd (Heap.lt_size hg) (by rw [e]; exact Nat.lt_irrefl _)

/- for over a list that stands still -/
noncomputable def listIt (l : Addr) (i : Nat) : OPred where
  P := fun h a => h.IsListIter a l i
  stab := fun h h' a hk x => let ⟨o, ho, r⟩ := x; ⟨o, hk o ho, r⟩
  get := fun h a x => let ⟨o, ho, _, hd⟩ := x; ⟨o, ho, (by rw [hd]; intro es n h; cases h), (by rw [hd]; intro v h; cases h)⟩

theorem IsList_of {fz : FZ} {s : Shared} {G : Heap} (I : Inv G fz s) {l : Addr} {vs : List Value} {n : Nat} (h : fz l = some (listO vs n)) : s.heap.IsList l vs.toArray := ⟨_, I.le _ _ h, rfl, n, rfl⟩

noncomputable def tgtOk (t : PySem.Expr) (v : Value) : Bool := match t, v with
  | .Name .., _ => true
  | .Tuple .., .ref _ => true
  | _, _ => false
/- taking the item out of a list's own iterator leaves the tuple alone -/
theorem letOwned_list {M : Model} {A : Around} {t : PySem.Expr} {it l : Addr} {i : Nat} {v : Value} {Q : Unit → Shared → Prop} {E : Value → Shared → Prop} (hit : s.heap.IsListIter it l i)
    (ht : tgtOk t v = true) (hQ : Q () s) : wpAny M A (letOwnedTupleGo t (.ref it) v) Q E s := by
  unfold tgtOk at ht
  split at ht
  · exact wpAny_pure hQ
  · rename_i elts k pos a
    obtain ⟨o, ho, hc, hd⟩ := hit
    unfold letOwnedTupleGo
    refine wpAny_bind (wpAny_load ho ?_)
    rw [hc, hd]
    show wpAny M A (if (["enumerate", "zip", "dict_itemiterator", "dict_reverseitemiterator", "odict_iterator", "itertools.zip_longest", "itertools.pairwise"].contains "list_iterator" && _) = true then _ else _) Q E s
    rw [if_neg (by
      intro h
      rw [Bool.and_eq_true] at h
      exact absurd h.1 (by decide))]
    exact wpAny_pure hQ
  · cases ht

noncomputable def isTup : D → Bool
  | .tuple _ => true
  | _ => false
noncomputable def tgtFor (t : PySem.Expr) (d : D) : Bool := match t with
  | .Name .. => true
  | .Tuple .. => isTup d
  | _ => false
theorem tgtOk_of {t : PySem.Expr} {v : Value} {d : D} (r : Rep fz v d) (h : tgtFor t d = true) : tgtOk t v = true := by
  unfold tgtFor at h
  split at h
  · rfl
  · cases r <;> first | rfl | (exact absurd h Bool.false_ne_true)
  · cases h

end
end Mine
end A9

section A10
open PySem PySem.W PySem.Spec PySem.Calls PyProof.Rows
namespace Mine

/- names bound, side by side -/
inductive RBs (fz : FZ) : List (Str × Value) → List (Str × D) → Prop
  | nil : RBs fz [] []
  | cons {x : Str} {v : Value} {d : D} {bs : List (Str × Value)} {ρ : List (Str × D)} : Rep fz v d → RBs fz bs ρ → RBs fz ((x, v) :: bs) ((x, d) :: ρ)
theorem RBs.append {fz : FZ} : ∀ {a b : List (Str × Value)} {ρ σ : List (Str × D)}, RBs fz a ρ → RBs fz b σ → RBs fz (a ++ b) (ρ ++ σ)
  | _, _, _, _, .nil, h => h
  | _, _, _, _, .cons r q, h => .cons r (RBs.append q h)
theorem RBs.reverse {fz : FZ} : ∀ {a : List (Str × Value)} {ρ : List (Str × D)}, RBs fz a ρ → RBs fz a.reverse ρ.reverse
  | _, _, .nil => .nil
  | _, _, .cons r q => by rw [List.reverse_cons, List.reverse_cons]; exact RBs.append (RBs.reverse q) (.cons r .nil)
theorem RBs.lookup {fz : FZ} : ∀ {a : List (Str × Value)} {ρ : List (Str × D)}, RBs fz a ρ → ∀ {x : Str} {d : D}, ρ.lookup x = some d → ∃ v, a.lookup x = some v ∧ Rep fz v d
  | _, _, .nil, _, _, h => by cases h
  | _, _, .cons (x := n) r q, x, d, h => by
    rw [List.lookup_cons] at h ⊢
    cases hb : x == n with
    | true => rw [hb] at h; cases h; exact ⟨_, rfl, r⟩
    | false => rw [hb] at h; exact RBs.lookup q h
theorem RBs.zip {fz : FZ} : ∀ (names : List Str) {vs : List Value} {ds : List D}, Reps fz vs ds → RBs fz (names.zip vs) (names.zip ds)
  | [], _, _, _ => by simpa using RBs.nil
  | _ :: _, _, _, .nil => by simpa using RBs.nil
  | n :: r, _, _, .cons a b => .cons a (RBs.zip r b)
theorem RBs.keys {fz : FZ} : ∀ {a : List (Str × Value)} {ρ : List (Str × D)}, RBs fz a ρ → a.map (·.1) = ρ.map (·.1)
  | _, _, .nil => rfl
  | _, _, .cons r q => by rw [List.map_cons, List.map_cons, RBs.keys q]

theorem lookup_mem {ρ : List (Str × D)} {x : Str} {d : D} (e : ρ.lookup x = some d) : (x, d) ∈ ρ := by
  induction ρ with
  | nil => cases e
  | cons p q ih =>
    rw [List.lookup_cons] at e
    split at e
    · rename_i hq; cases e; rw [beq_iff_eq.mp hq]; exact .head _
    · exact .tail _ (ih e)

section
variable {c : Cx} {d : D}

/- the frame of a def that is entered -/
noncomputable def defEnv (scope : Scope) (qual : Str) (code : Value) (a L : Addr) : Env := { scope := scope, locals := L, globals := mainGlobals, cells := [], qual := qual ++ ".<locals>.", func := some a, code := code, frame := some L, builtins := builtinsNs }

/- a def of the text that is no generator and lends no name to inner ones -/
structure PlainFn (w : World) (a : Addr) (oc : Value) (od : Option Addr) (sl : Array (Option Value)) (fd : FuncData) (body : List Stmt) : Prop where
  at_ : (hd.heap_39 w.params).lookup a = some ⟨oc, od, .func fd, sl⟩
  co : fd.scope.isCoroutine = false
  gen : fd.scope.isGenerator = false
  body : fd.body = .stmts body
  kind : fd.scope.kind = .function
  glob : fd.globals = mainGlobals
  bi : fd.builtins = builtinsNs
  clos : fd.closure = []
  cells : ∀ x ∈ fd.scope.names, x.2 ≠ .cell
  code : codeIn (hd.heap_39 w.params) fd.code fd.qualname = true

theorem call_def {a : Addr} {oc : Value} {od : Option Addr} {sl : Array (Option Value)} {fd : FuncData} {body : List Stmt} {ds : List D} {ρ : List (Str × D)} (f : PlainFn c.w a oc od sl fd body)
    (hb : ∀ fz s vs, Inv c.G fz s → Reps fz vs ds → ∃ binds, BindsTo s fd ⟨vs, []⟩ binds ∧ RBs fz binds.reverse ρ)
    (hl : (ρ.all fun x => fd.scope.names.lookup x.1 == some .local) = true) (hk : 1 ≤ c.k)
    (h : ∀ c' : Cx, c'.w = c.w → c'.G = c.G → c'.k + 1 = c.k → ∀ L, c'.env = defEnv fd.scope fd.qualname fd.code a L → EX c' ρ [] body (RetR c' d)) :
    OPs c (fun vs => call (.ref a) vs) ds d := fun fz s vs I tk rs Q E hQ => by
  obtain ⟨mg, mb, T⟩ := c.st.top
  have hge : ∀ {h' : Heap}, (∀ b o, s.heap.get? b = some o → h'.get? b = some o) → ∀ b o, c.G.get? b = some o → h'.get? b = some o := fun hk b o e => hk _ _ (I.ge e)
  refine wpAny_call (codeAny_call_function c.room.dlt (I.ge (c.st.k a _ f.at_)) rfl f.co f.gen f.body ((codeRec_of c.st.k f.code).keeps fun b o e => I.ge e) ?_)
  obtain ⟨binds, hbt, rb⟩ := hb fz s vs I rs
  refine hbt _ _ _ _ ?_
  rw [f.glob, f.bi, f.clos]
  refine wpAny_newFunctionEnv f.cells (fun x hx => ?_) (fun h' hn hs => ?_) f.kind
  · have : x.1 ∈ ρ.map (·.1) := by rw [← rb.keys, List.map_reverse, List.mem_reverse]; exact List.mem_map.mpr ⟨x, hx, rfl⟩
    obtain ⟨y, hy, e⟩ := List.mem_map.mp this
    rw [← e]
    exact eq_of_beq (List.all_eq_true.mp hl y hy)
  · have hk' : ∀ b o, s.heap.get? b = some o → h'.get? b = some o := fun b o e => hs.extBut b o (Nat.ne_of_lt (Heap.lt_size e)) (Heap.get?_push_of_some _ e)
    refine ⟨T.nolimit.keeps (hge hk'), ?_⟩
    refine codeAny_func ?_
    obtain ⟨j, hj⟩ : ∃ j, c.k = j + 1 := ⟨c.k - 1, by (first | lia | omega)⟩
    let c' : Cx := { w := c.w, G := c.G, A := c.A.deeper (defEnv fd.scope fd.qualname fd.code a s.heap.objs.size), env := defEnv fd.scope fd.qualname fd.code a s.heap.objs.size, fz₀ := fz, s₀ := s, k := j, st := c.st, room := Room.deeper (by rw [← hj]; exact c.room), kind := f.kind, glob := rfl, bi := rfl, big := I.lt95 }
    have hext : Heap.ExtBut s.heap.objs.size s.heap h' := fun b o hb e => hk' b o e
    have hsz : s.heap.objs.size ≤ h'.objs.size := by rw [hs.1, Heap.size_push]; (first | lia | omega)
    have F : Frm c' ρ [] fz { s with heap := h', toks := s.toks + binds.length } := by
      obtain ⟨N, I'⟩ := ext_next (c := c') (tk := s.toks + binds.length) I hext hsz
      refine ⟨N, I', ⟨_, hn, fun x d e => ?_, fun q hq => nomatch hq⟩, ⟨Nat.le_refl _, I.fresh (Nat.le_refl _)⟩, fun q hq => (nomatch hq), List.nodup_nil, Nat.le_trans tk (Nat.le_add_right _ _), Kept.none rfl rfl rfl⟩
      obtain ⟨v, hv, r⟩ := rb.lookup e
      refine ⟨v, .inl ⟨?_, hv⟩, r⟩
      have : (x, d) ∈ ρ := lookup_mem e
      exact eq_of_beq (List.all_eq_true.mp hl _ this)
    refine h c' rfl rfl hj.symm s.heap.objs.size rfl fz _ F _ _ ?_
    rintro fl fz' s' hle ⟨v, rfl, N, I', r⟩
    exact hQ v fz' s' N I' r

/- arguments by place, all of them -/
theorem binds_pos {fd : FuncData} {names : List Str} {ds : List D} (h : ∀ vs : List Value, vs.length = names.length → bindArgs fd ⟨vs, []⟩ = pure (names.zip vs)) (hn : ds.length = names.length) :
    ∀ fz s vs, Inv c.G fz s → Reps fz vs ds → ∃ binds, BindsTo s fd ⟨vs, []⟩ binds ∧ RBs fz binds.reverse (names.zip ds).reverse := fun fz s vs I rs =>
  ⟨_, .of_eq (h vs (by rw [rs.length, hn])), (RBs.zip names rs).reverse⟩
end
end Mine
end A10

section A11
open PySem PySem.W PySem.Spec PySem.Calls PyProof.Rows
namespace Mine

/- an iterator I that hands out item 0 .. item (n - 1), one after the other; es i: what it holds alone before the i-th -/
structure ITR (w : World) (G : Heap) (t : PySem.Expr) (I : Addr) (n : Nat) (item : Nat → D) (es : Nat → List Ow) (Ok : FZ → Prop) : Prop where
  mono : ∀ fz fz', FZ.le fz fz' → Ok fz → Ok fz'
  names : ∀ i, ∀ q ∈ es i, q.name = none
  self : ∀ (c : Cx), c.w = w → c.G = G → ∀ ρ own fz s i, Frm c ρ (es i ++ own) fz s → ∀ (Q : Value → Shared → Prop) (E : Value → Shared → Prop), Q (.ref I) s → wpAny c.M c.A (pyIter (.ref I)) Q E s
  nxt : ∀ (c : Cx), c.w = w → c.G = G → ∀ ρ own fz s i, i < n → Frm c ρ (es i ++ own) fz s → Ok fz → ∀ (Q : Option Value → Shared → Prop) (E : Value → Shared → Prop),
    (∀ v fz' s₁, FZ.le fz fz' → (∀ (Q' : Unit → Shared → Prop) (E' : Value → Shared → Prop), (∀ s₂, Frm c ρ (es (i + 1) ++ own) fz' s₂ → Rep fz' v (item i) → Q' () s₂) → wpAny c.M c.A (letOwnedTupleGo t (.ref I) v) Q' E' s₁) → Q (some v) s₁) →
    wpAny c.M c.A (pyNext (.ref I)) Q E s
  done : ∀ (c : Cx), c.w = w → c.G = G → ∀ ρ own fz s, Frm c ρ (es n ++ own) fz s → Ok fz → ∀ (Q : Option Value → Shared → Prop) (E : Value → Shared → Prop),
    (∀ fz' s', FZ.le fz fz' → Frm c ρ own fz' s' → Q none s') → wpAny c.M c.A (pyNext (.ref I)) Q E s

section
variable {c : Cx} {ρ ρ' : List (Str × D)} {own own' : List Ow} {fz fz' : FZ} {s s' : Shared} {d : D}

/- an expression that is iterated over -/
noncomputable def ITERS (c : Cx) (ρ : List (Str × D)) (own : List Ow) (t iter : PySem.Expr) (n : Nat) (item : Nat → D) : Prop :=
  ∀ fz s, Frm c ρ own fz s → ∀ (Q : Value → Shared → Prop) (E : Value → Shared → Prop),
    (∀ I es Ok fz' s', FZ.le fz fz' → ITR c.w c.G t I n item es Ok → Ok fz' → Frm c ρ (es 0 ++ own) fz' s' → Q (.ref I) s') →
    wpAny c.M c.A (eval iter c.env) (fun x s₁ => wpAny c.M c.A (pyIter x) Q E s₁) E s

theorem ex_forI {t iter : PySem.Expr} {body rest : List Stmt} {pos} {n : Nat} {item : Nat → D} {R : Flow → FZ → Shared → Prop} (hi : ITERS c ρ own t iter n item) (ρs : Nat → List (Str × D)) (ows : Nat → List Ow)
    (h0 : ∀ p ∈ ρs 0, ρ.lookup p.1 = some p.2) (hw0 : ows 0 = own)
    (turn : ∀ i es, i < n → (∀ q ∈ es, q.name = none) → ∃ ρ', AS c (ρs i) (es ++ ows i) t (item i) ρ' ∧ EX c ρ' (es ++ ows i) body (NextR c (ρs (i + 1)) (es ++ ows (i + 1))))
    (fin : EX c (ρs n) (ows n) rest R)
    (hs : ∀ x, foldedSetIterable iter c.env x = pure x) : EX c ρ own (.For t iter body [] pos :: rest) R := fun fz s F Q E hQ => by
  refine wpAny_execs_cons (wpAny_For (hi fz s F _ _ fun I es Ok fz₁ s₁ hl₁ W hok F₁ => ?_) hs)
  have F₂ : Frm c (ρs 0) (es 0 ++ ows 0) fz₁ s₁ := by rw [hw0]; exact F₁.weaken h0
  refine codeAny_forLoop_any (fun m s' => ∃ i fz', m = n - i ∧ i ≤ n ∧ FZ.le fz₁ fz' ∧ Frm c (ρs i) (es i ++ ows i) fz' s' ∧ Ok fz') ?_ n ⟨0, fz₁, rfl, Nat.zero_le _, fun _ _ e => e, F₂, hok⟩
  rintro m s₃ ⟨i, fz₃, rfl, hle, hl₃, F₃, ok₃⟩
  by_cases hx : i < n
  · refine W.nxt c rfl rfl _ _ fz₃ s₃ i hx F₃ ok₃ _ _ fun v fz₄ s₄ hl₄ hlet => hlet _ _ fun s₅ F₅ r => ?_
    obtain ⟨ρ', ha, hb⟩ := turn i (es (i + 1)) hx (W.names (i + 1))
    have F₆ : Frm c (ρs i) (es (i + 1) ++ ows i) fz₄ s₅ := F₅
    refine ha fz₄ s₅ v F₆ r _ _ fun s₆ F₇ => hb fz₄ s₆ F₇ _ _ ?_
    rintro f fz₇ s₇ hl₇ ⟨rfl, F₈⟩
    exact ⟨n - (i + 1), Nat.sub_lt_sub_left hx (Nat.lt_succ_self i), i + 1, fz₇, rfl, hx, fun a o e => hl₇ a o (hl₄ a o (hl₃ a o e)), F₈, W.mono _ _ (fun a o e => hl₇ a o (hl₄ a o e)) ok₃⟩
  · have hi' : i = n := Nat.le_antisymm hle (Nat.not_lt.mp hx)
    subst hi'
    refine W.done c rfl rfl _ _ fz₃ s₃ F₃ ok₃ _ _ fun fz₄ s₄ hl₄ F₄ => wpAny_execs_nil ?_
    exact fin fz₄ s₄ F₄ Q E fun f fz' s' hl r => hQ f fz' s' (fun a o e => hl a o (hl₄ a o (hl₃ a o (hl₁ a o e)))) r

/- a list -/
theorem itr_list {w : World} {G : Heap} {t : PySem.Expr} {I l : Addr} {vs : List Value} {n : Nat} {ds : List D} (ht : ∀ d ∈ ds, tgtFor t d = true) :
    ITR w G t I ds.length (fun i => ds.getD i .none) (fun i => [⟨none, I, .pr (listIt l i)⟩]) (fun fz => fz l = some (listO vs n) ∧ Reps fz vs ds) where
  mono := fun fz fz' h x => ⟨h _ _ x.1, x.2.mono h⟩
  names := fun i q hq => by rcases List.mem_cons.mp hq with rfl | h; rfl; cases h
  self := fun c _ _ ρ own fz s i F Q E hQ => by
    have hit : s.heap.IsListIter I l i := (F.ow _ (.head _)).2.2
    exact wpAny_pyIter_listiter hit hQ
  nxt := fun c _ _ ρ own fz s i hi F ok Q E hQ => by
    have hit : s.heap.IsListIter I l i := (F.ow _ (.head _)).2.2
    have hd : ds[i]? = some (ds.getD i .none) := by rw [List.getD_eq_getElem?_getD, List.getElem?_eq_getElem hi]; rfl
    obtain ⟨v, hv, r⟩ := ok.2.get i _ hd
    refine wpAny_pyNext_list_item hit (IsList_of F.I ok.1) (by rw [List.getElem?_toArray]; exact hv) fun h' hit' hs' => ?_
    have F' : Frm c ρ (⟨none, I, .pr (listIt l (i + 1))⟩ :: own) fz { s with heap := h', toks := s.toks } := F.upd (v' := .pr (listIt l (i + 1))) hs'.extBut hit' F.tk
    exact hQ v fz _ (fun _ _ e => e) fun Q' E' hq => letOwned_list hit' (tgtOk_of r (ht _ (List.mem_of_getElem? hd))) (hq _ F' r)
  done := fun c _ _ ρ own fz s F ok Q E hQ => by
    have hit : s.heap.IsListIter I l ds.length := (F.ow _ (.head _)).2.2
    refine wpAny_pyNext_list_end c.room.handled hit (IsList_of F.I ok.1) (by rw [List.getElem?_toArray, List.getElem?_eq_none_iff, ok.2.length]; exact Nat.le_refl _) fun h' hs' => ?_
    exact hQ fz _ (fun _ _ e => e) (F.dropBut hs' F.tk)
theorem iters_list {t iter : PySem.Expr} {ds : List D} (hi : EV c ρ own iter (.list ds)) (ht : ∀ d ∈ ds, tgtFor t d = true) : ITERS c ρ own t iter ds.length (fun i => ds.getD i .none) := fun fz s F Q E hQ =>
  hi fz s F _ _ fun v fz₁ s₁ N₁ F₁ r₁ => by
    obtain ⟨l, vs, n, rfl, e, rs⟩ := r₁.inv
    ·
      refine wpAny_pyIter_list (IsList_of F₁.I e) ?_
      refine hQ _ _ _ fz₁ _ N₁.mono (itr_list (l := l) (vs := vs) (n := n) ht) ⟨e, rs⟩ ?_
      exact F₁.alloc (v := .pr (listIt l 0)) ⟨_, Heap.get?_push_size _ rfl, rfl, rfl⟩ F₁.tk

/- a text -/
noncomputable def strIt (T : String) (x : Str) (t : Tok) (i : Nat) : OPred where
  P := fun h a => h.IsStrIter a T x t i
  stab := fun h h' a hk x => let ⟨o, ho, r⟩ := x; ⟨o, hk o ho, r⟩
  get := fun h a x => let ⟨o, ho, _, hd⟩ := x; ⟨o, ho, (by rw [hd]; intro es n h; cases h), (by rw [hd]; intro v h; cases h)⟩
noncomputable def signAt (x : Str) (i : Nat) : D := .str ⟨#[x.cps.getD i 0]⟩
theorem itr_ascii {w : World} {G : Heap} {v : Str} {p : Pos} {I : Addr} {x : Str} {t : Tok} :
    ITR w G (.Name v p) I x.cps.size (signAt x) (fun i => [⟨none, I, .pr (strIt "str_ascii_iterator" x t i)⟩]) (fun _ => True) where
  mono := fun _ _ _ _ => trivial
  names := fun i q hq => by rcases List.mem_cons.mp hq with rfl | h; rfl; cases h
  self := fun c _ _ ρ own fz s i F Q E hQ => wpAny_pyIter_striter_ascii (F.ow _ (.head _)).2.2 hQ
  nxt := fun c _ _ ρ own fz s i hi F ok Q E hQ => by
    have hit : s.heap.IsStrIter I "str_ascii_iterator" x t i := (F.ow _ (.head _)).2.2
    have hd : x.cps[i]? = some (x.cps.getD i 0) := by simp [Array.getD, hi]
    refine wpAny_pyNext_ascii_item hit hd fun h' hit' hs' => ?_
    exact hQ _ fz _ (fun _ _ e => e) fun Q' E' hq => wpAny_pure (hq _ (F.upd (v' := .pr (strIt "str_ascii_iterator" x t (i + 1))) hs'.extBut hit' (Nat.le_succ_of_le F.tk)) (.str _ _))
  done := fun c _ _ ρ own fz s F ok Q E hQ =>
    wpAny_pyNext_ascii_end c.room.handled (F.ow _ (.head _)).2.2 (by simp) fun h' hs' => hQ fz _ (fun _ _ e => e) (F.dropBut hs' F.tk)
theorem itr_wide {w : World} {G : Heap} {v : Str} {p : Pos} {I : Addr} {x : Str} {t : Tok} :
    ITR w G (.Name v p) I x.cps.size (signAt x) (fun i => [⟨none, I, .pr (strIt "str_iterator" x t i)⟩]) (fun _ => True) where
  mono := fun _ _ _ _ => trivial
  names := fun i q hq => by rcases List.mem_cons.mp hq with rfl | h; rfl; cases h
  self := fun c _ _ ρ own fz s i F Q E hQ => wpAny_pyIter_striter_wide (F.ow _ (.head _)).2.2 hQ
  nxt := fun c _ _ ρ own fz s i hi F ok Q E hQ => by
    have hit : s.heap.IsStrIter I "str_iterator" x t i := (F.ow _ (.head _)).2.2
    have hd : x.cps[i]? = some (x.cps.getD i 0) := by simp [Array.getD, hi]
    refine wpAny_pyNext_wide_item hit hd fun h' hit' hs' => ?_
    exact hQ _ fz _ (fun _ _ e => e) fun Q' E' hq => wpAny_pure (hq _ (F.upd (v' := .pr (strIt "str_iterator" x t (i + 1))) hs'.extBut hit' (Nat.le_succ_of_le F.tk)) (.str _ _))
  done := fun c _ _ ρ own fz s F ok Q E hQ =>
    wpAny_pyNext_wide_end c.room.handled (F.ow _ (.head _)).2.2 (by simp) fun h' hs' => hQ fz _ (fun _ _ e => e) (F.dropBut hs' F.tk)
theorem iters_str {v : Str} {p : Pos} {iter : PySem.Expr} {x : Str} (hi : EV c ρ own iter (.str x)) : ITERS c ρ own (.Name v p) iter x.cps.size (signAt x) := fun fz s F Q E hQ =>
  hi fz s F _ _ fun u fz₁ s₁ N₁ F₁ r₁ => by
    obtain ⟨t, rfl⟩ := r₁.inv
    ·
      cases ha : x.cps.all (· < 128)
      · exact wpAny_pyIter_wide ha (hQ _ _ _ fz₁ _ N₁.mono itr_wide trivial (F₁.alloc (v := .pr (strIt "str_iterator" x t 0)) ⟨_, Heap.get?_push_size _ rfl, rfl, rfl⟩ F₁.tk))
      · exact wpAny_pyIter_ascii ha (hQ _ _ _ fz₁ _ N₁.mono itr_ascii trivial (F₁.alloc (v := .pr (strIt "str_ascii_iterator" x t 0)) ⟨_, Heap.get?_push_size _ rfl, rfl, rfl⟩ F₁.tk))
end
end Mine
end A11

section A12
open PySem PySem.W PySem.Spec PySem.Calls PyProof.Rows
namespace Mine
theorem filled : hd.heap_39 = hd.heap_39 ∧ PySem.Challenge.rw_wn0086_01 = PySem.Challenge.rw_wn0086_01 := by
  k_fill
  exact ⟨rfl, rfl⟩

section
variable {c : Cx} {ρ ρ' : List (Str × D)} {own own' : List Ow} {fz fz' : FZ} {s s' : Shared} {d d' : D}

theorem ev_eq {e : PySem.Expr} (h : EV c ρ own e d) (q : d = d') : EV c ρ own e d' := q ▸ h
theorem tv_eq {e : PySem.Expr} {b b' : Bool} (h : TV c ρ own e b) (q : b = b') : TV c ρ own e b' := q ▸ h
theorem op2_eq {t : Value → Value → Sem Value} {d₁ d₂ : D} (h : OP2 c t d₁ d₂ d) (q : d = d') : OP2 c t d₁ d₂ d' := q ▸ h
theorem ops_eq {t : List Value → Sem Value} {ds : List D} (h : OPs c t ds d) (q : d = d') : OPs c t ds d' := q ▸ h

theorem any_es {es : List Ow} {x : Str} (h : ∀ q ∈ es, q.name = none) (h' : (own.any fun q => q.name == some x) = false) : ((es ++ own).any fun q => q.name == some x) = false := by
  rw [List.any_append, h', Bool.or_false, List.any_eq_false]
  intro q hq
  rw [h q hq]
  exact Bool.false_ne_true
theorem find_es {es : List Ow} {x : Str} (h : ∀ q ∈ es, q.name = none) : (es ++ own).find? (fun q => q.name == some x) = own.find? (fun q => q.name == some x) := by
  rw [List.find?_append, List.find?_eq_none.mpr (fun q hq => by rw [h q hq]; exact Bool.false_ne_true)]
  rfl
theorem ownGet_es {es : List Ow} {x : Str} (h : ∀ q ∈ es, q.name = none) : ownGet (es ++ own) x = ownGet own x := by unfold ownGet; rw [find_es h]
theorem ownSet_es {es : List Ow} {x : Str} {ds : List D} (h : ∀ q ∈ es, q.name = none) : ownSet (es ++ own) x ds = es ++ ownSet own x ds := by
  unfold ownSet
  rw [List.map_append]
  congr 1
  conv => rhs; rw [← List.map_id es]
  refine List.map_congr_left fun q hq => ?_
  rw [h q hq]
  rfl
theorem ex_own {ss : List Stmt} {R : Flow → FZ → Shared → Prop} (q : own = own') (h : EX c ρ own' ss R) : EX c ρ own ss R := q ▸ h
theorem ex_rho {ss : List Stmt} {R : Flow → FZ → Shared → Prop} (hw : ∀ p ∈ ρ', ρ.lookup p.1 = some p.2) (h : EX c ρ' own ss R) : EX c ρ own ss R := fun fz s F => h fz s (F.weaken hw)
theorem next_own {ρ' : List (Str × D)} {f : Flow} (q : own = own') (h : NextR c ρ' own f fz s) : NextR c ρ' own' f fz s := q ▸ h

theorem op_le {a b : Int} : OP2 c (compareOp .LtE) (.int a) (.int b) (.bool (decide (a ≤ b))) := fun fz s v₁ v₂ I tk r₁ r₂ Q E hQ => by
  obtain ⟨_, rfl⟩ := r₁.inv; obtain ⟨_, rfl⟩ := r₂.inv; exact P.le_int (fin0' I hQ (.bool _))
theorem op_gt {a b : Int} : OP2 c (compareOp .Gt) (.int a) (.int b) (.bool (decide (a > b))) := fun fz s v₁ v₂ I tk r₁ r₂ Q E hQ => by
  obtain ⟨_, rfl⟩ := r₁.inv; obtain ⟨_, rfl⟩ := r₂.inv; exact P.gt_int (fin0' I hQ (.bool _))
theorem op_ge {a b : Int} : OP2 c (compareOp .GtE) (.int a) (.int b) (.bool (decide (a ≥ b))) := fun fz s v₁ v₂ I tk r₁ r₂ Q E hQ => by
  obtain ⟨_, rfl⟩ := r₁.inv; obtain ⟨_, rfl⟩ := r₂.inv; exact P.ge_int (fin0' I hQ (.bool _))
theorem op_nei {a b : Int} : OP2 c (compareOp .NotEq) (.int a) (.int b) (.bool (a != b)) := fun fz s v₁ v₂ I tk r₁ r₂ Q E hQ => by
  obtain ⟨_, rfl⟩ := r₁.inv; obtain ⟨_, rfl⟩ := r₂.inv; exact P.ne_int (fin0' I hQ (.bool _))

/- texts as lists of numbers -/
noncomputable def S (l : List Nat) : Str := ⟨l.toArray⟩
theorem S_len (l : List Nat) : (S l).length = l.length := by simp [S, Str.length]
theorem S_app (a b : List Nat) : S a ++ S b = S (a ++ b) := by
  show Str.append (S a) (S b) = S (a ++ b)
  simp [Str.append, S]
theorem S_inj {a b : List Nat} (h : S a = S b) : a = b := by
  have := congrArg (fun x : Str => x.cps.toList) h
  simpa [S] using this
theorem S_list (l : List Nat) : (S l).cps.toList = l := by simp [S]
theorem S_of (x : Str) : x = S x.cps.toList := by cases x; simp [S]

theorem rep_foldl (l : List Nat) : ∀ (k : Nat) (acc : Array Nat), (List.replicate k l.toArray).foldl (· ++ ·) acc = (acc.toList ++ (List.replicate k l).flatten).toArray := by
  intro k
  induction k with
  | zero => intro acc; simp
  | succ k ih => intro acc; rw [List.replicate_succ, List.foldl_cons, ih, List.replicate_succ, List.flatten_cons]; simp
theorem S_mul (l : List Nat) (k : Nat) : Txt.mul (S l) (k : Int) = S (List.replicate k l).flatten := by
  unfold Txt.mul
  split
  · rename_i h
    have : k = 0 := by (first | lia | omega)
    subst this
    rfl
  · split
    · rename_i h1 h2
      rw [Bool.or_eq_true] at h2
      rcases h2 with h | h
      · have : k = 1 := by have := beq_iff_eq.mp h; (first | lia | omega)
        subst this
        simp [S]
      · have : l = [] := by
          have := beq_iff_eq.mp h
          rw [S_len] at this
          exact List.eq_nil_of_length_eq_zero this
        subst this
        simp
    · show Str.mk _ = _
      rw [show (S l).cps = l.toArray from rfl, Int.toNat_natCast, rep_foldl]
      simp [S]

theorem op_catS {a b : List Nat} (h : a.length + b.length ≤ 16777216) : OP2 c (binaryOp .Add) (.str (S a)) (.str (S b)) (.str (S (a ++ b))) := by
  rw [← S_app]
  exact op_cat (by rw [S_len, S_len]; exact h)
theorem op_mulS {a : List Nat} {k : Nat} (h : a.length * k ≤ 16777216) (hk : k ≤ 16777216) : OP2 c (binaryOp .Mult) (.str (S a)) (.int (k : Int)) (.str (S (List.replicate k a).flatten)) := by
  rw [← S_mul]
  exact op_mul (mulOk_of a.length k (by rw [S_len]; exact Nat.le_refl _) (Int.le_refl _) (by (first | lia | omega)) hk h)
theorem ev_lit {x : String} {l : List Nat} {k pos} (h : Str.ofString x = S l) : EV c ρ own (.Constant (.str (Str.ofString x)) k pos) (.str (S l)) := h ▸ ev_str
theorem op_eqS {a b : List Nat} : OP2 c (compareOp .Eq) (.str (S a)) (.str (S b)) (.bool (a == b)) := op2_eq op_eqs (by rw [S_list, S_list])
theorem op_neS {a b : List Nat} : OP2 c (compareOp .NotEq) (.str (S a)) (.str (S b)) (.bool (a != b)) := op2_eq op_nes (by rw [S_list, S_list])
theorem op_pow {n : Nat} (h1 : n ≤ 1000) : OP2 c (binaryOp .Pow) (.int 2) (.int (n : Int)) (.int ((2 ^ n : Nat) : Int)) := op2_eq (op_pow2 (by (first | lia | omega)) (by (first | lia | omega))) (by rw [Int.toNat_natCast]; simp)
theorem flat_single (k ch : Nat) : (List.replicate k [ch]).flatten = List.replicate k ch := by
  induction k with
  | zero => rfl
  | succ k ih => rw [List.replicate_succ, List.flatten_cons, ih, List.replicate_succ]; rfl
theorem op_mul1 {ch k : Nat} (hk : k ≤ 16777216) : OP2 c (binaryOp .Mult) (.str (S [ch])) (.int (k : Int)) (.str (S (List.replicate k ch))) := by
  rw [← flat_single]
  exact op_mulS (by rw [List.length_singleton]; (first | lia | omega)) hk
theorem op_sub1 {a : Nat} (h : 1 ≤ a) : OP2 c (binaryOp .Sub) (.int (a : Int)) (.int 1) (.int ((a - 1 : Nat) : Int)) := op2_eq op_sub (by rw [Int.ofNat_sub h]; rfl)
theorem ev_l0 {k pos} : EV c ρ own (.Constant (.str (Str.ofString "")) k pos) (.str (S [])) := ev_lit rfl
theorem ev_bs {k pos} : EV c ρ own (.Constant (.str (Str.ofString "\\")) k pos) (.str (S [92])) := ev_lit rfl
theorem ev_qu {k pos} : EV c ρ own (.Constant (.str (Str.ofString "\"")) k pos) (.str (S [34])) := ev_lit rfl
theorem ev_eqs {k pos} : EV c ρ own (.Constant (.str (Str.ofString "=")) k pos) (.str (S [61])) := ev_lit rfl
theorem ev_semi {k pos} : EV c ρ own (.Constant (.str (Str.ofString "; ")) k pos) (.str (S [59, 32])) := ev_lit rfl
theorem ev_comma {k pos} : EV c ρ own (.Constant (.str (Str.ofString ",")) k pos) (.str (S [44])) := ev_lit rfl
theorem ev_commab {k pos} : EV c ρ own (.Constant (.str (Str.ofString ", ")) k pos) (.str (S [44, 32])) := ev_lit rfl
theorem ev_bs2 {k pos} : EV c ρ own (.Constant (.str (Str.ofString "\\\\")) k pos) (.str (S [92, 92])) := ev_lit rfl
theorem ev_bsq {k pos} : EV c ρ own (.Constant (.str (Str.ofString "\\\"")) k pos) (.str (S [92, 34])) := ev_lit rfl
theorem ev_til {k pos} : EV c ρ own (.Constant (.str (Str.ofString "~")) k pos) (.str (S [126])) := ev_lit rfl
theorem sign_S {l : List Nat} {i : Nat} (h : i < l.length) : signAt (S l) i = .str (S [l[i]]) := by
  unfold signAt
  simp [S, h]
end

/- the words of the walk: said by name, so that they serve in every def -/
end Mine
end A12

section A13
open PySem PySem.W PySem.Spec PySem.Calls PyProof.Rows
namespace Mine

theorem clamp_nat (a n : Nat) : max 0 (min (a : Int) (n : Int)) = ((min a n : Nat) : Int) := by omega
theorem nat_nonneg (a : Nat) : ¬ ((a : Int) < 0) := by (first | lia | omega)
section
variable {c : Cx} {ρ ρ' : List (Str × D)} {own own' : List Ow} {fz fz' : FZ} {s s' : Shared} {d d' : D}

theorem ev_sub {value slice : PySem.Expr} {pos} {d₁ d₂ : D} (hl : EV c ρ own value d₁) (hr : EV c ρ own slice d₂) (h : OP2 c (subscriptTail value slice) d₁ d₂ d) : EV c ρ own (.Subscript value slice pos) d :=
  EV.mk fun fz s F Q E hQ => Subscript_ (hl fz s F _ _ fun v₁ fz₁ s₁ N₁ F₁ r₁ => hr fz₁ s₁ F₁ _ _ fun v₂ fz₂ s₂ N₂ F₂ r₂ =>
    h fz₂ s₂ v₁ v₂ F₂.I F₂.tk (r₁.mono N₂.mono) r₂ Q E fun v fz' s' N I r => hQ v fz' s' ((N₁.trans N₂).trans N) I r)

theorem op_item {value slice : PySem.Expr} {ds : List D} {k : Nat} (hx : ds[k]? = some d) (hk : k < 2 ^ 62) (hs : ∀ o i, subscripted slice false o i = operate [o, i] (getItem o i)) :
    OP2 c (subscriptTail value slice) (.list ds) (.int (k : Int)) d := fun fz s v₁ v₂ I tk r₁ r₂ Q E hQ => by
  obtain ⟨a, vs, n, rfl, e, rs⟩ := r₁.inv
  · obtain ⟨t, rfl⟩ := r₂.inv
    ·
      obtain ⟨v, hv, r⟩ := rs.get k d hx
      refine tail_any (T := "list") ⟨_, I.le _ _ e, rfl⟩ F.slot_list_getitem.lookup (wpAny_getItem_list (IsList_of I e) (by (first | lia | omega)) (by (first | lia | omega)) (x := v) ?_ (fin0' I hQ r)) (hs _ _)
      rw [Int.toNat_natCast, List.getElem?_toArray]
      exact hv
theorem op_itemT {value slice : PySem.Expr} {ds : List D} {k : Nat} (hx : ds[k]? = some d) (hk : k < 2 ^ 62) (hs : ∀ o i, subscripted slice false o i = operate [o, i] (getItem o i)) :
    OP2 c (subscriptTail value slice) (.tuple ds) (.int (k : Int)) d := fun fz s v₁ v₂ I tk r₁ r₂ Q E hQ => by
  obtain ⟨a, vs, n, rfl, e, rs⟩ := r₁.inv
  · obtain ⟨t, rfl⟩ := r₂.inv
    ·
      obtain ⟨v, hv, r⟩ := rs.get k d hx
      have hlt : k < vs.length := (List.getElem?_eq_some_iff.mp hv).1
      refine item_tupleT (l := vs) (j := k) ⟨_, I.le _ _ e, rfl, _, rfl⟩ (by (first | lia | omega)) (by (first | lia | omega)) ?_ hv (fin0' I hQ r) (hs _ _)
      unfold seqIndex?
      have h1 : ¬ ((k : Int) < 0) := nat_nonneg _
      simp only [h1, if_false]
      simp
      (first | lia | omega)
theorem op_sign {value slice : PySem.Expr} {l : List Nat} {k : Nat} (hk : k < l.length) (hl : l.length < 2 ^ 62) (hs : ∀ o i, subscripted slice false o i = operate [o, i] (getItem o i)) :
    OP2 c (subscriptTail value slice) (.str (S l)) (.int (k : Int)) (.str (S [l[k]])) := fun fz s v₁ v₂ I tk r₁ r₂ Q E hQ => by
  obtain ⟨_, rfl⟩ := r₁.inv; obtain ⟨_, rfl⟩ := r₂.inv
  refine tail_any (T := "str") (typeIs_str _ _ _) F.slot_str_getitem.lookup (P.getItem_str (c := l[k]) ?_ ?_ (fin0 I hQ (.str _ _) _)) (hs _ _)
  · simp; (first | lia | omega)
  · unfold seqIndex?
    have h1 : ¬ ((k : Int) < 0) := nat_nonneg _
    simp only [h1, if_false, S_len]
    simp [S, hk]

/- slices -/
noncomputable def PART (c : Cx) (ρ : List (Str × D)) (own : List Ow) (e : Option PySem.Expr) (i : Option Int) : Prop :=
  ∀ fz s, Frm c ρ own fz s → ∀ (Q : Value → Shared → Prop) (E : Value → Shared → Prop), (∀ v fz' s', Next fz s fz' s' → Frm c ρ own fz' s' → IsPart v i → Q v s') → wpAny c.M c.A (evalPart e c.env) Q E s
theorem part_none : PART c ρ own none none := fun fz s F Q E hQ => wpAny_evalPart_none (hQ _ fz s (Next.refl _ _) F .none)
theorem part_some {e : PySem.Expr} {i : Int} (h : EV c ρ own e (.int i)) : PART c ρ own (some e) (some i) := fun fz s F Q E hQ =>
  wpAny_evalPart_some (h fz s F _ _ fun v fz' s' N F' r => by obtain ⟨_, rfl⟩ := r.inv; exact hQ _ fz' s' N F' (.int _ _))

theorem Reps.pick {fz : FZ} {vs : List Value} {ds : List D} (r : Reps fz vs ds) : ∀ idx : List Nat, Reps fz (idx.filterMap (vs[·]?)) (idx.filterMap (ds[·]?))
  | [] => .nil
  | i :: idx => by
    rw [List.filterMap_cons, List.filterMap_cons]
    cases h : ds[i]? with
    | none =>
      have : vs[i]? = none := by rw [List.getElem?_eq_none_iff, r.length]; exact List.getElem?_eq_none_iff.mp h
      rw [this]; exact Reps.pick r idx
    | some d =>
      obtain ⟨v, hv, rv⟩ := r.get i d h
      rw [hv]; exact .cons rv (Reps.pick r idx)

noncomputable def pickD {α : Type} (ds : List α) (lo hi st : Option Int) : List α :=
  (sliceRange (sliceBounds lo hi st ds.length).1 (sliceBounds lo hi st ds.length).2.1 (sliceBounds lo hi st ds.length).2.2).filterMap (ds[·]?)

theorem range_pick {α : Type} (ds : List α) (a m : Nat) : ((List.range m).map fun k => a + k).filterMap (ds[·]?) = (ds.drop a).take m := by
  induction m generalizing a with
  | zero => simp
  | succ m ih =>
    rw [List.range_succ_eq_map, List.map_cons, List.filterMap_cons, List.map_map]
    have e : ((fun k => a + k) ∘ Nat.succ) = fun k => (a + 1) + k := by funext k; simp only [Function.comp]; (first | lia | omega)
    rw [e, ih (a + 1)]
    rw [Nat.add_zero]
    cases h : ds[a]? with
    | none =>
      have : ds.length ≤ a := List.getElem?_eq_none_iff.mp h
      rw [List.drop_eq_nil_of_le this, List.drop_eq_nil_of_le (by (first | lia | omega))]; simp
    | some x =>
      have hlt : a < ds.length := (List.getElem?_eq_some_iff.mp h).1
      have hx : ds[a] = x := (List.getElem?_eq_some_iff.mp h).2
      rw [List.drop_eq_getElem_cons hlt, List.take_succ_cons, hx]
theorem sliceRange_one (a b : Nat) : sliceRange (a : Int) (b : Int) 1 = (List.range (b - a)).map fun k => a + k := by
  unfold sliceRange
  simp only [show (1 : Int) > 0 by decide, if_true]
  have : (if (a : Int) < (b : Int) then ((b : Int) - (a : Int) + 1 - 1) / 1 else 0).toNat = b - a := by
    split <;> (try rw [Int.ediv_one]) <;> (first | lia | omega)
  rw [this]
  refine List.map_congr_left fun k _ => ?_
  (first | lia | omega)
theorem pick_sn {α : Type} (ds : List α) (a : Nat) : pickD ds (some (a : Int)) none none = ds.drop a := by
  unfold pickD sliceBounds
  simp only [Option.getD_none, show (1 : Int) > 0 by decide, if_true]
  have h0 : ¬ ((a : Int) < 0) := nat_nonneg _
  simp only [h0, if_false]
  have e : max 0 (min (a : Int) (ds.length : Int)) = ((min a ds.length : Nat) : Int) := clamp_nat _ _
  rw [e, sliceRange_one, range_pick]
  by_cases h : a ≤ ds.length
  · rw [Nat.min_eq_left h, List.take_of_length_le (by rw [List.length_drop]; exact Nat.le_refl _)]
  · rw [Nat.min_eq_right (by (first | lia | omega)), Nat.sub_self, List.take_zero, List.drop_eq_nil_of_le (by (first | lia | omega))]
theorem pick_ns {α : Type} (ds : List α) (b : Nat) : pickD ds none (some (b : Int)) none = ds.take b := by
  unfold pickD sliceBounds
  simp only [Option.getD_none, show (1 : Int) > 0 by decide, if_true]
  have h0 : ¬ ((b : Int) < 0) := nat_nonneg _
  simp only [h0, if_false]
  have e : max 0 (min (b : Int) (ds.length : Int)) = ((min b ds.length : Nat) : Int) := clamp_nat _ _
  rw [e, show (0 : Int) = ((0 : Nat) : Int) from rfl, sliceRange_one, range_pick, Nat.sub_zero, List.drop_zero]
  by_cases h : b ≤ ds.length
  · rw [Nat.min_eq_left h]
  · rw [Nat.min_eq_right (by (first | lia | omega)), List.take_of_length_le (Nat.le_refl _), List.take_of_length_le (by (first | lia | omega))]
theorem pick_ss {α : Type} (ds : List α) (a b : Nat) : pickD ds (some (a : Int)) (some (b : Int)) none = (ds.drop a).take (b - a) := by
  unfold pickD sliceBounds
  simp only [Option.getD_none, show (1 : Int) > 0 by decide, if_true]
  have h0 : ¬ ((a : Int) < 0) := nat_nonneg _
  have h1 : ¬ ((b : Int) < 0) := nat_nonneg _
  simp only [h0, h1, if_false]
  have e : max 0 (min (a : Int) (ds.length : Int)) = ((min a ds.length : Nat) : Int) := clamp_nat _ _
  have e' : max 0 (min (b : Int) (ds.length : Int)) = ((min b ds.length : Nat) : Int) := clamp_nat _ _
  rw [e, e', sliceRange_one, range_pick]
  by_cases h : a ≤ ds.length
  · rw [Nat.min_eq_left h]
    by_cases hb : b ≤ ds.length
    · rw [Nat.min_eq_left hb]
    · rw [Nat.min_eq_right (by (first | lia | omega)), List.take_of_length_le (l := ds.drop a) (by rw [List.length_drop]; (first | lia | omega)), List.take_of_length_le (l := ds.drop a) (by rw [List.length_drop]; (first | lia | omega))]
  · rw [List.drop_eq_nil_of_le (as := ds) (i := min a ds.length) (by (first | lia | omega)), List.drop_eq_nil_of_le (as := ds) (i := a) (by (first | lia | omega))]; simp

theorem strSlice_eq {l : List Nat} {lo hi : Option Int} {a b : Nat} (hb : sliceBounds lo hi none l.length = ((a : Int), (b : Int), 1)) (hle : b ≤ l.length) : Txt.slice (S l) lo hi = S (pickD l lo hi none) := by
  have e : Builtin.Str.strSliceIndices lo hi 1 (S l).length = sliceRange (sliceBounds lo hi none l.length).1 (sliceBounds lo hi none l.length).2.1 (sliceBounds lo hi none l.length).2.2 := by
    rw [S_len]
    unfold Builtin.Str.strSliceIndices sliceBounds
    cases lo <;> cases hi <;> rfl
  have hp : pickD l lo hi none = (l.drop a).take (b - a) := by
    unfold pickD
    rw [hb]
    show (sliceRange (a : Int) (b : Int) 1).filterMap _ = _
    rw [sliceRange_one, range_pick]
  unfold Txt.slice
  rw [e, hb]
  show (if (true && (sliceRange (a : Int) (b : Int) 1).length == (S l).length) = true then _ else _) = _
  rw [sliceRange_one, hp]
  split
  · rename_i h
    rw [Bool.true_and, beq_iff_eq, List.length_map, List.length_range, S_len] at h
    have ha : a = 0 ∨ l.length = 0 := by (first | lia | omega)
    rcases ha with ha | ha
    · subst ha
      rw [List.drop_zero, h, List.take_of_length_le (Nat.le_refl _)]
    · have : l = [] := List.eq_nil_of_length_eq_zero ha
      subst this
      simp
  · have : ((List.range (b - a)).map fun k => a + k).filterMap ((S l).cps[·]?) = (l.drop a).take (b - a) := by
      rw [← range_pick]
      simp [S]
    rw [this]
    rfl
theorem strSlice_sn (l : List Nat) (a : Nat) : Txt.slice (S l) (some (a : Int)) none = S (l.drop a) := by
  rw [strSlice_eq (a := min a l.length) (b := l.length) ?_ (Nat.le_refl _), pick_sn]
  unfold sliceBounds
  simp only [Option.getD_none, show (1 : Int) > 0 by decide, if_true]
  have h0 : ¬ ((a : Int) < 0) := nat_nonneg _
  simp only [h0, if_false]
  have e : max 0 (min (a : Int) (l.length : Int)) = ((min a l.length : Nat) : Int) := clamp_nat _ _
  rw [e]
theorem strSlice_ns (l : List Nat) (b : Nat) : Txt.slice (S l) none (some (b : Int)) = S (l.take b) := by
  rw [strSlice_eq (a := 0) (b := min b l.length) ?_ (Nat.min_le_right _ _), pick_ns]
  unfold sliceBounds
  simp only [Option.getD_none, show (1 : Int) > 0 by decide, if_true]
  have h0 : ¬ ((b : Int) < 0) := nat_nonneg _
  simp only [h0, if_false]
  have e : max 0 (min (b : Int) (l.length : Int)) = ((min b l.length : Nat) : Int) := clamp_nat _ _
  rw [e]
  rfl
theorem strSlice_ss (l : List Nat) (a b : Nat) : Txt.slice (S l) (some (a : Int)) (some (b : Int)) = S ((l.drop a).take (b - a)) := by
  rw [strSlice_eq (a := min a l.length) (b := min b l.length) ?_ (Nat.min_le_right _ _), pick_ss]
  unfold sliceBounds
  simp only [Option.getD_none, show (1 : Int) > 0 by decide, if_true]
  have h0 : ¬ ((a : Int) < 0) := nat_nonneg _
  have h1 : ¬ ((b : Int) < 0) := nat_nonneg _
  simp only [h0, h1, if_false]
  have e : max 0 (min (a : Int) (l.length : Int)) = ((min a l.length : Nat) : Int) := clamp_nat _ _
  have e' : max 0 (min (b : Int) (l.length : Int)) = ((min b l.length : Nat) : Int) := clamp_nat _ _
  rw [e, e']

theorem ev_cut {value : PySem.Expr} {lo hi : Option PySem.Expr} {sp pos} {x : Str} {l u : Option Int} (hv : EV c ρ own value (.str x)) (hl : PART c ρ own lo l) (hu : PART c ρ own hi u) (hn : x.length ≤ 16777216) :
    EV c ρ own (.Subscript value (.Slice lo hi none sp) pos) (.str (Txt.slice x l u)) :=
  EV.mk fun fz s F Q E hQ => Subscript_ (hv fz s F _ _ fun v₁ fz₁ s₁ N₁ F₁ r₁ => wpAny_Slice (hl fz₁ s₁ F₁ _ _ fun v₂ fz₂ s₂ N₂ F₂ p₂ => hu fz₂ s₂ F₂ _ _ fun v₃ fz₃ s₃ N₃ F₃ p₃ => wpAny_evalPart_none (by
    obtain ⟨t, rfl⟩ := r₁.inv
    ·
      have I₄ : Inv c.G fz₃ { s₃ with heap := s₃.heap.push { cls := .type "slice", data := .fields #[v₂, v₃, .none] }, toks := s₃.toks } := F₃.I.push _ _
      have N₄ : Next fz₃ s₃ fz₃ { s₃ with heap := s₃.heap.push { cls := .type "slice", data := .fields #[v₂, v₃, .none] }, toks := s₃.toks } := Next.push _ _
      have hsz : sizeLine = 16777216 := by decide
      have fin : ∀ t' k, Q (.str (Txt.slice x l u) t') { s₃ with heap := s₃.heap.push { cls := .type "slice", data := .fields #[v₂, v₃, .none] }, toks := k } := fun t' k =>
        hQ _ fz₃ _ ((((N₁.trans N₂).trans N₃).trans N₄).trans (Next.toks k)) (I₄.toks k) (.str _ _)
      have hT : Shared.TypeIs { s₃ with heap := s₃.heap.push { cls := .type "slice", data := .fields #[v₂, v₃, .none] } } (.str x t) "str" := typeIs_str _ _ _
      have hle : (Txt.slice x l u).length ≤ sizeLine := by rw [hsz]; exact Nat.le_trans (Txt.slice_le x _ _) hn
      refine tail_any (ops := [.ref s₃.heap.objs.size, .str x t]) hT PySem.F.slot_str_getitem.lookup ?_ rfl
      cases p₂ with
      | none => cases p₃ with
        | none => exact wpAny_getItem_str_slice (l := none) (u := none) (st := none) ⟨_, Heap.get?_push_size _ rfl, rfl, rfl⟩ rfl (post_val_or_str ⟨hle, fin⟩)
        | int j uj => exact wpAny_getItem_str_slice (l := none) (u := some (j, uj)) (st := none) ⟨_, Heap.get?_push_size _ rfl, rfl, rfl⟩ rfl (post_val_or_str ⟨hle, fin⟩)
      | int i ui => cases p₃ with
        | none => exact wpAny_getItem_str_slice (l := some (i, ui)) (u := none) (st := none) ⟨_, Heap.get?_push_size _ rfl, rfl, rfl⟩ rfl (post_val_or_str ⟨hle, fin⟩)
        | int j uj => exact wpAny_getItem_str_slice (l := some (i, ui)) (u := some (j, uj)) (st := none) ⟨_, Heap.get?_push_size _ rfl, rfl, rfl⟩ rfl (post_val_or_str ⟨hle, fin⟩))))
end
end Mine
end A13

section A14
open PySem PySem.W PySem.Spec PySem.Calls PyProof.Rows
namespace Mine

section
variable {c : Cx} {ρ ρ' : List (Str × D)} {own own' : List Ow} {fz fz' : FZ} {s s' : Shared} {d d' : D}

/- lists put together -/
theorem op_addl {xs ys : List D} (h : xs.length + ys.length ≤ 16777216) : OP2 c (binaryOp .Add) (.list xs) (.list ys) (.list (xs ++ ys)) := fun fz s v₁ v₂ I tk r₁ r₂ Q E hQ => by
  obtain ⟨a, vs, n, rfl, e, rs⟩ := r₁.inv
  · obtain ⟨b, ws, m, rfl, e', rs'⟩ := r₂.inv
    ·
      have hsz : sizeLine = 16777216 := by decide
      have q : vs.toArray ++ ws.toArray = (vs ++ ws).toArray := by simp
      refine concat_meets ⟨_, I.le _ _ e, rfl⟩ ⟨_, I.le _ _ e', rfl⟩ noFill_list_add seq_list_add PySem.F.slot_list_add PySem.F.entry_list_add (PySem.F.args_list_add_2 _ _)
        (list_addW a b vs.toArray ws.toArray n m none none #[] #[] (by rw [List.size_toArray, List.size_toArray, rs.length, rs'.length, hsz]; exact h)) ⟨I.le _ _ e, I.le _ _ e', ?_⟩
      rw [q]
      exact finN (hf := by rfl) I hQ (fun fz' hle e => .list e ((rs.append rs').mono hle)) s.toks

/- texts joined -/
theorem reps_strs {fz : FZ} : ∀ {vs : List Value} {xs : List Str}, Reps fz vs (xs.map .str) → ∃ l : List (Str × Tok), vs = strValues l ∧ l.map (·.1) = xs
  | vs, [], r => by cases r; exact ⟨[], rfl, rfl⟩
  | vs, x :: xs, r => by
    cases r with
    | cons a b =>
      cases a with
      | str _ t =>
        obtain ⟨l, h1, h2⟩ := reps_strs b
        exact ⟨(x, t) :: l, by rw [h1]; rfl, by rw [← h2]; rfl⟩
noncomputable def joinL (sep : List Nat) : List (List Nat) → List Nat
  | [] => []
  | [x] => x
  | x :: y :: r => x ++ sep ++ joinL sep (y :: r)
theorem join_S (sep : List Nat) : ∀ xs : List (List Nat), Str.join (S sep) (xs.map S) = S (joinL sep xs)
  | [] => rfl
  | [x] => rfl
  | x :: y :: r => by
    show S x ++ S sep ++ Str.join (S sep) (S y :: r.map S) = _
    rw [show S y :: r.map S = (y :: r).map S from rfl, join_S sep (y :: r), S_app, S_app]; rfl
theorem op_join {sep : List Nat} {xs : List (List Nat)} (h : JoinOk (S sep) (xs.map S) = true) : OPs c (fun vs => call (.builtin "str.join") vs) [.str (S sep), .list (xs.map fun x => .str (S x))] (.str (S (joinL sep xs))) := fun fz s vs I tk r Q E hQ => by
  obtain ⟨_, _, rfl, a, r⟩ := r.inv
  · obtain ⟨_, _, rfl, b, r⟩ := r.inv
    · obtain rfl := r.inv
      · obtain ⟨t, rfl⟩ := a.inv
        · obtain ⟨l, vs, n, rfl, e, rs⟩ := b.inv
          ·
            have e2 : (xs.map fun x => D.str (S x)) = (xs.map S).map .str := by rw [List.map_map]; rfl
            rw [e2] at rs
            obtain ⟨ls, h1, h2⟩ := reps_strs rs
            subst h1
            refine SC.join (l := ls) (IsList_of I e) h2 h fun t' k => ?_
            have : Txt.join (S sep) (xs.map S) = S (joinL sep xs) := by
              show Builtin.Str.glued _ _ = _
              rw [StrLaws.glued_eq_join, join_S]
            rw [this]
            exact fin0 I hQ (.str _ _) _
theorem joinOk_of {sep : List Nat} {xs : List (List Nat)} (h : (xs.map fun x => x.length + sep.length).sum ≤ 16777216) : JoinOk (S sep) (xs.map S) = true := by
  have key : ∀ (l : List (List Nat)) (a : Nat), (l.map S).foldl (fun acc x => acc + x.length + (S sep).length) a = a + (l.map fun x => x.length + sep.length).sum := by
    intro l
    induction l with
    | nil => intro a; rfl
    | cons x r ih => intro a; rw [List.map_cons, List.foldl_cons, ih, List.map_cons, List.sum_cons, S_len, S_len]; (first | lia | omega)
  unfold JoinOk
  rw [← Array.foldl_toList]
  show (!Builtin.Str.tooLong ((xs.map S).foldl _ 0)) = true
  rw [key, Nat.zero_add]
  unfold Builtin.Str.tooLong
  rw [show sizeLine = 16777216 by decide]
  simp
  exact h
theorem plain_str : PlainAttrs "str" := PySem.F.plainAttrs_str
theorem ev_join {o l : PySem.Expr} {apos pos} {sep : List Nat} {xs : List (List Nat)} (ho : EV c ρ own o (.str (S sep))) (hl : EV c ρ own l (.list (xs.map fun x => .str (S x)))) (h : (xs.map fun x => x.length + sep.length).sum ≤ 16777216)
    (hbase : attributeBase o (Str.ofString "join") c.env (eval o c.env) = eval o c.env) (hpl : ([l].all fun e => match e with | .Starred .. => false | _ => true) = true) (hline : (apos.endLine == pos.line) = true)
    (hs : ∀ env, starEach [l] env = (false, eval l env) :: starEach [] env) :
    EV c ρ own (.Call (.Attribute o (Str.ofString "join") apos) [l] [] pos) (.str (S (joinL sep xs))) :=
  ev_method ho (evs_cons hl evs_nil hs) ty_str plain_str PySem.F.slot_str_join PySem.F.type_str_join (op_join (joinOk_of h)) hbase hpl (by show 1 < 30; decide) hline

/- str.replace of one sign, by two literals -/
noncomputable def replL (ch : Nat) (z : List Nat) (l : List Nat) : List Nat := l.flatMap fun x => if x = ch then z else [x]
theorem replL_free (ch : Nat) (z : List Nat) : ∀ l : List Nat, ch ∉ l → replL ch z l = l
  | [], _ => rfl
  | k :: r, h => by
    have h1 : ¬ k = ch := fun e => h (e ▸ List.mem_cons_self ..)
    have h2 : ch ∉ r := fun m => h (List.mem_cons_of_mem _ m)
    show (if k = ch then z else [k]) ++ replL ch z r = k :: r
    rw [if_neg h1, replL_free ch z r h2]; rfl
theorem replL_join (ch : Nat) (z : List Nat) : ∀ parts : List Str, (∀ p ∈ parts, ch ∉ p.cps.toList) → replL ch z (Str.join ⟨#[ch]⟩ parts).cps.toList = (Str.join (S z) parts).cps.toList
  | [], _ => rfl
  | [p], h => replL_free ch z _ (h p (List.mem_singleton.mpr rfl))
  | p :: q :: r, h => by
    have ih := replL_join ch z (q :: r) fun a ha => h a (List.mem_cons_of_mem _ ha)
    show replL ch z (p ++ ⟨#[ch]⟩ ++ Str.join ⟨#[ch]⟩ (q :: r)).cps.toList = (p ++ S z ++ Str.join (S z) (q :: r)).cps.toList
    simp only [Str.cps_append, Array.toList_append]
    have app : ∀ a b : List Nat, replL ch z (a ++ b) = replL ch z a ++ replL ch z b := fun a b => by unfold replL; rw [List.flatMap_append]
    rw [app, app, ih, replL_free ch z _ (h p (List.mem_cons_self ..)), S_list]
    congr 2
    show (if ch = ch then z else [ch]) ++ [] = z
    rw [if_pos rfl, List.append_nil]
theorem replace_S (ch : Nat) (z l : List Nat) : Txt.replace (S l) ⟨#[ch]⟩ (S z) = S (replL ch z l) := by
  have h : (Txt.replace (S l) ⟨#[ch]⟩ (S z)).cps.toList = replL ch z l := by
    rw [StrLaws.replace_one, ← replL_join ch z _ (StrLaws.split_free (S l) ch), StrLaws.join_split, S_list]
  rw [S_of (Txt.replace _ _ _), h]
theorem ev_replace {o : PySem.Expr} {apos pos p₁ p₂ : Pos} {k₁ k₂ : Nat} {y z : String} {ch : Nat} {l w : List Nat} (ho : EV c ρ own o (.str (S l))) (hy : Str.ofString y = ⟨#[ch]⟩) (hz : Str.ofString z = S w) (hne : [ch] ≠ w)
    (hsz : l.length + (l.length + 1) * w.length ≤ 16777216)
    (hbase : attributeBase o (Str.ofString "replace") c.env (eval o c.env) = eval o c.env) (hline : (apos.endLine == pos.line) = true) :
    EV c ρ own (.Call (.Attribute o (Str.ofString "replace") apos) [.Constant (.str (Str.ofString y)) k₁ p₁, .Constant (.str (Str.ofString z)) k₂ p₂] [] pos) (.str (S (replL ch w l))) := EV.mk fun fz s F Q E hQ => by
  refine wpAny_Call_method hbase ?_ hline plain_str PySem.F.slot_str_replace PySem.F.type_str_replace ?_
  · rfl
  refine ho fz s F _ _ fun v fz₁ s₁ N₁ F₁ r₁ => ?_
  obtain ⟨t, rfl⟩ := r₁.inv
  ·
    have hst := plain_args (c := c) (pos := pos) (es := [.Constant (.str (Str.ofString y)) k₁ p₁, .Constant (.str (Str.ofString z)) k₂ p₂]) rfl
    refine ⟨typeIs_str _ _ _, (fun _ e => nomatch e), callWith_builtin rfl (args_any hst ?_)⟩
    show wpAny _ _ (spliced [(false, eval (.Constant (.str (Str.ofString y)) k₁ p₁) c.env), (false, eval (.Constant (.str (Str.ofString z)) k₂ p₂) c.env)]) _ _ _
    refine Calls.spliced_cons (Calls.Constant_str (Calls.spliced_cons (Calls.Constant_str (Calls.spliced_nil ?_))))
    have htk := F₁.tk
    refine SC.replace (u := s₁.toks) (v := s₁.toks + 1) (Nat.ne_of_gt htk) (Nat.succ_ne_zero _) (Nat.ne_of_lt (Nat.lt_succ_self _)) ?_ ?_ fun t' k => ?_
    · rw [hy, hz, beq_eq_false_iff_ne]
      intro h
      exact hne (S_inj (a := [ch]) h)
    · rw [hz, S_len, S_len]; exact hsz
    · rw [hy, hz, replace_S]
      exact hQ _ fz₁ _ (N₁.trans (Next.toks k)) (F₁.I.toks k) (.str _ _)

/- len, isinstance: built-in functions by name -/
theorem ev_builtin1 {f : Str} {id : String} {p pos : Pos} {e : PySem.Expr} {es : List PySem.Expr} {ds : List D} (hx : c.env.kindOf f = some .globalImplicit) (hn : nsIn (hd.heap_39 c.w.params) mainGlobals f = some none) (hb : bootBuiltins f = some (.builtin id))
    (hes : EVs c ρ own (e :: es) ds) (h : OPs c (fun vs => call (.builtin id) vs) ds d) (hpl : ((e :: es).all fun e => match e with | .Starred .. => false | _ => true) = true)
    (hne : f ≠ "__name__") (hd : (f == ("__debug__" : Str)) = false) :
    EV c ρ own (.Call (.Name f p) (e :: es) [] pos) d := EV.mk fun fz s F Q E hQ => by
  have hst := plain_args (c := c) (pos := pos) hpl
  show wpAny _ _ (do callWith pos (← eval (.Name f p) c.env) [] (backTo pos (starEach (e :: es) c.env)) (backToKw pos (keywordEach [] c.env))) _ _ _
  refine wpAny_bind (name_builtin F ?_ hx hn hb hne hd)
  refine callWith_builtin (List.any_eq_false.mpr fun x hx => by rw [hst x hx]; exact Bool.false_ne_true) (args_any hst ?_)
  exact hes fz s F _ _ _ fun vs fz₁ s₁ N₁ F₁ r₁ => h fz₁ s₁ vs F₁.I F₁.tk r₁ Q E fun v fz' s' N I r => hQ v fz' s' (N₁.trans N) I r
theorem op_len_list {ds : List D} (h : ds.length ≤ 16777216) : OPs c (fun vs => call (.builtin "len") vs) [.list ds] (.int ds.length) := fun fz s vs I tk r Q E hQ => by
  obtain ⟨_, _, rfl, a, r⟩ := r.inv
  · obtain rfl := r.inv
    · obtain ⟨l, us, n, rfl, e, rs⟩ := a.inv
      ·
        have hl := rs.length
        refine call_len_list (IsList_of I e) (by rw [List.size_toArray]; (first | lia | omega)) ?_
        rw [List.size_toArray, hl]
        exact fin0 I hQ (.int _ _) _
theorem op_len_str {l : List Nat} (h : l.length ≤ 16777216) : OPs c (fun vs => call (.builtin "len") vs) [.str (S l)] (.int l.length) := fun fz s vs I tk r Q E hQ => by
  obtain ⟨_, _, rfl, a, r⟩ := r.inv
  · obtain rfl := r.inv
    · obtain ⟨t, rfl⟩ := a.inv
      ·
        refine P.len_str (by rw [S_len]; (first | lia | omega)) ?_
        rw [S_len]
        exact fin0 I hQ (.int _ _) _
end
end Mine
end A14

section A15
open PySem PySem.W PySem.Spec PySem.Calls PyProof.Rows
open PySem.Builtin
set_option maxHeartbeats 8000000
namespace Mine
/- % -/
theorem meets_q (z : Str) (u t : Tok) (ha : z.length ≤ 1000000) : Meets («str.__mod__» ⟨[.str ⟨#[34,37,115,34]⟩ t, .str z u], []⟩) (fun _ R s => ∀ t' k, R (.ok (.ret (.str (⟨#[34]⟩ ++ z ++ ⟨#[34]⟩) t'))) { s with toks := k }) := by
  kpc_run_s

section
variable {c : Cx} {ρ ρ' : List (Str × D)} {own own' : List Ow} {fz fz' : FZ} {s s' : Shared} {d d' : D}
theorem S1 (l : List Nat) : S l = ⟨l.toArray⟩ := rfl
theorem op_q {b : List Nat} (hb : b.length ≤ 1000000) : OP2 c (binaryOp .Mod) (.str (Str.ofString "\"%s\"")) (.str (S b)) (.str (S ([34] ++ b ++ [34]))) := fun fz s v₁ v₂ I tk r₁ r₂ Q E hQ => by
  obtain ⟨t, rfl⟩ := r₁.inv
  · obtain ⟨u, rfl⟩ := r₂.inv
    ·
      rw [← S_app, ← S_app] at hQ
      rw [show Str.ofString "\"%s\"" = ⟨#[34,37,115,34]⟩ from by decide +kernel]
      exact binaryOp_meets (T := "str") (op := .Mod) (typeIs_str _ _ _) (typeIs_str _ _ _) PySem.F.fills_str_mod PySem.F.slot_str_mod PySem.F.entry_str_mod (PySem.F.args_str_mod_2 _ _) (meets_q (S b) u t (by rw [S_len]; exact hb))
        (fun t' k => ⟨(fun e => nomatch e), fin0 I hQ (.str _ _) k⟩)
end
end Mine
end A15

section G1
open PySem PySem.W PySem.Spec PySem.Calls PyProof.Rows
namespace Mine
section
variable {prog : Program} {w : World} {A : Around} {R : GenEnd} {Y : Protocol} {n : Nat} {s₀ : Shared} {c : Code} {fs : List Frame} {s : Shared} {env : Env}
  {K : Flow → Sem Fin} {H : Value → Sem Fin} {gd : Bool → Bool} {lv : List Value → List Value}

theorem seg_step {st : Stmt} {rest : List Stmt} (h : wpAny (model prog w) (A.over c fs) (exec st env) (fun f s' => f = .next ∧ Seg (model prog w) A R Y n s₀ c ((execs rest env).wrap K H gd lv) fs s') (fun x s' => Seg (model prog w) A R Y n s₀ c (H x) fs s') s) :
    Seg (model prog w) A R Y n s₀ c ((execs (st :: rest) env).wrap K H gd lv) fs s :=
  seg_execs_cons (seg_wrap (wpAny_mono h (fun f s' h' => by obtain ⟨rfl, h'⟩ := h'; exact h') fun _ _ x => x))

theorem seg_if {t : PySem.Expr} {a o rest : List Stmt} {pos : Pos} (h : wpAny (model prog w) (A.over c fs) (isTrue t env (eval t env)) (fun b s' => Seg (model prog w) A R Y n s₀ c ((execs ((if b = true then a else o) ++ rest) env).wrap K H gd lv) fs s') (fun x s' => Seg (model prog w) A R Y n s₀ c (H x) fs s') s) :
    Seg (model prog w) A R Y n s₀ c ((execs (.If t a o pos :: rest) env).wrap K H gd lv) fs s := by
  rw [execs_if]
  show Seg (model prog w) A R Y n s₀ c (.at pos fun _ => ((isTrue t env (eval t env)) >>= fun b => if b then execs (a ++ rest) env else execs (o ++ rest) env).wrap K H gd lv) fs s
  refine seg_at ?_
  rw [Sem.bind_eq_wrap', Sem.wrap_wrap]
  refine seg_wrap (wpAny_mono h (fun b s' h' => ?_) fun _ _ x => x)
  cases b
  · exact h'
  · exact h'

theorem seg_yieldS {e : PySem.Expr} {ypos pos : Pos} {rest : List Stmt} (hfs : splitAtGen fs = none) (hgd : gd false = false) (hfg : fs.any Frame.guarded = false)
    (h : wpAny (model prog w) (A.over c fs) (eval e env) (fun v s' => ∀ kap : Resume → Shared → Prop, (∀ s'', Seg (model prog w) A R Y n s'' c ((execs rest env).wrap K H gd lv) fs s'' → kap (.send .none) s'') → Y n s₀ v s' kap)
      (fun x s' => Seg (model prog w) A R Y (n + 1) s₀ c (H x) fs s') s) (hco : env.scope.isCoroutine = false) (hi : interactive env = false) :
    Seg (model prog w) A R Y (n + 1) s₀ c ((execs (.Expr (.Yield (some e) ypos) pos :: rest) env).wrap K H gd lv) fs s :=
  seg_execs_cons (seg_Expr_Yield hfs hgd hfg (wpAny_mono h (fun v s' h' kap hk => h' kap fun s'' hs => hk .none s'' hs) fun _ _ x => x) hco hi)

theorem exec_For' (target iter body orelse pos) : exec (.For target iter body orelse pos) env = ((do
    standAt pos
    let x ← foldedSetIterable iter env (← eval iter env)
    standAt iter.pos
    holding [x] (pyIter x)) >>= fun it => runOwn (.forLoop target it body orelse env) env) := by
  rw [PySem.exec_For]
  simp only [bind_assoc]

theorem seg_For {target iter : PySem.Expr} {body rest : List Stmt} {pos : Pos}
    (h : wpAny (model prog w) (A.over c fs) (eval iter env) (fun x s₁ => wpAny (model prog w) (A.over c fs) (pyIter x) (fun it s₂ => ∀ (p : Pos) (k : Result → Sem Fin),
        (∀ n' s₀' s', Seg (model prog w) A R Y n' s₀' c ((execs rest env).wrap K H gd lv) fs s' → Seg (model prog w) A R Y n' s₀' c (k (.ok .next)) fs s') →
        Seg (model prog w) A R Y n s₀ (.forLoop target it body [] env) ((model prog w).den (.forLoop target it body [] env)) (.ret k none (gd false) (lv []) c p [] :: fs) s₂)
      (fun x s' => Seg (model prog w) A R Y n s₀ c (H x) fs s') s₁) (fun x s' => Seg (model prog w) A R Y n s₀ c (H x) fs s') s)
    (hs : ∀ x, foldedSetIterable iter env x = pure x) :
    Seg (model prog w) A R Y n s₀ c ((execs (.For target iter body [] pos :: rest) env).wrap K H gd lv) fs s := by
  refine seg_execs_cons ?_
  rw [exec_For', Sem.bind_eq_wrap', Sem.wrap_wrap]
  refine seg_wrap ?_
  refine wpAny_bind (wpAny_standAt (wpAny_bind (wpAny_mono h (fun x s₁ h₁ => wpAny_bind (wpAny_of_eq (hs x) (wpAny_bind (wpAny_standAt (wpAny_holding (wpAny_mono h₁ (fun it s₂ h₂ => ?_) fun _ _ x => x)))))) fun _ _ x => x)))
  refine seg_call fun p => ?_
  exact h₂ p _ fun n' s₀' s' hh => hh

theorem seg_forLoop {target : PySem.Expr} {it : Value} {body : List Stmt} {E E' : Value → Shared → Prop}
    (h : wpAny (model prog w) (A.over (.forLoop target it body [] env) fs) (pyNext it) (fun r s₁ => match r with
      | none => Seg (model prog w) A R Y n s₀ (.forLoop target it body [] env) (.pure (.again (.block [] env))) fs s₁
      | some v => wpAny (model prog w) (A.over (.forLoop target it body [] env) fs) (letOwnedTupleGo target it v) (fun _ s₂ => wpAny (model prog w) (A.over (.forLoop target it body [] env) fs) (assign target env v) (fun _ s₃ =>
          Seg (model prog w) A R Y n s₀ (.forLoop target it body [] env) ((execs body env).wrap (fun f => match f with
            | .next | .cont => .pure (.again (.forLoop target it body [] env))
            | .brk => .pure (.done .next)
            | .ret v => .pure (.done (.ret v))) (fun e => (do noteFrame e env; theTreesLotGoes e : Sem Unit).wrap (fun _ => .raise e) .raise id id) id id) fs s₃)
          (fun _ _ => False) s₂) (fun _ _ => False) s₁) (fun _ _ => False) s) :
    Seg (model prog w) A R Y n s₀ (.forLoop target it body [] env) ((model prog w).den (.forLoop target it body [] env)) fs s := by
  show Seg _ A R Y n s₀ _ ((forTurn target it body [] env).onRaise (fun x => do noteFrame x env; theTreesLotGoes x)) fs s
  unfold forTurn
  rw [Sem.onRaise_eq_wrap]
  show Seg _ A R Y n s₀ _ (.at target.pos fun _ => (((pyNext it).onRaise fun _ => standAt { target.pos with line := 0 }) >>= fun r => _).wrap _ _ _ _) fs s
  refine seg_at ?_
  rw [Sem.bind_eq_wrap', Sem.wrap_wrap]
  refine seg_wrap (wpAny_onRaise (wpAny_mono h (fun r s₁ h₁ => ?_) (fun _ _ h' => h'.elim)))
  cases r with
  | none => exact h₁
  | some v =>
    show Seg _ A R Y n s₀ _ ((letOwnedTupleGo target it v >>= fun _ => assign target env v >>= fun _ => execs body env >>= fun f => _).wrap _ _ _ _) fs s₁
    rw [Sem.bind_eq_wrap', Sem.wrap_wrap]
    refine seg_wrap (wpAny_mono h₁ (fun _ s₂ h₂ => ?_) (fun _ _ h' => h'.elim))
    rw [Sem.bind_eq_wrap', Sem.wrap_wrap]
    refine seg_wrap (wpAny_mono h₂ (fun _ s₃ h₃ => ?_) (fun _ _ h' => h'.elim))
    rw [Sem.bind_eq_wrap', Sem.wrap_wrap]
    rw [Sem.wrap_congr (execs body env) _ _ (K' := fun f => match f with
            | .next | .cont => .pure (.again (.forLoop target it body [] env))
            | .brk => .pure (.done .next)
            | .ret v => .pure (.done (.ret v))) (H' := (fun e => (do noteFrame e env; theTreesLotGoes e : Sem Unit).wrap (fun _ => .raise e) .raise id id))
        (fun f => by cases f <;> rfl)
        (fun e => by first | exact Sem.bind_eq_wrap _ _ | (show (do noteFrame e env; theTreesLotGoes e : Sem Unit).bind (fun _ => .raise e) = _; rw [Sem.bind_eq_wrap]))]
    exact h₃

theorem seg_loopEnd {target : PySem.Expr} {it : Value} {body : List Stmt} {k : Result → Sem Fin} {h : Option Value} {g : Bool} {l : List Value} {p : Pos} {c₁ : Code}
    (hh : Seg (model prog w) A R Y n s₀ c₁ (k (.ok .next)) fs s) :
    Seg (model prog w) A R Y n s₀ (.forLoop target it body [] env) (.pure (.again (.block [] env))) (.ret k h g l c₁ p [] :: fs) s := by
  refine seg_again rfl ?_
  show Seg _ A R Y n s₀ _ (leafOf (.ok .next)) _ s
  exact seg_leaf (.ok .next) hh
end

section
variable {prog : Program} {w : World} {A : Around} {E : Value → Shared → Prop} {s : Shared}
theorem wpAny_pyNext_genF {a : Addr} {g n : Nat} {gs : GenState} {P : Nat → Shared → Shared → Prop} {Y : Protocol} {Q : Option Value → Shared → Prop} (hh : A.handled = none)
    (hl : s.heap.NoLimit) (hroom : A.depth < recursionLimit)
    (hg : s.heap.IsGen a g) (hgs : s.gens[g]? = some gs)
    (hgo : gs.Goes (model prog w) A.in1 (fun n s₀ r s₁ => r = .ok (.ret .none) ∧ P n s₀ s₁) Y n (.send .none) (s.setGen g .running))
    (hY : ∀ v s₁ gs', gs'.bare = true → Y (n - 1) (s.setGen g .running) v s₁ (fun r' s'' => match n with
        | 0 => False
        | m + 1 => gs'.Goes (model prog w) A.in1 (fun n s₀ r s₁ => r = .ok (.ret .none) ∧ P n s₀ s₁) Y m r' s'') → Q (some v) (s₁.setGen g gs'))
    (hP : ∀ s₁, P n (s.setGen g .running) s₁ → ∀ h', (∀ b o, s₁.heap.get? b = some o → h'.get? b = some o) → Q none { s₁.setGen g .finished with heap := h' }) :
    wpAny (model prog w) A (pyNext (.ref a)) Q E s := by
  unfold pyNext
  refine wpAny_bind (wpAny_attempt (wpAny_callSpecial?_slot (name := Str.ofString "__next__") hg.typeIs slot_gen_next
    (wpAny_call_entry slot_gen_next hg.typeIs entry_gen_next ?_ (args_gen_next _))))
  show wpAny _ A.in1 (Builtin.Generator.genWake (.ref a) (.send .none)) _ _ s
  unfold Builtin.Generator.genWake
  refine wpAny_bind (wpAny_holding (wpAny_genNumber hg (wpAny_bind (wpAny_genState hgs ?_))))
  cases gs with
  | running => exact hgo.elim
  | finished => exact hgo.elim
  | _ =>
    refine wpAny_bind (wpAny_roomToWake hl hroom ?_)
    show wpAny _ A.in1 (.resume g (.send .none) [] _) _ _ s
    refine wpAny_resumeQ hgs hgo (fun x s₁ hx => ?_) (fun v s₁ gs' hb hv => ?_)
    · obtain ⟨rfl, hp⟩ := hx
      show wpAny _ A.in1 (newExc (.type "StopIteration") [] >>= _) _ _ _
      refine wpAny_bind ?_
      simp only [newExc, newTuple]
      refine wpAny_bind (wpAny_newObj_type ?_ (by size_fits))
      refine wpAny_bind (m := firstArgMember _ _) (wpAny_of_eq (a := Value.none) (by first | rfl | (simp only [firstArgMember]; rfl)) ?_)
      refine wpAny_newObj_type ?_ (by size_fits)
      simp only [raiseNew]
      refine wpAny_bind (wpAny_bind (wpAny_handled ?_))
      first | rw [show A.in1.handled = none from hh] | rw [hh]
      refine wpAny_throw ?_
      refine wpAny_bind (wpAny_isInstance (T := "StopIteration") (b := true) ⟨_, Heap.get?_push_size _ rfl, rfl⟩ isSubtype_stop ?_)
      exact wpAny_pure (hP s₁ hp _ fun b o hb => Heap.get?_push_of_some _ (Heap.get?_push_of_some _ hb))
    · exact wpAny_pure ⟨v, rfl, wpAny_pure (hY v s₁ gs' hb hv)⟩
end
end Mine
end G1

section G2
open PySem PySem.W PySem.Spec PySem.Calls PyProof.Rows
namespace Mine

/- what the generator hands out: place and sign, one after the other -/
noncomputable def scanF : Nat → Bool → List Nat → Nat → List (Nat × List Nat)
  | _, false, [], _ => []
  | _, true, [], p => [(p, [92])]
  | i, true, c :: r, _ => (i, [92, c]) :: scanF (i + 1) false r i
  | i, false, c :: r, _ => if c = 92 then scanF (i + 1) true r i else (i, [c]) :: scanF (i + 1) false r i

structure KP (C it e : Addr) (s₀ s : Shared) : Prop where
  eq : ∃ h tk, s = { s₀ with heap := h, toks := tk }
  tk : 1 ≤ s.toks
  keep : ∀ b o, b ≠ C → b ≠ it → b ≠ e → s₀.heap.get? b = some o → s.heap.get? b = some o

noncomputable def GY (C it e : Addr) (L : List (Nat × List Nat)) : Protocol := fun n s₀ v s' kap =>
  ∃ (i : Nat) (x : List Nat) (ti tx : Tok) (T : Addr), v = .ref T ∧ (∀ b o, b ≠ C → b ≠ it → b ≠ e → s₀.heap.get? b = some o → b < T) ∧ (C < T ∧ it < T ∧ e < T) ∧ s'.heap.get? T = some (tupO [.int i ti, .str (S x) tx] 0) ∧ L[L.length - 1 - n]? = some (i, x) ∧ KP C it e s₀ s' ∧
    ∀ s'', (∀ b, (b = C ∨ b = it ∨ b = e) → ∀ o, s'.heap.get? b = some o → s''.heap.get? b = some o) → 1 ≤ s''.toks → kap (.send .none) s''
noncomputable def GP (C it e : Addr) : Nat → Shared → Shared → Prop := fun n s₀ s₁ => n = 0 ∧ KP C it e s₀ s₁
noncomputable def GR (C it e : Addr) : GenEnd := fun n s₀ r s₁ => r = .ok (.ret .none) ∧ GP C it e n s₀ s₁

structure GW (env : Env) (it e : Addr) (m : Str → Option Value) (s₀ s : Shared) : Prop where
  kp : KP env.locals it e s₀ s
  ns : s.heap.Ns env.locals m
  lt : it < s.heap.objs.size ∧ e < s.heap.objs.size
structure GF (env : Env) (it e : Addr) (x : Str) (t : Tok) (i : Nat) (m : Str → Option Value) (s₀ s : Shared) : Prop where
  kp : KP env.locals it e s₀ s
  ns : s.heap.Ns env.locals m
  en : ∃ old, IsEnum s.heap e it i old
  si : s.heap.IsStrIter it (strIterType x) x t i
theorem GF.weak {env : Env} {it e : Addr} {x : Str} {t : Tok} {i : Nat} {m : Str → Option Value} {s₀ s : Shared} (F : GF env it e x t i m s₀ s) : GW env it e m s₀ s :=
  ⟨F.kp, F.ns, let ⟨o, h, _⟩ := F.si; Heap.lt_size h, let ⟨old, h⟩ := F.en; Heap.lt_size h⟩

theorem draws_str {prog : Program} {w : World} {A : Around} (hh : A.handled = none) (it : Addr) (x : Str) (t : Tok) :
    Draws prog w A it [it] x.cps.size (fun i v => ∃ c u, x.cps[i]? = some c ∧ v = .str ⟨#[c]⟩ u) (fun i h => h.IsStrIter it (strIterType x) x t i) := by
  unfold strIterType
  cases x.cps.all (· < 128)
  · exact Draws.strWide hh it x t
  · exact Draws.strAscii hh it x t

section
variable {prog : Program} {w : World} {A A' : Around} {R : GenEnd} {Y : Protocol} {n : Nat} {s₀ s : Shared} {c : Code} {fs : List Frame} {env : Env} {it e : Addr} {x : Str} {t : Tok} {i : Nat} {m : Str → Option Value}
  {E : Value → Shared → Prop}

theorem GF.again {s' : Shared} (F : GF env it e x t i m s₀ s) (h : ∀ b, (b = env.locals ∨ b = it ∨ b = e) → ∀ o, s.heap.get? b = some o → s'.heap.get? b = some o) (tk : 1 ≤ s'.toks) : GF env it e x t i m s' s' := by
  obtain ⟨old, he⟩ := F.en
  refine ⟨⟨⟨_, _, rfl⟩, tk, fun _ _ _ _ _ e => e⟩, ?_, ⟨old, ?_⟩, ?_⟩
  · obtain ⟨o, es, ep, h1, r⟩ := F.ns
    exact ⟨o, es, ep, h _ (.inl rfl) _ h1, r⟩
  · exact h _ (.inr (.inr rfl)) _ he
  · obtain ⟨o, h1, r⟩ := F.si
    exact ⟨o, h _ (.inr (.inl rfl)) _ h1, r⟩
theorem GF.toks (F : GF env it e x t i m s₀ s) {k : Nat} (hk : 1 ≤ k) : GF env it e x t i m s₀ { s with toks := k } := by
  obtain ⟨h, tk, rfl⟩ := F.kp.eq
  exact ⟨⟨⟨h, k, rfl⟩, hk, F.kp.keep⟩, F.ns, F.en, F.si⟩
theorem GF.push (F : GF env it e x t i m s₀ s) (o : Obj) {k : Nat} (hk : 1 ≤ k) : GF env it e x t i m s₀ { s with heap := s.heap.push o, toks := k } := by
  obtain ⟨h, tk, rfl⟩ := F.kp.eq
  obtain ⟨old, he⟩ := F.en
  refine ⟨⟨⟨_, _, rfl⟩, hk, fun b o' h1 h2 h3 e => Heap.get?_push_of_some _ (F.kp.keep b o' h1 h2 h3 e)⟩, F.ns.push _, ⟨old, Heap.get?_push_of_some _ he⟩, ?_⟩
  obtain ⟨o, h1, r⟩ := F.si; exact ⟨o, Heap.get?_push_of_some _ h1, r⟩
theorem GF.store (F : GF env it e x t i m s₀ s) (hiC : it ≠ env.locals) (heC : e ≠ env.locals) {h' : Heap} {m' : Str → Option Value} (hn : h'.Ns env.locals m') (hs : Heap.SameBut env.locals s.heap h') {k : Nat} (hk : 1 ≤ k) : GF env it e x t i m' s₀ { s with heap := h', toks := k } := by
  obtain ⟨h, tk, rfl⟩ := F.kp.eq
  obtain ⟨old, he⟩ := F.en
  exact ⟨⟨⟨_, _, rfl⟩, hk, fun b o h1 h2 h3 e => hs.extBut b o h1 (F.kp.keep b o h1 h2 h3 e)⟩, hn, ⟨old, hs.extBut _ _ heC he⟩, F.si.extBut hs.extBut hiC⟩
theorem GW.push (F : GW env it e m s₀ s) (o : Obj) {k : Nat} (hk : 1 ≤ k) : GW env it e m s₀ { s with heap := s.heap.push o, toks := k } := by
  obtain ⟨h, tk, rfl⟩ := F.kp.eq
  refine ⟨⟨⟨_, _, rfl⟩, hk, fun b o' h1 h2 h3 e => Heap.get?_push_of_some _ (F.kp.keep b o' h1 h2 h3 e)⟩, F.ns.push _, ?_⟩
  show _ < (Heap.push _ _).objs.size ∧ _ < (Heap.push _ _).objs.size
  rw [Heap.size_push]
  exact ⟨Nat.lt_succ_of_lt F.lt.1, Nat.lt_succ_of_lt F.lt.2⟩
theorem GW.toks (F : GW env it e m s₀ s) {k : Nat} (hk : 1 ≤ k) : GW env it e m s₀ { s with toks := k } := by
  obtain ⟨h, tk, rfl⟩ := F.kp.eq
  exact ⟨⟨⟨h, k, rfl⟩, hk, F.kp.keep⟩, F.ns, F.lt⟩

theorem gf_name {nm : Str} {pos : Pos} {v : Value} {Q : Value → Shared → Prop} (hn : s.heap.Ns env.locals m) (hkd : env.scope.kind = .function) (hk : env.kindOf nm = some .local) (hv : m nm = some v) (h : Q v s) (hd : (nm == ("__debug__" : Str)) = false) :
    wpAny (model prog w) A' (eval (.Name nm pos) env) Q E s := wpAny_Name (wpAny_loadName_local hkd hk hn hv h) hd
theorem gf_true {nm : Str} {pos : Pos} {b : Bool} {Q : Bool → Shared → Prop} (hn : s.heap.Ns env.locals m) (hkd : env.scope.kind = .function) (hk : env.kindOf nm = some .local) (hv : m nm = some (.bool b)) (h : Q b s) (hd : (nm == ("__debug__" : Str)) = false) :
    wpAny (model prog w) A' (isTrue (.Name nm pos) env (eval (.Name nm pos) env)) Q E s := by
  show wpAny _ _ (do let v ← eval (.Name nm pos) env; standAt pos; holding [v] (truthy v)) _ _ _
  exact wpAny_bind (gf_name hn hkd hk hv (wpAny_bind (wpAny_standAt (wpAny_holding (wpAny_truthy_bool h)))) hd)
theorem gf_constBool {b : Bool} {k : Nat} {p : Pos} {Q : Value → Shared → Prop} (h : Q (.bool b) s) : wpAny (model prog w) A' (eval (.Constant (.bool b) k p) env) Q E s := by
  show wpAny _ _ (pure (Value.bool b)) _ _ _
  exact wpAny_pure h
theorem gf_setBool {nm : Str} {p p₂ pos : Pos} {k : Nat} {b : Bool} {Q : Flow → Shared → Prop} (F : GF env it e x t i m s₀ s) (hkd : env.scope.kind = .function) (hiC : it ≠ env.locals) (heC : e ≠ env.locals) (hk : env.kindOf nm = some .local)
    (h : ∀ s', GF env it e x t i (fun y => if y = nm then some (.bool b) else m y) s₀ s' → Q .next s') (hs : swapsWith (.Constant (.bool b) k p₂) (some (.Name nm p)) pos.line env = pure false) :
    wpAny (model prog w) A' (exec (.Assign [.Name nm p] (.Constant (.bool b) k p₂) pos) env) Q E s := by
  have hp : (env.scope.kind == .class || (env.scope.kind == .module && env.locals != env.globals)) = false := by rw [hkd]; rfl
  refine wpAny_Assign_Name (gf_constBool ?_) hs
  exact wpAny_storeName_local hk F.ns (fun h' hn hs' => h _ (F.store hiC heC hn hs' (Nat.le_succ_of_le F.kp.tk))) hp
/- the pair that is handed out; e₂ gives a text and changes but the number of tokens -/
theorem gf_yield {e₂ : PySem.Expr} {p₁ pos : Pos} {k : Nat} {p : Int} {tp : Tok} {y : List Nat} {Q : Value → Shared → Prop} (F : GW env it e m s₀ s) (hkd : env.scope.kind = .function) (hk : env.kindOf (Str.ofString "pos") = some .local) (hv : m (Str.ofString "pos") = some (.int p tp))
    (h₂ : ∀ Q : Value → Shared → Prop, (∀ tx k, 1 ≤ k → Q (.str (S y) tx) { s with toks := k }) → wpAny (model prog w) A' (eval e₂ env) Q E s)
    (hQ : ∀ (T : Addr) ti tx k, 1 ≤ k → (∀ b o, b ≠ env.locals → b ≠ it → b ≠ e → s₀.heap.get? b = some o → b < T) → (env.locals < T ∧ it < T ∧ e < T) → T = s.heap.objs.size → GW env it e m s₀ { s with heap := s.heap.push (tupO [.int p ti, .str (S y) tx] 0), toks := k } → Q (.ref T) { s with heap := s.heap.push (tupO [.int p ti, .str (S y) tx] 0), toks := k })
    (hs : ∀ env, starEach [.Name (Str.ofString "pos") p₁, e₂] env = [(false, eval (.Name (Str.ofString "pos") p₁) env), (false, eval e₂ env)]) :
    wpAny (model prog w) A' (eval (.Tuple [.Name (Str.ofString "pos") p₁, e₂] k pos) env) Q E s := by
  refine Tuple_ ?_
  rw [hs]
  show wpAny _ _ (spliced [(false, eval (.Name (Str.ofString "pos") p₁) env), (false, eval e₂ env)]) _ _ _
  refine Calls.spliced_cons (gf_name (hd := by decide) F.ns hkd hk hv (Calls.spliced_cons (h₂ _ fun tx k' hk' => Calls.spliced_nil (wpAny_newTuple ?_ (by show 2 ≤ sizeLine; decide)))))
  exact hQ _ tp tx _ hk' (fun b o h1 h2 h3 q => Heap.lt_size (F.kp.keep b o h1 h2 h3 q)) ⟨F.ns.lt, F.lt.1, F.lt.2⟩ rfl (F.push _ hk')

/- one turn: the next sign is bound to the two names -/
theorem gf_item {p₁ p₂ tp : Pos} {kk : Nat} {body : List Stmt} (hh : (A.over (.forLoop (.Tuple [.Name (Str.ofString "pos") p₁, .Name (Str.ofString "ch") p₂] kk tp) (.ref e) body [] env) fs).handled = none) (F : GF env it e x t i m s₀ s) (hei : e ≠ it) (hiC : it ≠ env.locals) (heC : e ≠ env.locals) (hkd : env.scope.kind = .function)
    (hk1 : env.kindOf (Str.ofString "pos") = some .local) (hk2 : env.kindOf (Str.ofString "ch") = some .local) (hi : i < x.cps.size)
    (h : ∀ s' m', GF env it e x t (i + 1) m' s₀ s' → (∃ tp, m' (Str.ofString "pos") = some (.int i tp)) → (∃ tc, m' (Str.ofString "ch") = some (.str ⟨#[x.cps.getD i 0]⟩ tc)) → m' (Str.ofString "escape") = m (Str.ofString "escape") →
      Seg (model prog w) A R Y n s₀ (.forLoop (.Tuple [.Name (Str.ofString "pos") p₁, .Name (Str.ofString "ch") p₂] kk tp) (.ref e) body [] env) ((execs body env).wrap (fun f => match f with
            | .next | .cont => .pure (.again (.forLoop (.Tuple [.Name (Str.ofString "pos") p₁, .Name (Str.ofString "ch") p₂] kk tp) (.ref e) body [] env))
            | .brk => .pure (.done .next)
            | .ret v => .pure (.done (.ret v))) (fun e => (do noteFrame e env; theTreesLotGoes e : Sem Unit).wrap (fun _ => .raise e) .raise id id) id id) fs s') :
    Seg (model prog w) A R Y n s₀ (.forLoop (.Tuple [.Name (Str.ofString "pos") p₁, .Name (Str.ofString "ch") p₂] kk tp) (.ref e) body [] env) ((model prog w).den (.forLoop (.Tuple [.Name (Str.ofString "pos") p₁, .Name (Str.ofString "ch") p₂] kk tp) (.ref e) body [] env)) fs s := by
  have hp : (env.scope.kind == .class || (env.scope.kind == .module && env.locals != env.globals)) = false := by rw [hkd]; rfl
  refine seg_forLoop (E := fun _ _ => False) (E' := fun _ _ => False) ?_
  obtain ⟨old, he⟩ := F.en
  obtain ⟨h₀, tk₀, rfl⟩ := F.kp.eq
  refine wpAny_pyNext_enum_itemD (draws_str (A := (A.over _ fs).in1) hh it x t) he F.si hi hei (by simpa using hei) fun v h' tk' hP ho hst hT hsz hk => ?_
  obtain ⟨cc, u, hc, rfl⟩ := hP
  have heL : e < h₀.objs.size := Heap.lt_size he
  have hiL : it < h₀.objs.size := by obtain ⟨o, h1, _⟩ := F.si; exact Heap.lt_size h1
  have hCL : env.locals < h₀.objs.size := F.ns.lt
  refine wpAny_letOwnedTupleGo_enum ho fun h₂ he₂ hs₂ => ?_
  replace hs₂ : Heap.SameBut e h' h₂ := hs₂
  have hT₂ : h₂.get? h₀.objs.size = some { cls := .type "tuple", data := .seq #[.int i tk', .str ⟨#[cc]⟩ u] } := hs₂.extBut _ _ (Nat.ne_of_gt heL) hT
  refine wpAny_assign_Tuple hh ⟨_, hT₂, rfl, _, rfl⟩ rfl rfl fun h₃ hs₃ => ?_
  replace hs₃ : Heap.ExtBut h₂.objs.size h₂ h₃ := hs₃
  have hz₂ : h₂.objs.size = h₀.objs.size + 1 := hs₂.1.trans hsz
  have k₃ : ∀ b o, h₂.get? b = some o → h₃.get? b = some o := fun b o q => hs₃ b o (Nat.ne_of_lt (Heap.lt_size q)) q
  have k₀ : ∀ b o, b ≠ e → b ≠ it → h₀.get? b = some o → h₃.get? b = some o := fun b o h1 h2 q => k₃ b o (hs₂.extBut b o h1 (hk b o h1 h2 q))
  have F₃ : GF env it e x t (i + 1) m s₀ { s₀ with heap := h₃, toks := tk' + 1 } := by
    refine ⟨⟨⟨_, _, rfl⟩, Nat.le_add_left _ _, fun b o h1 h2 h3 q => k₀ b o h3 h2 (F.kp.keep b o h1 h2 h3 q)⟩, ?_, ⟨_, k₃ _ _ he₂⟩, ?_⟩
    · obtain ⟨o, es, ep, h1, r⟩ := F.ns
      exact ⟨o, es, ep, k₀ _ _ (Ne.symm heC) (Ne.symm hiC) h1, r⟩
    · obtain ⟨o, h1, r⟩ := hst
      exact ⟨o, k₃ _ _ (hs₂.extBut _ _ (Ne.symm hei) h1), r⟩
  show wpAny _ _ (assignInOrder [assign (.Name (Str.ofString "pos") p₁) env, assign (.Name (Str.ofString "ch") p₂) env] [.int i tk', .str ⟨#[cc]⟩ u]) _ _ _
  refine wpAny_assignInOrder_more (PyProof.Rows.assign_Name (wpAny_storeName_local hk1 F₃.ns (fun h₄ hn₄ hs₄ => ?_) hp))
  have F₄ := F₃.store hiC heC hn₄ hs₄ (k := tk' + 1 + 1) (Nat.le_add_left _ _)
  refine wpAny_assignInOrder_more (PyProof.Rows.assign_Name (wpAny_storeName_local hk2 F₄.ns (fun h₅ hn₅ hs₅ => ?_) hp))
  have F₅ := F₄.store hiC heC hn₅ hs₅ (k := tk' + 1 + 1 + 1) (Nat.le_add_left _ _)
  refine wpAny_assignInOrder_none (h _ _ F₅ ⟨tk', ?_⟩ ⟨u, ?_⟩ ?_)
  · rw [if_neg (by decide), if_pos rfl]
  · rw [if_pos rfl]
    have : x.cps.getD i 0 = cc := by
      rw [Array.getD_eq_getD_getElem?, hc]; rfl
    rw [this]
  · rw [if_neg (by decide), if_neg (by decide)]

theorem gf_end {target : PySem.Expr} {body : List Stmt} {k : Result → Sem Fin} {hd : Option Value} {g : Bool} {l : List Value} {p : Pos} {c₁ : Code} (hh : (A.over (.forLoop target (.ref e) body [] env) (.ret k hd g l c₁ p [] :: fs)).handled = none) (F : GF env it e x t i m s₀ s) (hei : e ≠ it) (hiC : it ≠ env.locals) (heC : e ≠ env.locals) (hi : i = x.cps.size)
    (hie : it < e) (h : ∀ s', GW env it e m s₀ s' → Seg (model prog w) A R Y n s₀ c₁ (k (.ok .next)) fs s') :
    Seg (model prog w) A R Y n s₀ (.forLoop target (.ref e) body [] env) ((model prog w).den (.forLoop target (.ref e) body [] env)) (.ret k hd g l c₁ p [] :: fs) s := by
  refine seg_forLoop (E := fun _ _ => False) (E' := fun _ _ => False) ?_
  obtain ⟨old, he⟩ := F.en
  obtain ⟨h₀, tk₀, rfl⟩ := F.kp.eq
  subst hi
  refine wpAny_pyNext_enum_endD (draws_str (A := (A.over _ _).in1) hh it x t) he F.si fun h' hs => ?_
  replace hs : Heap.ExtBut it h₀ h' := hs
  have hel : e < h'.objs.size := Heap.lt_size (hs _ _ hei he)
  exact seg_loopEnd (h _ ⟨⟨⟨_, _, rfl⟩, F.kp.tk, fun b o h1 h2 h3 q => hs b o h2 (F.kp.keep b o h1 h2 h3 q)⟩, F.ns.extBut hs (Ne.symm hiC), Nat.lt_trans hie hel, hel⟩)

theorem seg_forLoop_ind {target : PySem.Expr} {itv : Value} {body : List Stmt} {X : Type} (μ : X → Nat) (Hyp : X → Nat → Shared → Shared → Prop)
    (turn : ∀ x n s₀ s, Hyp x n s₀ s → (∀ y, μ y < μ x → ∀ n' s₀' s', Hyp y n' s₀' s' → Seg (model prog w) A R Y n' s₀' (.forLoop target itv body [] env) ((model prog w).den (.forLoop target itv body [] env)) fs s') →
      Seg (model prog w) A R Y n s₀ (.forLoop target itv body [] env) ((model prog w).den (.forLoop target itv body [] env)) fs s) :
    ∀ x n s₀ s, Hyp x n s₀ s → Seg (model prog w) A R Y n s₀ (.forLoop target itv body [] env) ((model prog w).den (.forLoop target itv body [] env)) fs s := by
  have key : ∀ k x n s₀ s, μ x ≤ k → Hyp x n s₀ s → Seg (model prog w) A R Y n s₀ (.forLoop target itv body [] env) ((model prog w).den (.forLoop target itv body [] env)) fs s := by
    intro k
    induction k with
    | zero => intro x n s₀ s hx H; exact turn x n s₀ s H fun y hy => absurd hy (by (first | lia | omega))
    | succ k ih => intro x n s₀ s hx H; exact turn x n s₀ s H fun y hy n' s₀' s' H' => ih y n' s₀' s' (by (first | lia | omega)) H'
  exact fun x n s₀ s H => key _ x n s₀ s (Nat.le_refl _) H
end
end Mine
end G2

section G3
open PySem PySem.W PySem.Spec PySem.Calls PyProof.Rows
namespace Mine

structure GenFn (w : World) (a : Addr) (oc : Value) (od : Option Addr) (sl : Array (Option Value)) (fd : FuncData) (body : List Stmt) : Prop where
  at_ : (hd.heap_39 w.params).lookup a = some ⟨oc, od, .func fd, sl⟩
  co : fd.scope.isCoroutine = false
  gen : fd.scope.isGenerator = true
  body : fd.body = .stmts body
  kind : fd.scope.kind = .function
  glob : fd.globals = mainGlobals
  bi : fd.builtins = builtinsNs
  clos : fd.closure = []
  cells : ∀ x ∈ fd.scope.names, x.2 ≠ .cell
  code : codeIn (hd.heap_39 w.params) fd.code fd.qualname = true

theorem call_gen {c : Cx} {a : Addr} {oc : Value} {od : Option Addr} {sl : Array (Option Value)} {fd : FuncData} {body : List Stmt} {x : Str} {v : Value} {fz : FZ} {s : Shared} {Q E : Value → Shared → Prop} (f : GenFn c.w a oc od sl fd body)
    (hb : bindArgs fd ⟨[v], []⟩ = pure [(x, v)]) (hl : fd.scope.names.lookup x = some .local) (I : Inv c.G fz s) (tk : 1 ≤ s.toks)
    (h : ∀ (h' : Heap) (tk' : Nat) (nm qn : Value), h'.Ns s.heap.objs.size (fun y => [(x, v)].lookup y) → (∀ b o, s.heap.get? b = some o → h'.get? b = some o) → h'.objs.size = s.heap.objs.size + 1 → 1 ≤ tk' →
      Q (.ref h'.objs.size) { s with heap := h'.push { cls := .type "generator", data := .fields #[.int s.gens.size 0, nm, qn] }, gens := s.gens.push (.fresh (.func body (defEnv fd.scope fd.qualname fd.code a s.heap.objs.size))), toks := tk' }) :
    wpAny c.M c.A (call (.ref a) [v]) Q E s := by
  obtain ⟨mg, mb, T⟩ := c.st.top
  refine wpAny_call (codeAny_call_generator c.room.dlt (I.ge (c.st.k a _ f.at_)) rfl f.co f.gen f.body ((codeRec_of c.st.k f.code).keeps fun b o e => I.ge e) ?_)
  rw [hb]
  refine wpAny_pure ?_
  rw [f.glob, f.bi, f.clos]
  refine wpAny_newFunctionEnv f.cells (fun y hy => ?_) (fun h' hn hs => ?_) f.kind
  · rw [List.mem_singleton.mp hy]; exact hl
  · have hk' : ∀ b o, s.heap.get? b = some o → h'.get? b = some o := fun b o e => hs.extBut b o (Nat.ne_of_lt (Heap.lt_size e)) (Heap.get?_push_of_some _ e)
    refine ⟨T.nolimit.keeps fun b o e => hk' _ _ (I.ge e), ?_⟩
    exact h h' _ _ _ hn hk' (by rw [hs.1, Heap.size_push]) (Nat.le_add_left _ _)

section
variable {c : Cx} {A' : Around} {s₀ s : Shared} {env : Env} {m : Str → Option Value} {x : Str} {t : Tok} {E : Value → Shared → Prop}

theorem gf_enum {p q pos : Pos} {Q : Value → Shared → Prop} (hn : s.heap.Ns env.locals m) (hv : m (Str.ofString "addr") = some (.str x t)) (heq : ∃ h tk, s = { s₀ with heap := h, toks := tk }) (tk : 1 ≤ s.toks) (hs : ∀ b o, b ≠ env.locals → s₀.heap.get? b = some o → s.heap.get? b = some o) (hsz : s.heap.objs.size = s₀.heap.objs.size)
    (hG : ∀ b o, c.G.get? b = some o → s.heap.get? b = some o) (hkd : env.scope.kind = .function) (hglob : env.globals = mainGlobals) (hbi : env.builtins = builtinsNs) (hka : env.kindOf (Str.ofString "addr") = some .local) (hke : env.kindOf (Str.ofString "enumerate") = some .globalImplicit)
    (hne : nsIn (hd.heap_39 c.w.params) mainGlobals (Str.ofString "enumerate") = some none)
    (hQ : ∀ s' : Shared, GF env s₀.heap.objs.size (s₀.heap.objs.size + 1) x t 0 m s₀ s' → Q (.ref (s₀.heap.objs.size + 1)) s') :
    wpAny c.M A' (eval (.Call (.Name (Str.ofString "enumerate") p) [.Name (Str.ofString "addr") q] [] pos) env) (fun v s₁ => wpAny c.M A' (pyIter v) Q E s₁) E s := by
  obtain ⟨mg, mb, T⟩ := c.st.top
  show wpAny _ _ (do callWith pos (← eval (.Name (Str.ofString "enumerate") p) env) [] (backTo pos (starEach [.Name (Str.ofString "addr") q] env)) (backToKw pos (keywordEach [] env))) _ _ _
  refine wpAny_bind ?_
  refine Calls.Name_function_global hkd hke (Calls.loadGlobal_builtin (by rw [hglob]; exact T.g.keeps hG) (mg_none_of c.st.k T.g hne) (by rw [hbi]; exact T.b.keeps hG) ((T.builtins (Str.ofString "enumerate") (by decide)).trans (show bootBuiltins (Str.ofString "enumerate") = some (.type "enumerate") from rfl)) ?_) (by decide)
  show wpAny _ _ (callWith pos (.type "enumerate") [] [(false, eval (.Name (Str.ofString "addr") q) env)] []) _ _ _
  refine PySem.callWith_type rfl (Calls.evalArgs_plain (Calls.spliced_cons (wpAny_Name (wpAny_loadName_local hkd hka hn hv (Calls.spliced_nil ?_)) (by decide))))
  obtain ⟨h, tk', rfl⟩ := heq
  refine call_enumerate_str fun h' he hi hz hk => ?_
  replace hsz : h.objs.size = s₀.heap.objs.size := hsz
  rw [show ({ s₀ with heap := h, toks := tk' } : Shared).heap.objs.size = s₀.heap.objs.size from hsz] at he hi hz ⊢
  refine wpAny_pyIter_enum he (hQ _ ?_)
  exact ⟨⟨⟨_, _, rfl⟩, tk, fun b o h1 _ _ e => hk b o (hs b o h1 e)⟩, hn.keeps hk, ⟨.none, he⟩, hi⟩
end
end Mine
end G3

section G4
open PySem PySem.W PySem.Spec PySem.Calls PyProof.Rows
namespace Mine

/- what a new generator is -/
structure GenNew (c : Cx) (l : List Nat) (s : Shared) (C a : Addr) (gs : GenState) (s' : Shared) : Prop where
  low : s.heap.objs.size ≤ C ∧ C < a ∧ a + 1 = s'.heap.objs.size
  keep : ∀ b o, s.heap.get? b = some o → s'.heap.get? b = some o
  isgen : s'.heap.IsGen a s.gens.size
  gens : s'.gens = s.gens.push gs
  bare : gs.bare = true
  os : s'.os = s.os
  tk : 1 ≤ s'.toks
  goes : ∀ s'', (∀ o, s'.heap.get? C = some o → s''.heap.get? C = some o) → s''.heap.objs.size = s'.heap.objs.size → (∀ b o, c.G.get? b = some o → s''.heap.get? b = some o) → 1 ≤ s''.toks →
    gs.Goes c.M c.A.in1 (GR C s'.heap.objs.size (s'.heap.objs.size + 1)) (GY C s'.heap.objs.size (s'.heap.objs.size + 1) (scanF 0 false l 0)) (scanF 0 false l 0).length (.send .none) s''

noncomputable abbrev Cx.kept (c : Cx) (kA : FZ) (kG : Array GenState) (kN : Addr → Prop) : Cx := { c with kA := kA, kG := kG, kN := kN }

section
variable {c : Cx} {ρ ρ' : List (Str × D)} {own own' : List Ow} {fz : FZ} {s s' : Shared} {d : D}

theorem Frm.move {W : Addr → Prop} {n₀ : Nat} (F : Frm c ρ own fz s) (hcells : c.env.cells = [])
    (hk : ∀ b o, ¬ W b → s.heap.get? b = some o → s'.heap.get? b = some o)
    (hW : ∀ b, W b → c.s₀.heap.objs.size ≤ b ∧ fz b = none ∧ b ≠ c.env.locals ∧ (∀ q ∈ own, q.addr ≠ b) ∧ c.kA b = none)
    (hg : ∀ (g : Nat) (x : GenState), g < n₀ → s.gens[g]? = some x → s'.gens[g]? = some x) (hn₀ : c.s₀.gens.size ≤ n₀ ∧ c.kG.size ≤ n₀) (hb : AllBare s'.gens) (hos : s'.os = s.os) (tk : 1 ≤ s'.toks) : Frm c ρ own fz s' := by
  obtain ⟨m, hn, hr, hw⟩ := F.ns
  have h78 : ¬ W 78 := fun h => F.ne78 (hW _ h).1 rfl
  have h95 : ¬ W 95 := fun h => F.ne95 (hW _ h).1 rfl
  have hL : ¬ W c.env.locals := fun h => (hW _ h).2.2.1 rfl
  have hn' : s'.heap.Ns c.env.locals m := let ⟨o, es, ep, h1, r⟩ := hn; ⟨o, es, ep, hk _ _ hL h1, r⟩
  refine ⟨⟨F.nx.mono, F.nx.old, Nat.le_of_lt (Nat.lt_of_le_of_lt F.lo.1 hn'.lt), fun b o h1 h2 e => hk b o (fun h => ?_) (F.nx.keep b o h1 h2 e), fun g x e => hg g x ?_ (F.nx.gens g x e), hos.trans F.nx.os⟩,
    ⟨F.I.base, fun b o e => hk b o (fun h => ?_) (F.I.le b o e), ?_, ?_, F.I.f78, F.I.f95, hb⟩, ⟨m, hn', fun x d e => ?_, hw⟩, F.lo, fun q hq => ?_, F.nodup, tk, ⟨fun b o e => ?_, F.kp.own, fun g x e => hg g x ?_ (F.kp.gens g x e), F.kp.loose⟩⟩
  · exact absurd (hW b h).1 (Nat.not_le.mpr (Heap.lt_size e))
  · exact Nat.lt_of_lt_of_le (Array.getElem?_eq_some_iff.mp e).1 hn₀.1
  · rw [(hW b h).2.1] at e; cases e
  · refine F.I.t78.mono (fun _ _ e => e) ?_
    obtain ⟨o, e⟩ := F.I.t78.get
    rw [show lamS.tab = 78 from rfl] at e ⊢
    rw [e, hk _ _ h78 e]
  · refine F.I.t95.mono (fun _ _ e => e) ?_
    obtain ⟨o, e⟩ := F.I.t95.get
    rw [show lamJ.tab = 95 from rfl] at e ⊢
    rw [e, hk _ _ h95 e]
  · obtain ⟨v, hbd, r⟩ := hr x d e
    refine ⟨v, ?_, r⟩
    rcases hbd with h | ⟨q, hk', hl, hc⟩
    · exact .inl h
    · rw [hcells] at hl; cases hl
  · obtain ⟨ha, hf, hv⟩ := F.ow q hq
    exact ⟨ha, hf, hv.keep (fun _ _ e => e) fun o e => hk _ _ (fun h => (hW _ h).2.2.2.1 q hq rfl) e⟩
  · obtain ⟨h1, h2⟩ := F.kp.obj b o e
    exact ⟨hk _ _ (fun h => by rw [(hW _ h).2.2.2.2] at e; cases e) h1, h2⟩
  · exact Nat.lt_of_lt_of_le (Array.getElem?_eq_some_iff.mp e).1 hn₀.2

theorem Frm.freezeObj {T : Addr} {o : Obj} (F : Frm c ρ own fz s) (h : s.heap.get? T = some o) (hf : fz T = none) (hT : c.s₀.heap.objs.size ≤ T) (hL : T ≠ c.env.locals) (ho : ∀ q ∈ own, q.addr ≠ T) (hN : ∀ b, c.kN b → T ≠ b) : Frm c ρ own (fz.put T o) s := by
  obtain ⟨m, hn, hr, hw⟩ := F.ns
  have hle := FZ.put_le (o := o) hf
  refine ⟨F.nx.freeze hf hT, F.I.freeze h hf (F.ne78 hT) (F.ne95 hT), ⟨m, hn, fun x d e => ?_, hw⟩, ⟨F.lo.1, by rw [FZ.put_ne _ _ (Ne.symm hL)]; exact F.lo.2⟩, fun q hq => ?_, F.nodup, F.tk, F.kp.freeze hf hN⟩
  · obtain ⟨v, hb, r⟩ := hr x d e
    exact ⟨v, hb, r.mono hle⟩
  · obtain ⟨h1, h2, h3⟩ := F.ow q hq
    exact ⟨h1, by rw [FZ.put_ne _ _ (ho q hq)]; exact h2, h3.keep hle fun o e => e⟩

theorem letOwned_gen {M : Model} {A : Around} {t : PySem.Expr} {a : Addr} {g : Nat} {v : Value} {Q : Unit → Shared → Prop} {E : Value → Shared → Prop} (hg : s.heap.IsGen a g) (hQ : Q () s) : wpAny M A (letOwnedTupleGo t (.ref a) v) Q E s := by
  obtain ⟨o, nm, qn, ho, hc, hd, _⟩ := hg
  unfold letOwnedTupleGo
  split
  · cases v with
    | ref b =>
      refine wpAny_bind (wpAny_load ho ?_)
      rw [hc, hd]
      show wpAny M A (if (["enumerate", "zip", "dict_itemiterator", "dict_reverseitemiterator", "odict_iterator", "itertools.zip_longest", "itertools.pairwise"].contains "generator" && _) = true then _ else _) Q E s
      rw [if_neg (by
        intro h
        rw [Bool.and_eq_true] at h
        exact absurd h.1 (by decide))]
      exact wpAny_pure hQ
    | _ => exact wpAny_pure hQ
  · cases v with
    | ref b =>
      refine wpAny_bind (wpAny_load ho ?_)
      rw [hc, hd]
      show wpAny M A (if (["enumerate", "zip", "dict_itemiterator", "dict_reverseitemiterator", "odict_iterator", "itertools.zip_longest", "itertools.pairwise"].contains "generator" && _) = true then _ else _) Q E s
      rw [if_neg (by
        intro h
        rw [Bool.and_eq_true] at h
        exact absurd h.1 (by decide))]
      exact wpAny_pure hQ
    | _ => exact wpAny_pure hQ
  · exact wpAny_pure hQ

noncomputable def scanD (p : Nat × List Nat) : D := .tuple [.int p.1, .str (S p.2)]

/- the head of the loop -/
structure GLoop (c : Cx) (ρ : List (Str × D)) (own : List Ow) (L : List (Nat × List Nat)) (C a it e : Addr) (g i : Nat) (fz : FZ) (s : Shared) : Prop where
  F : Frm c ρ own fz s
  isgen : s.heap.IsGen a g
  gs : ∃ gs, s.gens[g]? = some gs ∧ ∀ s'', (∀ b, (b = C ∨ b = it ∨ b = e) → ∀ o, s.heap.get? b = some o → s''.heap.get? b = some o) → (i = 0 → s''.heap.objs.size = s.heap.objs.size) → (∀ b o, c.G.get? b = some o → s''.heap.get? b = some o) → 1 ≤ s''.toks →
    gs.Goes c.M c.A.in1 (GR C it e) (GY C it e L) (L.length - i) (.send .none) s''
  W : ∀ b, (b = a ∨ b = C ∨ b = it ∨ b = e) → c.s₀.heap.objs.size ≤ b ∧ fz b = none ∧ b ≠ c.env.locals ∧ (∀ q ∈ own, q.addr ≠ b) ∧ c.kA b = none
  n₀ : c.s₀.gens.size ≤ g ∧ c.kG.size ≤ g
  ne : a ≠ C ∧ a ≠ it ∧ a ≠ e

theorem ex_pred {n i : Nat} (h : i < n) : ∃ m, n - i = m + 1 ∧ n - 1 - (m + 1 - 1) = i := by
  obtain ⟨k, rfl⟩ := Nat.exists_eq_add_of_lt h
  exact ⟨k, by rw [Nat.add_assoc]; exact Nat.add_sub_cancel_left i (k + 1), by rw [Nat.add_sub_cancel, Nat.add_sub_cancel]; exact Nat.add_sub_cancel i k⟩
theorem ex_forGen {elts : List PySem.Expr} {kk : Nat} {tpos : Pos} {iter : PySem.Expr} {body rest : List Stmt} {pos : Pos} {l : List Nat} {R : Flow → FZ → Shared → Prop} (hcells : c.env.cells = [])
    (hcall : ∀ fz s, Frm c ρ own fz s → ∀ (Q E : Value → Shared → Prop), (∀ fz₁ s₁ C a gs s', FZ.le fz fz₁ → Frm c ρ own fz₁ s₁ → GenNew c l s₁ C a gs s' → Q (.ref a) s') → wpAny c.M c.A (eval iter c.env) Q E s)
    (ρs : Nat → List (Str × D)) (ows : Nat → List Ow) (h0 : ∀ p ∈ ρs 0, ρ.lookup p.1 = some p.2) (hw0 : ows 0 = own)
    (turn : ∀ kA kG kN i (hi : i < (scanF 0 false l 0).length), ∃ ρ', AS (c.kept kA kG kN) (ρs i) (ows i) (.Tuple elts kk tpos) (scanD ((scanF 0 false l 0)[i])) ρ' ∧ EX (c.kept kA kG kN) ρ' (ows i) body (NextR (c.kept kA kG kN) (ρs (i + 1)) (ows (i + 1))))
    (fin : EX c (ρs (scanF 0 false l 0).length) (ows (scanF 0 false l 0).length) rest R)
    (hs : ∀ x, foldedSetIterable iter c.env x = pure x) : EX c ρ own (.For (.Tuple elts kk tpos) iter body [] pos :: rest) R := fun fz s F Q E hQ => by
  generalize hL : scanF 0 false l 0 = L at turn fin
  obtain ⟨mg, mb, T⟩ := c.st.top
  refine wpAny_execs_cons (wpAny_For (hcall fz s F _ _ fun fz₁ s₁ C a gs s' hl₁ F₁ G => ?_) hs)
  refine wpAny_pyIter_gen G.isgen ?_
  have hgsz : c.s₀.gens.size ≤ s₁.gens.size := Nat.le_of_not_lt fun h => by
    have := F₁.nx.gens s₁.gens.size _ (Array.getElem?_eq_getElem h)
    simp at this
  have hkgz : c.kG.size ≤ s₁.gens.size := Nat.le_of_not_lt fun h => by
    have := F₁.kp.gens s₁.gens.size _ (Array.getElem?_eq_getElem h)
    simp at this
  have hz := F₁.nx.size
  have hown0 : ∀ q ∈ own, q.addr < s₁.heap.objs.size := fun q hq => by
    obtain ⟨_, _, hv⟩ := F₁.ow q hq
    obtain ⟨o, ho, _⟩ := hv.get
    exact Heap.lt_size ho
  have hlocs : c.env.locals < s₁.heap.objs.size := let ⟨m, hn, _⟩ := F₁.ns; hn.lt
  have L0 : GLoop c (ρs 0) (ows 0) L C a s'.heap.objs.size (s'.heap.objs.size + 1) s₁.gens.size 0 fz₁ s' := by
    obtain ⟨g1, g2, g3⟩ := G.low
    have hbig : ∀ b, (b = a ∨ b = C ∨ b = s'.heap.objs.size ∨ b = s'.heap.objs.size + 1) → s₁.heap.objs.size ≤ b := by
      have hCs : C < s'.heap.objs.size := Nat.lt_of_lt_of_le g2 (Nat.le_of_succ_le (Nat.le_of_eq g3))
      rintro b (h | h | h | h) <;> rw [h]
      · exact Nat.le_trans g1 (Nat.le_of_lt g2)
      · exact g1
      · exact Nat.le_trans g1 (Nat.le_of_lt hCs)
      · exact Nat.le_succ_of_le (Nat.le_trans g1 (Nat.le_of_lt hCs))
    refine ⟨?_, G.isgen, ⟨gs, ?_, fun s'' h1 h2 h3 h4 => ?_⟩, fun b hb => ?_, ⟨hgsz, hkgz⟩, Nat.ne_of_gt g2, Nat.ne_of_lt (Nat.lt_of_succ_le (Nat.le_of_eq g3)), Nat.ne_of_lt (Nat.lt_succ_of_lt (Nat.lt_of_succ_le (Nat.le_of_eq g3)))⟩
    · rw [hw0]
      refine (F₁.weaken h0).move (W := fun _ => False) (n₀ := s₁.gens.size) hcells (fun b o _ e => G.keep b o e) (fun b h => h.elim) (fun g x hg e => ?_) ⟨hgsz, hkgz⟩ ?_ G.os G.tk
      · rw [G.gens, Array.getElem?_push_lt hg, ← Array.getElem?_eq_getElem hg]; exact e
      · rw [G.gens]; exact F₁.I.gens.push G.bare
    · rw [G.gens]; exact Array.getElem?_push_size ..
    · have := G.goes s'' (fun o e => h1 C (.inl rfl) o e) (h2 rfl) h3 h4
      rw [hL] at this
      exact this
    · have hb' := hbig b hb
      refine ⟨Nat.le_trans hz hb', F₁.I.fresh hb', Nat.ne_of_gt (Nat.lt_of_lt_of_le hlocs hb'), fun q hq => ?_, ?_⟩
      · rw [hw0] at hq
        exact Nat.ne_of_lt (Nat.lt_of_lt_of_le (hown0 q hq) hb')
      · cases e : c.kA b with
        | none => rfl
        | some o => exact absurd (F₁.kp.lt e) (Nat.not_lt.mpr hb')
  generalize s'.heap.objs.size + 1 = e at L0
  generalize s'.heap.objs.size = it at L0
  generalize s₁.gens.size = g at L0
  refine codeAny_forLoop_any (fun m s₂ => ∃ i fz', m = L.length - i ∧ i ≤ L.length ∧ FZ.le fz₁ fz' ∧ GLoop c (ρs i) (ows i) L C a it e g i fz' s₂) ?_ L.length ⟨0, fz₁, rfl, Nat.zero_le _, fun _ _ e => e, L0⟩
  rintro m s₂ ⟨i, fz₂, rfl, hle, hl₂, X⟩
  obtain ⟨gs₂, hgs₂, goes⟩ := X.gs
  refine wpAny_pyNext_genF (n := L.length - i) (Y := GY C it e L) (P := GP C it e) c.room.handled (T.nolimit.keeps fun b o e => X.F.I.ge e) c.room.dlt X.isgen hgs₂ (goes _ (fun _ _ _ e => e) (fun _ => rfl) (fun b o e => X.F.I.ge e) X.F.tk) (fun v s₃ gs₃ hb₃ hY => ?_) (fun s₃ hP h' hk' => ?_)
  · obtain ⟨iv, x, ti, tx, Ta, rfl, hT1, hT2, hT3, hT4, hT5, hT6⟩ := hY
    by_cases hi : i < L.length
    · obtain ⟨m, hm, hidx⟩ := ex_pred hi
      rw [hm] at hT4 hT6
      rw [hidx] at hT4
      dsimp only at hT6
      obtain ⟨⟨h₃, tk₃, rfl⟩, ktk, kkeep⟩ := hT5
      have ktk : 1 ≤ tk₃ := ktk
      have kkeep : ∀ b o, b ≠ C → b ≠ it → b ≠ e → s₂.heap.get? b = some o → h₃.get? b = some o := kkeep
      have hT1 : ∀ b o, b ≠ C → b ≠ it → b ≠ e → s₂.heap.get? b = some o → b < Ta := hT1
      have hT3 : h₃.get? Ta = some (tupO [.int iv ti, .str (S x) tx] 0) := hT3
      have hLi : L[i] = (iv, x) := by
        have := List.getElem?_eq_getElem hi
        rw [this] at hT4
        exact Option.some.inj hT4
      have hWa : ∀ b, (b = C ∨ b = it ∨ b = e) → c.s₀.heap.objs.size ≤ b ∧ fz₂ b = none ∧ b ≠ c.env.locals ∧ (∀ q ∈ ows i, q.addr ≠ b) ∧ c.kA b = none := fun b hb => X.W b (.inr hb)
      have hgsL : g < s₂.gens.size := (Array.getElem?_eq_some_iff.mp hgs₂).1
      have hgens : ∀ g' x, g' ≠ g → s₂.gens[g']? = some x → ((s₂.gens.setIfInBounds g .running).setIfInBounds g gs₃)[g']? = some x := fun g' x hg e => by
        rw [Array.getElem?_setIfInBounds_ne (Ne.symm hg), Array.getElem?_setIfInBounds_ne (Ne.symm hg)]; exact e
      have hself : ((s₂.gens.setIfInBounds g .running).setIfInBounds g gs₃)[g]? = some gs₃ := by
        simp [hgsL]
      have hbare : AllBare ((s₂.gens.setIfInBounds g .running).setIfInBounds g gs₃) := by
        intro y hy
        obtain ⟨k, hk, rfl⟩ := Array.mem_iff_getElem.mp hy
        by_cases hkg : k = g
        · subst hkg
          have := Array.getElem?_eq_getElem hk
          rw [hself] at this
          rw [← Option.some.inj this]; exact hb₃
        · have hk2 : k < s₂.gens.size := by simpa using hk
          have := hgens k _ hkg (Array.getElem?_eq_getElem hk2)
          rw [Array.getElem?_eq_getElem hk] at this
          rw [Option.some.inj this]; exact X.F.I.gens _ (Array.getElem_mem _)
      show wpAny _ _ _ _ _ { s₂ with heap := h₃, toks := tk₃, gens := (s₂.gens.setIfInBounds g .running).setIfInBounds g gs₃ }
      have hTloc : c.env.locals < Ta := by
        obtain ⟨mm, hn, _⟩ := X.F.ns
        obtain ⟨o, es, ep, h1, _⟩ := hn
        exact hT1 _ _ (fun q => (hWa C (.inl rfl)).2.2.1 q.symm) (fun q => (hWa it (.inr (.inl rfl))).2.2.1 q.symm) (fun q => (hWa e (.inr (.inr rfl))).2.2.1 q.symm) h1
      have hTs : c.s₀.heap.objs.size ≤ Ta := Nat.le_of_lt (Nat.lt_of_le_of_lt X.F.lo.1 hTloc)
      have hTown : ∀ q ∈ ows i, q.addr ≠ Ta := fun q hq => by
        obtain ⟨_, _, hv⟩ := X.F.ow q hq
        obtain ⟨o, ho, _⟩ := hv.get
        exact Nat.ne_of_lt (hT1 _ _ (fun q' => (hWa C (.inl rfl)).2.2.2.1 q hq q') (fun q' => (hWa it (.inr (.inl rfl))).2.2.2.1 q hq q') (fun q' => (hWa e (.inr (.inr rfl))).2.2.2.1 q hq q') ho)
      have hTfz : fz₂ Ta = none := by
        cases ef : fz₂ Ta with
        | none => rfl
        | some o => exact absurd (hT1 Ta o (Nat.ne_of_gt hT2.1) (Nat.ne_of_gt hT2.2.1) (Nat.ne_of_gt hT2.2.2) (X.F.I.le _ _ ef)) (Nat.lt_irrefl _)
      have hTa : Ta ≠ a := fun q => by
        obtain ⟨o, nm, qn, ho, hc, _⟩ := X.isgen
        have := kkeep a o X.ne.1 X.ne.2.1 X.ne.2.2 ho
        rw [← q, hT3] at this
        rw [← Option.some.inj this] at hc
        exact absurd hc (by intro h; injection h with h; exact absurd h (by decide))
      have F₃ : Frm c (ρs i) (ows i) (fz₂.put Ta (tupO [.int iv ti, .str (S x) tx] 0)) { s₂ with heap := h₃, toks := tk₃, gens := (s₂.gens.setIfInBounds g .running).setIfInBounds g gs₃ } := by
        refine (X.F.move (W := fun b => b = C ∨ b = it ∨ b = e) (n₀ := g) (s' := { s₂ with heap := h₃, toks := tk₃, gens := (s₂.gens.setIfInBounds g .running).setIfInBounds g gs₃ }) hcells (fun b o hb e => kkeep b o (fun q => hb (.inl q)) (fun q => hb (.inr (.inl q))) (fun q => hb (.inr (.inr q))) e) hWa (fun g' x hg e => hgens g' x (Nat.ne_of_lt hg) e) X.n₀ hbare rfl ktk).freezeObj hT3 hTfz hTs (Nat.ne_of_gt hTloc) hTown fun b hb => ?_
        obtain ⟨_, _, b', o, h3, h4⟩ := X.F.kp.loose b hb
        have hnW : ∀ y, (y = C ∨ y = it ∨ y = e) → b' ≠ y := fun y hy q => by rw [q, (hWa y hy).2.1] at h4; cases h4
        exact Nat.ne_of_gt (Nat.lt_of_le_of_lt h3 (hT1 b' o (hnW _ (.inl rfl)) (hnW _ (.inr (.inl rfl))) (hnW _ (.inr (.inr rfl))) (X.F.I.le _ _ h4)))
      have isg₃ : h₃.IsGen a g := let ⟨o, nm, qn, ho, r⟩ := X.isgen; ⟨o, nm, qn, kkeep a o X.ne.1 X.ne.2.1 X.ne.2.2 ho, r⟩
      refine letOwned_gen (g := g) isg₃ ?_
      obtain ⟨ρ', ha, hb⟩ := turn (fun b => if b = a ∨ b = C ∨ b = it ∨ b = e then h₃.get? b else c.kA b) ((s₂.gens.setIfInBounds g .running).setIfInBounds g gs₃) (fun b => (b = a ∨ b = C ∨ b = it ∨ b = e) ∨ c.kN b) i hi
      have r : Rep (fz₂.put Ta (tupO [.int iv ti, .str (S x) tx] 0)) (.ref Ta) (scanD L[i]) := by
        rw [hLi]
        exact .tuple (FZ.put_self _ _ _) (.cons (.int _ _) (.cons (.str _ _) .nil))
      have F₄ : Frm (c.kept (fun b => if b = a ∨ b = C ∨ b = it ∨ b = e then h₃.get? b else c.kA b) ((s₂.gens.setIfInBounds g .running).setIfInBounds g gs₃) (fun b => (b = a ∨ b = C ∨ b = it ∨ b = e) ∨ c.kN b)) (ρs i) (ows i) (fz₂.put Ta (tupO [.int iv ti, .str (S x) tx] 0)) { s₂ with heap := h₃, toks := tk₃, gens := (s₂.gens.setIfInBounds g .running).setIfInBounds g gs₃ } := by
        refine ⟨F₃.nx, F₃.I, F₃.ns, F₃.lo, F₃.ow, F₃.nodup, F₃.tk, fun b o hb => ?_, fun b o hb q hq => ?_, fun g' x hg => hg, fun b hb => ?_⟩
        · have hb : (if b = a ∨ b = C ∨ b = it ∨ b = e then h₃.get? b else c.kA b) = some o := hb
          split at hb
          · rename_i hq
            exact ⟨hb, F₃.ne78 (X.W b hq).1, F₃.ne95 (X.W b hq).1, (X.W b hq).2.2.1⟩
          · exact F₃.kp.obj b o hb
        · have hb : (if b = a ∨ b = C ∨ b = it ∨ b = e then h₃.get? b else c.kA b) = some o := hb
          split at hb
          · rename_i hq'
            exact (X.W b hq').2.2.2.1 q hq
          · exact F₃.kp.own b o hb q hq
        · rcases hb with hb | hb
          · have hlt : b < Ta := by
              rcases hb with h | h | h | h
              · obtain ⟨o, nm, qn, ho, _⟩ := X.isgen
                rw [h]; exact hT1 a o X.ne.1 X.ne.2.1 X.ne.2.2 ho
              · rw [h]; exact hT2.1
              · rw [h]; exact hT2.2.1
              · rw [h]; exact hT2.2.2
            exact ⟨(FZ.put_ne _ _ (Nat.ne_of_lt hlt)).trans (X.W b hb).2.1, (X.W b hb).2.2.2.1, Ta, _, Nat.le_of_lt hlt, FZ.put_self _ _ _⟩
          · exact F₃.kp.loose b hb
      refine ha _ _ _ F₄ r _ _ fun s₅ F₅ => hb _ s₅ F₅ _ _ ?_
      rintro f fz₆ s₆ hl₆ ⟨rfl, F₆⟩
      have kob : ∀ b o, (b = a ∨ b = C ∨ b = it ∨ b = e) → h₃.get? b = some o → s₆.heap.get? b = some o ∧ ∀ q ∈ ows (i + 1), q.addr ≠ b := fun b o hb ho => by
        have e1 : (c.kept (fun b => if b = a ∨ b = C ∨ b = it ∨ b = e then h₃.get? b else c.kA b) ((s₂.gens.setIfInBounds g .running).setIfInBounds g gs₃) (fun b => (b = a ∨ b = C ∨ b = it ∨ b = e) ∨ c.kN b)).kA b = some o := (if_pos hb).trans ho
        exact ⟨(F₆.kp.obj b o e1).1, F₆.kp.own b o e1⟩
      have hW6 : ∀ b, (b = a ∨ b = C ∨ b = it ∨ b = e) → fz₆ b = none ∧ (∀ q ∈ ows (i + 1), q.addr ≠ b) := fun b hb =>
        let ⟨h1, h2, _⟩ := F₆.kp.loose b (.inl hb)
        ⟨h1, h2⟩
      refine ⟨L.length - (i + 1), Nat.sub_lt_sub_left hi (Nat.lt_succ_self i), i + 1, fz₆, rfl, hi, fun b o e => hl₆ b o (FZ.put_le hTfz b o (hl₂ b o e)), ⟨?_, ?_, ⟨gs₃, F₆.kp.gens g gs₃ hself, fun s'' h1 _ h3 h4 => ?_⟩, fun b hb => ⟨(X.W b hb).1, (hW6 b hb).1, (X.W b hb).2.2.1, (hW6 b hb).2, (X.W b hb).2.2.2.2⟩, X.n₀, X.ne⟩⟩
      · refine ⟨F₆.nx, F₆.I, F₆.ns, F₆.lo, F₆.ow, F₆.nodup, F₆.tk, fun b o hb => ?_, fun b o hb q hq => ?_, fun g' x hg => F₆.kp.gens g' x (F₃.kp.gens g' x hg), fun b hb => F₆.kp.loose b (.inr hb)⟩
        · refine F₆.kp.obj b o ?_
          show (if b = a ∨ b = C ∨ b = it ∨ b = e then h₃.get? b else c.kA b) = some o
          rw [if_neg (fun q => by rw [(X.W b q).2.2.2.2] at hb; cases hb)]; exact hb
        · refine F₆.kp.own b o ?_ q hq
          show (if b = a ∨ b = C ∨ b = it ∨ b = e then h₃.get? b else c.kA b) = some o
          rw [if_neg (fun q => by rw [(X.W b q).2.2.2.2] at hb; cases hb)]; exact hb
      · exact let ⟨o, nm, qn, ho, r⟩ := isg₃; ⟨o, nm, qn, (kob a o (.inl rfl) ho).1, r⟩
      · have := hT6 s'' (fun b hb o ho => h1 b hb o (kob b o (.inr hb) ho).1) h4
        rw [show L.length - (i + 1) = m from (Nat.sub_succ _ _).trans (congrArg Nat.pred hm)]
        exact this
    · exfalso
      have h0 : L.length - i = 0 := Nat.sub_eq_zero_of_le (Nat.not_lt.mp hi)
      rw [h0] at hT6
      exact hT6 s₃ (fun _ _ _ e => e) hT5.tk
  · obtain ⟨hn, ⟨h₃, tk₃, rfl⟩, ktk, kkeep⟩ := hP
    have hi : i = L.length := by (first | lia | omega)
    subst hi
    have ktk : 1 ≤ tk₃ := ktk
    have kkeep : ∀ b o, b ≠ C → b ≠ it → b ≠ e → s₂.heap.get? b = some o → h₃.get? b = some o := kkeep
    have hk' : ∀ b o, h₃.get? b = some o → h'.get? b = some o := hk'
    refine wpAny_execs_nil ?_
    have hWa : ∀ b, (b = C ∨ b = it ∨ b = e) → c.s₀.heap.objs.size ≤ b ∧ fz₂ b = none ∧ b ≠ c.env.locals ∧ (∀ q ∈ ows L.length, q.addr ≠ b) ∧ c.kA b = none := fun b hb => X.W b (.inr hb)
    have hgens : ∀ g' x, g' ≠ g → s₂.gens[g']? = some x → ((s₂.gens.setIfInBounds g .running).setIfInBounds g .finished)[g']? = some x := fun g' x hg e => by
        rw [Array.getElem?_setIfInBounds_ne (Ne.symm hg), Array.getElem?_setIfInBounds_ne (Ne.symm hg)]; exact e
    have hgsL : g < s₂.gens.size := (Array.getElem?_eq_some_iff.mp hgs₂).1
    have hself : ((s₂.gens.setIfInBounds g .running).setIfInBounds g .finished)[g]? = some .finished := by
      simp [hgsL]
    have hbare : AllBare ((s₂.gens.setIfInBounds g .running).setIfInBounds g .finished) := by
        intro y hy
        obtain ⟨k, hk, rfl⟩ := Array.mem_iff_getElem.mp hy
        by_cases hkg : k = g
        · subst hkg
          have := Array.getElem?_eq_getElem hk
          rw [hself] at this
          rw [← Option.some.inj this]; rfl
        · have hk2 : k < s₂.gens.size := by simpa using hk
          have := hgens k _ hkg (Array.getElem?_eq_getElem hk2)
          rw [Array.getElem?_eq_getElem hk] at this
          rw [Option.some.inj this]; exact X.F.I.gens _ (Array.getElem_mem _)
    have F₃ : Frm c (ρs L.length) (ows L.length) fz₂ { s₂ with heap := h', toks := tk₃, gens := (s₂.gens.setIfInBounds g .running).setIfInBounds g .finished } :=
      X.F.move (W := fun b => b = C ∨ b = it ∨ b = e) (n₀ := g) hcells (fun b o hb e => hk' b o (kkeep b o (fun q => hb (.inl q)) (fun q => hb (.inr (.inl q))) (fun q => hb (.inr (.inr q))) e)) hWa (fun g' x hg e => hgens g' x (Nat.ne_of_lt hg) e) X.n₀ hbare rfl ktk
    exact fin fz₂ _ F₃ Q E fun f fz' s' hl r => hQ f fz' s' (fun a o e => hl a o (hl₂ a o (hl₁ a o e))) r
end
end Mine
end G4

section C1
open PySem PySem.W PySem.Spec PySem.Calls PyProof.Rows
namespace Mine

section
variable {c : Cx} {ρ ρ' : List (Str × D)} {own own' : List Ow} {fz fz' : FZ} {s s' : Shared} {d : D}

theorem Frm.perm (F : Frm c ρ own fz s) (h : own.Perm own') : Frm c ρ own' fz s := by
  obtain ⟨m, hn, hr, hw⟩ := F.ns
  exact ⟨F.nx, F.I, ⟨m, hn, hr, fun q hq => hw q (h.mem_iff.mpr hq)⟩, F.lo, fun q hq => F.ow q (h.mem_iff.mpr hq), (h.map _).nodup_iff.mp F.nodup, F.tk, F.kp.sub fun q hq => ⟨q, h.mem_iff.mpr hq, rfl⟩⟩

/- an expression that is iterated over: its iterator is new -/
noncomputable def ITERN (c : Cx) (ρ : List (Str × D)) (own : List Ow) (t iter : PySem.Expr) (n : Nat) (item : Nat → D) : Prop :=
  ∀ fz s, Frm c ρ own fz s → ∀ (Q : Value → Shared → Prop) (E : Value → Shared → Prop),
    (∀ I es Ok fz' s', Next fz s fz' s' → (∀ q ∈ es 0, s.heap.objs.size ≤ q.addr) → ITR c.w c.G t I n item es Ok → Ok fz' → Frm c ρ (es 0 ++ own) fz' s' → Q (.ref I) s') →
    wpAny c.M c.A (eval iter c.env) (fun x s₁ => wpAny c.M c.A (pyIter x) Q E s₁) E s
theorem ITERN.iters {t iter : PySem.Expr} {n : Nat} {item : Nat → D} (h : ITERN c ρ own t iter n item) : ITERS c ρ own t iter n item :=
  fun fz s F Q E hQ => h fz s F Q E fun I es Ok fz' s' N _ W ok F' => hQ I es Ok fz' s' N.mono W ok F'

theorem itern_list {t iter : PySem.Expr} {ds : List D} (hi : EV c ρ own iter (.list ds)) (ht : ∀ d ∈ ds, tgtFor t d = true) : ITERN c ρ own t iter ds.length (fun i => ds.getD i .none) := fun fz s F Q E hQ =>
  hi fz s F _ _ fun v fz₁ s₁ N₁ F₁ r₁ => by
    obtain ⟨l, vs, n, rfl, e, rs⟩ := r₁.inv
    ·
      refine wpAny_pyIter_list (IsList_of F₁.I e) ?_
      refine hQ _ _ _ fz₁ _ (N₁.trans (Next.push _ s₁.toks)) ?_ (itr_list (l := l) (vs := vs) (n := n) ht) ⟨e, rs⟩ ?_
      · intro q hq
        rw [List.mem_singleton.mp hq]; exact N₁.size
      · exact F₁.alloc (v := .pr (listIt l 0)) ⟨_, Heap.get?_push_size _ rfl, rfl, rfl⟩ F₁.tk

/- comprehensions -/
noncomputable def TST (c : Cx) (ρ : List (Str × D)) (own : List Ow) (ifs : List PySem.Expr) (b : Bool) : Prop := ∀ fz s, Frm c ρ own fz s → ∀ (Q : Bool → Shared → Prop) (E : Value → Shared → Prop),
  (∀ fz' s', Next fz s fz' s' → Frm c ρ own fz' s' → Q b s') → wpAny c.M c.A (forIn ifs true fun c' r => if r = true then do let ok ← isTrue c' c.env (eval c' c.env); pure (ForInStep.yield ok) else pure (ForInStep.yield r)) Q E s
theorem tst_nil : TST c ρ own [] true := fun fz s F Q E hQ => wpAny_tests_nil (hQ fz s (Next.refl _ _) F)
theorem tst_one {e : PySem.Expr} {b : Bool} (h : TV c ρ own e b) : TST c ρ own [e] b := fun fz s F Q E hQ => wpAny_tests_one (h fz s F Q E hQ)

theorem codeAny_compLoop_let {prog : Program} {w : World} {A : Around} {R : Result → Shared → Prop} {elt target iter : PySem.Expr} {ifs : List PySem.Expr} {scope : Scope} {pos : Pos} {it acc : Value} {env : Env} (I : Nat → Shared → Prop)
    (turn : ∀ n s, I n s → wpAny (model prog w) A (pyNext it) (fun r s₁ => match r with
      | none => R (.ok .next) s₁
      | some v => wpAny (model prog w) A (letOwnedTupleGo target it v) (fun _ s₁' => wpAny (model prog w) A (assign target env v) (fun _ s₂ =>
          wpAny (model prog w) A (forIn ifs true fun c r => if r = true then do let ok ← isTrue c env (eval c env); pure (ForInStep.yield ok) else pure (ForInStep.yield r)) (fun ok s₃ =>
            if ok = true then wpAny (model prog w) A (eval elt env) (fun x s₄ =>
              wpAny (model prog w) A (call (.builtin "list.append") [acc, x]) (fun _ s₅ => ∃ m, m < n ∧ I m s₅) (notedBy (model prog w) A env fun e s' => R (.error e) s') s₄) (notedBy (model prog w) A env fun e s' => R (.error e) s') s₃
            else ∃ m, m < n ∧ I m s₃) (notedBy (model prog w) A env fun e s' => R (.error e) s') s₂) (notedBy (model prog w) A env fun e s' => R (.error e) s') s₁') (notedBy (model prog w) A env fun e s' => R (.error e) s') s₁) (notedBy (model prog w) A env fun e s' => R (.error e) s') s)
    (n : Nat) {s : Shared} (h : I n s) :
    codeAny (model prog w) A (.compLoop (.ListComp elt [⟨target, iter, ifs, 0⟩] scope pos) 0 it acc env) R s := by
  refine codeAny_loop rfl I (fun n s hI => ?_) n h
  show wpAny _ A ((compTurn (.ListComp elt [⟨target, iter, ifs, 0⟩] scope pos) 0 it acc env).onRaise (fun x => do noteFrame x env; theTreesLotGoes x)) _ _ s
  refine wpAny_noted ?_
  rw [compTurn_list]
  refine wpAny_bind (wpAny_standAt (wpAny_bind (wpAny_mono (turn n s hI) (fun r s₁ h₁ => ?_) fun _ _ h' => h')))
  cases r with
  | none => exact wpAny_pure h₁
  | some v =>
    refine wpAny_bind (wpAny_mono h₁ (fun _ s₁' h₁' => ?_) fun _ _ h' => h')
    refine wpAny_bind (wpAny_mono h₁' (fun _ s₂ h₂ => wpAny_bind (wpAny_mono h₂ (fun ok s₃ h₃ => ?_) fun _ _ h' => h')) fun _ _ h' => h')
    cases ok with
    | false => exact wpAny_pure ⟨rfl, h₃⟩
    | true =>
      exact wpAny_bind (wpAny_bind (wpAny_mono h₃ (fun x s₄ h₄ => wpAny_bind (wpAny_mono h₄ (fun _ s₅ h₅ => wpAny_pure (wpAny_pure ⟨rfl, h₅⟩)) fun _ _ h' => h')) fun _ _ h' => h'))

theorem comp_loop {c' : Cx} {ρc : List (Str × D)} {target iter elt : PySem.Expr} {ifs : List PySem.Expr} {scope : Scope} {pos : Pos} {n : Nat} {item : Nat → D} {outs : Nat → Option D} {I acc : Addr} {es : Nat → List Ow} {Ok : FZ → Prop} {fz₂ : FZ} {s₄ : Shared} {R : Result → Shared → Prop}
    (W : ITR c'.w c'.G target I n item es Ok) (hn : n ≤ sizeLine)
    (turn : ∀ i own', i < n → (∀ q ∈ own', q.name = none) → ∃ ρ', AS c' ρc own' target (item i) ρ' ∧ TST c' ρ' own' ifs (outs i).isSome ∧ (∀ d, outs i = some d → EV c' ρ' own' elt d) ∧ ∀ p ∈ ρc, ρ'.lookup p.1 = some p.2)
    (F : Frm c' ρc (es 0 ++ [⟨none, acc, .list []⟩]) fz₂ s₄) (ok : Ok fz₂)
    (fin : ∀ fz' s', FZ.le fz₂ fz' → Frm c' ρc [⟨none, acc, .list ((List.range n).filterMap outs)⟩] fz' s' → R (.ok .next) s') :
    codeAny c'.M c'.A (.compLoop (.ListComp elt [⟨target, iter, ifs, 0⟩] scope pos) 0 (.ref I) (.ref acc) c'.env) R s₄ := by
  refine codeAny_compLoop_let (fun k s' => ∃ i fz', k = n - i ∧ i ≤ n ∧ FZ.le fz₂ fz' ∧ Frm c' ρc (es i ++ [⟨none, acc, .list ((List.range i).filterMap outs)⟩]) fz' s' ∧ Ok fz') ?_ n ⟨0, fz₂, rfl, Nat.zero_le _, fun _ _ e => e, F, ok⟩
  rintro k s₅ ⟨i, fz₅, rfl, hle, hl₅, F₅, ok₅⟩
  by_cases hx : i < n
  · refine W.nxt c' rfl rfl _ _ fz₅ s₅ i hx F₅ ok₅ _ _ fun v fz₆ s₆ hl₆ hlet => hlet _ _ fun s₇ F₇ r => ?_
    have hnames : ∀ q ∈ es (i + 1) ++ [⟨none, acc, .list ((List.range i).filterMap outs)⟩], q.name = none := fun q hq => by
      rcases List.mem_append.mp hq with h | h
      · exact W.names _ q h
      · rw [List.mem_singleton.mp h]
    obtain ⟨ρ', ha, ht, he, hw⟩ := turn i _ hx hnames
    have hlen : ((List.range i).filterMap outs).length ≤ sizeLine := Nat.le_trans (List.length_filterMap_le _ _) (by rw [List.length_range]; (first | lia | omega))
    have hrange : (List.range (i + 1)).filterMap outs = (List.range i).filterMap outs ++ (outs i).toList := by
      rw [List.range_succ, List.filterMap_append]
      cases h : outs i <;> simp [h]
    refine ha fz₆ s₇ v F₇ r _ _ fun s₈ F₈ => ht fz₆ s₈ F₈ _ _ fun fz₉ s₉ N₉ F₉ => ?_
    have hl₉ : FZ.le fz₂ fz₉ := fun a o e => N₉.mono a o (hl₆ a o (hl₅ a o e))
    cases ho : outs i with
    | none =>
      rw [if_neg (show ¬ (none : Option D).isSome = true from Bool.false_ne_true)]
      refine ⟨n - (i + 1), Nat.sub_lt_sub_left hx (Nat.lt_succ_self i), i + 1, fz₉, rfl, hx, hl₉, ?_, W.mono _ _ (fun a o e => N₉.mono a o (hl₆ a o e)) ok₅⟩
      rw [hrange, ho]
      simp only [Option.toList_none, List.append_nil]
      exact F₉.weaken hw
    | some dd =>
      rw [if_pos (show (some dd).isSome = true from rfl)]
      refine he dd ho fz₉ s₉ F₉ _ _ fun x fz₁₀ s₁₀ N₁₀ F₁₀ rx => ?_
      have F₁₁ := (F₁₀.weaken hw).perm (List.perm_append_comm)
      obtain ⟨ha', hf', vs', n', hg', r'⟩ := F₁₁.ow _ (.head _)
      refine wpAny_list_append_plain ⟨n', hg'⟩ (fun h' hl' hs' => ?_) (by rw [List.size_toArray, r'.length]; exact hlen)
      obtain ⟨n₂, hg₂⟩ := hl'
      have F₁₂ := F₁₁.upd (v' := .list ((List.range i).filterMap outs ++ [dd])) hs'.extBut ⟨vs' ++ [x], n₂, by simpa [List.push_toArray] using hg₂, r'.append (.cons rx .nil)⟩ F₁₁.tk
      refine ⟨n - (i + 1), Nat.sub_lt_sub_left hx (Nat.lt_succ_self i), i + 1, fz₁₀, rfl, hx, fun a o e => N₁₀.mono a o (hl₉ a o e), ?_, W.mono _ _ (fun a o e => N₁₀.mono a o (N₉.mono a o (hl₆ a o e))) ok₅⟩
      rw [hrange, ho]
      exact F₁₂.perm (List.perm_append_comm (l₁ := [_]))
  · have hi' : i = n := Nat.le_antisymm hle (Nat.not_lt.mp hx)
    subst hi'
    exact W.done c' rfl rfl _ _ fz₅ s₅ F₅ ok₅ _ _ fun fz₆ s₆ hl₆ F₆ => fin fz₆ s₆ (fun a o e => hl₆ a o (hl₅ a o e)) F₆

noncomputable def FreeOk (c : Cx) (scope : Scope) (cl : List (Str × Addr)) (ρ : List (Str × D)) (p : Str × D) : Prop :=
  ρ.lookup p.1 = some p.2 ∧ (c.env.kindOf p.1 = some .cell ∨ c.env.kindOf p.1 = some .free) ∧ cl.lookup p.1 = c.env.cells.lookup p.1 ∧
    ((relabel scope c.env).names.lookup p.1 = some .cell ∨ (relabel scope c.env).names.lookup p.1 = some .free)

theorem comp_run {ρc : List (Str × D)} {target iter elt : PySem.Expr} {ifs : List PySem.Expr} {scope : Scope} {cl : List (Str × Addr)} {pos pos' : Pos} {n : Nat} {item : Nat → D} {outs : Nat → Option D} {use : Option (Value → Sem Unit)} {Q E : Value → Shared → Prop}
    (hcl : closureFor scope c.env = pure cl) (hkind : scope.kind = .function) (hnames : ∀ x ∈ scope.names, x.2 = .local → scope.names.lookup x.1 = some .local) (hcell : ∀ x ∈ scope.names, x.2 ≠ .cell)
    (hi : ITERN c ρ own target iter n item) (hn : n ≤ sizeLine) (hρ : ∀ p ∈ ρc, FreeOk c scope cl ρ p)
    (turn : ∀ c' : Cx, c'.w = c.w → c'.G = c.G → c'.A = c.A → c'.k = c.k → (∃ C, c'.env = compEnvC scope cl C c.env) → ∀ i own', i < n → (∀ q ∈ own', q.name = none) →
      ∃ ρ', AS c' ρc own' target (item i) ρ' ∧ TST c' ρ' own' ifs (outs i).isSome ∧ (∀ d, outs i = some d → EV c' ρ' own' elt d) ∧ ∀ p ∈ ρc, ρ'.lookup p.1 = some p.2)
    (F : Frm c ρ own fz s)
    (post : ∀ (c' : Cx) acc fz' s', c'.fz₀ = fz → c'.s₀ = s → c'.G = c.G → (∃ C, c'.env = compEnvC scope cl C c.env) → Frm c' ρc [⟨none, acc, .list ((List.range n).filterMap outs)⟩] fz' s' → compPost c.M c.A E use Q (.ref acc) c'.env.locals (.ok .next) s')
    (hs : ∀ x, foldedSetIterable iter c.env x = pure x) :
    wpAny c.M c.A (comprehension (.ListComp elt [⟨target, iter, ifs, 0⟩] scope pos) scope c.env pos' (newList []) false (eval iter c.env) use) Q E s := by
  refine wpAny_comprehension_free rfl hs hcl hkind hnames ?_
  refine hi fz s F _ E fun I es Ok fz₂ s₂ N₂ hge W hok F₂ => ?_
  refine wpAny_newList ?_ (by decide)
  refine wpAny_newFunctionEnv hcell (by intro y hy; simp at hy) (fun h₁ hns₁ hsb₁ => ?_) hkind
  dsimp only at hns₁ hsb₁ ⊢
  have hH2 : (s₂.heap.push (listO [] 0)).objs.size = s₂.heap.objs.size + 1 := Heap.size_push ..
  have hacc : h₁.get? s₂.heap.objs.size = some (listO [] 0) := hsb₁.extBut _ _ (by rw [hH2]; exact Nat.ne_of_lt (Nat.lt_succ_self _)) (Heap.get?_push_of_some _ (Heap.get?_push_size _ rfl))
  have keep : ∀ b o, s₂.heap.get? b = some o → h₁.get? b = some o := fun b o e => hsb₁.extBut b o (by rw [hH2]; exact Nat.ne_of_lt (Nat.lt_succ_of_lt (Heap.lt_size e))) (Heap.get?_push_of_some _ (Heap.get?_push_of_some _ e))
  have hz : s₂.heap.objs.size ≤ h₁.objs.size := Nat.le_of_lt (Heap.lt_size hacc)
  obtain ⟨N₃, I₃⟩ := ext_next (c := c) (tk := s₂.toks) F₂.I (fun b o _ e => keep b o e) hz
  let c' : Cx := { w := c.w, G := c.G, A := c.A, env := compEnvC scope cl (s₂.heap.push (listO [] 0)).objs.size c.env, fz₀ := fz, s₀ := s, k := c.k, st := c.st, room := c.room, kind := hkind, glob := c.glob, bi := c.bi, big := F.I.lt95 }
  have hfzC : fz₂ (s₂.heap.push (listO [] 0)).objs.size = none := F₂.I.fresh (by rw [hH2]; exact Nat.le_succ _)
  have F₄ : Frm c' ρc (es 0 ++ [⟨none, s₂.heap.objs.size, .list []⟩]) fz₂ { s₂ with heap := h₁, toks := s₂.toks } := by
    refine ⟨N₂.trans N₃, I₃, ⟨_, hns₁, fun x d e => ?_, fun q hq x hx => ?_⟩, ⟨by show _ ≤ (Heap.push _ _).objs.size; rw [hH2]; exact Nat.le_succ_of_le N₂.size, hfzC⟩, fun q hq => ?_, ?_, F₂.tk, Kept.none rfl rfl rfl⟩
    · obtain ⟨h1, h2, h3, h4⟩ := hρ _ (lookup_mem e)
      obtain ⟨m, _, hr, _⟩ := F₂.ns
      obtain ⟨v, hb, r⟩ := hr x d h1
      refine ⟨v, .inr ?_, r⟩
      rcases hb with ⟨hk, _⟩ | ⟨q, hk, hl, hc⟩
      · rcases h2 with h2 | h2 <;> (rw [hk] at h2; cases h2)
      · obtain ⟨o, ho, hd⟩ := hc
        exact ⟨q, h4, h3.trans hl, o, keep _ _ ho, hd⟩
    · rcases List.mem_append.mp hq with h | h
      · rw [W.names 0 q h] at hx; cases hx
      · rw [List.mem_singleton.mp h] at hx; cases hx
    · rcases List.mem_append.mp hq with h | h
      · obtain ⟨_, h2, h3⟩ := F₂.ow q (List.mem_append_left _ h)
        exact ⟨hge q h, h2, h3.keep (fun _ _ e => e) fun o e => keep _ _ e⟩
      · rw [List.mem_singleton.mp h]
        exact ⟨N₂.size, F₂.I.fresh (Nat.le_refl _), [], 0, hacc, .nil⟩
    · rw [List.map_append, List.nodup_append]
      refine ⟨?_, by simp, ?_⟩
      · have := F₂.nodup
        rw [List.map_append, List.nodup_append] at this
        exact this.1
      · intro a ha b hb
        obtain ⟨q, hq, rfl⟩ := List.mem_map.mp ha
        have : b = s₂.heap.objs.size := by simpa using hb
        subst this
        obtain ⟨o, ho, _⟩ := (F₂.ow q (List.mem_append_left _ hq)).2.2.get
        exact Nat.ne_of_lt (Heap.lt_size ho)
  have loop : codeAny c'.M c'.A (.compLoop (.ListComp elt [⟨target, iter, ifs, 0⟩] scope pos) 0 (.ref I) (.ref s₂.heap.objs.size) c'.env) (compPost c.M c.A E use Q (.ref s₂.heap.objs.size) c'.env.locals) { s₂ with heap := h₁, toks := s₂.toks } :=
    comp_loop (c' := c') W hn (turn c' rfl rfl rfl rfl ⟨_, rfl⟩) F₄ hok fun fz' s' hl F' => post c' _ fz' s' rfl rfl rfl ⟨_, rfl⟩ F'
  exact codeAny_compStart_list loop (W.self c' rfl rfl _ _ _ _ 0 F₄ _ _ loop)

/- the list of a comprehension stands still, its frame goes -/
theorem comp_out {c' : Cx} {ρc : List (Str × D)} {acc : Addr} {ds : List D} (hfz : c'.fz₀ = fz) (hs₀ : c'.s₀ = s) (hG : c'.G = c.G) (F : Frm c' ρc [⟨none, acc, .list ds⟩] fz' s') :
    ∃ m fz₂, s'.heap.Ns c'.env.locals m ∧ fz₂ c'.env.locals = none ∧ c'.env.locals ≠ 78 ∧ c'.env.locals ≠ 95 ∧ s.heap.objs.size ≤ c'.env.locals ∧ Next fz s fz₂ s' ∧ Inv c.G fz₂ s' ∧ Rep fz₂ (.ref acc) (.list ds) ∧ 1 ≤ s'.toks := by
  subst hfz hs₀
  obtain ⟨m, hn, _⟩ := F.ns
  obtain ⟨ha, hf, vs, n, hg, r⟩ := F.ow _ (.head _)
  have hLa : c'.env.locals ≠ acc := Ne.symm (Ns_ne hn hg (by intro es n h; cases h))
  exact ⟨m, fz'.put acc (listO vs n), hn, by rw [FZ.put_ne _ _ hLa]; exact F.lo.2, F.ne78 F.lo.1, F.ne95 F.lo.1, F.lo.1, F.nx.freeze hf ha, hG ▸ F.I.freeze hg hf (F.ne78 ha) (F.ne95 ha), .list (FZ.put_self _ _ _) (r.mono (FZ.put_le hf)), F.tk⟩

theorem ev_comp {ρc : List (Str × D)} {target iter elt : PySem.Expr} {ifs : List PySem.Expr} {scope : Scope} {cl : List (Str × Addr)} {pos : Pos} {n : Nat} {item : Nat → D} (outs : Nat → Option D)
    (hcl : closureFor scope c.env = pure cl) (hkind : scope.kind = .function) (hnames : ∀ x ∈ scope.names, x.2 = .local → scope.names.lookup x.1 = some .local) (hcell : ∀ x ∈ scope.names, x.2 ≠ .cell)
    (hi : ITERN c ρ own target iter n item) (hn : n ≤ sizeLine) (hρ : ∀ p ∈ ρc, FreeOk c scope cl ρ p)
    (turn : ∀ c' : Cx, c'.w = c.w → c'.G = c.G → c'.A = c.A → c'.k = c.k → (∃ C, c'.env = compEnvC scope cl C c.env) → ∀ i own', i < n → (∀ q ∈ own', q.name = none) →
      ∃ ρ', AS c' ρc own' target (item i) ρ' ∧ TST c' ρ' own' ifs (outs i).isSome ∧ (∀ d, outs i = some d → EV c' ρ' own' elt d) ∧ ∀ p ∈ ρc, ρ'.lookup p.1 = some p.2)
    (hs : ∀ x, foldedSetIterable iter c.env x = pure x) :
    EV c ρ own (.ListComp elt [⟨target, iter, ifs, 0⟩] scope pos) (.list ((List.range n).filterMap outs)) := EV.mk fun fz s F Q E hQ => by
  rw [eval_ListComp]
  refine comp_run (outs := outs) hcl hkind hnames hcell hi hn hρ turn F (fun c' acc fz' s' e1 e2 e3 _ F' => ?_) hs
  obtain ⟨m, fz₂, hn', hf, h78, h95, hlo, N, I, r, _⟩ := comp_out (c := c) e1 e2 e3 F'
  refine ⟨m, hn', fun h' hs' => hQ _ fz₂ _ ?_ (I.but (tk := s'.toks) hs'.extBut hf h78 h95) r⟩
  exact ⟨N.mono, N.old, by show _ ≤ h'.objs.size; rw [hs'.1]; exact N.size, fun b o h1 h2 e => hs'.extBut b o (Nat.ne_of_lt (Nat.lt_of_lt_of_le (Heap.lt_size e) hlo)) (N.keep b o h1 h2 e), N.gens, N.os⟩
end
end Mine
end C1

section C2
open PySem PySem.W PySem.Spec PySem.Calls PyProof.Rows
namespace Mine

section
variable {c : Cx} {ρ ρ' : List (Str × D)} {own own' : List Ow} {fz fz' : FZ} {s s' : Shared} {d : D}

/- calls of built-in classes by name -/
theorem wp_typecall {f : Str} {T : String} {p pos : Pos} {e : PySem.Expr} {es : List PySem.Expr} {ds : List D} {Q E : Value → Shared → Prop} (F : Frm c ρ own fz s) (hx : c.env.kindOf f = some .globalImplicit) (hn : nsIn (hd.heap_39 c.w.params) mainGlobals f = some none) (hb : bootBuiltins f = some (.type T))
    (hes : EVs c ρ own (e :: es) ds) (h : ∀ vs fz₁ s₁, Next fz s fz₁ s₁ → Frm c ρ own fz₁ s₁ → Reps fz₁ vs ds → wpAny c.M c.A (call (.type T) vs) Q E s₁)
    (hpl : ((e :: es).all fun e => match e with | .Starred .. => false | _ => true) = true)
    (hne : f ≠ "__name__") (hd : (f == ("__debug__" : Str)) = false) :
    wpAny c.M c.A (eval (.Call (.Name f p) (e :: es) [] pos) c.env) Q E s := by
  have hst := plain_args (c := c) (pos := pos) hpl
  show wpAny _ _ (do callWith pos (← eval (.Name f p) c.env) [] (backTo pos (starEach (e :: es) c.env)) (backToKw pos (keywordEach [] c.env))) _ _ _
  refine wpAny_bind (name_builtin F ?_ hx hn hb hne hd)
  refine PySem.callWith_type (List.any_eq_false.mpr fun x hx => by rw [hst x hx]; exact Bool.false_ne_true) (args_any hst ?_)
  exact hes fz s F _ _ _ fun vs fz₁ s₁ N₁ F₁ r₁ => h vs fz₁ s₁ N₁ F₁ r₁

/- range -/
noncomputable def rangeIt (x left step : Int) : OPred where
  P := fun h a => IsRangeIter h a x left step
  stab := fun h h' a hk x => hk _ x
  get := fun h a x => ⟨_, x, (by intro es n h; cases h), (by intro v h; cases h)⟩
theorem itr_range {w : World} {G : Heap} {v : Str} {p : Pos} {I : Addr} {a step : Int} {n : Nat} :
    ITR w G (.Name v p) I n (fun i => .int (a + i * step)) (fun i => [⟨none, I, .pr (rangeIt (a + i * step) ((n : Int) - i) step)⟩]) (fun _ => True) where
  mono := fun _ _ _ _ => trivial
  names := fun i q hq => by rcases List.mem_cons.mp hq with rfl | h; rfl; cases h
  self := fun c _ _ ρ own fz s i F Q E hQ => wpAny_pyIter_rangeiter (F.ow _ (.head _)).2.2 hQ
  nxt := fun c _ _ ρ own fz s i hi F ok Q E hQ => by
    have hit : IsRangeIter s.heap I (a + i * step) ((n : Int) - i) step := (F.ow _ (.head _)).2.2
    refine wpAny_pyNext_range_item hit (by (first | lia | omega)) fun h' hit' hs' => ?_
    have e1 : a + (i : Int) * step + step = a + ((i + 1 : Nat) : Int) * step := by rw [Int.natCast_add, Int.add_mul]; show _ = a + (_ + 1 * step); rw [Int.one_mul, Int.add_assoc]
    have e2 : (n : Int) - i - 1 = (n : Int) - ((i + 1 : Nat) : Int) := by (first | lia | omega)
    rw [e1, e2] at hit'
    exact hQ _ fz _ (fun _ _ e => e) fun Q' E' hq => wpAny_pure (hq _ (F.upd (v' := .pr (rangeIt (a + ((i + 1 : Nat) : Int) * step) ((n : Int) - ((i + 1 : Nat) : Int)) step)) hs'.extBut hit' (Nat.le_succ_of_le F.tk)) (.int _ _))
  done := fun c _ _ ρ own fz s F ok Q E hQ => by
    have hit : IsRangeIter s.heap I (a + n * step) ((n : Int) - n) step := (F.ow _ (.head _)).2.2
    exact wpAny_pyNext_range_end c.room.handled hit (by (first | lia | omega)) fun h' hs' => hQ fz _ (fun _ _ e => e) (F.dropBut hs' F.tk)

theorem range_go {v : Str} {p : Pos} {a b step : Int} {t u x : Tok} {r : Addr} {n : Nat} {s₀ : Shared} {fz₀ : FZ} {Q E : Value → Shared → Prop} (hr : IsRange s.heap r a b step t u x) (hsm : Builtin.Range.small a b step = true) (hn : Builtin.Range.rangeSize a b step = n) (N : Next fz₀ s₀ fz s) (F : Frm c ρ own fz s)
    (hQ : ∀ I es Ok fz' s', Next fz₀ s₀ fz' s' → (∀ q ∈ es 0, s₀.heap.objs.size ≤ q.addr) → ITR c.w c.G (.Name v p) I n (fun i => .int (a + i * step)) es Ok → Ok fz' → Frm c ρ (es 0 ++ own) fz' s' → Q (.ref I) s') : wpAny c.M c.A (pyIter (.ref r)) Q E s := by
  refine wpAny_pyIter_range hr hsm (hQ _ _ _ fz _ (N.trans (Next.push _ s.toks)) ?_ itr_range trivial ?_)
  · intro q hq
    rw [List.mem_singleton.mp hq]; exact N.size
  · refine F.alloc (v := .pr (rangeIt (a + (0 : Nat) * step) ((n : Int) - (0 : Nat)) step)) ?_ F.tk
    show IsRangeIter _ _ _ _ _
    have e1 : a + ((0 : Nat) : Int) * step = a := by simp
    have e2 : (n : Int) - ((0 : Nat) : Int) = n := by simp
    rw [e1, e2, ← hn]
    exact Heap.get?_push_size _ rfl
theorem itern_range1 {f v : Str} {q p pos : Pos} {e : PySem.Expr} {n : Nat} (hf : f = Str.ofString "range") (hx : c.env.kindOf f = some .globalImplicit) (hn : nsIn (hd.heap_39 c.w.params) mainGlobals f = some none) (he : EVs c ρ own [e] [.int (n : Int)]) (hsz : n ≤ 1000)
    (hpl : ([e].all fun e => match e with | .Starred .. => false | _ => true) = true) :
    ITERN c ρ own (.Name v q) (.Call (.Name f p) [e] [] pos) n (fun i => .int (i : Int)) := fun fz s F Q E hQ => by
  subst hf
  refine wp_typecall (hne := by decide) (hd := by decide) (T := "range") F hx hn rfl he (fun vs fz₁ s₁ N₁ F₁ rs => ?_) hpl
  obtain ⟨_, _, rfl, r₁, rs⟩ := rs.inv
  · obtain rfl := rs.inv
    · obtain ⟨t, rfl⟩ := r₁.inv
      ·
        refine call_range_1 ?_
        have F₂ : Frm c ρ own fz₁ { s₁ with heap := s₁.heap.push { cls := .type "range", data := .fields #[.int 0 s₁.toks, .int n t, .int 1 (s₁.toks + 1)] }, toks := s₁.toks + 1 + 1 } := F₁.ext (fun b o hb e => Heap.get?_push_of_some _ e) (Nat.le_add_left _ _)
        refine range_go (v := v) (p := q) (n := n) (IsRange.new ..) (small_one (by (first | lia | omega)) (by (first | lia | omega)) (by (first | lia | omega)) (by (first | lia | omega))) (by rw [rangeSize_one]; split <;> (first | lia | omega)) (N₁.trans (Next.push _ _)) F₂ fun I es Ok fz' s' N h W ok F' => hQ I es Ok fz' s' N h ?_ ok F'
        have e : (fun i : Nat => D.int ((0 : Int) + (i : Int) * 1)) = fun i => .int (i : Int) := by funext i; congr 1; (first | lia | omega)
        rw [e] at W
        exact W
theorem itern_range2 {f v : Str} {q p pos : Pos} {e₁ e₂ : PySem.Expr} {a b : Nat} (hf : f = Str.ofString "range") (hx : c.env.kindOf f = some .globalImplicit) (hn : nsIn (hd.heap_39 c.w.params) mainGlobals f = some none) (he : EVs c ρ own [e₁, e₂] [.int (a : Int), .int (b : Int)]) (hab : a ≤ b) (hsz : b ≤ 1000)
    (hpl : ([e₁, e₂].all fun e => match e with | .Starred .. => false | _ => true) = true) :
    ITERN c ρ own (.Name v q) (.Call (.Name f p) [e₁, e₂] [] pos) (b - a) (fun i => .int ((a + i : Nat) : Int)) := fun fz s F Q E hQ => by
  subst hf
  refine wp_typecall (hne := by decide) (hd := by decide) (T := "range") F hx hn rfl he (fun vs fz₁ s₁ N₁ F₁ rs => ?_) hpl
  obtain ⟨_, _, rfl, r₁, rs⟩ := rs.inv
  · obtain ⟨_, _, rfl, r₂, rs⟩ := rs.inv
    · obtain rfl := rs.inv
      · obtain ⟨t, rfl⟩ := r₁.inv
        · obtain ⟨u, rfl⟩ := r₂.inv
          ·
            refine call_range_2 ?_
            have F₂ : Frm c ρ own fz₁ { s₁ with heap := s₁.heap.push { cls := .type "range", data := .fields #[.int a t, .int b u, .int 1 s₁.toks] }, toks := s₁.toks + 1 } := F₁.ext (fun b o hb e => Heap.get?_push_of_some _ e) (Nat.le_add_left _ _)
            refine range_go (v := v) (p := q) (n := b - a) (IsRange.new ..) (small_one (by (first | lia | omega)) (by (first | lia | omega)) (by (first | lia | omega)) (by (first | lia | omega))) (by rw [rangeSize_one]; split <;> (first | lia | omega)) (N₁.trans (Next.push _ _)) F₂ fun I es Ok fz' s' N h W ok F' => hQ I es Ok fz' s' N h ?_ ok F'
            have e : (fun i : Nat => D.int ((a : Int) + (i : Int) * 1)) = fun i => .int ((a + i : Nat) : Int) := by funext i; congr 1; (first | lia | omega)
            rw [e] at W
            exact W
/- downwards: a - 1, .., b -/
theorem itern_rangeD {f v : Str} {q p pos : Pos} {e₁ e₂ e₃ : PySem.Expr} {a b : Nat} (hf : f = Str.ofString "range") (hx : c.env.kindOf f = some .globalImplicit) (hn : nsIn (hd.heap_39 c.w.params) mainGlobals f = some none) (he : EVs c ρ own [e₁, e₂, e₃] [.int ((a : Int) - 1), .int ((b : Int) - 1), .int (-1)]) (hab : b ≤ a) (hsz : a ≤ 1000)
    (hpl : ([e₁, e₂, e₃].all fun e => match e with | .Starred .. => false | _ => true) = true) :
    ITERN c ρ own (.Name v q) (.Call (.Name f p) [e₁, e₂, e₃] [] pos) (a - b) (fun i => .int ((a : Int) - 1 - i)) := fun fz s F Q E hQ => by
  subst hf
  refine wp_typecall (hne := by decide) (hd := by decide) (T := "range") F hx hn rfl he (fun vs fz₁ s₁ N₁ F₁ rs => ?_) hpl
  obtain ⟨_, _, rfl, r₁, rs⟩ := rs.inv
  · obtain ⟨_, _, rfl, r₂, rs⟩ := rs.inv
    · obtain ⟨_, _, rfl, r₃, rs⟩ := rs.inv
      · obtain rfl := rs.inv
        · obtain ⟨t, rfl⟩ := r₁.inv
          · obtain ⟨u, rfl⟩ := r₂.inv
            · obtain ⟨x, rfl⟩ := r₃.inv
              ·
                refine call_range_3 (by decide) ?_ (Or.inl (PyProof.noPylong_small (by (first | lia | omega))))
                have F₂ : Frm c ρ own fz₁ { s₁ with heap := s₁.heap.push { cls := .type "range", data := .fields #[.int ((a : Int) - 1) t, .int ((b : Int) - 1) u, .int (-1) x] }, toks := s₁.toks } := F₁.ext (fun b o hb e => Heap.get?_push_of_some _ e) F₁.tk
                have hsize : Builtin.Range.rangeSize ((a : Int) - 1) ((b : Int) - 1) (-1) = ((a - b : Nat) : Int) := by
                  unfold Builtin.Range.rangeSize
                  simp only [show ¬ ((-1 : Int) > 0) by decide, if_false]
                  split <;> (try simp) <;> (first | lia | omega)
                refine range_go (v := v) (p := q) (n := a - b) (IsRange.new ..) ?_ hsize (N₁.trans (Next.push _ _)) F₂ fun I es Ok fz' s' N h W ok F' => hQ I es Ok fz' s' N h ?_ ok F'
                · unfold Builtin.Range.small
                  rw [hsize]
                  simp only [Builtin.Range.rangeFitsLong, Bool.and_eq_true, Bool.or_eq_true, decide_eq_true_eq, beq_iff_eq, show ¬ ((-1 : Int) > 0) by decide, if_false]
                  (first | lia | omega)
                · have e : (fun i : Nat => D.int ((a : Int) - 1 + (i : Int) * -1)) = fun i => .int ((a : Int) - 1 - i) := by funext i; congr 1; (first | lia | omega)
                  rw [e] at W
                  exact W
end
end Mine
end C2

section C3
open PySem PySem.W PySem.Spec PySem.Calls PyProof.Rows PySem.SeqAt
namespace Mine

section
variable {c : Cx} {ρ ρ' : List (Str × D)} {own own' : List Ow} {fz fz' : FZ} {s s' : Shared} {d : D}

/- slices of lists -/
theorem ev_cutL {sw : Bool} {value : PySem.Expr} {lo hi st : Option PySem.Expr} {sp pos} {ds : List D} {l u t : Option Int} (hv : EV c ρ own value (.list ds)) (hl : PART c ρ own lo l) (hu : PART c ρ own hi u) (ht : PART c ρ own st t) (h0 : t ≠ some 0) (hn : ds.length ≤ 16777216) (hsub : ∀ o i, subscripted (.Slice lo hi st sp) false o i = operate (if sw = true then [i, o] else [o, i]) (getItem o i)) :
    EV c ρ own (.Subscript value (.Slice lo hi st sp) pos) (.list (pickD ds l u t)) :=
  EV.mk fun fz s F Q E hQ => Subscript_ (hv fz s F _ _ fun v₁ fz₁ s₁ N₁ F₁ r₁ => wpAny_Slice (hl fz₁ s₁ F₁ _ _ fun v₂ fz₂ s₂ N₂ F₂ p₂ => hu fz₂ s₂ F₂ _ _ fun v₃ fz₃ s₃ N₃ F₃ p₃ => ht fz₃ s₃ F₃ _ _ fun v₄ fz₄ s₄ N₄ F₄ p₄ => (by
    obtain ⟨a, vs, n, rfl, e, rs⟩ := r₁.inv
    ·
      have I₅ : Inv c.G fz₄ { s₄ with heap := s₄.heap.push { cls := .type "slice", data := .fields #[v₂, v₃, v₄] }, toks := s₄.toks } := F₄.I.push _ _
      have N₅ : Next fz₄ s₄ fz₄ { s₄ with heap := s₄.heap.push { cls := .type "slice", data := .fields #[v₂, v₃, v₄] }, toks := s₄.toks } := Next.push _ _
      have hsz : sizeLine = 16777216 := by decide
      have hle : FZ.le fz₁ fz₄ := fun x o q => N₄.mono x o (N₃.mono x o (N₂.mono x o q))
      have e' := hle _ _ e
      have rs' := rs.mono hle
      have hT : Shared.TypeIs { s₄ with heap := s₄.heap.push { cls := .type "slice", data := .fields #[v₂, v₃, v₄] } } (.ref a) "list" := ⟨_, I₅.le _ _ e', rfl⟩
      refine tail_any hT PySem.F.slot_list_getitem.lookup ?_ (hsub _ _)
      have hsl : (s₄.heap.push { cls := .type "slice", data := .fields #[v₂, v₃, v₄] }).IsSliceOf s₄.heap.objs.size v₂ v₃ v₄ := ⟨_, Heap.get?_push_size _ rfl, rfl, rfl⟩
      refine wpAny_getItem_list_slice (IsList_of I₅ e') hsl p₂ p₃ p₄ h0 ?_ (by rw [List.size_toArray, rs'.length, hsz]; exact hn)
      have hp : slicePick vs.toArray l u t = ((sliceRange (sliceBounds l u t ds.length).1 (sliceBounds l u t ds.length).2.1 (sliceBounds l u t ds.length).2.2).filterMap (vs[·]?)).toArray := by
        unfold slicePick
        rw [List.size_toArray, rs'.length]
        congr 2
        funext i
        rw [List.getElem?_toArray]
      rw [hp]
      refine finN (hf := by rfl) I₅ (fun v fz' s' N I r => hQ v fz' s' (((((N₁.trans N₂).trans N₃).trans N₄).trans N₅).trans N) I r) (fun fz' hm e'' => .list e'' ((rs'.pick _).mono hm)) s₄.toks)))

/- equality -/
mutual
noncomputable def D.eqb : D → D → Bool
  | .int a, .int b => a == b
  | .str x, .str y => x == y
  | .list a, .list b => D.eqbs a b
  | _, _ => false
noncomputable def D.eqbs : List D → List D → Bool
  | [], [] => true
  | x :: a, y :: b => D.eqb x y && D.eqbs a b
  | _, _ => false
end
/- of one kind, through and through -/
inductive KI : Nat → D → D → Prop
  | int {n : Nat} (a b : Int) : KI n (.int a) (.int b)
  | str {n : Nat} (a b : Str) : KI n (.str a) (.str b)
  | list {n : Nat} {a b : List D} (h : ∀ x ∈ a, ∀ y ∈ b, KI n x y) : KI (n + 1) (.list a) (.list b)

theorem Reps.inj' : ∀ {ds ds' : List D} {vs : List Value}, Reps fz vs ds → Reps fz vs ds' → (∀ x ∈ ds, ∀ y ∈ ds', ∀ v, Rep fz v x → Rep fz v y → x = y) → ds = ds'
  | [], [], _, _, _, _ => rfl
  | x :: ds, y :: ds', vs, a, b, h => by
    cases a with
    | cons a₁ a₂ => cases b with
      | cons b₁ b₂ =>
        rw [h x (.head _) y (.head _) _ a₁ b₁, Reps.inj' a₂ b₂ fun p hp q hq => h p (.tail _ hp) q (.tail _ hq)]
  | [], _ :: _, _, a, b, _ => by cases a; cases b
  | _ :: _, [], _, a, b, _ => by cases b; cases a
theorem Rep.inj {n : Nat} {d d' : D} (k : KI n d d') : ∀ v, Rep fz v d → Rep fz v d' → d = d' := by
  induction k with
  | int a b => intro v r r'; cases r; cases r'; rfl
  | str a b => intro v r r'; cases r; cases r'; rfl
  | @list n a b h ih =>
    intro v r r'
    cases r with
    | @list l vs n _ e rs => cases r' with
      | @list _ vs' n' _ e' rs' =>
        rw [e] at e'
        have e1 := congrArg (fun o : Option Obj => o.map Obj.data) e'
        simp only [Option.map_some, Option.some.injEq] at e1
        injection e1 with e1
        have e2 : vs = vs' := by simpa using congrArg Array.toList e1
        subst e2
        rw [Reps.inj' rs rs' ih]

theorem eqbs_range : ∀ {a b : List D}, a.length = b.length → D.eqbs a b = (List.range a.length).all fun j => D.eqb (a.getD j .none) (b.getD j .none)
  | [], [], _ => rfl
  | x :: a, y :: b, h => by
    rw [D.eqbs, List.length_cons, List.range_succ_eq_map, List.all_cons, List.all_map, eqbs_range (a := a) (b := b) (by simpa using h)]
    rfl
theorem eqbs_len : ∀ {a b : List D}, a.length ≠ b.length → D.eqbs a b = false
  | [], [], h => absurd rfl h
  | [], _ :: _, _ => rfl
  | _ :: _, [], _ => rfl
  | x :: a, y :: b, h => by rw [D.eqbs, eqbs_len (a := a) (b := b) (by simpa using h), Bool.and_false]
theorem KI.self {n : Nat} {d d' : D} (k : KI n d d') : d = d' → D.eqb d d' = true := by
  induction k with
  | int a b => intro h; cases h; exact beq_self_eq_true _
  | str a b => intro h; cases h; exact beq_self_eq_true _
  | @list n a b h ih =>
    intro e
    injection e with e
    subst e
    show D.eqbs a a = true
    rw [eqbs_range rfl, List.all_eq_true]
    intro j hj
    have hj := List.mem_range.mp hj
    have hm : a.getD j .none ∈ a := by rw [List.getD_eq_getElem?_getD, List.getElem?_eq_getElem hj]; exact List.getElem_mem _
    exact ih _ hm _ hm rfl

theorem list_eq_go {A : Around} {l b : Addr} {vs us : List Value} {n m : Nat} {ds es : List D} (I : Inv c.G fz s) (e : fz l = some (listO vs n)) (rs : Reps fz vs ds) (e' : fz b = some (listO us m)) (rs' : Reps fz us es) (hu : A.units < cLine)
    (he : ∀ x ∈ ds, ∀ y ∈ es, ∀ v u, Rep fz v x → Rep fz u y → EqAt A.in1 s v u (D.eqb x y)) : RcAt A s (.ref l) (.ref b) (D.eqbs ds es) := by
  by_cases hlen : ds.length = es.length
  · rw [eqbs_range hlen]
    have hsz : vs.toArray.size = us.toArray.size := by rw [List.size_toArray, List.size_toArray, rs.length, rs'.length, hlen]
    have := RcAt.lists (e := fun j => D.eqb (ds.getD j .none) (es.getD j .none)) (IsList_of I e) (IsList_of I e') hsz hu fun j h1 h2 => by
      have h1' : j < vs.length := by simpa using h1
      have h2' : j < us.length := by simpa using h2
      have hd : ds[j]? = some (ds.getD j .none) := by rw [List.getD_eq_getElem?_getD, List.getElem?_eq_getElem (by rw [← rs.length]; exact h1')]; rfl
      have hd' : es[j]? = some (es.getD j .none) := by rw [List.getD_eq_getElem?_getD, List.getElem?_eq_getElem (by rw [← rs'.length]; exact h2')]; rfl
      obtain ⟨v, hv, r⟩ := rs.get j _ hd
      obtain ⟨u, hu', r'⟩ := rs'.get j _ hd'
      have ev : vs.toArray[j] = v := by
        rw [List.getElem_toArray]
        rw [List.getElem?_eq_getElem h1'] at hv
        exact Option.some.inj hv
      have eu : us.toArray[j] = u := by
        rw [List.getElem_toArray]
        rw [List.getElem?_eq_getElem h2'] at hu'
        exact Option.some.inj hu'
      rw [ev, eu]
      exact he _ (List.mem_of_getElem? hd) _ (List.mem_of_getElem? hd') _ _ r r'
    rw [List.size_toArray, rs.length] at this
    exact this
  · rw [eqbs_len hlen]
    refine RcAt.lists_lengths (IsList_of I e) (IsList_of I e') ?_ hu
    rw [List.size_toArray, List.size_toArray, rs.length, rs'.length]
    simpa using hlen
theorem eqAt_D {n : Nat} {d d' : D} (k : KI n d d') (I : Inv c.G fz s) : ∀ (A : Around) v u, A.units + n < cLine → Rep fz v d → Rep fz u d' → EqAt A s v u (D.eqb d d') := by
  induction k with
  | int a b => intro A v u _ r r'; cases r; cases r'; exact EqAt.int_int _ _ _ _
  | str a b => intro A v u _ r r'; cases r; cases r'; exact EqAt.str_str _ _ _ _
  | @list n a b h ih =>
    intro A v u hu r r'
    have r₀ := r
    have r₀' := r'
    cases r with
    | @list l vs k₁ _ e rs => cases r' with
      | @list l' us k₂ _ e' rs' =>
        by_cases hl : l = l'
        · subst hl
          have := Rep.inj (KI.list h) _ r₀ r₀'
          rw [KI.self (KI.list h) this]
          exact EqAt.same _
        · refine EqAt.of_refs hl ?_
          refine list_eq_go I e rs e' rs' (by (first | lia | omega)) fun x hx y hy v u rv ru => ?_
          refine ih x hx y hy A.in1 v u ?_ rv ru
          show A.units + 1 + n < cLine
          (first | lia | omega)

theorem units_lt {A : Around} {k n : Nat} (R : Room A k) (h : n ≤ 500) : A.units + n < cLine := by
  have := R.units
  show A.units + n < 9900
  (first | lia | omega)
theorem op_eqD {n : Nat} {a b : List D} (k : KI (n + 1) (.list a) (.list b)) (hn : n ≤ 400) : OP2 c (compareOp .Eq) (.list a) (.list b) (.bool (D.eqbs a b)) := fun fz s v₁ v₂ I tk r₁ r₂ Q E hQ => by
  obtain ⟨l, vs, k₁, rfl, e, rs⟩ := r₁.inv
  · obtain ⟨l', us, k₂, rfl, e', rs'⟩ := r₂.inv
    · cases k with
      | list h =>
        exact list_eq_go I e rs e' rs' (units_lt (n := 0) c.room (by (first | lia | omega))) (fun x hx y hy v u rv ru => eqAt_D (h x hx y hy) I c.A.in1 v u (by have := units_lt (n := n + 1) c.room (by (first | lia | omega)); show c.A.units + 1 + n < cLine; (first | lia | omega)) rv ru) _ _ E _ (fin0' I hQ (.bool _))
open Classical in
theorem e_is {x y v : D} {n : Nat} {u : Value} {all : List D} (hy : y ∈ all) (hk : ∀ y ∈ all, ∀ z ∈ all, KI n y z) (r : Rep fz u y) : decide (∃ dy ∈ all, Rep fz u dy ∧ D.eqb dy x = true) = D.eqb y x := by
  by_cases h : D.eqb y x = true
  · rw [h]; exact decide_eq_true ⟨y, hy, r, h⟩
  · rw [decide_eq_false]
    · exact (Bool.not_eq_true _ ▸ h).symm
    · rintro ⟨dy, hdy, rdy, heq⟩
      have := Rep.inj (hk dy hdy y hy) _ rdy r
      subst this
      exact h heq
open Classical in
theorem any_go {x : D} {n : Nat} : ∀ {vs : List Value} {ds all : List D}, Reps fz vs ds → (∀ y ∈ ds, y ∈ all) → (∀ y ∈ all, ∀ z ∈ all, KI n y z) →
    (vs.any fun y => decide (∃ dy ∈ all, Rep fz y dy ∧ D.eqb dy x = true)) = ds.any fun y => D.eqb y x
  | [], [], _, _, _, _ => rfl
  | v :: vs, y :: ds, all, r, hm, hk => by
    cases r with
    | cons r₁ r₂ =>
      rw [List.any_cons, List.any_cons, any_go r₂ (fun z hz => hm z (.tail _ hz)) hk, e_is (v := y) (hm y (.head _)) hk r₁]
  | [], _ :: _, _, r, _, _ => by cases r
  | _ :: _, [], _, r, _, _ => by cases r
theorem op_inD {n : Nat} {x : D} {ds : List D} (hx : ∀ y ∈ ds, KI n y x) (hk : ∀ y ∈ ds, ∀ z ∈ ds, KI n y z) (hn : n ≤ 400) : OP2 c (compareOp .In) x (.list ds) (.bool (ds.any fun y => D.eqb y x)) := fun fz s v₁ v₂ I tk r₁ r₂ Q E hQ => by
  classical
  obtain ⟨l, vs, k₁, rfl, e, rs⟩ := r₂.inv
  ·
    refine in_listAt (fun y => decide (∃ dy ∈ ds, Rep fz y dy ∧ D.eqb dy x = true)) (IsList_of I e) (fun y hy => ?_) ?_
    · have hy : y ∈ vs := by simpa using hy
      obtain ⟨i, hi⟩ := List.mem_iff_getElem?.mp hy
      obtain ⟨dy, hd, r⟩ := rs.get' i y hi
      have hm := List.mem_of_getElem? hd
      rw [e_is (v := dy) hm hk r]
      exact eqAt_D (hx dy hm) I c.A.in1 y v₁ (by have := units_lt (n := n + 1) c.room (by (first | lia | omega)); show c.A.units + 1 + n < cLine; (first | lia | omega)) r r₁
    · rw [List.any_toArray, any_go rs (fun y hy => hy) hk]
      exact fin0' I hQ (.bool _)
theorem op_notinD {n : Nat} {x : D} {ds : List D} (hx : ∀ y ∈ ds, KI n y x) (hk : ∀ y ∈ ds, ∀ z ∈ ds, KI n y z) (hn : n ≤ 400) : OP2 c (compareOp .NotIn) x (.list ds) (.bool (!ds.any fun y => D.eqb y x)) := fun fz s v₁ v₂ I tk r₁ r₂ Q E hQ => by
  classical
  obtain ⟨l, vs, k₁, rfl, e, rs⟩ := r₂.inv
  ·
    refine notIn_listAt (fun y => decide (∃ dy ∈ ds, Rep fz y dy ∧ D.eqb dy x = true)) (IsList_of I e) (fun y hy => ?_) ?_
    · have hy : y ∈ vs := by simpa using hy
      obtain ⟨i, hi⟩ := List.mem_iff_getElem?.mp hy
      obtain ⟨dy, hd, r⟩ := rs.get' i y hi
      have hm := List.mem_of_getElem? hd
      rw [e_is (v := dy) hm hk r]
      exact eqAt_D (hx dy hm) I c.A.in1 y v₁ (by have := units_lt (n := n + 1) c.room (by (first | lia | omega)); show c.A.units + 1 + n < cLine; (first | lia | omega)) r r₁
    · rw [List.any_toArray, any_go rs (fun y hy => hy) hk]
      exact fin0' I hQ (.bool _)
end
end Mine
end C3

section R1
open PySem hiding Frame run
open PySem.Sre
namespace Mine

/- the machine ends within n steps, and P holds of it then -/
noncomputable def Runs (n : Nat) (m : M) (P : M → Prop) : Prop := ∃ k, k ≤ n ∧ (M.runFor k m).outcome.isSome = true ∧ P (M.runFor k m)

theorem runs_step {n : Nat} {m : M} {P : M → Prop} (ho : m.outcome = none) (h : Runs n m.step P) : Runs (n + 1) m P := by
  obtain ⟨k, hk, h1, h2⟩ := h
  refine ⟨k + 1, Nat.succ_le_succ hk, ?_, ?_⟩
  · rw [M.runFor, ho]; exact h1
  · rw [M.runFor, ho]; exact h2
theorem Runs.mono {n n' : Nat} {m : M} {P : M → Prop} (h : Runs n m P) (hn : n ≤ n') : Runs n' m P := let ⟨k, hk, r⟩ := h; ⟨k, Nat.le_trans hk hn, r⟩

/- every state of a walk: no outcome yet, no answer -/
structure Live (m : M) : Prop where
  o : m.outcome = none
  a : m.answer = none
  w : m.weight ≤ 16000000

variable {n : Nat} {m : M} {P : M → Prop}

theorem step_exec (ho : m.outcome = none) (ha : m.answer = none) (hpc : m.pc < m.code.size) : m.step = m.exec := by
  unfold M.step; rw [ho, ha]; simp [hpc]
theorem step_resume {yes : Bool} {f : Frame} {rest : List Frame} (ho : m.outcome = none) (ha : m.answer = some yes) (hf : m.frames = f :: rest) :
    m.step = M.resume { m with answer := none, frames := rest, weight := m.weight - (1 + f.kept.marks.size), pc := f.pc, pos := f.pos, outermost := f.outermost } f yes := by
  unfold M.step; rw [ho, ha, hf]; simp
theorem runs_end {yes : Bool} (ho : m.outcome = none) (ha : m.answer = some yes) (hf : m.frames = []) (h : P { m with answer := some yes, frames := [], outcome := some (if yes then .matched else .failed) }) : Runs 1 m P := by
  refine runs_step ho ⟨0, Nat.le_refl _, ?_, ?_⟩
  · show m.step.outcome.isSome = true
    unfold M.step; rw [ho, ha, hf]; rfl
  · show P m.step
    unfold M.step; rw [ho, ha, hf]; exact h
theorem runs_exec (ho : m.outcome = none) (ha : m.answer = none) (hpc : m.pc < m.code.size) (h : Runs n m.exec P) : Runs (n + 1) m P := runs_step ho (by rw [step_exec ho ha hpc]; exact h)

theorem runs_attempt {f : Frame} {t fr : Nat} {o : Bool} (hw : m.weight + 1 + f.kept.marks.size ≤ 16777216)
    (h : Runs n { m with frames := f :: m.frames, weight := m.weight + 1 + f.kept.marks.size, pc := t, pos := fr, handed := fr, outermost := o } P) : Runs n (m.attempt f t fr o) P := by
  unfold M.attempt
  rw [if_neg (Nat.not_lt.mpr hw)]
  exact h

/- the words -/
section
variable (ho : m.outcome = none) (ha : m.answer = none) (hpc : m.pc < m.code.size)
include ho ha hpc
theorem runs_success (hop : m.code.getD m.pc 0 = 1) (hc : (m.outermost && ((m.wholeText && m.pos != m.lim) || (m.mustAdvance && m.pos == m.start))) = false)
    (h : ∀ sn, Runs n { m with seen := sn, handed := m.pos, answer := some true } P) : Runs (n + 1) m P := by
  refine runs_exec ho ha hpc ?_
  unfold M.exec M.word
  rw [Nat.add_zero, hop]
  simp only [ops, List.getElem?_toArray, List.getElem?_cons_succ, List.getElem?_cons_zero, hc, M.say]
  exact h _
theorem runs_success_no (hop : m.code.getD m.pc 0 = 1) (hc : (m.outermost && ((m.wholeText && m.pos != m.lim) || (m.mustAdvance && m.pos == m.start))) = true)
    (h : ∀ sn, Runs n { m with seen := sn, answer := some false } P) : Runs (n + 1) m P := by
  refine runs_exec ho ha hpc ?_
  unfold M.exec M.word
  rw [Nat.add_zero, hop]
  simp only [ops, List.getElem?_toArray, List.getElem?_cons_succ, List.getElem?_cons_zero, hc, M.say]
  exact h _
theorem runs_at0 (hop : m.code.getD m.pc 0 = 6) (h1 : m.code.getD (m.pc + 1) 0 = 0) (h : ∀ sn, Runs n (if m.pos = 0 then { m with seen := sn, pc := m.pc + 2 } else { m with seen := sn, answer := some false }) P) : Runs (n + 1) m P := by
  refine runs_exec ho ha hpc ?_
  unfold M.exec M.word
  rw [Nat.add_zero, hop]
  simp only [ops, List.getElem?_toArray, List.getElem?_cons_succ, List.getElem?_cons_zero, M.say, h1, M.isAt]
  by_cases hp : m.pos = 0
  · simpa [hp] using (by simpa [hp] using h _)
  · have := h
    simp only [hp, if_false] at this ⊢
    simpa [hp] using this _
/- one sign: LITERAL, IN, ANY -/
theorem runs_one {b : Bool} (hop : m.code.getD m.pc 0 = 16 ∨ m.code.getD m.pc 0 = 13 ∨ m.code.getD m.pc 0 = 2) (hl : m.pos < m.lim) (hb : ∀ sn, ∃ sn', accepts m.code m.pc (m.text.getD m.pos 0) sn = .ok (b, sn'))
    (h : ∀ sn, Runs n (if b then { m with seen := sn, pc := m.pc + itemWidth m.code m.pc, pos := m.pos + 1 } else { m with seen := sn, answer := some false }) P) : Runs (n + 1) m P := by
  refine runs_exec ho ha hpc ?_
  unfold M.exec M.word
  have hl' : ¬ m.pos ≥ m.lim := Nat.not_le.mpr hl
  rcases hop with hop | hop | hop <;>
  · rw [Nat.add_zero, hop]
    simp only [ops, List.getElem?_toArray, List.getElem?_cons_succ, List.getElem?_cons_zero, hl', if_false, M.say]
    obtain ⟨sn', e⟩ := hb (m.seen.add (m.code.getD m.pc 0))
    rw [hop] at e
    rw [e]
    cases b
    · exact h sn'
    · exact h sn'
theorem runs_one_end (hop : m.code.getD m.pc 0 = 16 ∨ m.code.getD m.pc 0 = 13 ∨ m.code.getD m.pc 0 = 2) (hl : m.lim ≤ m.pos)
    (h : ∀ sn, Runs n { m with seen := sn, answer := some false } P) : Runs (n + 1) m P := by
  refine runs_exec ho ha hpc ?_
  unfold M.exec M.word
  have hl' : m.pos ≥ m.lim := hl
  rcases hop with hop | hop | hop <;>
  · rw [Nat.add_zero, hop]
    simp only [ops, List.getElem?_toArray, List.getElem?_cons_succ, List.getElem?_cons_zero, hl', if_true, M.say]
    exact h _
theorem runs_mark (hop : m.code.getD m.pc 0 = 17) (h : ∀ sn, Runs n (M.mark { m with seen := sn } (m.code.getD (m.pc + 1) 0)) P) : Runs (n + 1) m P := by
  refine runs_exec ho ha hpc ?_
  unfold M.exec M.word
  rw [Nat.add_zero, hop]
  simp only [ops, List.getElem?_toArray, List.getElem?_cons_succ, List.getElem?_cons_zero]
  exact h _
/- REPEAT_ONE: k signs -/
theorem runs_rep {k : Nat} (hop : m.code.getD m.pc 0 = 24) (hl : m.pos ≤ m.lim) (hleast : m.code.getD (m.pc + 2) 0 ≤ k) (hw : m.weight + 1 + (m.keep m.inner.isSome).marks.size ≤ 16777216)
    (hroom : m.code.getD (m.pc + 2) 0 ≤ m.lim - m.pos)
    (hr : ∀ sn, ∃ sn', run m.code m.text (m.pc + 4) (min (m.code.getD (m.pc + 3) 0) (m.lim - m.pos)) m.pos 0 sn = .ok (k, sn'))
    (h : ∀ sn, Runs n { m with seen := sn, frames := { wait := .giveBack, pc := m.pc, pos := m.pos + k, outermost := m.outermost, count := k, kept := m.keep m.inner.isSome } :: m.frames, weight := m.weight + 1 + (m.keep m.inner.isSome).marks.size, pc := m.pc + 1 + m.code.getD (m.pc + 1) 0, pos := m.pos + k, handed := m.pos + k } P) : Runs (n + 1) m P := by
  refine runs_exec ho ha hpc ?_
  unfold M.exec M.word
  rw [Nat.add_zero, hop]
  simp only [ops, List.getElem?_toArray, List.getElem?_cons_succ, List.getElem?_cons_zero]
  have h1 : ¬ ((m.code.getD (m.pc + 2) 0 : Nat) : Int) > (m.lim : Int) - m.pos := by (first | lia | omega)
  have h2 : ((m.lim : Int) - m.pos).toNat = m.lim - m.pos := Int.toNat_sub _ _
  rw [if_neg h1, h2]
  obtain ⟨sn', e⟩ := hr ((m.seen.add 24).add (m.code.getD (m.pc + 4) 0))
  simp only [Bool.false_eq_true, if_false]
  rw [e]
  simp only [Nat.not_lt.mpr hleast, if_false, M.afterRun, M.attempt, M.frame, M.keep, M.word] at hw ⊢
  rw [if_neg (Nat.not_lt.mpr hw)]
  exact h sn'
theorem runs_rep_less (hop : m.code.getD m.pc 0 = 24) (hr : m.lim - m.pos < m.code.getD (m.pc + 2) 0 ∨ ∀ sn, ∃ k sn', run m.code m.text (m.pc + 4) (min (m.code.getD (m.pc + 3) 0) (m.lim - m.pos)) m.pos 0 sn = .ok (k, sn') ∧ k < m.code.getD (m.pc + 2) 0)
    (hl : m.pos ≤ m.lim) (h : ∀ sn, Runs n { m with seen := sn, answer := some false } P) : Runs (n + 1) m P := by
  refine runs_exec ho ha hpc ?_
  unfold M.exec M.word
  rw [Nat.add_zero, hop]
  simp only [ops, List.getElem?_toArray, List.getElem?_cons_succ, List.getElem?_cons_zero]
  split
  · exact h _
  · rename_i hn
    rcases hr with hr | hr
    · exact absurd hn (by (first | lia | omega))
    have h2 : ((m.lim : Int) - m.pos).toNat = m.lim - m.pos := Int.toNat_sub _ _
    rw [h2]
    obtain ⟨k, sn', e, hk⟩ := hr ((m.seen.add 24).add (m.code.getD (m.pc + 4) 0))
    simp only [Bool.false_eq_true, if_false]
    rw [e]
    simp only [hk, if_true, M.say]
    exact h sn'
/- REPEAT .. MAX_UNTIL -/
theorem runs_loop (hop : m.code.getD m.pc 0 = 23) (hw : m.weight + 1 ≤ 16777216)
    (h : ∀ sn, Runs n { m with seen := sn, loops := m.loops.push { pc := m.pc, outer := m.inner }, inner := some m.loops.size, frames := { wait := .closeLoop, pc := m.pc, pos := m.pos, outermost := m.outermost, loop := m.loops.size } :: m.frames, weight := m.weight + 1, pc := m.pc + 1 + m.code.getD (m.pc + 1) 0, handed := m.pos } P) : Runs (n + 1) m P := by
  refine runs_exec ho ha hpc ?_
  unfold M.exec M.word
  rw [Nat.add_zero, hop]
  simp only [ops, List.getElem?_toArray, List.getElem?_cons_succ, List.getElem?_cons_zero]
  exact runs_attempt (by show m.weight + 1 + 0 ≤ 16777216; (first | lia | omega)) (h _)
/- one more round -/
theorem runs_until {i : Nat} (hop : m.code.getD m.pc 0 = 18) (hi : m.inner = some i) (hmin : ¬ (m.loopAt i).count + 1 < (m.code.getD ((m.loopAt i).pc + 2) 0 : Nat)) (hmax : m.code.getD ((m.loopAt i).pc + 3) 0 = maxRepeat)
    (hb : ((m.loopAt i).began == some m.pos) = false) (hw : m.weight + 1 + (m.keep true).marks.size ≤ 16777216)
    (h : ∀ sn, Runs n { m with seen := sn, loops := m.loops.modify i (fun l => { pc := l.pc, count := (m.loopAt i).count + 1, began := some m.pos, outer := l.outer }), inner := some i, pc := (m.loopAt i).pc + 4, handed := m.pos, weight := m.weight + 1 + (m.keep true).marks.size, frames := { wait := .maxMore, pc := m.pc + 1, pos := m.pos, outermost := m.outermost, count := (m.loopAt i).count + 1, kept := m.keep true, loop := i, began := (m.loopAt i).began } :: m.frames } P) : Runs (n + 1) m P := by
  refine runs_exec ho ha hpc ?_
  unfold M.exec M.word
  rw [Nat.add_zero, hop]
  simp only [ops, List.getElem?_toArray, List.getElem?_cons_succ, List.getElem?_cons_zero, M.until_, hi]
  have h1 : ¬ ((m.loops.getD i { pc := 0, outer := none }).count + 1 < (m.code.getD ((m.loops.getD i { pc := 0, outer := none }).pc + 2) 0 : Nat)) := hmin
  have h2 : m.code.getD ((m.loops.getD i { pc := 0, outer := none }).pc + 3) 0 = maxRepeat := hmax
  have h3 : ((m.loops.getD i { pc := 0, outer := none }).began == some m.pos) = false := hb
  simp only [M.loopAt, h1, if_false, h2, h3, bne, Bool.not_true, Bool.not_false, Bool.false_eq_true, beq_self_eq_true, Bool.or_true, Bool.true_and, if_true, M.round, M.setLoop]
  refine runs_attempt hw ?_
  exact h (m.seen.add 18)
end
/- the waits -/
section
variable {f : Frame} {rest : List Frame}
theorem runs_resume {yes : Bool} (ho : m.outcome = none) (ha : m.answer = some yes) (hf : m.frames = f :: rest)
    (h : Runs n (M.resume { m with answer := none, frames := rest, weight := m.weight - (1 + f.kept.marks.size), pc := f.pc, pos := f.pos, outermost := f.outermost } f yes) P) : Runs (n + 1) m P :=
  runs_step ho (by rw [step_resume ho ha hf]; exact h)
/- giving back: nothing is left to give -/
theorem runs_give_no (ho : m.outcome = none) (ha : m.answer = some false) (hf : m.frames = f :: rest) (hwt : f.wait = .giveBack) (hc : f.count - 1 < (m.code.getD (f.pc + 2) 0 : Nat)) (hk : f.kept.whole = false)
    (h : Runs n { m with answer := some false, frames := rest, weight := m.weight - (1 + f.kept.marks.size), pc := f.pc, pos := f.pos, outermost := f.outermost, lastmark := f.kept.lastmark, lastindex := f.kept.lastindex } P) : Runs (n + 1) m P := by
  refine runs_resume ho ha hf ?_
  unfold M.resume M.word
  rw [hwt]
  simp only [Bool.false_eq_true, if_false, hc, if_true, M.say, M.putBack, hk]
  exact h
/- the next start, where the pattern asks for the beginning -/
theorem runs_next_no (ho : m.outcome = none) (ha : m.answer = some false) (hf : m.frames = f :: rest) (hwt : f.wait = .nextStart) (hl : m.lastStart ≤ f.pos)
    (h : Runs n { m with answer := some false, frames := rest, weight := m.weight - (1 + f.kept.marks.size), pc := f.pc, pos := f.pos, outermost := f.outermost } P) : Runs (n + 1) m P := by
  refine runs_resume ho ha hf ?_
  unfold M.resume
  rw [hwt]
  simp only [Bool.false_eq_true, if_false, Nat.not_lt.mpr hl, M.say]
  exact h
theorem runs_next (ho : m.outcome = none) (ha : m.answer = some false) (hf : m.frames = f :: rest) (hwt : f.wait = .nextStart) (hl : f.pos < m.lastStart)
    (h : Runs n (M.attemptFrom { m with answer := none, frames := rest, weight := m.weight - (1 + f.kept.marks.size), pc := f.pc, pos := f.pos, outermost := f.outermost, mustAdvance := false } (f.pos + 1) false) P) : Runs (n + 1) m P := by
  refine runs_resume ho ha hf ?_
  unfold M.resume
  rw [hwt]
  simp only [Bool.false_eq_true, if_false, hl, if_true]
  exact h
/- all that waits hears yes -/
noncomputable def yesWait : Wait → Bool
  | .nextStart | .giveBack | .closeLoop | .maxMore | .maxTail => true
  | _ => false
structure Same (m m' : M) : Prop where
  start : m'.start = m.start
  handed : m'.handed = m.handed
  marks : m'.marks = m.marks
  lastmark : m'.lastmark = m.lastmark
  lastindex : m'.lastindex = m.lastindex
theorem runs_yes (hP : ∀ m', Same m m' → m'.outcome = some .matched → P m') : ∀ (fs : List Frame) (x : M), Same m x → x.outcome = none → x.answer = some true → x.frames = fs → (fs.all fun f => yesWait f.wait) = true → Runs (fs.length + 1) x P
  | [], x, hs, ho, ha, hf, _ => runs_end ho ha hf (hP _ ⟨hs.start, hs.handed, hs.marks, hs.lastmark, hs.lastindex⟩ rfl)
  | f :: r, x, hs, ho, ha, hf, hw => by
    rw [List.all_cons, Bool.and_eq_true] at hw
    refine runs_resume ho ha hf ?_
    cases hq : f.wait <;> (rw [hq] at hw) <;> first
      | (exact absurd hw.1 Bool.false_ne_true)
      | (refine runs_yes hP r _ ?_ ?_ ?_ ?_ hw.2 <;> (unfold M.resume; rw [hq]) <;> first | exact ⟨hs.start, hs.handed, hs.marks, hs.lastmark, hs.lastindex⟩ | exact ho | rfl)
end
end Mine
end R1

section R2
open PySem hiding Frame run
open PySem.Sre
namespace Mine

noncomputable def alpha : List Nat := [97, 98, 99, 100, 101, 102, 92, 34, 126, 61, 59, 32]
noncomputable def SetOk (code : Array Nat) (i : Nat) (f : Nat → Bool) : Prop := ∀ c ∈ alpha, ∀ sn, ∃ sn', accepts code i c sn = .ok (f c, sn')

theorem alpha_cases {P : Nat → Prop} (h : P 97 ∧ P 98 ∧ P 99 ∧ P 100 ∧ P 101 ∧ P 102 ∧ P 92 ∧ P 34 ∧ P 126 ∧ P 61 ∧ P 59 ∧ P 32) : ∀ c ∈ alpha, P c := by
  intro c hc
  simp only [alpha, List.mem_cons, List.not_mem_nil, or_false] at hc
  obtain ⟨h1, h2, h3, h4, h5, h6, h7, h8, h9, h10, h11, h12⟩ := h
  rcases hc with rfl | rfl | rfl | rfl | rfl | rfl | rfl | rfl | rfl | rfl | rfl | rfl <;> assumption

noncomputable def cTOK : Array Nat := #[14, 4, 0, 1, 4294967295, 6, 0, 24, 9, 0, 4294967295, 13, 4, 8, 12, 0, 1, 17, 0, 24, 19, 1, 4294967295, 13, 14, 21, 9, 0, 671092736, 0, 0, 0, 0, 0, 0, 8, 12, 0, 1, 17, 1, 1]
noncomputable def cQUO : Array Nat := #[14, 4, 0, 3, 4294967295, 6, 0, 24, 9, 0, 4294967295, 13, 4, 8, 12, 0, 1, 16, 61, 24, 9, 0, 4294967295, 13, 4, 8, 12, 0, 1, 16, 34, 17, 0, 24, 12, 0, 4294967295, 13, 7, 21, 16, 34, 16, 92, 0, 1, 23, 19, 0, 4294967295, 16, 92, 2, 24, 12, 0, 4294967295, 13, 7, 21, 16, 34, 16, 92, 0, 1, 18, 17, 1, 16, 34, 1]
noncomputable def cVAL : Array Nat := #[14, 4, 0, 1, 4294967295, 6, 0, 24, 9, 0, 4294967295, 13, 4, 8, 12, 0, 1, 16, 61, 24, 9, 0, 4294967295, 13, 4, 8, 12, 0, 1, 17, 0, 24, 14, 0, 4294967295, 13, 9, 21, 8, 12, 16, 59, 16, 44, 0, 1, 17, 1, 1]
noncomputable def cTWIN : Array Nat := #[14, 4, 0, 0, 4294967295, 6, 0, 24, 13, 0, 4294967295, 13, 8, 16, 61, 8, 12, 16, 59, 0, 1, 1]
noncomputable def cESC : Array Nat := #[14, 8, 1, 2, 2, 1, 1, 92, 0, 16, 92, 17, 0, 2, 17, 1, 1]
noncomputable def cJT : Array Nat := #[14, 4, 0, 1, 4294967295, 24, 16, 1, 4294967295, 13, 11, 9, 0, 67071226, 3355443198, 1476395007, 0, 0, 0, 0, 0, 1, 1]
noncomputable def cJE : Array Nat := #[14, 9, 4, 1, 1, 16, 34, 16, 92, 0, 17, 0, 13, 6, 16, 34, 16, 92, 0, 17, 1, 1]
noncomputable def cTS : Array Nat := #[14, 14, 4, 1, 1, 9, 0, 4227896069, 939524097, 0, 0, 0, 0, 0, 0, 13, 11, 9, 0, 4227896069, 939524097, 0, 0, 0, 0, 0, 0, 1]

noncomputable def fSp (c : Nat) : Bool := c == 32
noncomputable def fTok (c : Nat) : Bool := !(c == 61 || c == 59 || c == 32)
noncomputable def fPl (c : Nat) : Bool := !(c == 34 || c == 92)
theorem tok_sp : SetOk cTOK 11 fSp := by refine alpha_cases ⟨?_, ?_, ?_, ?_, ?_, ?_, ?_, ?_, ?_, ?_, ?_, ?_⟩ <;> (intro sn; exact ⟨_, rfl⟩)
theorem tok_in : SetOk cTOK 23 fTok := by refine alpha_cases ⟨?_, ?_, ?_, ?_, ?_, ?_, ?_, ?_, ?_, ?_, ?_, ?_⟩ <;> (intro sn; exact ⟨_, rfl⟩)
theorem quo_sp : SetOk cQUO 11 fSp := by refine alpha_cases ⟨?_, ?_, ?_, ?_, ?_, ?_, ?_, ?_, ?_, ?_, ?_, ?_⟩ <;> (intro sn; exact ⟨_, rfl⟩)
theorem quo_sp2 : SetOk cQUO 23 fSp := by refine alpha_cases ⟨?_, ?_, ?_, ?_, ?_, ?_, ?_, ?_, ?_, ?_, ?_, ?_⟩ <;> (intro sn; exact ⟨_, rfl⟩)
theorem quo_pl : SetOk cQUO 37 fPl := by refine alpha_cases ⟨?_, ?_, ?_, ?_, ?_, ?_, ?_, ?_, ?_, ?_, ?_, ?_⟩ <;> (intro sn; exact ⟨_, rfl⟩)
theorem quo_pl2 : SetOk cQUO 57 fPl := by refine alpha_cases ⟨?_, ?_, ?_, ?_, ?_, ?_, ?_, ?_, ?_, ?_, ?_, ?_⟩ <;> (intro sn; exact ⟨_, rfl⟩)
theorem val_sp : SetOk cVAL 11 fSp := by refine alpha_cases ⟨?_, ?_, ?_, ?_, ?_, ?_, ?_, ?_, ?_, ?_, ?_, ?_⟩ <;> (intro sn; exact ⟨_, rfl⟩)
theorem val_sp2 : SetOk cVAL 23 fSp := by refine alpha_cases ⟨?_, ?_, ?_, ?_, ?_, ?_, ?_, ?_, ?_, ?_, ?_, ?_⟩ <;> (intro sn; exact ⟨_, rfl⟩)
theorem val_in : SetOk cVAL 35 (fun c => !(c == 59 || c == 32)) := by refine alpha_cases ⟨?_, ?_, ?_, ?_, ?_, ?_, ?_, ?_, ?_, ?_, ?_, ?_⟩ <;> (intro sn; exact ⟨_, rfl⟩)
theorem twin_in : SetOk cTWIN 11 (fun c => c == 61 || c == 59 || c == 32) := by refine alpha_cases ⟨?_, ?_, ?_, ?_, ?_, ?_, ?_, ?_, ?_, ?_, ?_, ?_⟩ <;> (intro sn; exact ⟨_, rfl⟩)
theorem jt_in : SetOk cJT 9 (fun c => !(c == 92 || c == 34 || c == 61 || c == 59 || c == 32)) := by refine alpha_cases ⟨?_, ?_, ?_, ?_, ?_, ?_, ?_, ?_, ?_, ?_, ?_, ?_⟩ <;> (intro sn; exact ⟨_, rfl⟩)
theorem je_in : SetOk cJE 12 (fun c => c == 92 || c == 34) := by refine alpha_cases ⟨?_, ?_, ?_, ?_, ?_, ?_, ?_, ?_, ?_, ?_, ?_, ?_⟩ <;> (intro sn; exact ⟨_, rfl⟩)
theorem ts_in : SetOk cTS 15 (fun c => c == 92 || c == 34 || c == 61 || c == 59 || c == 32) := by refine alpha_cases ⟨?_, ?_, ?_, ?_, ?_, ?_, ?_, ?_, ?_, ?_, ?_, ?_⟩ <;> (intro sn; exact ⟨_, rfl⟩)

theorem run_set {code text : Array Nat} {i : Nat} {f : Nat → Bool} (h : SetOk code i f) : ∀ (n p found k : Nat), k ≤ n → (∀ j, j < k → text.getD (p + j) 0 ∈ alpha ∧ f (text.getD (p + j) 0) = true) →
    (k < n → text.getD (p + k) 0 ∈ alpha ∧ f (text.getD (p + k) 0) = false) → ∀ sn, ∃ sn', run code text i n p found sn = .ok (found + k, sn')
  | 0, p, found, k, hk, _, _, sn => by
    have : k = 0 := by (first | lia | omega)
    subst this
    exact ⟨sn, rfl⟩
  | n + 1, p, found, 0, _, _, hn, sn => by
    obtain ⟨ha, hf⟩ := hn (by (first | lia | omega))
    obtain ⟨sn', e⟩ := h _ ha sn
    refine ⟨sn', ?_⟩
    rw [Nat.add_zero] at e hf
    rw [run, e, hf]; rfl
  | n + 1, p, found, k + 1, hk, hy, hn, sn => by
    obtain ⟨ha, hf⟩ := hy 0 (by (first | lia | omega))
    obtain ⟨sn', e⟩ := h _ ha sn
    rw [Nat.add_zero] at e hf
    obtain ⟨sn'', e2⟩ := run_set h n (p + 1) (found + 1) k (by (first | lia | omega)) (fun j hj => by
      have := hy (j + 1) (by (first | lia | omega))
      rw [show p + 1 + j = p + (j + 1) by (first | lia | omega)]; exact this) (fun hk => by
      have := hn (by (first | lia | omega))
      rw [show p + 1 + k = p + (k + 1) by (first | lia | omega)]; exact this) sn'
    refine ⟨sn'', ?_⟩
    rw [run, e, hf]
    show run code text i n (p + 1) (found + 1) sn' = _
    rw [e2]; congr 2; (first | lia | omega)

variable {n : Nat} {m : M} {P : M → Prop}
theorem runs_attemptAt {s : Nat} {first : Bool} (hw : m.weight + 1 ≤ 16777216)
    (h : Runs n { m with start := s, pos := s, lastmark := -1, lastindex := -1, frames := { wait := .nextStart, pc := m.pc, pos := s, outermost := first } :: m.frames, weight := m.weight + 1, handed := s, outermost := first } P) : Runs n (m.attemptAt s first) P := by
  unfold M.attemptAt
  refine runs_attempt ?_ h
  exact hw
theorem runs_attemptFrom {s : Nat} {first : Bool} (hf : m.hasFirstSet = false) (hw : m.weight + 1 ≤ 16777216)
    (h : Runs n { m with start := s, pos := s, lastmark := -1, lastindex := -1, frames := { wait := .nextStart, pc := m.pc, pos := s, outermost := first } :: m.frames, weight := m.weight + 1, handed := s, outermost := first } P) : Runs n (m.attemptFrom s first) P := by
  unfold M.attemptFrom
  rw [hf]
  exact runs_attemptAt hw h

noncomputable def Failed (m : M) : Prop := m.outcome = some .failed

theorem le_rep {a b lim : Nat} (h1 : a + b ≤ lim) (h2 : a ≤ 4294967295) : a ≤ min 4294967295 (lim - b) := Nat.le_min.mpr ⟨h2, Nat.le_sub_of_add_le h1⟩
theorem sub_step {a p d : Nat} (h : a - p ≤ d + 1) : a - (p + 1) ≤ d := by omega
theorem w_step {w : Nat} (h : w ≤ 1000) : w - (1 + 0) + 1 ≤ 1000 := by (first | lia | omega)
/- a pattern that asks for the beginning finds nothing at a later start -/
theorem anch_no {code : Array Nat} {q : Nat} (h6 : code.getD q 0 = 6) (h0 : code.getD (q + 1) 0 = 0) (hq : q < code.size) : ∀ (d : Nat) (m : M) (p : Nat) (o : Bool), m.lastStart - p ≤ d → m.code = code → m.hasFirstSet = false → m.weight ≤ 1000 → m.outcome = none → m.answer = some false →
    m.frames = [{ wait := .nextStart, pc := q, pos := p, outermost := o }] → Runs (3 * d + 2) m Failed := by
  have key : ∀ (d : Nat) (m : M) (p : Nat) (o : Bool), m.outcome = none → m.answer = some false → m.frames = [{ wait := .nextStart, pc := q, pos := p, outermost := o }] → m.lastStart ≤ p → Runs (3 * d + 2) m Failed := fun d m p o ho ha hf hl =>
    Runs.mono (n := 2) (runs_next_no ho ha hf rfl hl (runs_end ho rfl rfl rfl)) (Nat.le_add_left 2 _)
  intro d
  induction d with
  | zero => exact fun m p o hd hc hs hw ho ha hf => key 0 m p o ho ha hf (Nat.le_of_sub_eq_zero (Nat.le_zero.mp hd))
  | succ d ih =>
    intro m p o hd hc hs hw ho ha hf
    by_cases hl : m.lastStart ≤ p
    · exact key _ m p o ho ha hf hl
    · have hl' : p < m.lastStart := Nat.not_le.mp hl
      refine Runs.mono (n := 3 * d + 2 + 1 + 1) ?_ (Nat.le_succ _)
      refine runs_next ho ha hf rfl hl' ?_
      refine runs_attemptFrom hs ?_ ?_
      · exact Nat.le_trans (Nat.succ_le_succ (Nat.le_trans (Nat.sub_le _ _) hw)) (by decide)
      refine runs_at0 ho rfl (by rw [hc]; exact hq) (by rw [hc]; exact h6) (by rw [hc]; exact h0) fun sn => ?_
      rw [if_neg (Nat.succ_ne_zero _)]
      exact ih _ (p + 1) false (sub_step hd) hc hs (w_step hw) ho rfl rfl

/- what a search that found tells -/
structure Found (m : M) (st h : Nat) (marks : Array (Option Nat)) (lm li : Int) : Prop where
  o : m.outcome = some .matched
  start : m.start = st
  handed : m.handed = h
  marks : m.marks = marks
  lastmark : m.lastmark = lm
  lastindex : m.lastindex = li

theorem runs_found {n : Nat} {x : M} {st h : Nat} {marks : Array (Option Nat)} {lm li : Int} (ho : x.outcome = none) (ha : x.answer = some true) (hw : (x.frames.all fun f => yesWait f.wait) = true) (hn : x.frames.length + 1 ≤ n)
    (h1 : x.start = st) (h2 : x.handed = h) (h3 : x.marks = marks) (h4 : x.lastmark = lm) (h5 : x.lastindex = li) : Runs n x (fun m => Found m st h marks lm li) :=
  (runs_yes (m := x) (fun m' s o => ⟨o, s.start.trans h1, s.handed.trans h2, s.marks.trans h3, s.lastmark.trans h4, s.lastindex.trans h5⟩) _ x ⟨rfl, rfl, rfl, rfl, rfl⟩ ho ha rfl hw).mono hn

theorem getD_app_l {x r : List Nat} {j : Nat} (h : j < x.length) : (x ++ r).toArray.getD j 0 = x[j] := by
  rw [Array.getD_eq_getD_getElem?, List.getElem?_toArray, List.getElem?_append_left h, List.getElem?_eq_getElem h]; rfl
theorem getD_app_r {x r : List Nat} {j : Nat} : (x ++ r).toArray.getD (x.length + j) 0 = r.toArray.getD j 0 := by
  rw [Array.getD_eq_getD_getElem?, List.getElem?_toArray, List.getElem?_append_right (Nat.le_add_right _ _), Nat.add_sub_cancel_left, Array.getD_eq_getD_getElem?, List.getElem?_toArray]

/- the head of a text is no sign of f -/
noncomputable def HeadNot (f : Nat → Bool) : List Nat → Prop
  | [] => True
  | c :: _ => c ∈ alpha ∧ f c = false
theorem HeadNot.at {f : Nat → Bool} {x r : List Nat} (h : HeadNot f r) (hn : 0 < r.length) : (x ++ r).toArray.getD (x.length + 0) 0 ∈ alpha ∧ f ((x ++ r).toArray.getD (x.length + 0) 0) = false := by
  rw [getD_app_r]
  cases r with
  | nil => cases hn
  | cons c r => exact h

theorem tok_match {x r : List Nat} (hx : x ≠ []) (ha : ∀ c ∈ x, c ∈ alpha ∧ fTok c = true) (hr : HeadNot fTok r) (hlen : (x ++ r).length ≤ 1000000) :
    Runs 20 (forSearch cTOK (x ++ r).toArray 1 0 (x ++ r).length false) (fun m => Found m 0 x.length #[some 0, some x.length] 1 1) := by
  have hpos : 0 < x.length := List.length_pos_iff.mpr hx
  have hlim : x.length ≤ (x ++ r).length := by rw [List.length_append]; (first | lia | omega)
  have e : forSearch cTOK (x ++ r).toArray 1 0 (x ++ r).length false = M.attemptFrom { code := cTOK, text := (x ++ r).toArray, lim := (x ++ r).length, start := 0, pc := 5, pos := 0, handed := 0, marks := #[none, none], seen := ({} : Seen).add 14, lastStart := (x ++ r).length } 0 true := by
    unfold forSearch
    rw [if_neg (by rw [Bool.or_eq_true, decide_eq_true_eq, decide_eq_true_eq]; show ¬ (_ ∨ _ < 1); (first | lia | omega))]
    rfl
  rw [e]
  refine Runs.mono (n := 6 + 4) ?_ (by decide)
  refine runs_attemptFrom rfl (Nat.le_of_ble_eq_true rfl) ?_
  refine runs_at0 rfl rfl (Nat.le_of_ble_eq_true rfl) rfl rfl fun sn => ?_
  dsimp only
  rw [if_pos rfl]
  refine runs_rep (k := 0) rfl rfl (Nat.le_of_ble_eq_true rfl) rfl (Nat.zero_le _) (Nat.zero_le _) (Nat.le_of_ble_eq_true rfl) (Nat.zero_le _) (fun sn => run_set tok_sp _ _ 0 0 (Nat.zero_le _) (fun j hj => absurd hj (Nat.not_lt_zero _)) (fun _ => ?_) sn) fun sn => ?_
  · show (x ++ r).toArray.getD (0 + 0) 0 ∈ _ ∧ _
    rw [getD_app_l (by (first | lia | omega))]
    have := ha x[0] (List.getElem_mem _)
    refine ⟨this.1, ?_⟩
    have h2 := this.2
    unfold fTok at h2
    unfold fSp
    cases hq : (x[0] == 32)
    · rfl
    · rw [show x[0] = 32 from beq_iff_eq.mp hq] at h2; exact absurd h2 (by decide)
  dsimp only
  refine runs_mark rfl rfl (Nat.le_of_ble_eq_true rfl) rfl fun sn => ?_
  dsimp only [M.mark]
  refine runs_rep (k := x.length) rfl rfl (Nat.le_of_ble_eq_true rfl) rfl (Nat.zero_le _) hpos (Nat.le_of_ble_eq_true rfl) (by show 1 ≤ (x ++ r).length - 0; (first | lia | omega)) (fun sn => ?_) fun sn => ?_
  · have := run_set tok_in (text := (x ++ r).toArray) (min (cTOK.getD 22 0) ((x ++ r).length - 0)) 0 0 x.length ?_ ?_ ?_ sn
    · rw [Nat.zero_add] at this; exact this
    · exact le_rep (by (first | lia | omega)) (by (first | lia | omega))
    · intro j hj
      rw [Nat.zero_add, getD_app_l hj]
      exact ha _ (List.getElem_mem _)
    · intro hlt
      have : 0 < r.length := by
        rw [List.length_append] at hlt
        (first | lia | omega)
      have := hr.at (x := x) this
      rw [Nat.add_zero] at this
      rw [Nat.zero_add]
      exact this
  dsimp only
  refine runs_mark rfl rfl (Nat.le_of_ble_eq_true rfl) rfl fun sn => ?_
  dsimp only [M.mark]
  refine runs_success rfl rfl (Nat.le_of_ble_eq_true rfl) rfl rfl fun sn => ?_
  refine runs_found ?_ ?_ ?_ ?_ ?_ ?_ ?_ ?_ ?_
  · rfl
  · rfl
  · rfl
  · exact Nat.le_refl 4
  · rfl
  · exact Nat.zero_add _
  · show _ = #[some 0, some x.length]
    rw [show (0 : Nat) + x.length = x.length from Nat.zero_add _]
    rfl
  · rfl
  · rfl
end Mine
end R2

section R3
open PySem hiding Frame run
open PySem.Sre
namespace Mine
variable {n : Nat} {m : M} {P : M → Prop}

theorem search_say {code text : Array Nat} {g pos lim : Nat} {adv : Bool} {least q : Nat} (hl : header code = (least, q)) (h : pos > lim ∨ lim - pos < least) : Runs 1 (forSearch code text g pos lim adv) Failed := by
  unfold forSearch
  rw [hl, if_pos (by rw [Bool.or_eq_true, decide_eq_true_eq, decide_eq_true_eq]; exact h)]
  exact runs_end rfl rfl rfl rfl

/- ends in no: what waits has nothing to give back, and the next starts are not the beginning -/
inductive FF (code : Array Nat) (q p : Nat) : List Frame → Prop
  | last {o : Bool} : FF code q p [{ wait := .nextStart, pc := q, pos := p, outermost := o }]
  | cons {f : Frame} {fs : List Frame} : f.wait = .giveBack → f.count - 1 < (code.getD (f.pc + 2) 0 : Nat) → f.kept.whole = false → FF code q p fs → FF code q p (f :: fs)
theorem runs_failed {code : Array Nat} {q : Nat} (h6 : code.getD q 0 = 6) (h0 : code.getD (q + 1) 0 = 0) (hq : q < code.size) {p : Nat} {fs : List Frame} (ff : FF code q p fs) : ∀ (n : Nat) (m : M), fs.length + (3 * (m.lastStart - p) + 1) ≤ n → m.code = code → m.hasFirstSet = false → m.weight ≤ 1000 → m.outcome = none → m.answer = some false →
    m.frames = fs → Runs n m Failed := by
  induction ff with
  | last => 
    intro n m hn hc hs hw ho ha hf
    refine (anch_no h6 h0 hq _ m p _ (Nat.le_refl _) hc hs hw ho ha hf).mono ?_
    simp only [List.length_cons, List.length_nil] at hn
    (first | lia | omega)
  | @cons f fs h1 h2 h3 _ ih =>
    intro n m hn hc hs hw ho ha hf
    refine Runs.mono (n := fs.length + (3 * (m.lastStart - p) + 1) + 1) ?_ (by rw [List.length_cons] at hn; (first | lia | omega))
    refine runs_give_no ho ha hf h1 (by rw [hc]; exact h2) h3 ?_
    refine ih _ _ ?_ ?_ ?_ ?_ ?_ ?_ ?_
    · exact Nat.le_refl _
    · exact hc
    · exact hs
    · exact Nat.le_trans (Nat.sub_le _ _) hw
    · exact ho
    · rfl
    · rfl

theorem runs_failed' {code : Array Nat} {q : Nat} (h6 : code.getD q 0 = 6) (h0 : code.getD (q + 1) 0 = 0) (hq : q < code.size) {p : Nat} {n : Nat} {m : M} (hn : m.frames.length + (3 * (m.lastStart - p) + 1) ≤ n) (hc : m.code = code) (hs : m.hasFirstSet = false) (hw : m.weight ≤ 1000)
    (ho : m.outcome = none) (ha : m.answer = some false) (ff : FF code q p m.frames) : Runs n m Failed := runs_failed h6 h0 hq ff n m hn hc hs hw ho ha rfl

theorem getD_cons0 {c : Nat} {r : List Nat} : (c :: r).toArray.getD 0 0 = c := by
  rw [Array.getD_eq_getD_getElem?, List.getElem?_toArray]; rfl
theorem getD_cons1 {c d : Nat} {r : List Nat} : (c :: d :: r).toArray.getD 1 0 = d := by
  rw [Array.getD_eq_getD_getElem?, List.getElem?_toArray]; rfl

theorem tok_no {r : List Nat} (hlen : r.length ≤ 1000000) : Runs (4 * r.length + 30) (forSearch cTOK (59 :: r).toArray 1 0 (59 :: r).length false) Failed := by
  have e : forSearch cTOK (59 :: r).toArray 1 0 (59 :: r).length false = M.attemptFrom { code := cTOK, text := (59 :: r).toArray, lim := (59 :: r).length, start := 0, pc := 5, pos := 0, handed := 0, marks := #[none, none], seen := ({} : Seen).add 14, lastStart := (59 :: r).length } 0 true := by
    unfold forSearch
    rw [if_neg (by rw [Bool.or_eq_true, decide_eq_true_eq, decide_eq_true_eq, List.length_cons]; show ¬ (_ ∨ _ < 1); (first | lia | omega))]
    rfl
  rw [e]
  refine Runs.mono (n := 1 + (3 * ((59 :: r).length - 0) + 2) + 4) ?_ (by rw [List.length_cons]; (first | lia | omega))
  refine runs_attemptFrom rfl (Nat.le_of_ble_eq_true rfl) ?_
  refine runs_at0 rfl rfl (Nat.le_of_ble_eq_true rfl) rfl rfl fun sn => ?_
  dsimp only
  rw [if_pos rfl]
  refine runs_rep (k := 0) rfl rfl (Nat.le_of_ble_eq_true rfl) rfl (Nat.zero_le _) (Nat.zero_le _) (Nat.le_of_ble_eq_true rfl) (Nat.zero_le _) (fun sn => run_set tok_sp _ _ 0 0 (Nat.zero_le _) (fun j hj => absurd hj (Nat.not_lt_zero _)) (fun _ => ?_) sn) fun sn => ?_
  · show (59 :: r).toArray.getD 0 0 ∈ _ ∧ _
    rw [getD_cons0]; exact ⟨by decide, rfl⟩
  dsimp only
  refine runs_mark rfl rfl (Nat.le_of_ble_eq_true rfl) rfl fun sn => ?_
  dsimp only [M.mark]
  refine runs_rep_less rfl rfl (Nat.le_of_ble_eq_true rfl) rfl (.inr fun sn => ⟨0, ?_⟩) (Nat.zero_le _) fun sn => ?_
  · obtain ⟨sn', e⟩ := run_set tok_in (text := (59 :: r).toArray) (min (cTOK.getD 22 0) ((59 :: r).length - 0)) 0 0 0 (Nat.zero_le _) (fun j hj => absurd hj (Nat.not_lt_zero _)) (fun _ => by
      show (59 :: r).toArray.getD 0 0 ∈ _ ∧ fTok ((59 :: r).toArray.getD 0 0) = _
      rw [getD_cons0]; exact ⟨by decide, rfl⟩) sn
    exact ⟨sn', e, Nat.le_of_ble_eq_true rfl⟩
  dsimp only
  refine runs_failed' (code := cTOK) (q := 5) rfl rfl (by decide) (p := 0) ?_ ?_ ?_ ?_ ?_ ?_ ?_
  · dsimp only [List.length]; (first | lia | omega)
  · rfl
  · rfl
  · exact Nat.le_of_ble_eq_true rfl
  · rfl
  · rfl
  · exact (.cons rfl (of_decide_eq_true rfl) rfl .last)

theorem quo_start {l : List Nat} (h : 3 ≤ l.length) : ∃ last, forSearch cQUO l.toArray 1 0 l.length false = M.attemptFrom { code := cQUO, text := l.toArray, lim := l.length, start := 0, pc := 5, pos := 0, handed := 0, marks := #[none, none], seen := ({} : Seen).add 14, lastStart := last } 0 true ∧ last ≤ l.length := by
  refine ⟨max 0 (l.length - 2), ?_, by (first | lia | omega)⟩
  unfold forSearch
  rw [if_neg (by rw [Bool.or_eq_true, decide_eq_true_eq, decide_eq_true_eq]; show ¬ (_ ∨ _ < 3); (first | lia | omega))]
  rfl
theorem quo_no {r : List Nat} : Runs (3 * r.length + 30) (forSearch cQUO (59 :: r).toArray 1 0 (59 :: r).length false) Failed := by
  by_cases hl : (59 :: r).length < 3
  · exact (search_say (least := 3) (q := 5) rfl (.inr (by (first | lia | omega)))).mono (by (first | lia | omega))
  obtain ⟨last, e, hlast⟩ := quo_start (l := 59 :: r) (by (first | lia | omega))
  rw [e]
  rw [List.length_cons] at hlast
  refine Runs.mono (n := 1 + (3 * (last - 0) + 2) + 3) ?_ (by (first | lia | omega))
  refine runs_attemptFrom rfl (Nat.le_of_ble_eq_true rfl) ?_
  refine runs_at0 rfl rfl (Nat.le_of_ble_eq_true rfl) rfl rfl fun sn => ?_
  dsimp only
  rw [if_pos rfl]
  refine runs_rep (k := 0) rfl rfl (Nat.le_of_ble_eq_true rfl) rfl (Nat.zero_le _) (Nat.zero_le _) (Nat.le_of_ble_eq_true rfl) (Nat.zero_le _) (fun sn => run_set quo_sp _ _ 0 0 (Nat.zero_le _) (fun j hj => absurd hj (Nat.not_lt_zero _)) (fun _ => ?_) sn) fun sn => ?_
  · show (59 :: r).toArray.getD 0 0 ∈ _ ∧ _
    rw [getD_cons0]; exact ⟨by decide, rfl⟩
  dsimp only
  refine runs_one (b := false) rfl rfl (Nat.le_of_ble_eq_true rfl) (.inl rfl) (by show 0 < (59 :: r).length; rw [List.length_cons]; (first | lia | omega)) (fun sn => ⟨sn, ?_⟩) fun sn => ?_
  · show accepts cQUO 17 ((59 :: r).toArray.getD 0 0) sn = _
    rw [getD_cons0]; rfl
  dsimp only
  rw [if_neg Bool.false_ne_true]
  refine runs_failed' (code := cQUO) (q := 5) rfl rfl (by decide) (p := 0) ?_ ?_ ?_ ?_ ?_ ?_ ?_
  · dsimp only [List.length]; (first | lia | omega)
  · rfl
  · rfl
  · exact Nat.le_of_ble_eq_true rfl
  · rfl
  · rfl
  · exact (.cons rfl (of_decide_eq_true rfl) rfl .last)
theorem quo_nil : Runs 1 (forSearch cQUO #[] 1 0 0 false) Failed := search_say (least := 3) (q := 5) rfl (.inr (by decide))
/- = and no mark behind it -/
theorem quo_eq {r : List Nat} (hr : HeadNot (fun c => c == 34 || c == 32) r) : Runs (3 * r.length + 30) (forSearch cQUO (61 :: r).toArray 1 0 (61 :: r).length false) Failed := by
  by_cases hl : (61 :: r).length < 3
  · exact (search_say (least := 3) (q := 5) rfl (.inr (by (first | lia | omega)))).mono (by (first | lia | omega))
  obtain ⟨last, e, hlast⟩ := quo_start (l := 61 :: r) (by (first | lia | omega))
  rw [e]
  rw [List.length_cons] at hlast
  cases r with
  | nil => exact absurd (by decide) hl
  | cons d r =>
  obtain ⟨hd, hq⟩ := hr
  have h34 : (d == 34) = false := by cases h : d == 34 <;> simp_all
  have h32 : (d == 32) = false := by cases h : d == 32 <;> simp_all
  refine Runs.mono (n := 2 + (3 * (last - 0) + 2) + 5) ?_ (by (first | lia | omega))
  refine runs_attemptFrom rfl (Nat.le_of_ble_eq_true rfl) ?_
  refine runs_at0 rfl rfl (Nat.le_of_ble_eq_true rfl) rfl rfl fun sn => ?_
  dsimp only
  rw [if_pos rfl]
  refine runs_rep (k := 0) rfl rfl (Nat.le_of_ble_eq_true rfl) rfl (Nat.zero_le _) (Nat.zero_le _) (Nat.le_of_ble_eq_true rfl) (Nat.zero_le _) (fun sn => run_set quo_sp _ _ 0 0 (Nat.zero_le _) (fun j hj => absurd hj (Nat.not_lt_zero _)) (fun _ => ?_) sn) fun sn => ?_
  · show (61 :: d :: r).toArray.getD 0 0 ∈ _ ∧ _
    rw [getD_cons0]; exact ⟨by decide, rfl⟩
  dsimp only
  refine runs_one (b := true) rfl rfl (Nat.le_of_ble_eq_true rfl) (.inl rfl) (by show 0 < (61 :: d :: r).length; rw [List.length_cons]; (first | lia | omega)) (fun sn => ⟨sn, ?_⟩) fun sn => ?_
  · show accepts cQUO 17 ((61 :: d :: r).toArray.getD 0 0) sn = _
    rw [getD_cons0]; rfl
  dsimp only
  rw [if_pos rfl]
  refine runs_rep (k := 0) rfl rfl (Nat.le_of_ble_eq_true rfl) rfl (by show 1 ≤ (61 :: d :: r).length; rw [List.length_cons]; (first | lia | omega)) (Nat.zero_le _) (Nat.le_of_ble_eq_true rfl) (Nat.zero_le _) (fun sn => run_set quo_sp2 _ _ 0 0 (Nat.zero_le _) (fun j hj => absurd hj (Nat.not_lt_zero _)) (fun _ => ?_) sn) fun sn => ?_
  · show (61 :: d :: r).toArray.getD 1 0 ∈ _ ∧ _
    rw [getD_cons1]; exact ⟨hd, h32⟩
  dsimp only
  refine runs_one (b := false) rfl rfl (Nat.le_of_ble_eq_true rfl) (.inl rfl) (by show 1 < (61 :: d :: r).length; rw [List.length_cons, List.length_cons]; (first | lia | omega)) (fun sn => ⟨sn, ?_⟩) fun sn => ?_
  · show accepts cQUO 29 ((61 :: d :: r).toArray.getD 1 0) sn = _
    rw [getD_cons1]
    show Except.ok (d == 34, sn) = _
    rw [h34]
  dsimp only
  rw [if_neg Bool.false_ne_true]
  refine runs_failed' (code := cQUO) (q := 5) rfl rfl (by decide) (p := 0) ?_ ?_ ?_ ?_ ?_ ?_ ?_
  · dsimp only [List.length]; (first | lia | omega)
  · rfl
  · rfl
  · exact Nat.le_of_ble_eq_true rfl
  · rfl
  · rfl
  · exact (.cons rfl (of_decide_eq_true rfl) rfl (.cons rfl (of_decide_eq_true rfl) rfl .last))

theorem val_start {l : List Nat} (h : 1 ≤ l.length) : forSearch cVAL l.toArray 1 0 l.length false = M.attemptFrom { code := cVAL, text := l.toArray, lim := l.length, start := 0, pc := 5, pos := 0, handed := 0, marks := #[none, none], seen := ({} : Seen).add 14, lastStart := l.length } 0 true := by
  unfold forSearch
  rw [if_neg (by rw [Bool.or_eq_true, decide_eq_true_eq, decide_eq_true_eq]; show ¬ (_ ∨ _ < 1); (first | lia | omega))]
  rfl
theorem val_nil : Runs 1 (forSearch cVAL #[] 1 0 0 false) Failed := search_say (least := 1) (q := 5) rfl (.inr (by decide))
theorem val_no {r : List Nat} : Runs (3 * r.length + 30) (forSearch cVAL (59 :: r).toArray 1 0 (59 :: r).length false) Failed := by
  rw [val_start (by rw [List.length_cons]; (first | lia | omega))]
  refine Runs.mono (n := 1 + (3 * ((59 :: r).length - 0) + 2) + 3) ?_ (by rw [List.length_cons]; (first | lia | omega))
  refine runs_attemptFrom rfl (Nat.le_of_ble_eq_true rfl) ?_
  refine runs_at0 rfl rfl (Nat.le_of_ble_eq_true rfl) rfl rfl fun sn => ?_
  dsimp only
  rw [if_pos rfl]
  refine runs_rep (k := 0) rfl rfl (Nat.le_of_ble_eq_true rfl) rfl (Nat.zero_le _) (Nat.zero_le _) (Nat.le_of_ble_eq_true rfl) (Nat.zero_le _) (fun sn => run_set val_sp _ _ 0 0 (Nat.zero_le _) (fun j hj => absurd hj (Nat.not_lt_zero _)) (fun _ => ?_) sn) fun sn => ?_
  · show (59 :: r).toArray.getD 0 0 ∈ _ ∧ _
    rw [getD_cons0]; exact ⟨by decide, rfl⟩
  dsimp only
  refine runs_one (b := false) rfl rfl (Nat.le_of_ble_eq_true rfl) (.inl rfl) (by show 0 < (59 :: r).length; rw [List.length_cons]; (first | lia | omega)) (fun sn => ⟨sn, ?_⟩) fun sn => ?_
  · show accepts cVAL 17 ((59 :: r).toArray.getD 0 0) sn = _
    rw [getD_cons0]; rfl
  dsimp only
  rw [if_neg Bool.false_ne_true]
  refine runs_failed' (code := cVAL) (q := 5) rfl rfl (by decide) (p := 0) ?_ ?_ ?_ ?_ ?_ ?_ ?_
  · dsimp only [List.length]; (first | lia | omega)
  · rfl
  · rfl
  · exact Nat.le_of_ble_eq_true rfl
  · rfl
  · rfl
  · exact (.cons rfl (of_decide_eq_true rfl) rfl .last)
theorem val_match {r : List Nat} (hr : HeadNot (fun c => !(c == 59)) r) : Runs 20 (forSearch cVAL (61 :: r).toArray 1 0 (61 :: r).length false) (fun m => Found m 0 1 #[some 1, some 1] 1 1) := by
  have hr' : 0 < r.length → (61 :: r).toArray.getD 1 0 = 59 := by
    cases r with
    | nil => intro h; cases h
    | cons d r =>
      intro _
      rw [getD_cons1]
      have := hr.2
      cases h : d == 59
      · simp [h] at this
      · exact beq_iff_eq.mp h
  have hlen : (61 :: r).length = r.length + 1 := rfl
  rw [val_start (by rw [List.length_cons]; omega)]
  refine Runs.mono (n := 5 + 8) ?_ (by omega)
  refine runs_attemptFrom rfl (Nat.le_of_ble_eq_true rfl) ?_
  refine runs_at0 rfl rfl (Nat.le_of_ble_eq_true rfl) rfl rfl fun sn => ?_
  dsimp only
  rw [if_pos rfl]
  refine runs_rep (k := 0) rfl rfl (Nat.le_of_ble_eq_true rfl) rfl (Nat.zero_le _) (Nat.zero_le _) (Nat.le_of_ble_eq_true rfl) (Nat.zero_le _) (fun sn => run_set val_sp _ _ 0 0 (Nat.zero_le _) (fun j hj => absurd hj (Nat.not_lt_zero _)) (fun _ => ?_) sn) fun sn => ?_
  · show (61 :: r).toArray.getD 0 0 ∈ _ ∧ _
    rw [getD_cons0]; exact ⟨by decide, rfl⟩
  dsimp only
  refine runs_one (b := true) rfl rfl (Nat.le_of_ble_eq_true rfl) (.inl rfl) (by show 0 < (61 :: r).length; omega) (fun sn => ⟨sn, ?_⟩) fun sn => ?_
  · show accepts cVAL 17 ((61 :: r).toArray.getD 0 0) sn = _
    rw [getD_cons0]; rfl
  dsimp only
  rw [if_pos rfl]
  refine runs_rep (k := 0) rfl rfl (Nat.le_of_ble_eq_true rfl) rfl (by show 1 ≤ (61 :: r).length; omega) (Nat.zero_le _) (Nat.le_of_ble_eq_true rfl) (Nat.zero_le _) (fun sn => run_set val_sp2 _ _ 0 0 (Nat.zero_le _) (fun j hj => absurd hj (Nat.not_lt_zero _)) (fun h => ?_) sn) fun sn => ?_
  · show (61 :: r).toArray.getD 1 0 ∈ _ ∧ fSp ((61 :: r).toArray.getD 1 0) = _
    have : 0 < r.length := by
      have h : 0 < min 4294967295 ((61 :: r).length - 1) := h
      omega
    rw [hr' this]; exact ⟨by decide, rfl⟩
  dsimp only
  refine runs_mark rfl rfl (Nat.le_of_ble_eq_true rfl) rfl fun sn => ?_
  dsimp only [M.mark]
  refine runs_rep (k := 0) rfl rfl (Nat.le_of_ble_eq_true rfl) rfl (by show 1 ≤ (61 :: r).length; omega) (Nat.zero_le _) (Nat.le_of_ble_eq_true rfl) (Nat.zero_le _) (fun sn => run_set val_in _ _ 0 0 (Nat.zero_le _) (fun j hj => absurd hj (Nat.not_lt_zero _)) (fun h => ?_) sn) fun sn => ?_
  · show (61 :: r).toArray.getD 1 0 ∈ _ ∧ (!((61 :: r).toArray.getD 1 0 == 59 || (61 :: r).toArray.getD 1 0 == 32)) = _
    have : 0 < r.length := by
      have h : 0 < min 4294967295 ((61 :: r).length - 1) := h
      omega
    rw [hr' this]; exact ⟨by decide, rfl⟩
  dsimp only
  refine runs_mark rfl rfl (Nat.le_of_ble_eq_true rfl) rfl fun sn => ?_
  dsimp only [M.mark]
  refine runs_success rfl rfl (Nat.le_of_ble_eq_true rfl) rfl rfl fun sn => ?_
  refine runs_found ?_ ?_ ?_ ?_ ?_ ?_ ?_ ?_ ?_
  · rfl
  · rfl
  · rfl
  · exact Nat.le_refl 5
  · rfl
  · rfl
  · rfl
  · rfl
  · rfl
end Mine
end R3

section R3b
open PySem hiding Frame run
open PySem.Sre
namespace Mine
theorem getD_consS {x : Nat} {l : List Nat} {j : Nat} : (x :: l).toArray.getD (j + 1) 0 = l.toArray.getD j 0 := by
  rw [Array.getD_eq_getD_getElem?, List.getElem?_toArray, List.getElem?_cons_succ, Array.getD_eq_getD_getElem?, List.getElem?_toArray]
theorem val_tok {w r : List Nat} (hne : w ≠ []) (ha : ∀ c ∈ w, c ∈ alpha ∧ (!(c == 59 || c == 32)) = true) (hr : HeadNot (fun c => !(c == 59 || c == 32)) r) (hlen : (61 :: (w ++ r)).length ≤ 1000000) :
    Runs 20 (forSearch cVAL (61 :: (w ++ r)).toArray 1 0 (61 :: (w ++ r)).length false) (fun m => Found m 0 (1 + w.length) #[some 1, some (1 + w.length)] 1 1) := by
  have hpos : 0 < w.length := List.length_pos_iff.mpr hne
  have hL : (61 :: (w ++ r)).length = 1 + w.length + r.length := by rw [List.length_cons, List.length_append]; omega
  have hin : ∀ j, j < w.length → (61 :: (w ++ r)).toArray.getD (1 + j) 0 ∈ alpha ∧ (!((61 :: (w ++ r)).toArray.getD (1 + j) 0 == 59 || (61 :: (w ++ r)).toArray.getD (1 + j) 0 == 32)) = true := by
    intro j hj
    rw [Nat.add_comm 1 j, getD_consS, getD_app_l hj]
    exact ha _ (List.getElem_mem _)
  rw [val_start (by rw [List.length_cons]; omega)]
  refine Runs.mono (n := 5 + 8) ?_ (by omega)
  refine runs_attemptFrom rfl (Nat.le_of_ble_eq_true rfl) ?_
  refine runs_at0 rfl rfl (Nat.le_of_ble_eq_true rfl) rfl rfl fun sn => ?_
  dsimp only
  rw [if_pos rfl]
  refine runs_rep (k := 0) rfl rfl (Nat.le_of_ble_eq_true rfl) rfl (Nat.zero_le _) (Nat.zero_le _) (Nat.le_of_ble_eq_true rfl) (Nat.zero_le _) (fun sn => run_set val_sp _ _ 0 0 (Nat.zero_le _) (fun j hj => absurd hj (Nat.not_lt_zero _)) (fun _ => ?_) sn) fun sn => ?_
  · show (61 :: (w ++ r)).toArray.getD 0 0 ∈ _ ∧ _
    rw [getD_cons0]; exact ⟨by decide, rfl⟩
  dsimp only
  refine runs_one (b := true) rfl rfl (Nat.le_of_ble_eq_true rfl) (.inl rfl) (by show 0 < (61 :: (w ++ r)).length; omega) (fun sn => ⟨sn, ?_⟩) fun sn => ?_
  · show accepts cVAL 17 ((61 :: (w ++ r)).toArray.getD 0 0) sn = _
    rw [getD_cons0]; rfl
  dsimp only
  rw [if_pos rfl]
  refine runs_rep (k := 0) rfl rfl (Nat.le_of_ble_eq_true rfl) rfl (by show 1 ≤ (61 :: (w ++ r)).length; omega) (Nat.zero_le _) (Nat.le_of_ble_eq_true rfl) (Nat.zero_le _) (fun sn => run_set val_sp2 _ _ 0 0 (Nat.zero_le _) (fun j hj => absurd hj (Nat.not_lt_zero _)) (fun h => ?_) sn) fun sn => ?_
  · show (61 :: (w ++ r)).toArray.getD (1 + 0) 0 ∈ _ ∧ fSp ((61 :: (w ++ r)).toArray.getD (1 + 0) 0) = _
    obtain ⟨h1, h2⟩ := hin 0 hpos
    refine ⟨h1, ?_⟩
    unfold fSp
    simp only [Bool.not_eq_true', Bool.or_eq_false_iff] at h2
    exact h2.2
  dsimp only
  refine runs_mark rfl rfl (Nat.le_of_ble_eq_true rfl) rfl fun sn => ?_
  dsimp only [M.mark]
  refine runs_rep (k := w.length) rfl rfl (Nat.le_of_ble_eq_true rfl) rfl (by show 1 ≤ (61 :: (w ++ r)).length; omega) (Nat.zero_le _) (Nat.le_of_ble_eq_true rfl) (Nat.zero_le _) (fun sn => ?_) fun sn => ?_
  · have := run_set val_in (text := (61 :: (w ++ r)).toArray) (min (cVAL.getD 34 0) ((61 :: (w ++ r)).length - 1)) 1 0 w.length ?_ hin ?_ sn
    · rw [Nat.zero_add] at this; exact this
    · exact le_rep (by omega) (by omega)
    · intro hlt
      have : 0 < r.length := by omega
      have h2 := hr.at (x := w) this
      rw [Nat.add_comm 1, getD_consS]
      exact h2
  dsimp only
  refine runs_mark rfl rfl (Nat.le_of_ble_eq_true rfl) rfl fun sn => ?_
  dsimp only [M.mark]
  refine runs_success rfl rfl (Nat.le_of_ble_eq_true rfl) rfl rfl fun sn => ?_
  refine runs_found ?_ ?_ ?_ ?_ ?_ ?_ ?_ ?_ ?_
  · rfl
  · rfl
  · rfl
  · exact Nat.le_refl 5
  · rfl
  · rfl
  · rfl
  · rfl
  · rfl
end Mine
end R3b

section R4
open PySem hiding Frame run
open PySem.Sre
namespace Mine
variable {n : Nat} {m : M} {P : M → Prop}

theorem runs_more_no {f : Frame} {rest : List Frame} {l : Loop} (ho : m.outcome = none) (ha : m.answer = some false) (hf : m.frames = f :: rest) (hwt : f.wait = .maxMore) (hl : m.loops = #[l]) (hi : f.loop = 0) (hk : f.kept.whole = true) (hw : m.weight + 1 ≤ 16777216)
    (h : ∀ lps kp, Runs n { m with answer := none, frames := { wait := .maxTail, pc := f.pc, pos := f.pos, outermost := f.outermost, loop := 0, count := f.count, kept := { lastmark := f.kept.lastmark, lastindex := f.kept.lastindex, whole := false, marks := #[] } } :: rest, weight := kp, pc := f.pc, pos := f.pos, handed := f.pos, outermost := f.outermost, loops := lps, inner := l.outer, marks := f.kept.marks ++ m.marks.extract f.kept.marks.size m.marks.size, lastmark := f.kept.lastmark, lastindex := f.kept.lastindex } P) : Runs (n + 1) m P := by
  refine runs_resume ho ha hf ?_
  unfold M.resume
  rw [hwt]
  simp only [Bool.false_eq_true, if_false, M.setLoop, M.putBack, hk, if_true, M.afterLoop, hi, hl, M.loopAt]
  refine runs_attempt ?_ ?_
  · show m.weight - _ + 1 + 0 ≤ 16777216
    (first | lia | omega)
  · exact h _ _

noncomputable def isPl (c : Nat) : Prop := c ∈ alpha ∧ fPl c = true
theorem pl_ne {c : Nat} (h : isPl c) : c ≠ 92 ∧ c ≠ 34 := by
  constructor
  · rintro rfl; exact absurd h.2 (by decide)
  · rintro rfl; exact absurd h.2 (by decide)

noncomputable def flatB (bs : List (Nat × List Nat)) : List Nat := bs.flatMap fun b => 92 :: b.1 :: b.2
theorem flatB_head (bs : List (Nat × List Nat)) (r : List Nat) : ∃ c u, flatB bs ++ 34 :: r = c :: u ∧ c ∈ alpha ∧ fPl c = false := by
  cases bs with
  | nil => exact ⟨34, r, rfl, by decide, rfl⟩
  | cons b bs => exact ⟨92, b.1 :: b.2 ++ flatB bs ++ 34 :: r, by simp [flatB], by decide, rfl⟩

noncomputable def rs (T : Array Nat) (lim pos ls : Nat) (o o2 : Bool) (c fc : Int) (b : Option Nat) (fs : List Frame) (w : Nat) (sn : Seen) : M :=
  { code := cQUO, text := T, lim := lim, start := 0, lastStart := ls, pc := 50, pos := pos, handed := pos, outermost := o, marks := #[some 2, none], lastmark := 0, lastindex := -1, loops := #[{ pc := 46, count := c, began := some pos, outer := none }], inner := some 0, weight := w, seen := sn, frames := { wait := .maxMore, pc := 67, pos := pos, outermost := o2, count := fc, kept := { lastmark := 0, lastindex := -1, whole := true, marks := #[some 2] }, loop := 0, began := b } :: fs }

theorem quo_rounds {T : Array Nat} {lim ls : Nat} {r : List Nat} (hmax : lim ≤ 1000000) : ∀ (bs : List (Nat × List Nat)) (pre : List Nat) (o o2 : Bool) (c fc : Int) (b : Option Nat) (fs : List Frame) (w : Nat) (sn : Seen), T = (pre ++ (flatB bs ++ 34 :: r)).toArray → lim = T.size → (∀ b ∈ bs, b.1 ∈ alpha ∧ ∀ c ∈ b.2, isPl c) → 0 ≤ c → (fs.all fun f => yesWait f.wait) = true → w + 4 * bs.length ≤ 16000000 →
    Runs (fs.length + 6 * bs.length + 10) (rs T lim pre.length ls o o2 c fc b fs w sn) (fun x => Found x 0 (pre.length + (flatB bs).length + 1) #[some 2, some (pre.length + (flatB bs).length)] 1 1)
  | [], pre, o, o2, lc, c, b, fs, w, sn, hT, hlim, hb, hlc, hfs, hw => by
    have h0 : T.getD pre.length 0 = 34 := by
      rw [hT]
      have := getD_app_r (x := pre) (r := flatB [] ++ 34 :: r) (j := 0)
      rw [Nat.add_zero] at this
      rw [this]; exact getD_cons0
    have hlt : pre.length < lim := by
      rw [hlim, hT]; simp only [List.size_toArray, List.length_append, List.length_cons]; (first | lia | omega)
    refine Runs.mono (n := fs.length + 2 + 5) ?_ (by dsimp only [List.length]; (first | lia | omega))
    unfold rs
    refine runs_one (b := false) rfl rfl (Nat.le_of_ble_eq_true rfl) (.inl rfl) hlt (fun sn => ⟨sn, ?_⟩) fun sn => ?_
    · dsimp only; rw [h0]; rfl
    dsimp only
    rw [if_neg Bool.false_ne_true]
    refine runs_more_no rfl rfl rfl rfl rfl rfl rfl (by show w + 1 ≤ _; (first | lia | omega)) fun lps kp => ?_
    dsimp only
    refine runs_mark rfl rfl (Nat.le_of_ble_eq_true rfl) rfl fun sn => ?_
    dsimp only [M.mark]
    refine runs_one (b := true) rfl rfl (Nat.le_of_ble_eq_true rfl) (.inl rfl) hlt (fun sn => ⟨sn, ?_⟩) fun sn => ?_
    · dsimp only; rw [h0]; rfl
    dsimp only
    rw [if_pos rfl]
    refine runs_success rfl rfl (Nat.le_of_ble_eq_true rfl) rfl ?_ fun sn => ?_
    · dsimp only
      rw [Bool.false_and, Bool.false_and, Bool.or_self, Bool.and_false]
    refine runs_found ?_ ?_ ?_ ?_ ?_ ?_ ?_ ?_ ?_
    · rfl
    · rfl
    · show (yesWait .maxTail && fs.all fun f => yesWait f.wait) = true
      rw [hfs]; rfl
    · dsimp only [List.length]; (first | lia | omega)
    · rfl
    · rfl
    · rfl
    · rfl
    · rfl
  | (c, p) :: bs, pre, o, o2, lc, fc, b, fs, w, sn, hT, hlim, hb, hlc, hfs, hw => by
    obtain ⟨hc, hp⟩ := hb (c, p) (.head _)
    dsimp only at hc hp
    have e : flatB ((c, p) :: bs) ++ 34 :: r = 92 :: c :: (p ++ (flatB bs ++ 34 :: r)) := by simp [flatB]
    rw [e] at hT
    have hget : ∀ j, T.getD (pre.length + j) 0 = (92 :: c :: (p ++ (flatB bs ++ 34 :: r))).toArray.getD j 0 := fun j => by rw [hT]; exact getD_app_r
    have hlim' : lim = pre.length + (2 + (p.length + ((flatB bs).length + (r.length + 1)))) := by
      rw [hlim, hT]
      simp only [List.size_toArray, List.length_append, List.length_cons]
      (first | lia | omega)
    have g0 : T.getD pre.length 0 = 92 := by have := hget 0; rw [Nat.add_zero] at this; rw [this]; exact getD_cons0
    have g1 : T.getD (pre.length + 1) 0 = c := by rw [hget 1]; exact getD_cons1
    have g2 : ∀ j, T.getD (pre.length + 2 + j) 0 = (p ++ (flatB bs ++ 34 :: r)).toArray.getD j 0 := fun j => by
      rw [Nat.add_assoc, hget (2 + j)]
      have := getD_app_r (x := [92, c]) (r := p ++ (flatB bs ++ 34 :: r)) (j := j)
      exact this
    refine Runs.mono (n := fs.length + 2 + 6 * bs.length + 10 + 4) ?_ (by rw [List.length_cons]; (first | lia | omega))
    unfold rs
    refine runs_one (b := true) rfl rfl (Nat.le_of_ble_eq_true rfl) (.inl rfl) (by dsimp only; (first | lia | omega)) (fun sn => ⟨sn, ?_⟩) fun sn => ?_
    · dsimp only; rw [g0]; rfl
    dsimp only
    rw [if_pos rfl]
    refine runs_one (b := true) rfl rfl (Nat.le_of_ble_eq_true rfl) (.inr (.inr rfl)) (by dsimp only; (first | lia | omega)) (fun sn => ⟨sn, ?_⟩) fun sn => ?_
    · dsimp only
      rw [g1]
      show Except.ok (c != 10, sn) = _
      have : c ≠ 10 := by
        intro h
        subst h
        exact absurd hc (by decide)
      simp [this]
    dsimp only
    rw [if_pos rfl]
    refine runs_rep (k := p.length) rfl rfl (Nat.le_of_ble_eq_true rfl) rfl (by dsimp only; (first | lia | omega)) (Nat.zero_le _) ?_ (Nat.zero_le _) (fun sn => ?_) fun sn => ?_
    · show w + 1 + 1 ≤ _
      rw [List.length_cons] at hw; (first | lia | omega)
    · dsimp only
      have := run_set quo_pl2 (text := T) (min (cQUO.getD 56 0) (lim - (pre.length + 2))) (pre.length + 2) 0 p.length ?_ ?_ ?_ sn
      · rw [Nat.zero_add] at this
        exact this
      · exact le_rep (by (first | lia | omega)) (by (first | lia | omega))
      · intro j hj
        rw [g2, getD_app_l hj]
        exact hp _ (List.getElem_mem _)
      · intro _
        obtain ⟨d, u, e, hd⟩ := flatB_head bs r
        rw [g2, e]
        have := getD_app_r (x := p) (r := d :: u) (j := 0)
        rw [Nat.add_zero] at this
        rw [this, getD_cons0]
        exact hd
    dsimp only
    refine runs_until (i := 0) rfl rfl (Nat.le_of_ble_eq_true rfl) rfl rfl ?_ rfl ?_ ?_ fun sn => ?_
    · show ¬ lc + 1 < 0
      (first | lia | omega)
    · show (some pre.length == some _) = false
      rw [beq_eq_false_iff_ne]
      intro h
      have h : pre.length = pre.length + 1 + 1 + p.length := Option.some.inj h
      (first | lia | omega)
    · show w + 1 + 1 + 1 + 1 ≤ _
      rw [List.length_cons] at hw; (first | lia | omega)
    have hlen : (pre ++ 92 :: c :: p).length = pre.length + 1 + 1 + p.length := by simp only [List.length_append, List.length_cons]; (first | lia | omega)
    have ih := quo_rounds (T := T) (lim := lim) (ls := ls) (r := r) hmax bs (pre ++ 92 :: c :: p) o o (lc + 1) (lc + 1) (some pre.length) ({ wait := .giveBack, pc := 53, pos := pre.length + 1 + 1 + p.length, outermost := o, count := p.length, kept := { lastmark := 0, lastindex := -1, whole := true, marks := #[some 2] } } :: { wait := .maxMore, pc := 67, pos := pre.length, outermost := o2, count := fc, kept := { lastmark := 0, lastindex := -1, whole := true, marks := #[some 2] }, loop := 0, began := b } :: fs) (w + 1 + 1 + 1 + 1) sn (by rw [hT]; simp) hlim (fun b hb' => hb b (.tail _ hb')) (by (first | lia | omega)) (by
      show (true && (true && fs.all fun f => yesWait f.wait)) = true
      rw [hfs]; rfl) (by rw [List.length_cons] at hw; (first | lia | omega))
    rw [show (pre ++ 92 :: c :: p).length + (flatB bs).length = pre.length + (flatB ((c, p) :: bs)).length by rw [hlen]; simp only [flatB, List.flatMap_cons, List.length_append, List.length_cons]; (first | lia | omega)] at ih
    rw [hlen] at ih
    exact ih

theorem quo_match {p : List Nat} {bs : List (Nat × List Nat)} {r l : List Nat} (hl : l = 61 :: 34 :: (p ++ (flatB bs ++ 34 :: r))) (hp : ∀ c ∈ p, isPl c) (hb : ∀ b ∈ bs, b.1 ∈ alpha ∧ ∀ c ∈ b.2, isPl c) (hlen : l.length ≤ 1000000) :
    Runs (6 * bs.length + 40) (forSearch cQUO l.toArray 1 0 l.length false) (fun x => Found x 0 (2 + p.length + (flatB bs).length + 1) #[some 2, some (2 + p.length + (flatB bs).length)] 1 1) := by
  have hlim : l.length = 2 + (p.length + ((flatB bs).length + (r.length + 1))) := by
    rw [hl]; simp only [List.length_append, List.length_cons]; (first | lia | omega)
  have hbl : bs.length ≤ (flatB bs).length := by
    unfold flatB
    clear hl hb hlim
    induction bs with
    | nil => simp
    | cons b bs ih => simp only [List.flatMap_cons, List.length_append, List.length_cons] at ih ⊢; (first | lia | omega)
  have hT : l.toArray = ([61, 34] ++ (p ++ (flatB bs ++ 34 :: r))).toArray := by rw [hl]; rfl
  have hg : ∀ j, l.toArray.getD (2 + j) 0 = (p ++ (flatB bs ++ 34 :: r)).toArray.getD j 0 := fun j => by rw [hT]; exact getD_app_r (x := [61, 34])
  have h0 : l.toArray.getD 0 0 = 61 := by rw [hl]; exact getD_cons0
  have h1 : l.toArray.getD 1 0 = 34 := by rw [hl]; exact getD_cons1
  obtain ⟨last, e, hlast⟩ := quo_start (l := l) (by (first | lia | omega))
  rw [e]
  generalize hTT : l.toArray = T at hT hg h0 h1 ⊢
  generalize hLL : l.length = lim at *
  have hTs : lim = T.size := by rw [← hTT, ← hLL]; simp
  refine Runs.mono (n := 5 + 6 * bs.length + 10 + 9) ?_ (by (first | lia | omega))
  refine runs_attemptFrom rfl (Nat.le_of_ble_eq_true rfl) ?_
  refine runs_at0 rfl rfl (Nat.le_of_ble_eq_true rfl) rfl rfl fun sn => ?_
  dsimp only
  rw [if_pos rfl]
  refine runs_rep (k := 0) rfl rfl (Nat.le_of_ble_eq_true rfl) rfl (Nat.zero_le _) (Nat.zero_le _) (Nat.le_of_ble_eq_true rfl) (Nat.zero_le _) (fun sn => run_set quo_sp _ _ 0 0 (Nat.zero_le _) (fun j hj => absurd hj (Nat.not_lt_zero _)) (fun _ => ?_) sn) fun sn => ?_
  · show T.getD 0 0 ∈ _ ∧ fSp (T.getD 0 0) = _
    rw [h0]; exact ⟨by decide, rfl⟩
  dsimp only
  refine runs_one (b := true) rfl rfl (Nat.le_of_ble_eq_true rfl) (.inl rfl) (by dsimp only; (first | lia | omega)) (fun sn => ⟨sn, ?_⟩) fun sn => ?_
  · show accepts cQUO 17 (T.getD 0 0) sn = _
    rw [h0]; rfl
  dsimp only
  rw [if_pos rfl]
  refine runs_rep (k := 0) rfl rfl (Nat.le_of_ble_eq_true rfl) rfl (by dsimp only; (first | lia | omega)) (Nat.zero_le _) (Nat.le_of_ble_eq_true rfl) (Nat.zero_le _) (fun sn => run_set quo_sp2 _ _ 0 0 (Nat.zero_le _) (fun j hj => absurd hj (Nat.not_lt_zero _)) (fun _ => ?_) sn) fun sn => ?_
  · show T.getD 1 0 ∈ _ ∧ fSp (T.getD 1 0) = _
    rw [h1]; exact ⟨by decide, rfl⟩
  dsimp only
  refine runs_one (b := true) rfl rfl (Nat.le_of_ble_eq_true rfl) (.inl rfl) (by dsimp only; (first | lia | omega)) (fun sn => ⟨sn, ?_⟩) fun sn => ?_
  · show accepts cQUO 29 (T.getD 1 0) sn = _
    rw [h1]; rfl
  dsimp only
  rw [if_pos rfl]
  refine runs_mark rfl rfl (Nat.le_of_ble_eq_true rfl) rfl fun sn => ?_
  dsimp only [M.mark]
  refine runs_rep (k := p.length) rfl rfl (Nat.le_of_ble_eq_true rfl) rfl (by dsimp only; (first | lia | omega)) (Nat.zero_le _) (Nat.le_of_ble_eq_true rfl) (Nat.zero_le _) (fun sn => ?_) fun sn => ?_
  · have := run_set quo_pl (text := T) (min (cQUO.getD 36 0) (lim - 2)) 2 0 p.length ?_ ?_ ?_ sn
    · rw [Nat.zero_add] at this
      exact this
    · exact le_rep (by (first | lia | omega)) (by (first | lia | omega))
    · intro j hj
      rw [hg, getD_app_l hj]
      exact hp _ (List.getElem_mem _)
    · intro _
      obtain ⟨d, u, e, hd⟩ := flatB_head bs r
      rw [hg, e]
      have := getD_app_r (x := p) (r := d :: u) (j := 0)
      rw [Nat.add_zero] at this
      rw [this, getD_cons0]
      exact hd
  dsimp only
  refine runs_loop rfl rfl (Nat.le_of_ble_eq_true rfl) rfl (Nat.le_of_ble_eq_true rfl) fun sn => ?_
  dsimp only
  refine runs_until (i := 0) rfl rfl (Nat.le_of_ble_eq_true rfl) rfl rfl ?_ rfl rfl (Nat.le_of_ble_eq_true rfl) fun sn => ?_
  · show ¬ (-1 : Int) + 1 < 0
    (first | lia | omega)
  have ih := quo_rounds (T := T) (lim := lim) (ls := last) (r := r) hlen bs ([61, 34] ++ p) true true 0 0 none [{ wait := .closeLoop, pc := 46, pos := 2 + p.length, outermost := true, loop := 0 }, { wait := .giveBack, pc := 33, pos := 2 + p.length, outermost := true, count := p.length, kept := { lastmark := 0, lastindex := -1, whole := false, marks := #[] } }, { wait := .giveBack, pc := 19, pos := 1, outermost := true, count := 0 }, { wait := .giveBack, pc := 7, pos := 0, outermost := true, count := 0 }, { wait := .nextStart, pc := 5, pos := 0, outermost := true }] 7 sn (by rw [hT, List.append_assoc]) hTs hb (Int.le_refl _) rfl (by (first | lia | omega))
  have hq : ([61, 34] ++ p).length = 2 + p.length := by simp only [List.length_append, List.length_cons, List.length_nil]
  rw [hq] at ih
  refine (show Runs _ _ _ from ih).mono ?_
  dsimp only [List.length]; (first | lia | omega)
end Mine
end R4

section R5
open PySem hiding Frame run
open PySem.Sre
namespace Mine
variable {n : Nat} {m : M} {P : M → Prop}

theorem runs_end_no (hn : 1 ≤ n) (ho : m.outcome = none) (ha : m.answer = some false) (hf : m.frames = []) : Runs n m Failed := Runs.mono (P := Failed) (runs_end (P := Failed) ho ha hf rfl) hn
/- _twin_re_7 -/
theorem twin_start {l : List Nat} {p : Nat} (h : p ≤ l.length) : forSearch cTWIN l.toArray 0 p l.length false = M.attemptFrom { code := cTWIN, text := l.toArray, lim := l.length, start := p, pc := 5, pos := p, handed := p, marks := #[], seen := ({} : Seen).add 14, lastStart := l.length } p true := by
  unfold forSearch
  rw [if_neg (by rw [Bool.or_eq_true, decide_eq_true_eq, decide_eq_true_eq]; show ¬ (_ ∨ _ < 0); (first | lia | omega))]
  rfl
theorem twin_match {c : Nat} {r : List Nat} (hc : c ∈ alpha ∧ fTok c = true) (hlen : r.length ≤ 1000000) : Runs 10 (forSearch cTWIN (59 :: 32 :: c :: r).toArray 0 0 (59 :: 32 :: c :: r).length false) (fun m => Found m 0 2 #[] (-1) (-1)) := by
  have hl : (59 :: 32 :: c :: r).length = r.length + 3 := rfl
  rw [twin_start (Nat.zero_le _)]
  refine Runs.mono (n := 3 + 3) ?_ (by decide)
  refine runs_attemptFrom rfl (Nat.le_of_ble_eq_true rfl) ?_
  refine runs_at0 rfl rfl (Nat.le_of_ble_eq_true rfl) rfl rfl fun sn => ?_
  dsimp only
  rw [if_pos rfl]
  refine runs_rep (k := 2) rfl rfl (Nat.le_of_ble_eq_true rfl) rfl (Nat.zero_le _) (Nat.zero_le _) (Nat.le_of_ble_eq_true rfl) (Nat.zero_le _) (fun sn => ?_) fun sn => ?_
  · refine run_set twin_in (min (cTWIN.getD 10 0) ((59 :: 32 :: c :: r).length - 0)) 0 0 2 ?_ ?_ ?_ sn
    · rw [hl]
      show 2 ≤ min 4294967295 _
      (first | lia | omega)
    · intro j hj
      have : j = 0 ∨ j = 1 := by (first | lia | omega)
      rcases this with rfl | rfl
      · rw [show (59 :: 32 :: c :: r).toArray.getD (0 + 0) 0 = 59 from getD_cons0]; exact ⟨by decide, rfl⟩
      · rw [show (59 :: 32 :: c :: r).toArray.getD (0 + 1) 0 = 32 from getD_cons1]; exact ⟨by decide, rfl⟩
    · intro _
      have : (59 :: 32 :: c :: r).toArray.getD (0 + 2) 0 = c := by
        have := getD_app_r (x := [59, 32]) (r := c :: r) (j := 0)
        exact this.trans getD_cons0
      rw [this]
      refine ⟨hc.1, ?_⟩
      have := hc.2
      unfold fTok at this
      cases h : (c == 61 || c == 59 || c == 32)
      · rfl
      · rw [h] at this; cases this
  dsimp only
  refine runs_success rfl rfl (Nat.le_of_ble_eq_true rfl) rfl rfl fun sn => ?_
  refine runs_found ?_ ?_ ?_ ?_ ?_ ?_ ?_ ?_ ?_
  · rfl
  · rfl
  · rfl
  · exact Nat.le_refl 3
  · rfl
  · rfl
  · rfl
  · rfl
  · rfl
theorem twin_no {l : List Nat} {p : Nat} (hp : 0 < p) (h : p ≤ l.length) : Runs (3 * l.length + 20) (forSearch cTWIN l.toArray 0 p l.length false) Failed := by
  rw [twin_start h]
  refine Runs.mono (n := (3 * (l.length - p) + 2) + 1) ?_ (by (first | lia | omega))
  refine runs_attemptFrom rfl (Nat.le_of_ble_eq_true rfl) ?_
  refine runs_at0 rfl rfl (Nat.le_of_ble_eq_true rfl) rfl rfl fun sn => ?_
  dsimp only
  rw [if_neg (Nat.ne_of_gt hp)]
  refine runs_failed' (code := cTWIN) (q := 5) rfl rfl (by decide) (p := p) ?_ ?_ ?_ ?_ ?_ ?_ ?_
  · dsimp only [List.length]; (first | lia | omega)
  · rfl
  · rfl
  · exact Nat.le_of_ble_eq_true rfl
  · rfl
  · rfl
  · exact .last

/- patterns whose first sign is one of a set -/
noncomputable def SetIn (code : Array Nat) (f : Nat → Bool) : Prop := ∀ c ∈ alpha, ∀ sn, ∃ sn', inSet code c code.size 5 true sn = .ok (f c, sn')
theorem je_set : SetIn cJE (fun c => c == 92 || c == 34) := by refine alpha_cases ⟨?_, ?_, ?_, ?_, ?_, ?_, ?_, ?_, ?_, ?_, ?_, ?_⟩ <;> (intro sn; exact ⟨_, rfl⟩)
theorem ts_set : SetIn cTS (fun c => c == 92 || c == 34 || c == 61 || c == 59 || c == 32) := by refine alpha_cases ⟨?_, ?_, ?_, ?_, ?_, ?_, ?_, ?_, ?_, ?_, ?_, ?_⟩ <;> (intro sn; exact ⟨_, rfl⟩)
theorem admitted_some {f : Nat → Bool} (h : SetIn m.code f) : ∀ (k fuel s : Nat), k < fuel → s + k < m.lim → (∀ j, j < k → m.text.getD (s + j) 0 ∈ alpha ∧ f (m.text.getD (s + j) 0) = false) → m.text.getD (s + k) 0 ∈ alpha ∧ f (m.text.getD (s + k) 0) = true →
    ∀ sn, ∃ sn', m.admitted fuel s sn = .ok (some (s + k), sn')
  | 0, fuel + 1, s, _, hl, _, hy, sn => by
    rw [Nat.add_zero] at hy hl
    obtain ⟨sn', e⟩ := h _ hy.1 sn
    rw [hy.2] at e
    refine ⟨sn', ?_⟩
    unfold M.admitted
    rw [if_neg (Nat.not_le.mpr hl), e]; rfl
  | k + 1, fuel + 1, s, hf, hl, hn, hy, sn => by
    obtain ⟨ha, hq⟩ := hn 0 (Nat.succ_pos _)
    rw [Nat.add_zero] at ha hq
    obtain ⟨sn', e⟩ := h _ ha sn
    rw [hq] at e
    obtain ⟨sn'', e2⟩ := admitted_some h k fuel (s + 1) (by (first | lia | omega)) (by (first | lia | omega)) (fun j hj => by
      have := hn (j + 1) (by (first | lia | omega))
      rw [show s + 1 + j = s + (j + 1) by (first | lia | omega)]; exact this) (by rw [show s + 1 + k = s + (k + 1) by (first | lia | omega)]; exact hy) sn'
    refine ⟨sn'', ?_⟩
    unfold M.admitted
    rw [if_neg (by (first | lia | omega)), e]
    show m.admitted fuel (s + 1) sn' = _
    rw [e2, show s + 1 + k = s + (k + 1) by (first | lia | omega)]
theorem admitted_none {f : Nat → Bool} (h : SetIn m.code f) : ∀ (k fuel s : Nat), m.lim - s ≤ k → k < fuel → (∀ j, s + j < m.lim → m.text.getD (s + j) 0 ∈ alpha ∧ f (m.text.getD (s + j) 0) = false) →
    ∀ sn, ∃ sn', m.admitted fuel s sn = .ok (none, sn')
  | 0, fuel + 1, s, hk, _, _, sn => by
    refine ⟨sn, ?_⟩
    unfold M.admitted
    rw [if_pos (by omega)]
  | k + 1, fuel + 1, s, hk, hf, hn, sn => by
    by_cases hs : s ≥ m.lim
    · refine ⟨sn, ?_⟩
      unfold M.admitted
      rw [if_pos hs]
    obtain ⟨ha, hq⟩ := hn 0 (by omega)
    rw [Nat.add_zero] at ha hq
    obtain ⟨sn', e⟩ := h _ ha sn
    rw [hq] at e
    obtain ⟨sn'', e2⟩ := admitted_none h k fuel (s + 1) (by omega) (by omega) (fun j hj => by
      have := hn (j + 1) (by omega)
      rw [show s + 1 + j = s + (j + 1) by omega]; exact this) sn'
    refine ⟨sn'', ?_⟩
    unfold M.admitted
    rw [if_neg hs, e]
    exact e2
theorem runs_first_some {f : Nat → Bool} {s k : Nat} {first : Bool} (hf : m.hasFirstSet = true) (h : SetIn m.code f) (hl : s + k < m.lim) (hn : ∀ j, j < k → m.text.getD (s + j) 0 ∈ alpha ∧ f (m.text.getD (s + j) 0) = false) (hy : m.text.getD (s + k) 0 ∈ alpha ∧ f (m.text.getD (s + k) 0) = true) (hw : m.weight + 1 ≤ 16777216)
    (hh : ∀ sn, Runs n { m with seen := sn, mustAdvance := false, start := s + k, pos := s + k, lastmark := -1, lastindex := -1, frames := { wait := .nextStart, pc := m.pc, pos := s + k, outermost := first } :: m.frames, weight := m.weight + 1, handed := s + k, outermost := first } P) : Runs n (m.attemptFrom s first) P := by
  unfold M.attemptFrom
  rw [hf]
  obtain ⟨sn', e⟩ := admitted_some h k (m.lim + 1 - s) s (by (first | lia | omega)) hl hn hy m.seen
  simp only [Bool.not_true, Bool.false_eq_true, if_false]
  rw [e]
  exact runs_attemptAt hw (hh sn')
theorem runs_first_none {f : Nat → Bool} {s : Nat} {first : Bool} (hf : m.hasFirstSet = true) (h : SetIn m.code f) (hs : s ≤ m.lim) (hn : ∀ j, s + j < m.lim → m.text.getD (s + j) 0 ∈ alpha ∧ f (m.text.getD (s + j) 0) = false)
    (hh : ∀ sn, Runs n { m with seen := sn, answer := some false } P) : Runs n (m.attemptFrom s first) P := by
  unfold M.attemptFrom
  rw [hf]
  obtain ⟨sn', e⟩ := admitted_none h (m.lim - s) (m.lim + 1 - s) s (Nat.le_refl _) (by (first | lia | omega)) hn m.seen
  simp only [Bool.not_true, Bool.false_eq_true, if_false]
  rw [e]
  exact hh sn'

noncomputable def fSpec (c : Nat) : Bool := c == 92 || c == 34 || c == 61 || c == 59 || c == 32
noncomputable def fJE (c : Nat) : Bool := c == 92 || c == 34

theorem ts_start {l : List Nat} (h : 1 ≤ l.length) : forSearch cTS l.toArray 0 0 l.length false = M.attemptFrom { code := cTS, text := l.toArray, lim := l.length, start := 0, pc := 15, pos := 0, handed := 0, marks := #[], seen := ({} : Seen).add 14, lastStart := l.length } 0 true := by
  unfold forSearch
  rw [if_neg (by rw [Bool.or_eq_true, decide_eq_true_eq, decide_eq_true_eq]; show ¬ (_ ∨ _ < 1); (first | lia | omega))]
  rfl
theorem getD_list {l : List Nat} {j : Nat} (h : j < l.length) : l.toArray.getD j 0 = l[j] := by
  rw [Array.getD_eq_getD_getElem?, List.getElem?_toArray, List.getElem?_eq_getElem h]; rfl
theorem ts_no {l : List Nat} (h : ∀ c ∈ l, c ∈ alpha ∧ fSpec c = false) : Runs 5 (forSearch cTS l.toArray 0 0 l.length false) Failed := by
  by_cases hl : l.length < 1
  · exact (search_say (least := 1) (q := 15) rfl (.inr (by (first | lia | omega)))).mono (by (first | lia | omega))
  rw [ts_start (by (first | lia | omega))]
  refine runs_first_none (f := fSpec) rfl ts_set (Nat.zero_le _) ?_ fun sn => ?_
  · intro j hj
    dsimp only at hj ⊢
    rw [Nat.zero_add] at hj ⊢
    rw [getD_list hj]
    exact h _ (List.getElem_mem _)
  · refine runs_end_no ?_ ?_ ?_ ?_
    · exact Nat.le_of_ble_eq_true rfl
    · rfl
    · rfl
    · rfl
theorem ts_yes {p r : List Nat} {c : Nat} (h : ∀ x ∈ p, x ∈ alpha ∧ fSpec x = false) (hc : c ∈ alpha ∧ fSpec c = true) : Runs 10 (forSearch cTS (p ++ c :: r).toArray 0 0 (p ++ c :: r).length false) (fun m => Found m p.length (p.length + 1) #[] (-1) (-1)) := by
  have hl : (p ++ c :: r).length = p.length + (r.length + 1) := by simp only [List.length_append, List.length_cons]
  have hg : (p ++ c :: r).toArray.getD p.length 0 = c := by
    have := getD_app_r (x := p) (r := c :: r) (j := 0)
    exact this.trans getD_cons0
  rw [ts_start (by (first | lia | omega))]
  refine Runs.mono (n := 2 + 2) ?_ (by decide)
  refine runs_first_some (f := fSpec) (k := p.length) rfl ts_set (by dsimp only; (first | lia | omega)) ?_ ?_ (Nat.le_of_ble_eq_true rfl) fun sn => ?_
  · intro j hj
    dsimp only
    rw [Nat.zero_add, getD_app_l hj]
    exact h _ (List.getElem_mem _)
  · dsimp only
    rw [Nat.zero_add, hg]; exact hc
  dsimp only
  rw [Nat.zero_add]
  refine runs_one (b := true) rfl rfl (Nat.le_of_ble_eq_true rfl) (.inr (.inl rfl)) (by dsimp only; (first | lia | omega)) (fun sn => ?_) fun sn => ?_
  · dsimp only
    rw [hg]
    have := ts_in c hc.1 sn
    dsimp only at this
    rw [show (c == 92 || c == 34 || c == 61 || c == 59 || c == 32) = true from hc.2] at this
    exact this
  dsimp only
  rw [if_pos rfl]
  refine runs_success rfl rfl (Nat.le_of_ble_eq_true rfl) rfl rfl fun sn => ?_
  refine runs_found ?_ ?_ ?_ ?_ ?_ ?_ ?_ ?_ ?_
  · rfl
  · rfl
  · rfl
  · exact Nat.le_refl 2
  · rfl
  · rfl
  · rfl
  · rfl
  · rfl

theorem je_start {T : Array Nat} {s lim : Nat} (h : s < lim) : forSearch cJE T 1 s lim false = M.attemptFrom { code := cJE, text := T, lim := lim, start := s, pc := 10, pos := s, handed := s, marks := #[none, none], seen := ({} : Seen).add 14, lastStart := lim } s true := by
  unfold forSearch
  rw [if_neg (by rw [Bool.or_eq_true, decide_eq_true_eq, decide_eq_true_eq]; show ¬ (_ ∨ _ < 1); (first | lia | omega))]
  rfl
/- the next sign to be escaped, behind p plain ones -/
theorem je_yes {T : Array Nat} {pre p r : List Nat} {c : Nat} (hT : T = (pre ++ (p ++ c :: r)).toArray) (h : ∀ x ∈ p, x ∈ alpha ∧ fJE x = false) (hc : c ∈ alpha ∧ fJE c = true) :
    Runs 10 (forSearch cJE T 1 pre.length T.size false) (fun m => Found m (pre.length + p.length) (pre.length + p.length + 1) #[some (pre.length + p.length), some (pre.length + p.length + 1)] 1 1) := by
  have hl : T.size = pre.length + (p.length + (r.length + 1)) := by rw [hT]; simp only [List.size_toArray, List.length_append, List.length_cons]
  have hg : ∀ j, T.getD (pre.length + j) 0 = (p ++ c :: r).toArray.getD j 0 := fun j => by rw [hT]; exact getD_app_r
  have hgc : T.getD (pre.length + p.length) 0 = c := by
    rw [hg]
    have := getD_app_r (x := p) (r := c :: r) (j := 0)
    exact this.trans getD_cons0
  rw [je_start (by (first | lia | omega))]
  refine Runs.mono (n := 2 + 4) ?_ (by decide)
  refine runs_first_some (f := fJE) (k := p.length) rfl je_set (by dsimp only; (first | lia | omega)) ?_ ?_ (Nat.le_of_ble_eq_true rfl) fun sn => ?_
  · intro j hj
    dsimp only
    rw [hg, getD_app_l hj]
    exact h _ (List.getElem_mem _)
  · dsimp only
    rw [hgc]; exact hc
  dsimp only
  refine runs_mark rfl rfl (Nat.le_of_ble_eq_true rfl) rfl fun sn => ?_
  dsimp only [M.mark]
  refine runs_one (b := true) rfl rfl (Nat.le_of_ble_eq_true rfl) (.inr (.inl rfl)) (by dsimp only; (first | lia | omega)) (fun sn => ?_) fun sn => ?_
  · dsimp only
    rw [hgc]
    have := je_in c hc.1 sn
    dsimp only at this
    rw [show (c == 92 || c == 34) = true from hc.2] at this
    exact this
  dsimp only
  rw [if_pos rfl]
  refine runs_mark rfl rfl (Nat.le_of_ble_eq_true rfl) rfl fun sn => ?_
  dsimp only [M.mark]
  refine runs_success rfl rfl (Nat.le_of_ble_eq_true rfl) rfl rfl fun sn => ?_
  refine runs_found ?_ ?_ ?_ ?_ ?_ ?_ ?_ ?_ ?_
  · rfl
  · rfl
  · rfl
  · exact Nat.le_refl 2
  · rfl
  · rfl
  · rfl
  · rfl
  · rfl
theorem je_no {T : Array Nat} {pre p : List Nat} (hT : T = (pre ++ p).toArray) (h : ∀ x ∈ p, x ∈ alpha ∧ fJE x = false) : Runs 5 (forSearch cJE T 1 pre.length T.size false) Failed := by
  have hl : T.size = pre.length + p.length := by rw [hT]; simp only [List.size_toArray, List.length_append]
  by_cases hp : p.length = 0
  · exact (search_say (least := 1) (q := 10) rfl (.inr (by (first | lia | omega)))).mono (by (first | lia | omega))
  rw [je_start (by (first | lia | omega))]
  refine runs_first_none (f := fJE) rfl je_set (by dsimp only; (first | lia | omega)) ?_ fun sn => ?_
  · intro j hj
    dsimp only at hj ⊢
    rw [hT, getD_app_r, getD_list (by (first | lia | omega))]
    exact h _ (List.getElem_mem _)
  · refine runs_end_no ?_ ?_ ?_ ?_
    · exact Nat.le_of_ble_eq_true rfl
    · rfl
    · rfl
    · rfl

/- HEADER_ESCAPE_RE -/
noncomputable def es (T : Array Nat) (lim p : Nat) (o : Bool) (sn : Seen) : M :=
  { code := cESC, text := T, lim := lim, start := p, lastStart := lim, pc := 9, pos := p, handed := p, outermost := o, marks := #[none, none], weight := 1, seen := sn, frames := [{ wait := .nextStart, pc := 9, pos := p, outermost := o }] }
/- starts that are no backslash -/
theorem esc_skip {T : Array Nat} {lim : Nat} {P : M → Prop} {n : Nat} : ∀ (k p : Nat) (o : Bool) (sn : Seen), p + k ≤ lim → (∀ j, j < k → T.getD (p + j) 0 ≠ 92) → (∀ o sn, Runs n (es T lim (p + k) o sn) P) → Runs (n + 2 * k) (es T lim p o sn) P
  | 0, p, o, sn, hk, hn, h => h o sn
  | k + 1, p, o, sn, hk, hn, h => by
    have h0 := hn 0 (Nat.succ_pos _)
    rw [Nat.add_zero] at h0
    refine Runs.mono (n := n + 2 * k + 1 + 1) ?_ (by (first | lia | omega))
    unfold es
    refine runs_one (b := false) rfl rfl (Nat.le_of_ble_eq_true rfl) (.inl rfl) (by dsimp only; (first | lia | omega)) (fun sn => ⟨sn, ?_⟩) fun sn => ?_
    · show Except.ok (T.getD p 0 == 92, sn) = _
      rw [beq_eq_false_iff_ne.mpr h0]
    dsimp only
    rw [if_neg Bool.false_ne_true]
    refine runs_next rfl rfl rfl rfl (by dsimp only; (first | lia | omega)) ?_
    refine runs_attemptFrom rfl (Nat.le_of_ble_eq_true rfl) ?_
    exact esc_skip (T := T) (lim := lim) k (p + 1) false sn (by (first | lia | omega)) (fun j hj => by rw [show p + 1 + j = p + (j + 1) by (first | lia | omega)]; exact hn _ (by (first | lia | omega))) (by rw [show p + 1 + k = p + (k + 1) by (first | lia | omega)]; exact h)
theorem esc_start {T : Array Nat} {s lim : Nat} (h : s + 2 ≤ lim) : forSearch cESC T 1 s lim false = M.attemptFrom { code := cESC, text := T, lim := lim, start := s, pc := 9, pos := s, handed := s, marks := #[none, none], seen := ({} : Seen).add 14, lastStart := lim } s true := by
  unfold forSearch
  rw [if_neg (by rw [Bool.or_eq_true, decide_eq_true_eq, decide_eq_true_eq]; show ¬ (_ ∨ _ < 2); (first | lia | omega))]
  rfl
theorem esc_yes {T : Array Nat} {pre p r : List Nat} {c : Nat} (hT : T = (pre ++ (p ++ 92 :: c :: r)).toArray) (h : ∀ x ∈ p, x ≠ 92) (hc : c ∈ alpha) :
    Runs (2 * p.length + 12) (forSearch cESC T 1 pre.length T.size false) (fun m => Found m (pre.length + p.length) (pre.length + p.length + 2) #[some (pre.length + p.length + 1), some (pre.length + p.length + 2)] 1 1) := by
  have hl : T.size = pre.length + (p.length + (r.length + 2)) := by rw [hT]; simp only [List.size_toArray, List.length_append, List.length_cons]
  have hg : ∀ j, T.getD (pre.length + j) 0 = (p ++ 92 :: c :: r).toArray.getD j 0 := fun j => by rw [hT]; exact getD_app_r
  have hg0 : T.getD (pre.length + p.length) 0 = 92 := by
    rw [hg]
    have := getD_app_r (x := p) (r := 92 :: c :: r) (j := 0)
    exact this.trans getD_cons0
  have hg1 : T.getD (pre.length + p.length + 1) 0 = c := by
    rw [Nat.add_assoc, hg]
    have := getD_app_r (x := p) (r := 92 :: c :: r) (j := 1)
    exact this.trans getD_cons1
  rw [esc_start (by (first | lia | omega))]
  refine Runs.mono (n := 2 + 5 + 2 * p.length) ?_ (by (first | lia | omega))
  refine runs_attemptFrom rfl (Nat.le_of_ble_eq_true rfl) ?_
  refine esc_skip (T := T) (lim := T.size) p.length pre.length true _ (by (first | lia | omega)) ?_ fun o sn => ?_
  · intro j hj
    rw [hg, getD_app_l hj]
    exact h _ (List.getElem_mem _)
  unfold es
  refine runs_one (b := true) rfl rfl (Nat.le_of_ble_eq_true rfl) (.inl rfl) (by dsimp only; (first | lia | omega)) (fun sn => ⟨sn, ?_⟩) fun sn => ?_
  · dsimp only
    rw [hg0]; rfl
  dsimp only
  rw [if_pos rfl]
  refine runs_mark rfl rfl (Nat.le_of_ble_eq_true rfl) rfl fun sn => ?_
  dsimp only [M.mark]
  refine runs_one (b := true) rfl rfl (Nat.le_of_ble_eq_true rfl) (.inr (.inr rfl)) (by dsimp only; (first | lia | omega)) (fun sn => ⟨sn, ?_⟩) fun sn => ?_
  · dsimp only
    rw [hg1]
    show Except.ok (c != 10, sn) = _
    have : c ≠ 10 := by
      intro h
      subst h
      exact absurd hc (by decide)
    simp [this]
  dsimp only
  rw [if_pos rfl]
  refine runs_mark rfl rfl (Nat.le_of_ble_eq_true rfl) rfl fun sn => ?_
  dsimp only [M.mark]
  refine runs_success rfl rfl (Nat.le_of_ble_eq_true rfl) rfl ?_ fun sn => ?_
  · dsimp only
    rw [Bool.false_and, Bool.false_and, Bool.or_self, Bool.and_false]
  refine runs_found ?_ ?_ ?_ ?_ ?_ ?_ ?_ ?_ ?_
  · rfl
  · rfl
  · rfl
  · exact Nat.le_refl 2
  · rfl
  · rfl
  · rfl
  · rfl
  · rfl
theorem esc_no {T : Array Nat} {pre p : List Nat} (hT : T = (pre ++ p).toArray) (h : ∀ x ∈ p, x ≠ 92) : Runs (2 * p.length + 12) (forSearch cESC T 1 pre.length T.size false) Failed := by
  have hl : T.size = pre.length + p.length := by rw [hT]; simp only [List.size_toArray, List.length_append]
  by_cases hp : p.length < 2
  · exact (search_say (least := 2) (q := 9) rfl (.inr (by (first | lia | omega)))).mono (by (first | lia | omega))
  rw [esc_start (by (first | lia | omega))]
  refine Runs.mono (n := 3 + 2 * p.length) ?_ (by (first | lia | omega))
  refine runs_attemptFrom rfl (Nat.le_of_ble_eq_true rfl) ?_
  refine esc_skip (T := T) (lim := T.size) p.length pre.length true _ (by (first | lia | omega)) ?_ fun o sn => ?_
  · intro j hj
    rw [hT, getD_app_r, getD_list hj]
    exact h _ (List.getElem_mem _)
  unfold es
  refine runs_one_end rfl rfl (Nat.le_of_ble_eq_true rfl) (.inl rfl) (by dsimp only; (first | lia | omega)) fun sn => ?_
  dsimp only
  refine runs_next_no rfl rfl rfl rfl (by dsimp only; (first | lia | omega)) ?_
  dsimp only
  refine runs_end_no ?_ ?_ ?_ ?_
  · exact Nat.le_refl _
  · rfl
  · rfl
  · rfl

/- HEADER_JOIN_TOKEN_RE, the whole text -/
noncomputable def fJT (c : Nat) : Bool := !(c == 92 || c == 34 || c == 61 || c == 59 || c == 32)
theorem jt_start {l : List Nat} (h : 1 ≤ l.length) : forMatch cJT l.toArray 0 0 l.length true false = { code := cJT, text := l.toArray, lim := l.length, start := 0, pc := 5, pos := 0, handed := 0, marks := #[], seen := ({} : Seen).add 14, wholeText := true } := by
  unfold forMatch
  have : ((header cJT).1 != 0 && decide (0 ≤ l.length) && decide (l.length - 0 < (header cJT).1)) = false := by
    rw [Bool.and_eq_false_iff]
    exact .inr (decide_eq_false (by show ¬ _ < 1; (first | lia | omega)))
  dsimp only
  rw [this]
  rfl
theorem jt_yes {l : List Nat} (hne : l ≠ []) (h : ∀ c ∈ l, c ∈ alpha ∧ fJT c = true) (hmax : l.length ≤ 1000000) : Runs 5 (forMatch cJT l.toArray 0 0 l.length true false) (fun m => Found m 0 l.length #[] (-1) (-1)) := by
  have hl : 0 < l.length := List.length_pos_iff.mpr hne
  rw [jt_start hl]
  refine Runs.mono (n := 2 + 2) ?_ (by decide)
  refine runs_rep (k := l.length) rfl rfl (Nat.le_of_ble_eq_true rfl) rfl (Nat.zero_le _) hl (Nat.le_of_ble_eq_true rfl) (by show 1 ≤ l.length - 0; (first | lia | omega)) (fun sn => ?_) fun sn => ?_
  · have := run_set jt_in (text := l.toArray) (min (cJT.getD 8 0) (l.length - 0)) 0 0 l.length ?_ ?_ ?_ sn
    · rw [Nat.zero_add] at this; exact this
    · exact le_rep (by (first | lia | omega)) (by (first | lia | omega))
    · intro j hj
      rw [Nat.zero_add, getD_list hj]
      exact h _ (List.getElem_mem _)
    · intro hlt
      have h : l.length < min 4294967295 (l.length - 0) := hlt
      (first | lia | omega)
  dsimp only
  refine runs_success rfl rfl (Nat.le_of_ble_eq_true rfl) rfl ?_ fun sn => ?_
  · dsimp only
    rw [Nat.zero_add]
    simp
  refine runs_found ?_ ?_ ?_ ?_ ?_ ?_ ?_ ?_ ?_
  · rfl
  · rfl
  · rfl
  · exact Nat.le_refl 2
  · rfl
  · exact Nat.zero_add _
  · rfl
  · rfl
  · rfl
theorem runs_give {f : Frame} {rest : List Frame} (ho : m.outcome = none) (ha : m.answer = some false) (hf : m.frames = f :: rest) (hwt : f.wait = .giveBack) (hc : ¬ f.count - 1 < (m.code.getD (f.pc + 2) 0 : Nat)) (hk : f.kept.whole = false) (hm : f.kept.marks = #[]) (hw : m.weight + 1 ≤ 16777216)
    (h : Runs n { m with answer := none, frames := { wait := .giveBack, pc := f.pc, pos := f.pos - 1, outermost := f.outermost, count := f.count - 1, kept := f.kept } :: rest, weight := m.weight - 1 + 1, pc := f.pc + 1 + m.code.getD (f.pc + 1) 0, pos := f.pos - 1, handed := f.pos - 1, outermost := f.outermost, lastmark := f.kept.lastmark, lastindex := f.kept.lastindex } P) : Runs (n + 1) m P := by
  refine runs_resume ho ha hf ?_
  unfold M.resume M.word
  rw [hwt]
  simp only [Bool.false_eq_true, if_false, hc, M.putBack, hk, M.afterRun]
  refine runs_attempt ?_ ?_
  · show m.weight - _ + 1 + f.kept.marks.size ≤ _
    rw [hm]
    show m.weight - _ + 1 + 0 ≤ _
    (first | lia | omega)
  · have e : m.weight - (1 + f.kept.marks.size) + 1 + f.kept.marks.size = m.weight - 1 + 1 := by rw [hm]; rfl
    rw [← e] at h
    exact h
noncomputable def js (T : Array Nat) (lim k : Nat) (hd : Nat) (w : Nat) (sn : Seen) : M :=
  { code := cJT, text := T, lim := lim, start := 0, pc := 22, pos := k, handed := hd, marks := #[], seen := sn, wholeText := true, weight := w, frames := [{ wait := .giveBack, pc := 5, pos := k, outermost := true, count := k }] }
theorem jt_steps (k : Nat) : 3 * k + 5 + 1 ≤ 3 * (k + 1) + 4 + 1 - 1 := by (first | lia | omega)
theorem int_pred (k : Nat) : ((k + 1 : Nat) : Int) - 1 = (k : Int) := by (first | lia | omega)
theorem int_one {k : Nat} (h : k ≤ 1) : (k : Int) - 1 < 1 := by (first | lia | omega)
theorem int_two {k : Nat} (h : ¬ k + 1 ≤ 1) : ¬ ((k + 1 : Nat) : Int) - 1 < 1 := by (first | lia | omega)
theorem w_step' {w : Nat} (h : w ≤ 1000) : w - 1 + 1 ≤ 1000 := by (first | lia | omega)
theorem jt_back {T : Array Nat} {lim : Nat} : ∀ (k hd w : Nat) (sn : Seen), k < lim → w ≤ 1000 → Runs (3 * k + 5) (js T lim k hd w sn) Failed := by
  have one : ∀ (k hd w : Nat) (sn : Seen), k < lim → k ≤ 1 → Runs (3 * k + 5) (js T lim k hd w sn) Failed := by
    intro k hd w sn hk hk1
    refine Runs.mono (n := 1 + 1 + 1) ?_ (Nat.le_trans (by decide) (Nat.le_add_left 5 _))
    unfold js
    refine runs_success_no rfl rfl (Nat.le_of_ble_eq_true rfl) rfl ?_ fun sn => ?_
    · show (true && ((true && k != lim) || (false && _))) = true
      rw [show (k != lim) = true from bne_iff_ne.mpr (Nat.ne_of_lt hk)]; rfl
    refine runs_give_no rfl rfl rfl rfl ?_ rfl ?_
    · show (k : Int) - 1 < 1
      exact int_one hk1
    · refine runs_end_no ?_ ?_ ?_ ?_
      · exact Nat.le_refl _
      · rfl
      · rfl
      · rfl
  intro k
  induction k with
  | zero => exact fun hd w sn hk _ => one 0 hd w sn hk (Nat.zero_le _)
  | succ k ih =>
    intro hd w sn hk hw
    by_cases hk1 : k + 1 ≤ 1
    · exact one _ hd w sn hk hk1
    refine Runs.mono (n := 3 * (k + 1) + 4 + 1 - 1 + 1) ?_ (Nat.le_refl _)
    unfold js
    refine runs_success_no rfl rfl (Nat.le_of_ble_eq_true rfl) rfl ?_ fun sn => ?_
    · show (true && ((true && (k + 1) != lim) || (false && _))) = true
      rw [show ((k + 1) != lim) = true from bne_iff_ne.mpr (Nat.ne_of_lt hk)]; rfl
    refine Runs.mono (n := (3 * k + 5) + 1) ?_ (jt_steps k)
    refine runs_give rfl rfl rfl rfl ?_ rfl rfl (by dsimp only; (first | lia | omega)) ?_
    · show ¬ ((k + 1 : Nat) : Int) - 1 < 1
      exact int_two hk1
    have ih := ih k (w - 1 + 1) sn (Nat.lt_of_succ_lt hk) (w_step' hw)
    have e : ((k + 1 : Nat) : Int) - 1 = (k : Int) := int_pred k
    unfold js at ih
    rw [← e] at ih
    exact ih
theorem jt_no {p r : List Nat} {c : Nat} (h : ∀ x ∈ p, x ∈ alpha ∧ fJT x = true) (hc : c ∈ alpha ∧ fJT c = false) (hmax : (p ++ c :: r).length ≤ 1000000) : Runs (3 * p.length + 10) (forMatch cJT (p ++ c :: r).toArray 0 0 (p ++ c :: r).length true false) Failed := by
  have hl : (p ++ c :: r).length = p.length + (r.length + 1) := by simp only [List.length_append, List.length_cons]
  have hg : (p ++ c :: r).toArray.getD (0 + p.length) 0 = c := by
    rw [Nat.zero_add]
    have := getD_app_r (x := p) (r := c :: r) (j := 0)
    exact this.trans getD_cons0
  have hrun : ∀ sn, ∃ sn', run cJT (p ++ c :: r).toArray (5 + 4) (min (cJT.getD 8 0) ((p ++ c :: r).length - 0)) 0 0 sn = .ok (p.length, sn') := fun sn => by
    have := run_set jt_in (text := (p ++ c :: r).toArray) (min (cJT.getD 8 0) ((p ++ c :: r).length - 0)) 0 0 p.length ?_ ?_ ?_ sn
    · rw [Nat.zero_add] at this; exact this
    · exact le_rep (by (first | lia | omega)) (by (first | lia | omega))
    · intro j hj
      rw [Nat.zero_add, getD_app_l hj]
      exact h _ (List.getElem_mem _)
    · intro _
      rw [hg]; exact hc
  rw [jt_start (by (first | lia | omega))]
  by_cases hp : p.length = 0
  · refine Runs.mono (n := 1 + 1) ?_ (by (first | lia | omega))
    refine runs_rep_less rfl rfl (Nat.le_of_ble_eq_true rfl) rfl (.inr fun sn => ?_) (Nat.zero_le _) fun sn => ?_
    · obtain ⟨sn', e⟩ := hrun sn
      exact ⟨_, sn', e, by rw [hp]; exact Nat.le_of_ble_eq_true rfl⟩
    · refine runs_end_no ?_ ?_ ?_ ?_
      · exact Nat.le_refl _
      · rfl
      · rfl
      · rfl
  · refine Runs.mono (n := (3 * p.length + 5) + 1) ?_ (by (first | lia | omega))
    refine runs_rep (k := p.length) rfl rfl (Nat.le_of_ble_eq_true rfl) rfl (Nat.zero_le _) (by show 1 ≤ _; (first | lia | omega)) (Nat.le_of_ble_eq_true rfl) (by show 1 ≤ (p ++ c :: r).length - 0; (first | lia | omega)) hrun fun sn => ?_
    dsimp only
    rw [Nat.zero_add]
    exact jt_back (T := (p ++ c :: r).toArray) p.length p.length 1 sn (by (first | lia | omega)) (by (first | lia | omega))
end Mine
end R5

section R6
open PySem PySem.W PySem.Spec PySem.Calls PyProof.Rows
open PySem.Builtin PySem.Builtin.Re
namespace Mine

theorem runFor_add : ∀ (a b : Nat) (m : Sre.M), m.runFor (a + b) = (m.runFor a).runFor b
  | 0, b, m => by rw [Nat.zero_add]; rfl
  | a + 1, b, m => by
    rw [show a + 1 + b = (a + b) + 1 by (first | lia | omega), Sre.M.runFor, Sre.M.runFor]
    cases h : m.outcome.isSome
    · exact runFor_add a b m.step
    · simp only [if_true]
      cases b with
      | zero => rfl
      | succ b => rw [Sre.M.runFor, h]; rfl
theorem runFor_still {m : Sre.M} (h : m.outcome.isSome = true) : ∀ b, m.runFor b = m
  | 0 => rfl
  | b + 1 => by rw [Sre.M.runFor, h]; rfl

section
variable {M : Model} {A : Around} {E : Value → Shared → Prop} {s : Shared}
theorem wpAny_reDrive {P : Sre.M → Prop} {Q : Sre.M → Shared → Prop} (hQ : ∀ m', m'.outcome.isSome = true → P m' → Q m' s) : ∀ (turns n : Nat) (m : Sre.M), n ≤ 4 * turns → 1 ≤ turns → Runs n m P → wpAny M A (reDrive turns m) Q E s
  | 0, n, m, _, h, _ => absurd h (by decide)
  | turns + 1, n, m, hn, _, ⟨k, hk, ho, hP⟩ => by
    rw [reDrive]
    show wpAny M A (if (m.runFor 4).outcome.isSome = true then pure (m.runFor 4) else do rule "sre.turn"; reDrive turns (m.runFor 4)) Q E s
    by_cases h4 : (m.runFor 4).outcome.isSome = true
    · rw [if_pos h4]
      refine wpAny_pure (hQ _ h4 ?_)
      by_cases hk4 : k ≤ 4
      · rw [show 4 = k + (4 - k) by (first | lia | omega), runFor_add, runFor_still ho]; exact hP
      · rw [show k = 4 + (k - 4) by (first | lia | omega), runFor_add, runFor_still h4] at hP; exact hP
    · rw [if_neg h4]
      have hk4 : 4 < k := by
        refine Nat.not_le.mp fun h => h4 ?_
        rw [show 4 = k + (4 - k) by (first | lia | omega), runFor_add, runFor_still ho]; exact ho
      refine wpAny_bind (wpAny_rule ?_)
      refine wpAny_reDrive hQ turns (k - 4) (m.runFor 4) (by (first | lia | omega)) (by (first | lia | omega)) ⟨k - 4, Nat.le_refl _, ?_, ?_⟩
      · rw [← runFor_add, show 4 + (k - 4) = k by (first | lia | omega)]; exact ho
      · rw [← runFor_add, show 4 + (k - 4) = k by (first | lia | omega)]; exact hP
theorem wpAny_seenLoop {seen : Sre.Seen} {Q : PUnit → Shared → Prop} (h : Q ⟨⟩ s) : ∀ l : List Nat, wpAny M A (forIn l PUnit.unit fun i _ => do
    if seen.has i then rule (Sre.names.getD i "")
    pure (ForInStep.yield PUnit.unit)) Q E s
  | [] => wpAny_pure h
  | i :: l => by
    rw [List.forIn_cons]
    refine wpAny_bind ?_
    split
    · exact wpAny_bind (wpAny_rule (wpAny_pure (wpAny_seenLoop h l)))
    · exact wpAny_pure (wpAny_seenLoop h l)
theorem wpAny_found {m : Sre.M} {n : Nat} {P : Sre.M → Prop} {Q : Option Sre.M → Shared → Prop} (h : Runs n m P) (hn : n ≤ 100000000) (hp : ∀ m', P m' → m'.outcome = some .matched) (hQ : ∀ m', P m' → Q (some m') s) : wpAny M A (reRunToEnd m) Q E s := by
  unfold reRunToEnd
  refine wpAny_bind (wpAny_reDrive (P := P) (fun m' _ hP => ?_) (2 ^ 64) n m (Nat.le_trans hn (by decide)) (by decide) h)
  refine wpAny_bind (wpAny_seenLoop ?_ _)
  rw [hp m' hP]
  exact wpAny_pure (hQ m' hP)
theorem wpAny_notFound {m : Sre.M} {n : Nat} {Q : Option Sre.M → Shared → Prop} (h : Runs n m Failed) (hn : n ≤ 100000000) (hQ : Q none s) : wpAny M A (reRunToEnd m) Q E s := by
  unfold reRunToEnd
  refine wpAny_bind (wpAny_reDrive (P := Failed) (fun m' _ hP => ?_) (2 ^ 64) n m (Nat.le_trans hn (by decide)) (by decide) h)
  refine wpAny_bind (wpAny_seenLoop ?_ _)
  rw [show m'.outcome = some .failed from hP]
  exact wpAny_pure hQ

theorem wpAny_reTextOf {x : Str} {t : Tok} {Q : Array Nat × Nat → Shared → Prop} (h : Q (x.cps, 0) s) : wpAny M A (reTextOf (.str x t)) Q E s := by
  unfold reTextOf
  show wpAny M A (pure (some x) >>= _) Q E s
  exact wpAny_bind (wpAny_pure (wpAny_pure h))
theorem reNamed3 (id f : String) (v : Value) : reNamed id f ["string", "pos", "endpos"] 1 [v] [] = (pure [some v, none, none] : Sem (List (Option Value))) := by
  rfl
end

section
variable {prog : Program} {w : World} {A : Around} {E : Value → Shared → Prop} {s : Shared}
theorem call_body {T : String} {name : Str} {id : String} {B : Builtin} {self : Value} {rest : List Value} {Q : Value → Shared → Prop} (slot : Slot T name id) (hT : s.TypeIs self T)
    (entry : entryFor table id = some B) (args : argsOk id ⟨self :: rest, []⟩)
    (h : wpAny (model prog w) A.in1 (B ⟨self :: rest, []⟩) (fun fin s' => match fin with | .done f => wants Q E (.ok f) s' | .again c' => c'.quiet = true ∧ codeAny (model prog w) A c' (wants Q E) s') (fun e s' => E e s') s) :
    wpAny (model prog w) A (call (.builtin id) (self :: rest)) Q E s :=
  wpAny_call (codeAny_call_builtin slot.plain entry (slot.check _ _ _ _ _ _ _ _ hT args h))
end

/- a compiled pattern of the text -/
structure PatAt (c : Cx) (a : Addr) (code : List Nat) (groups : Nat) : Prop where
  at_ : ∃ p fl gi nm q n, (hd.heap_39 c.w.params).lookup a = some { cls := .type "re.Pattern", data := .fields #[p, fl, rawInt groups, gi, nm, .ref q, rawInt 0] } ∧ (hd.heap_39 c.w.params).lookup q = some (tupO (code.map fun k : Nat => rawInt k) n)

theorem raw_code (code : List Nat) : ((code.map fun k : Nat => rawInt k).toArray.map reRawOf).map (·.toNat) = code.toArray := by
  simp [reRawOf, rawInt, Function.comp_def]

section
variable {c : Cx} {fz : FZ} {s : Shared}
theorem wpAny_reTarget {A : Around} {E : Value → Shared → Prop} {a : Addr} {code : List Nat} {groups : Nat} {x : Str} {t : Tok} {id f : String} {Q : ReTarget → Shared → Prop} (I : Inv c.G fz s) (hp : PatAt c a code groups)
    (h : Q { pattern := .ref a, string := .str x t, code := code.toArray, text := x.cps, kind := 0, groups := groups, pos := 0, lim := min (2 ^ 63 - 1) x.cps.size } s) : wpAny c.M A (reTarget id f ⟨[.ref a, .str x t], []⟩) Q E s := by
  obtain ⟨p, fl, gi, nm, q, n, h1, h2⟩ := hp.at_
  have e1 := I.ge (c.st.k _ _ h1)
  have e2 := I.ge (c.st.k _ _ h2)
  unfold reTarget
  simp only []
  rw [reNamed3]
  refine wpAny_bind (wpAny_pure ?_)
  refine wpAny_bind (wpAny_pure ?_)
  refine wpAny_bind (wpAny_pure ?_)
  refine wpAny_bind (wpAny_fieldsOf e1 rfl ?_)
  refine wpAny_bind (wpAny_reTextOf ?_)
  refine wpAny_bind (wpAny_pure ?_)
  unfold reRawItems
  refine wpAny_bind (wpAny_bind (wpAny_seqItems e2 rfl (wpAny_pure ?_)))
  refine wpAny_pure ?_
  show Q { pattern := .ref a, string := .str x t, code := ((code.map fun k : Nat => rawInt k).toArray.map reRawOf).map (·.toNat), text := x.cps, kind := 0, groups := (groups : Int).toNat, pos := min 0 x.cps.size, lim := min (2 ^ 63 - 1 : Int).toNat x.cps.size } s
  rw [raw_code, Nat.zero_min, Int.toNat_natCast, show (2 ^ 63 - 1 : Int).toNat = 2 ^ 63 - 1 from by decide +kernel]
  exact h

/- two new objects that stand still at once -/
theorem fin2 {o₁ o₂ : Obj} {Q : Value → Shared → Prop} {d : D} (I : Inv c.G fz s) (hQ : ∀ v fz' s', Next fz s fz' s' → Inv c.G fz' s' → Rep fz' v d → Q v s')
    (r : ∀ fz' : FZ, FZ.le fz fz' → fz' s.heap.objs.size = some o₁ → fz' (s.heap.push o₁).objs.size = some o₂ → Rep fz' (.ref (s.heap.push o₁).objs.size) d) (hf₁ : o₁.isFreed = false) (hf₂ : o₂.isFreed = false) :
    Q (.ref (s.heap.push o₁).objs.size) { s with heap := (s.heap.push o₁).push o₂ } := by
  obtain ⟨N₁, I₁, e₁⟩ := new_fz I o₁ s.toks hf₁
  obtain ⟨N₂, I₂, e₂⟩ := new_fz I₁ o₂ s.toks hf₂
  refine hQ _ _ _ (N₁.trans N₂) I₂ (r _ (N₁.trans N₂).mono (N₂.mono _ _ e₁) e₂)

theorem wpAny_newMatch1 {M : Model} {A : Around} {E : Value → Shared → Prop} {pat str : Value} {pos lim st h b e : Nat} {m : Sre.M} {Q : Value → Shared → Prop} (F : Found m st h #[some b, some e] 1 1) (hbe : b ≤ e)
    (hQ : Q (.ref (s.heap.push (tupO ([(st : Int), h, b, e].map rawInt) 0)).objs.size) { s with heap := (s.heap.push (tupO ([(st : Int), h, b, e].map rawInt) 0)).push { cls := .type "re.Match", data := .fields #[str, pat, rawInt pos, rawInt lim, rawInt 1, .ref s.heap.objs.size] } }) :
    wpAny M A (reNewMatch pat str 1 pos lim m) Q E s := by
  unfold reNewMatch
  simp only [F.marks, F.lastmark, F.lastindex, F.start, F.handed]
  rw [if_neg (by
    show ¬ ((true && decide (e < b)) || false) = true
    rw [decide_eq_false (Nat.not_lt.mpr hbe)]; decide)]
  refine wpAny_bind (wpAny_newTuple ?_ (by show 4 ≤ sizeLine; decide))
  exact wpAny_newObj_type hQ (by size_fits)
theorem wpAny_newMatch0 {M : Model} {A : Around} {E : Value → Shared → Prop} {pat str : Value} {pos lim st h : Nat} {li : Int} {m : Sre.M} {Q : Value → Shared → Prop} (F : Found m st h #[] (-1) li)
    (hQ : Q (.ref (s.heap.push (tupO ([(st : Int), h].map rawInt) 0)).objs.size) { s with heap := (s.heap.push (tupO ([(st : Int), h].map rawInt) 0)).push { cls := .type "re.Match", data := .fields #[str, pat, rawInt pos, rawInt lim, rawInt li, .ref s.heap.objs.size] } }) :
    wpAny M A (reNewMatch pat str 0 pos lim m) Q E s := by
  unfold reNewMatch
  simp only [F.marks, F.lastmark, F.lastindex, F.start, F.handed]
  rw [if_neg (by show ¬ false = true; decide)]
  refine wpAny_bind (wpAny_newTuple ?_ (by show 2 ≤ sizeLine; decide))
  exact wpAny_newObj_type hQ (by size_fits)

theorem lim_eq {l : List Nat} (h : l.length ≤ 1000000) : min (2 ^ 63 - 1) (S l).cps.size = l.length := by
  show min _ l.toArray.size = _
  rw [List.size_toArray]; (first | lia | omega)
theorem obj_ty {a : Addr} {code : List Nat} {g : Nat} (hp : PatAt c a code g) (I : Inv c.G fz s) : s.TypeIs (.ref a) "re.Pattern" := by
  obtain ⟨p, fl, gi, nm, q, n, h1, h2⟩ := hp.at_
  exact ⟨_, I.ge (c.st.k _ _ h1), rfl⟩
theorem op_search_yes {a : Addr} {code : List Nat} {l : List Nat} {n st h b e : Nat} (hp : PatAt c a code 1) (hr : Runs n (Sre.forSearch code.toArray l.toArray 1 0 l.length false) (fun m => Found m st h #[some b, some e] 1 1)) (hn : n ≤ 100000000) (hl : l.length ≤ 1000000) (hbe : b ≤ e) :
    OPs c (fun vs => call (.builtin "re.Pattern.search") vs) [.obj a, .str (S l)] (.mat (S l) [st, h, b, e]) := fun fz s vs I tk r Q E hQ => by
  obtain ⟨_, _, rfl, r₁, r⟩ := r.inv
  · obtain ⟨_, _, rfl, r₂, r⟩ := r.inv
    · obtain rfl := r.inv
      · obtain rfl := r₁.inv; obtain ⟨t, rfl⟩ := r₂.inv
        ·
          refine call_body slot_search (obj_ty hp I) entry_search (args_search _ _) ?_
          unfold «re.Pattern.search»
          refine wpAny_bind (wpAny_reTarget I hp ?_)
          dsimp only
          rw [lim_eq hl]
          unfold reAnswer
          refine wpAny_bind (wpAny_found hr hn (fun m' F => F.o) fun m' F => ?_)
          refine wpAny_bind (wpAny_newMatch1 F hbe ?_)
          exact wpAny_pure (fin2 (hf₁ := by rfl) (hf₂ := by rfl) I hQ fun fz' hle h1 h2 => .mat h2 h1)
theorem op_search_yes0 {a : Addr} {code : List Nat} {l : List Nat} {n st h : Nat} (hp : PatAt c a code 0) (hr : Runs n (Sre.forSearch code.toArray l.toArray 0 0 l.length false) (fun m => Found m st h #[] (-1) (-1))) (hn : n ≤ 100000000) (hl : l.length ≤ 1000000) :
    OPs c (fun vs => call (.builtin "re.Pattern.search") vs) [.obj a, .str (S l)] (.mat (S l) [st, h]) := fun fz s vs I tk r Q E hQ => by
  obtain ⟨_, _, rfl, r₁, r⟩ := r.inv
  · obtain ⟨_, _, rfl, r₂, r⟩ := r.inv
    · obtain rfl := r.inv
      · obtain rfl := r₁.inv; obtain ⟨t, rfl⟩ := r₂.inv
        ·
          refine call_body slot_search (obj_ty hp I) entry_search (args_search _ _) ?_
          unfold «re.Pattern.search»
          refine wpAny_bind (wpAny_reTarget I hp ?_)
          dsimp only
          rw [lim_eq hl]
          unfold reAnswer
          refine wpAny_bind (wpAny_found hr hn (fun m' F => F.o) fun m' F => ?_)
          refine wpAny_bind (wpAny_newMatch0 F ?_)
          exact wpAny_pure (fin2 (hf₁ := by rfl) (hf₂ := by rfl) I hQ fun fz' hle h1 h2 => .mat h2 h1)
theorem op_search_no {a : Addr} {code : List Nat} {l : List Nat} {n g : Nat} (hp : PatAt c a code g) (hr : Runs n (Sre.forSearch code.toArray l.toArray g 0 l.length false) Failed) (hn : n ≤ 100000000) (hl : l.length ≤ 1000000) :
    OPs c (fun vs => call (.builtin "re.Pattern.search") vs) [.obj a, .str (S l)] .none := fun fz s vs I tk r Q E hQ => by
  obtain ⟨_, _, rfl, r₁, r⟩ := r.inv
  · obtain ⟨_, _, rfl, r₂, r⟩ := r.inv
    · obtain rfl := r.inv
      · obtain rfl := r₁.inv; obtain ⟨t, rfl⟩ := r₂.inv
        ·
          refine call_body slot_search (obj_ty hp I) entry_search (args_search _ _) ?_
          unfold «re.Pattern.search»
          refine wpAny_bind (wpAny_reTarget I hp ?_)
          dsimp only
          rw [lim_eq hl]
          unfold reAnswer
          refine wpAny_bind (wpAny_notFound hr hn ?_)
          exact wpAny_pure (fin0' I hQ .none)
theorem op_full_yes {a : Addr} {code : List Nat} {l : List Nat} {n st h : Nat} (hp : PatAt c a code 0) (hr : Runs n (Sre.forMatch code.toArray l.toArray 0 0 l.length true false) (fun m => Found m st h #[] (-1) (-1))) (hn : n ≤ 100000000) (hl : l.length ≤ 1000000) :
    OPs c (fun vs => call (.builtin "re.Pattern.fullmatch") vs) [.obj a, .str (S l)] (.mat (S l) [st, h]) := fun fz s vs I tk r Q E hQ => by
  obtain ⟨_, _, rfl, r₁, r⟩ := r.inv
  · obtain ⟨_, _, rfl, r₂, r⟩ := r.inv
    · obtain rfl := r.inv
      · obtain rfl := r₁.inv; obtain ⟨t, rfl⟩ := r₂.inv
        ·
          refine call_body slot_fullmatch (obj_ty hp I) entry_fullmatch (args_fullmatch _ _) ?_
          unfold «re.Pattern.fullmatch»
          refine wpAny_bind (wpAny_reTarget I hp ?_)
          dsimp only
          rw [lim_eq hl]
          unfold reAnswer
          refine wpAny_bind (wpAny_found hr hn (fun m' F => F.o) fun m' F => ?_)
          refine wpAny_bind (wpAny_newMatch0 F ?_)
          exact wpAny_pure (fin2 (hf₁ := by rfl) (hf₂ := by rfl) I hQ fun fz' hle h1 h2 => .mat h2 h1)
theorem op_full_no {a : Addr} {code : List Nat} {l : List Nat} {n g : Nat} (hp : PatAt c a code g) (hr : Runs n (Sre.forMatch code.toArray l.toArray g 0 l.length true false) Failed) (hn : n ≤ 100000000) (hl : l.length ≤ 1000000) :
    OPs c (fun vs => call (.builtin "re.Pattern.fullmatch") vs) [.obj a, .str (S l)] .none := fun fz s vs I tk r Q E hQ => by
  obtain ⟨_, _, rfl, r₁, r⟩ := r.inv
  · obtain ⟨_, _, rfl, r₂, r⟩ := r.inv
    · obtain rfl := r.inv
      · obtain rfl := r₁.inv; obtain ⟨t, rfl⟩ := r₂.inv
        ·
          refine call_body slot_fullmatch (obj_ty hp I) entry_fullmatch (args_fullmatch _ _) ?_
          unfold «re.Pattern.fullmatch»
          refine wpAny_bind (wpAny_reTarget I hp ?_)
          dsimp only
          rw [lim_eq hl]
          unfold reAnswer
          refine wpAny_bind (wpAny_notFound hr hn ?_)
          exact wpAny_pure (fin0' I hQ .none)

/- m.group(1), m.span(0), m.string -/
theorem mat_fields {A : Around} {E : Value → Shared → Prop} {a b : Addr} {t : Tok} {x : Str} {p q r u : Value} {n : Nat} {sp : List Int} {Q : ReFound → Shared → Prop} (I : Inv c.G fz s)
    (h1 : fz a = some { cls := .type "re.Match", data := .fields #[.str x t, p, q, r, u, .ref b] }) (h2 : fz b = some (tupO (sp.map rawInt) n)) (h : Q ⟨#[.str x t, p, q, r, u, .ref b], sp.toArray⟩ s) : wpAny c.M A (reFound (.ref a)) Q E s := by
  unfold reFound
  refine wpAny_bind (wpAny_fieldsOf (I.le _ _ h1) rfl ?_)
  unfold reRawItems
  refine wpAny_bind (wpAny_bind (wpAny_seqItems (I.le _ _ h2) rfl (wpAny_pure (wpAny_pure ?_))))
  have e : ((sp.map rawInt).toArray).map reRawOf = sp.toArray := by simp [reRawOf, rawInt, Function.comp_def]
  show Q ⟨_, (((sp.map rawInt).toArray).map reRawOf)⟩ s
  rw [e]; exact h
theorem wpAny_groupNumber {M : Model} {A : Around} {E : Value → Shared → Prop} {x : ReFound} {i : Nat} {t : Tok} {Q : Nat → Shared → Prop} (hi : 2 * i < x.spans.size) (h : Q i s) : wpAny M A (reGroupNumber x (.int i t)) Q E s := by
  unfold reGroupNumber
  refine wpAny_bind (wpAny_pure ?_)
  dsimp only
  rw [if_pos (show (some (i : Int)).isSome = true from rfl)]
  refine wpAny_bind (wpAny_pure ?_)
  have e : (decide ((i : Int) < 0) || decide (2 * (i : Int) ≥ (x.spans.size : Int))) = false := by
    rw [decide_eq_false (by (first | lia | omega)), decide_eq_false (by (first | lia | omega))]; rfl
  rw [if_neg (by rw [e]; decide)]
  exact wpAny_pure (by rw [Int.toNat_natCast]; exact h)
theorem extract_S (l : List Nat) (b e : Nat) : (⟨(S l).cps.extract b e⟩ : Str) = S ((l.drop b).take (e - b)) := by
  show (⟨l.toArray.extract b e⟩ : Str) = ⟨_⟩
  rw [List.extract_toArray]
theorem wpAny_reSlice {M : Model} {A : Around} {E : Value → Shared → Prop} {l : List Nat} {b e : Nat} {Q : Value → Shared → Prop} (hl : l.length ≤ 1000000) (h : Q (.str (S ((l.drop b).take (e - b))) s.toks) { s with toks := s.toks + 1 }) : wpAny M A (reSlice (S l).cps 0 b e) Q E s := by
  unfold reSlice
  rw [if_pos (show ((0 : Nat) == 0) = true from rfl), extract_S]
  refine wpAny_mkStr h ?_
  rw [S_len]
  rw [List.length_take, List.length_drop]
  exact Nat.le_trans (Nat.min_le_right _ _) (Nat.le_trans (Nat.sub_le _ _) (Nat.le_trans hl (by decide)))
theorem wpAny_groupText {M : Model} {A : Around} {E : Value → Shared → Prop} {x : ReFound} {g : Nat} {l : List Nat} {t : Tok} {dflt : Value} {b e : Nat} {Q : Value → Shared → Prop} (hb : x.spans.getD (2 * g) (-1) = b) (he : x.spans.getD (2 * g + 1) (-1) = e) (hf : x.fields.getD 0 .none = .str (S l) t) (hl : l.length ≤ 1000000)
    (h : Q (.str (S ((l.drop b).take (e - b))) s.toks) { s with toks := s.toks + 1 }) : wpAny M A (reGroupText x g dflt) Q E s := by
  unfold reGroupText
  simp only [hb, he]
  rw [if_neg (by rw [decide_eq_false (by (first | lia | omega)), decide_eq_false (by (first | lia | omega))]; decide), hf]
  refine wpAny_bind (wpAny_reTextOf ?_)
  rw [Int.toNat_natCast, Int.toNat_natCast]
  exact wpAny_reSlice hl h
theorem op_group1 {l : List Nat} {st h b e : Nat} (hl : l.length ≤ 1000000) :
    OPs c (fun vs => call (.builtin "re.Match.group") vs) [.mat (S l) [st, h, b, e], .int 1] (.str (S ((l.drop b).take (e - b)))) := fun fz s vs I tk r Q E hQ => by
  obtain ⟨_, _, rfl, r₁, r⟩ := r.inv
  · obtain ⟨_, _, rfl, r₂, r⟩ := r.inv
    · obtain rfl := r.inv
      · obtain ⟨ti, rfl⟩ := r₂.inv
        · obtain ⟨a, b', t, p, q, r, u, n, rfl, h1, h2⟩ := r₁.inv
          ·
            refine call_body slot_group ⟨_, I.le _ _ h1, rfl⟩ entry_group (args_group _ _) ?_
            unfold «re.Match.group»
            refine wpAny_bind (wpAny_pure ?_)
            refine wpAny_bind (mat_fields I h1 h2 ?_)
            dsimp only
            refine wpAny_bind (wpAny_groupNumber (i := 1) (by show 2 < 4; decide) ?_)
            refine wpAny_bind (wpAny_groupText (l := l) (b := b) (e := e) (t := t) rfl rfl rfl hl ?_)
            exact wpAny_pure (fin0 I hQ (.str _ _) _)
theorem op_span0 {l : List Nat} {st h : Nat} {sp : List Int} (hsp : sp = (st : Int) :: (h : Int) :: sp.drop 2) :
    OPs c (fun vs => call (.builtin "re.Match.span") vs) [.mat (S l) sp, .int 0] (.tuple [.int st, .int h]) := fun fz s vs I tk r Q E hQ => by
  obtain ⟨_, _, rfl, r₁, r⟩ := r.inv
  · obtain ⟨_, _, rfl, r₂, r⟩ := r.inv
    · obtain rfl := r.inv
      · obtain ⟨ti, rfl⟩ := r₂.inv
        · obtain ⟨a, b', t, p, q, r, u, n, rfl, h1, h2⟩ := r₁.inv
          ·
            refine call_body slot_span ⟨_, I.le _ _ h1, rfl⟩ entry_span (args_span _ _) ?_
            unfold «re.Match.span» reOneGroup
            refine wpAny_bind (wpAny_bind (wpAny_pure ?_))
            refine wpAny_bind (mat_fields I h1 h2 ?_)
            refine wpAny_bind (wpAny_groupNumber (i := 0) (by rw [hsp]; show 0 < _ + 1; (first | lia | omega)) ?_)
            refine wpAny_pure ?_
            dsimp only
            have e1 : sp.toArray.getD 0 (-1) = st := by rw [hsp]; rfl
            have e2 : sp.toArray.getD 1 (-1) = h := by rw [hsp]; rfl
            rw [show 2 * 0 = 0 from rfl, show 0 + 1 = 1 from rfl, e1, e2]
            refine wpAny_bind (wpAny_mkInt (wpAny_bind (wpAny_mkInt (wpAny_bind (wpAny_newTuple (wpAny_pure ?_) (by show 2 ≤ sizeLine; decide))))))
            exact finN (hf := by rfl) I hQ (fun fz' hle e => .tuple e (.cons (.int _ _) (.cons (.int _ _) .nil))) _
end
end Mine
end R6

section R7
open PySem PySem.W PySem.Spec PySem.Calls PyProof.Rows
open PySem.Builtin PySem.Builtin.Re
namespace Mine
theorem slot_mga : Slot "re.Match" "__getattribute__" "object.__getattribute__" :=
  .of (owner := "object") (n := "__getattribute__") (by rw [typeLookup_type, builtinLookup_eq_fast]; kernel_rfl) (by decide +kernel) (by decide +kernel) (by decide +kernel)
    (by first | exact .inl (by decide +kernel) | exact .inr (by decide +kernel)) (by rw [isSubtype_type]; kernel_rfl)
theorem entry_ga : entryFor table "object.__getattribute__" = some Builtin.«object.__getattribute__» := entryFor_of_tree (by kernel_rfl)
theorem args_ga (a b : Value) : argsOk "object.__getattribute__" ⟨[a, b], []⟩ := by unfold argsOk; kernel_rfl
theorem type_mstring : typeOf (.builtin "re.Match.string") = pure (.type "member_descriptor") := by show builtinType _ = _; rw [builtinType_eq_fast]; kernel_rfl
theorem owner_mstring : (".".intercalate ("re.Match.string".cutAt '.').dropLast) = "re.Match" := by
  have e0 : "re.Match.string".cutAt '.' = ["re", "Match", "string"] := by first | rfl | decide +kernel
  rw [e0]; decide +kernel
theorem sub_mat : isSubtype (.type "re.Match") (.type "re.Match") = pure true := by rw [isSubtype_type]; kernel_rfl
theorem slot_mset : Slot "member_descriptor" "__set__" "member_descriptor.__set__" := KF.slot_mset

section
variable {prog : Program} {w : World} {A : Around} {E : Value → Shared → Prop} {h : Heap} {g : Array GenState} {d : Drawn} {t : Nat} {os : OsState} {a : Addr} {o : Obj} {vs : Array Value} {a0 : Value}
theorem ms_get {R : Result → Shared → Prop} (hx : h.get? a = some o) (hc : o.cls = .type "re.Match") (hd : o.data = .fields vs) (h0 : vs[0]? = some a0) (hnd : (a0 == doubtfulMember) = false) (hq : R (.ok (.ret a0)) ⟨h, g, d, t, os⟩) :
    codeAny (model prog w) A (.call (.builtin "member_descriptor.__get__") ⟨[.builtin "re.Match.string", .ref a, .type "re.Match"], []⟩) R ⟨h, g, d, t, os⟩ := by
  have hT : (⟨h, g, d, t, os⟩ : Shared).TypeIs (.ref a) "re.Match" := ⟨_, hx, hc⟩
  have hT5 : (⟨h, g, d, t, os⟩ : Shared).TypeIs (.builtin "re.Match.string") "member_descriptor" := type_mstring
  have f8 : isSubtype (.type "re.Match") (.type (".".intercalate ("re.Match.string".cutAt '.').dropLast)) = pure true := by rw [owner_mstring]; exact sub_mat
  refine codeAny_call_builtin KF.slot_mem.plain KF.entry_mem (KF.slot_mem.check _ _ _ _ _ _ _ _ hT5 (KF.args_mem _ _ _) ?_)
  repeat (any_goals (first | assumption | wp_step))
  refine ⟨Code.quiet_builtin _ (by decide +kernel), codeAny_builtin entry_string ?_⟩
  unfold Builtin.«re.Match.string»
  exact wpAny_bind (wpAny_field hx hd h0 (wpAny_pure hq))
theorem ms_entry {tk : Tok} {Q : Fin → Shared → Prop} (hx : h.get? a = some o) (hc : o.cls = .type "re.Match") (hd : o.data = .fields vs) (h0 : vs[0]? = some a0) (hnd : (a0 == doubtfulMember) = false) (hq : Q (.done (.ret a0)) ⟨h, g, d, t, os⟩) :
    wpAny (model prog w) A (Builtin.«object.__getattribute__» ⟨[.ref a, .str "string" tk], []⟩) Q E ⟨h, g, d, t, os⟩ := by
  have hT : (⟨h, g, d, t, os⟩ : Shared).TypeIs (.ref a) "re.Match" := ⟨_, hx, hc⟩
  have hT5 : (⟨h, g, d, t, os⟩ : Shared).TypeIs (.builtin "re.Match.string") "member_descriptor" := type_mstring
  have f4 := look_string
  have f5 := type_mstring
  have f6 := KF.slot_mem.lookup
  have f7 := slot_mset.lookup
  repeat (any_goals (first | assumption | wp_step))
  refine ms_get hx hc hd h0 hnd ?_
  repeat (any_goals (first | assumption | wp_step))
theorem ms_call {tk : Tok} {R : Result → Shared → Prop} (hx : h.get? a = some o) (hc : o.cls = .type "re.Match") (hd : o.data = .fields vs) (h0 : vs[0]? = some a0) (hnd : (a0 == doubtfulMember) = false) (hq : R (.ok (.ret a0)) ⟨h, g, d, t, os⟩) :
    codeAny (model prog w) A (.call (.builtin "object.__getattribute__") ⟨[.ref a, .str "string" tk], []⟩) R ⟨h, g, d, t, os⟩ :=
  codeAny_call_builtin slot_mga.plain entry_ga (slot_mga.check _ _ _ _ _ _ _ _ (show (⟨h, g, d, t, os⟩ : Shared).TypeIs (.ref a) "re.Match" from ⟨_, hx, hc⟩) (args_ga _ _) (ms_entry hx hc hd h0 hnd hq))
theorem ms_by {tk : Tok} {fill expr : Bool} {Q : Value → Shared → Prop} (hx : h.get? a = some o) (hc : o.cls = .type "re.Match") (hd : o.data = .fields vs) {z : Str} {u : Tok} (h0 : vs[0]? = some (.str z u))
    (hq : Q (.str z u) ⟨h, g, d, t, os⟩) : wpAny (model prog w) A (getAttrBy (.ref a) (.str "string" tk) fill expr) Q E ⟨h, g, d, t, os⟩ := by
  have hT : (⟨h, g, d, t, os⟩ : Shared).TypeIs (.ref a) "re.Match" := ⟨_, hx, hc⟩
  have f2 := slot_mga.lookup
  have f3 := slot_mga.bind (.ref a)
  have f9 := plain_mat.noGetattr
  have hx0 : (expr && onTheHeap (Value.builtin "object.__getattribute__")) = false := by cases expr <;> rfl
  repeat (any_goals (first | assumption | wp_step))
  refine ms_call hx hc hd h0 (by rfl) ?_
  repeat (any_goals (first | assumption | wp_step))
theorem ms_attr {expr : Bool} {Q : Value → Shared → Prop} (hx : h.get? a = some o) (hc : o.cls = .type "re.Match") (hd : o.data = .fields vs) {z : Str} {u : Tok} (h0 : vs[0]? = some (.str z u))
    (hq : Q (.str z u) ⟨h, g, d, t + 1, os⟩) : wpAny (model prog w) A (getAttr (.ref a) "string" expr) Q E ⟨h, g, d, t, os⟩ := by
  unfold getAttr
  repeat (any_goals (first | assumption | with_reducible apply ms_by hx hc hd h0 | wp_step))
end

section
variable {c : Cx} {ρ : List (Str × D)} {own : List Ow} {fz : FZ} {s : Shared} {d : D}
theorem ev_string {x : Str} {p pos : Pos} {z : Str} {sp : List Int} (h : EV c ρ own (.Name x p) (.mat z sp)) (hbase : ∀ env, attributeBase (.Name x p) (Str.ofString "string") env (eval (.Name x p) env) = eval (.Name x p) env) :
    EV c ρ own (.Attribute (.Name x p) (Str.ofString "string") pos) (.str z) := EV.mk fun fz s F Q E hQ => by
  show wpAny _ _ (do
    let o ← attributeBase (.Name x p) (Str.ofString "string") c.env (eval (.Name x p) c.env)
    standAt pos.atName
    let r ← holding [o] (getAttr o (Str.ofString "string") true)
    letTemporaryGo (.Name x p) o r
    pure r) _ _ _
  rw [hbase]
  refine wpAny_bind (h fz s F _ _ fun v fz₁ s₁ N₁ F₁ r₁ => wpAny_bind (wpAny_standAt (wpAny_bind (wpAny_holding ?_))))
  obtain ⟨a, b, t, p', q, r, u, n, rfl, h1, h2⟩ := r₁.inv
  ·
    obtain ⟨hh, g, dr, tk, os⟩ := s₁
    refine ms_attr (F₁.I.le _ _ h1) rfl rfl rfl ?_
    exact wpAny_bind (wpAny_pure (wpAny_pure (hQ _ fz₁ _ (N₁.trans (Next.toks (tk + 1))) (F₁.I.toks (tk + 1)) (.str _ _))))
end
end Mine
end R7

section R8
open PySem PySem.W PySem.Spec PySem.Calls PyProof.Rows
open PySem.Builtin PySem.Builtin.Re
namespace Mine
theorem plain_subloop : plainId "re.Pattern.sub.loop" = true := by decide +kernel
theorem quiet_subloop (args : Args) : (Code.builtin "re.Pattern.sub.loop" args).quiet = true := Code.quiet_builtin _ (by decide +kernel)

/- a match of a substitution: where, and what is put there -/
structure Seg where
  st : Nat
  hd : Nat
  b : Nat
  e : Nat
  rep : List Nat
noncomputable def outL (l : List Nat) : Nat → List Seg → List Nat
  | pos, [] => l.drop pos
  | pos, m :: ms => (l.drop pos).take (m.st - pos) ++ m.rep ++ outL l m.hd ms

section
variable {c : Cx} {fz : FZ} {s : Shared}
/- c, one piece of C's own work deeper -/
noncomputable def Cx.in1 (c : Cx) (k : Nat) (hk : c.k = k + 1) : Cx := { c with A := c.A.in1, k := k, room := Room.in1 (by rw [← hk]; exact c.room) }

structure LSt (c : Cx) (fz₀ : FZ) (s₀ : Shared) (L : Addr) (fz : FZ) (s : Shared) (ps : List (List Nat)) : Prop where
  nx : Next fz₀ s₀ fz s
  I : Inv c.G fz s
  lo : s₀.heap.objs.size ≤ L
  big : 95 < s₀.heap.objs.size
  no : fz L = none
  ls : ∃ vs n, s.heap.get? L = some (listO vs n) ∧ Reps fz vs (ps.map fun x => .str (S x))
  tk : 1 ≤ s.toks

theorem LSt.next {fz₀ fz' : FZ} {s₀ s' : Shared} {L : Addr} {ps : List (List Nat)} (X : LSt c fz₀ s₀ L fz s ps) (N : Next fz s fz' s') (I' : Inv c.G fz' s') (tk : 1 ≤ s'.toks) : LSt c fz₀ s₀ L fz' s' ps := by
  obtain ⟨vs, n, h, r⟩ := X.ls
  refine ⟨X.nx.trans N, I', X.lo, X.big, N.old _ (Heap.lt_size h) X.no, ⟨vs, n, N.keep _ _ (Nat.ne_of_gt (Nat.lt_of_lt_of_le (Nat.lt_trans (by decide) X.big) X.lo)) (Nat.ne_of_gt (Nat.lt_of_lt_of_le X.big X.lo)) h, r.mono N.mono⟩, tk⟩
theorem LSt.push {fz₀ : FZ} {s₀ : Shared} {L : Addr} {ps : List (List Nat)} {M : Model} {A : Around} {E : Value → Shared → Prop} {Q : Unit → Shared → Prop} {v : Value} {x : List Nat} (X : LSt c fz₀ s₀ L fz s ps) (r : Rep fz v (.str (S x))) (hlen : ps.length ≤ 1000000)
    (h : ∀ s', LSt c fz₀ s₀ L fz s' (ps ++ [x]) → s'.toks = s.toks → Q () s') : wpAny M A (updateSeq L (·.push v)) Q E s := by
  obtain ⟨vs, n, hg, rs⟩ := X.ls
  have hl := rs.length
  rw [List.length_map] at hl
  have hsz : sizeLine = 16777216 := by decide
  refine wpAny_updateSeq hg rfl (h _ ?_ rfl) (by rw [List.size_toArray]; (first | lia | omega)) (by rw [Array.size_push, List.size_toArray]; (first | lia | omega))
  have hs : Heap.SameBut L s.heap (s.heap.update L (Obj.mapSeq (·.push v))) := Heap.SameBut.update ..
  have hup : (s.heap.update L (Obj.mapSeq (·.push v))).get? L = some (Obj.mapSeq (·.push v) (listO vs n)) := Heap.get?_update_self _ hg rfl
  obtain ⟨n', en⟩ : ∃ n', Obj.mapSeq (·.push v) (listO vs n) = listO (vs ++ [v]) n' := by
    unfold Obj.mapSeq listO
    simp only [List.push_toArray]
    exact ⟨_, rfl⟩
  refine ⟨⟨X.nx.mono, X.nx.old, by show _ ≤ (s.heap.update L _).objs.size; rw [hs.1]; exact X.nx.size, fun b o h1 h2 e => hs.extBut b o (Nat.ne_of_lt (Nat.lt_of_lt_of_le (Heap.lt_size e) X.lo)) (X.nx.keep b o h1 h2 e), X.nx.gens, X.nx.os⟩,
    X.I.but (tk := s.toks) hs.extBut X.no (Nat.ne_of_gt (Nat.lt_of_lt_of_le (Nat.lt_trans (by decide) X.big) X.lo)) (Nat.ne_of_gt (Nat.lt_of_lt_of_le X.big X.lo)), X.lo, X.big, X.no, ⟨vs ++ [v], n', ?_, ?_⟩, X.tk⟩
  · rw [show ({ s with heap := s.heap.update L (Obj.mapSeq (·.push v)) } : Shared).heap = s.heap.update L (Obj.mapSeq (·.push v)) from rfl, hup, en]
  · rw [List.map_append]
    exact rs.append (.cons r .nil)

theorem wpAny_whole {A : Around} {E : Value → Shared → Prop} {a : Addr} {code : List Nat} {groups : Nat} {x : Str} {t : Tok} {Q : ReTarget → Shared → Prop} (I : Inv c.G fz s) (hp : PatAt c a code groups)
    (h : Q { pattern := .ref a, string := .str x t, code := code.toArray, text := x.cps, kind := 0, groups := groups, pos := 0, lim := x.cps.size } s) : wpAny c.M A (reWholeTarget (.ref a) (.str x t)) Q E s := by
  obtain ⟨p, fl, gi, nm, q, n, h1, h2⟩ := hp.at_
  have e1 := I.ge (c.st.k _ _ h1)
  have e2 := I.ge (c.st.k _ _ h2)
  unfold reWholeTarget
  refine wpAny_bind (wpAny_fieldsOf e1 rfl ?_)
  refine wpAny_bind (wpAny_reTextOf ?_)
  refine wpAny_bind (wpAny_pure ?_)
  unfold reRawItems
  refine wpAny_bind (wpAny_bind (wpAny_seqItems e2 rfl (wpAny_pure ?_)))
  refine wpAny_pure ?_
  show Q { pattern := .ref a, string := .str x t, code := ((code.map fun k : Nat => rawInt k).toArray.map reRawOf).map (·.toNat), text := x.cps, kind := 0, groups := (groups : Int).toNat, pos := 0, lim := x.cps.size } s
  rw [raw_code, Int.toNat_natCast]
  exact h

noncomputable abbrev subArgs (pat : Addr) (l : List Nat) (t : Tok) (rp : Value) (way nn done start : Nat) (L : Addr) (wc : Bool) : Args :=
  ⟨[.ref pat, .str (S l) t, rp, rawInt way, rawInt 0, rawInt nn, rawInt done, rawInt start, .bool false, .ref L, .bool wc], []⟩

theorem LSt.freeze {fz₀ : FZ} {s₀ : Shared} {L : Addr} {ps : List (List Nat)} (X : LSt c fz₀ s₀ L fz s ps) : ∃ fz', Next fz₀ s₀ fz' s ∧ Inv c.G fz' s ∧ Rep fz' (.ref L) (.list (ps.map fun x => .str (S x))) := by
  obtain ⟨vs, n, hg, rs⟩ := X.ls
  exact ⟨_, X.nx.freeze X.no X.lo, X.I.freeze hg X.no (Nat.ne_of_gt (Nat.lt_of_lt_of_le (Nat.lt_trans (by decide) X.big) X.lo)) (Nat.ne_of_gt (Nat.lt_of_lt_of_le X.big X.lo)), .list (FZ.put_self _ _ _) (rs.mono (FZ.put_le X.no))⟩
theorem joinL_nil : ∀ ps : List (List Nat), joinL [] ps = ps.flatten
  | [] => rfl
  | [x] => by simp [joinL]
  | x :: y :: r => by rw [joinL, joinL_nil (y :: r)]; simp

theorem sub_out {wc : Bool} {nn : Nat} {v : Value} {fz₀ : FZ} {s₀ : Shared} {out : List Nat} {Q E : Value → Shared → Prop} (N₀ : Next fz₀ s₀ fz s) (I : Inv c.G fz s) (r : Rep fz v (.str (S out)))
    (hQ : ∀ v fz' s', Next fz₀ s₀ fz' s' → Inv c.G fz' s' → Rep fz' v (if wc then .tuple [.str (S out), .int nn] else .str (S out)) → Q v s') :
    wpAny c.M c.A.in1 (if wc = true then do
        let r ← holding [v] (do
          let k ← mkInt nn
          newTuple [v, k])
        ret r
      else ret v) (fun fin s' => match fin with | .done f => wants Q E (.ok f) s' | .again c' => c'.quiet = true ∧ codeAny c.M c.A c' (wants Q E) s') (fun e s' => wants Q E (.error e) s') s := by
  cases wc with
  | false =>
    rw [if_neg Bool.false_ne_true]
    rw [if_neg Bool.false_ne_true] at hQ
    exact wpAny_pure (hQ _ _ _ N₀ I r)
  | true =>
    rw [if_pos rfl]
    rw [if_pos rfl] at hQ
    refine wpAny_bind (wpAny_holding (wpAny_bind (wpAny_mkInt (wpAny_newTuple (wpAny_pure ?_) (by show 2 ≤ sizeLine; decide)))))
    refine finN (hf := by rfl) (c := c) I (fun v fz' s' N I' r' => hQ v fz' s' (N₀.trans N) I' r') (fun fz' hle e => .tuple e (.cons (r.mono hle) (.cons (.int _ _) .nil))) _
theorem sub_tail {wc : Bool} {nn : Nat} {L : Addr} {fz₀ : FZ} {s₀ : Shared} {ps : List (List Nat)} {l out : List Nat} {j : Nat} {Q E : Value → Shared → Prop} (hk : c.k = j + 1) (X : LSt c fz₀ s₀ L fz s ps) (hl : l.length ≤ 1000000) (hps : (ps.map fun x => x.length + ([] : List Nat).length).sum ≤ 16777216) (ho : ps.flatten = out)
    (hQ : ∀ v fz' s', Next fz₀ s₀ fz' s' → Inv c.G fz' s' → Rep fz' v (if wc then .tuple [.str (S out), .int nn] else .str (S out)) → Q v s') :
    wpAny c.M c.A.in1 (do
      let joiner ← reSlice (S l).cps 0 0 0
      let items ← seqItems? (.ref L)
      if (items.getD #[]).isEmpty = true then do
        let text ← pure joiner
        if wc = true then do
          let r ← holding [text] (do
            let k ← mkInt nn
            newTuple [text, k])
          ret r
        else ret text
      else do
        let text ← call (.builtin (if (0 == 0) = true then "str.join" else "bytes.join")) [joiner, .ref L]
        if wc = true then do
          let r ← holding [text] (do
            let k ← mkInt nn
            newTuple [text, k])
          ret r
        else ret text) (fun fin s' => match fin with | .done f => wants Q E (.ok f) s' | .again c' => c'.quiet = true ∧ codeAny c.M c.A c' (wants Q E) s') (fun e s' => wants Q E (.error e) s') s := by
  obtain ⟨fz₁, N₁, I₁, r₁⟩ := X.freeze
  refine wpAny_bind (wpAny_reSlice hl ?_)
  have e0 : (l.drop 0).take (0 - 0) = [] := by simp
  rw [e0]
  obtain ⟨vs, n, hg, rs⟩ := X.ls
  refine wpAny_bind (wpAny_seqItems hg rfl ?_)
  have N₂ : Next fz₀ s₀ fz₁ { s with toks := s.toks + 1 } := N₁.trans (Next.toks _)
  have I₂ := I₁.toks (s.toks + 1)
  cases hv : vs with
  | nil =>
    rw [hv] at rs
    cases ps with
    | cons _ _ => cases rs
    | nil =>
      rw [if_pos (show ((some (#[] : Array Value)).getD #[]).isEmpty = true from rfl)]
      refine wpAny_bind (wpAny_pure ?_)
      refine sub_out N₂ I₂ ?_ hQ
      rw [← ho]
      exact .str _ _
  | cons v vs' =>
    rw [if_neg (by show ¬ (Array.isEmpty (v :: vs').toArray) = true; simp)]
    refine wpAny_bind ?_
    have hj := op_join (c := c.in1 j hk) (sep := []) (xs := ps) (joinOk_of hps)
    rw [joinL_nil, ho] at hj
    exact hj fz₁ _ _ I₂ (Nat.le_succ_of_le X.tk) (.cons (.str _ _) (.cons r₁ .nil)) _ _ fun v fz' s' N I r => sub_out (c := c) (N₂.trans N) I r hQ

/- the last turn -/
theorem sub_end {pat : Addr} {code : List Nat} {g : Nat} {l : List Nat} {t : Tok} {rp : Value} {way nn pos : Nat} {L : Addr} {wc : Bool} {n : Nat} {fz₀ : FZ} {s₀ : Shared} {ps : List (List Nat)} {j : Nat} {Q E : Value → Shared → Prop} (hk : c.k = j + 1) (hp : PatAt c pat code g)
    (hway : (way = 0 ∧ ∃ z u, rp = .str z u) ∨ way = 1) (X : LSt c fz₀ s₀ L fz s ps) (hl : l.length ≤ 1000000) (hps : ps.length ≤ 1000000) (hpl : (ps.map List.length).sum ≤ 10000000)
    (hr : Runs n (Sre.forSearch code.toArray l.toArray g pos l.toArray.size false) Failed) (hn : n ≤ 100000000)
    (hQ : ∀ v fz' s', Next fz₀ s₀ fz' s' → Inv c.G fz' s' → Rep fz' v (if wc then .tuple [.str (S (ps.flatten ++ l.drop pos)), .int nn] else .str (S (ps.flatten ++ l.drop pos))) → Q v s') :
    codeAny c.M c.A (.builtin "re.Pattern.sub.loop" (subArgs pat l t rp way nn pos pos L wc)) (wants Q E) s := by
  refine codeAny_builtin entry_subloop ?_
  rw [Around.under_plainId plain_subloop]
  unfold «re.Pattern.sub.loop»
  dsimp only
  refine wpAny_bind (wpAny_whole X.I hp ?_)
  have e1 : ∀ ps : List (List Nat), (ps.map fun x => x.length + ([] : List Nat).length) = ps.map List.length := fun ps => by congr 1
  have e2 : (S l).cps.size = l.length := by show l.toArray.size = _; rw [List.size_toArray]
  have done : wpAny c.M c.A.in1 (if ((pos : Int)).toNat < (S l).cps.size then do
      let v ← reSlice (S l).cps 0 ((pos : Int)).toNat (S l).cps.size
      updateSeq L fun x => x.push v
      let joiner ← reSlice (S l).cps 0 0 0
      let items ← seqItems? (.ref L)
      if (items.getD #[]).isEmpty = true then do
        let text ← pure joiner
        if wc = true then do
          let r ← holding [text] (do
            let k ← mkInt nn
            newTuple [text, k])
          ret r
        else ret text
      else do
        let text ← call (.builtin (if (0 == 0) = true then "str.join" else "bytes.join")) [joiner, .ref L]
        if wc = true then do
          let r ← holding [text] (do
            let k ← mkInt nn
            newTuple [text, k])
          ret r
        else ret text
    else do
      let joiner ← reSlice (S l).cps 0 0 0
      let items ← seqItems? (.ref L)
      if (items.getD #[]).isEmpty = true then do
        let text ← pure joiner
        if wc = true then do
          let r ← holding [text] (do
            let k ← mkInt nn
            newTuple [text, k])
          ret r
        else ret text
      else do
        let text ← call (.builtin (if (0 == 0) = true then "str.join" else "bytes.join")) [joiner, .ref L]
        if wc = true then do
          let r ← holding [text] (do
            let k ← mkInt nn
            newTuple [text, k])
          ret r
        else ret text) (fun fin s' => match fin with | .done f => wants Q E (.ok f) s' | .again c' => c'.quiet = true ∧ codeAny c.M c.A c' (wants Q E) s') (fun e s' => wants Q E (.error e) s') s := by
    rw [Int.toNat_natCast]
    split
    · rename_i hlt
      rw [e2] at hlt
      refine wpAny_bind (wpAny_reSlice hl ?_)
      rw [e2, show (l.drop pos).take (l.length - pos) = l.drop pos by rw [List.take_of_length_le]; rw [List.length_drop]; exact Nat.le_refl _]
      refine wpAny_bind ((X.next (Next.toks (s.toks + 1)) (X.I.toks _) (Nat.le_succ_of_le X.tk)).push (.str _ _) hps fun s' X' _ => ?_)
      refine sub_tail hk X' hl ?_ (by rw [List.flatten_append]; simp) hQ
      rw [e1, List.map_append, List.sum_append]
      simp only [List.map_cons, List.map_nil, List.sum_cons, List.sum_nil, List.length_drop]
      (first | lia | omega)
    · rename_i hlt
      rw [e2] at hlt
      refine sub_tail hk X hl (by rw [e1]; (first | lia | omega)) ?_ hQ
      rw [List.drop_eq_nil_of_le (by (first | lia | omega)), List.append_nil]
  rcases hway with ⟨rfl, z, u, rfl⟩ | rfl
  · rw [if_pos (show (((0 : Nat) : Int) == 0) = true by decide)]
    refine wpAny_bind (wpAny_pure ?_)
    dsimp only
    rw [if_neg (by simp)]
    unfold reNextFound
    refine wpAny_bind (wpAny_notFound (by rw [Int.toNat_natCast]; exact hr) hn ?_)
    dsimp only
    exact done
  · rw [if_neg (show ¬ (((1 : Nat) : Int) == 0) = true by decide)]
    dsimp only
    rw [if_neg (by simp)]
    unfold reNextFound
    refine wpAny_bind (wpAny_notFound (by rw [Int.toNat_natCast]; exact hr) hn ?_)
    dsimp only
    exact done

theorem new2 {o₁ o₂ : Obj} {d : D} (I : Inv c.G fz s)
    (r : ∀ fz' : FZ, FZ.le fz fz' → fz' s.heap.objs.size = some o₁ → fz' (s.heap.push o₁).objs.size = some o₂ → Rep fz' (.ref (s.heap.push o₁).objs.size) d) (hf₁ : o₁.isFreed = false) (hf₂ : o₂.isFreed = false) :
    ∃ fz', Next fz s fz' { s with heap := (s.heap.push o₁).push o₂ } ∧ Inv c.G fz' { s with heap := (s.heap.push o₁).push o₂ } ∧ Rep fz' (.ref (s.heap.push o₁).objs.size) d :=
  fin2 (c := c) (Q := fun v s' => ∃ fz', Next fz s fz' s' ∧ Inv c.G fz' s' ∧ Rep fz' v d) I (fun _ fz' _ N I r => ⟨fz', N, I, r⟩) r hf₁ hf₂

/- what the function put in does with a match -/
noncomputable def Fn (c : Cx) (fzF : FZ) (l : List Nat) (rp : Value) (fr : List Nat → List Nat) : Prop := ∀ (st h b e : Nat) (fz : FZ) (s : Shared) (v : Value), b < e → e ≤ l.length → FZ.le fzF fz → Inv c.G fz s → 1 ≤ s.toks → Rep fz v (.mat (S l) [(st : Int), h, b, e]) → ∀ (Q E : Value → Shared → Prop),
  (∀ v fz' s', Next fz s fz' s' → Inv c.G fz' s' → Rep fz' v (.str (S (fr ((l.drop b).take (e - b))))) → Q v s') → wpAny c.M c.A.in1 (call rp [v]) Q E s

/- the matches, one behind the other -/
noncomputable def Chain (code : List Nat) (l : List Nat) (fr : List Nat → List Nat) : Nat → List Seg → Prop
  | pos, [] => ∃ n, n ≤ 100000000 ∧ Runs n (Sre.forSearch code.toArray l.toArray 1 pos l.toArray.size false) Failed
  | pos, m :: ms => (∃ n, n ≤ 100000000 ∧ Runs n (Sre.forSearch code.toArray l.toArray 1 pos l.toArray.size false) (fun x => Found x m.st m.hd #[some m.b, some m.e] 1 1)) ∧ pos ≤ m.st ∧ m.st < m.hd ∧ m.b < m.e ∧ m.e ≤ l.length ∧ m.rep = fr ((l.drop m.b).take (m.e - m.b)) ∧ Chain code l fr m.hd ms

theorem sub_hits {pat : Addr} {code : List Nat} {l : List Nat} {t : Tok} {rp : Value} {L : Addr} {fz₀ : FZ} {s₀ : Shared} {fr : List Nat → List Nat} {fzF : FZ} {j : Nat} {Q E : Value → Shared → Prop} (hk : c.k = j + 1) (hp : PatAt c pat code 1) (hF : Fn c fzF l rp fr) (hle₀ : FZ.le fzF fz₀) (hl : l.length ≤ 1000000) (hout : ∀ x : List Nat, (fr x).length ≤ x.length + 1)
    (out : List Nat) (hQ : ∀ v fz' s', Next fz₀ s₀ fz' s' → Inv c.G fz' s' → Rep fz' v (.str (S out)) → Q v s') : ∀ (ms : List Seg) (pos nn : Nat) (fz : FZ) (s : Shared) (ps : List (List Nat)), LSt c fz₀ s₀ L fz s ps → Chain code l fr pos ms →
      ps.length + 2 * ms.length ≤ 100000 → (ps.map List.length).sum + 10 * ms.length + (outL l pos ms).length ≤ 5000000 → ps.flatten ++ outL l pos ms = out → codeAny c.M c.A (.builtin "re.Pattern.sub.loop" (subArgs pat l t rp 1 nn pos pos L false)) (wants Q E) s
  | [], pos, nn, fz, s, ps, X, ⟨n, hn, hr⟩, h1, h2, ho => by
    rw [List.length_nil] at h1 h2
    refine sub_end hk hp (.inr rfl) X hl (by (first | lia | omega)) (by (first | lia | omega)) hr hn ?_
    intro v fz' s' N I r
    rw [if_neg Bool.false_ne_true] at r
    exact hQ v fz' s' N I (by rw [← ho]; exact r)
  | m :: ms, pos, nn, fz, s, ps, X, ⟨⟨n, hn, hr⟩, g1, g2, g3, g4, g5, g6⟩, h1, h2, ho => by
    have hsum : ∀ (ps : List (List Nat)) (x : List Nat), ((ps ++ [x]).map List.length).sum = (ps.map List.length).sum + x.length := fun ps x => by rw [List.map_append, List.sum_append]; simp
    have e2 : (S l).cps.size = l.length := by show l.toArray.size = _; rw [List.size_toArray]
    rw [List.length_cons] at h1 h2
    have houtl : (outL l pos (m :: ms)).length = ((l.drop pos).take (m.st - pos)).length + m.rep.length + (outL l m.hd ms).length := by
      rw [outL, List.length_append, List.length_append]
    refine codeAny_builtin entry_subloop ?_
    rw [Around.under_plainId plain_subloop]
    unfold «re.Pattern.sub.loop»
    dsimp only
    refine wpAny_bind (wpAny_whole X.I hp ?_)
    rw [if_neg (show ¬ (((1 : Nat) : Int) == 0) = true by decide)]
    dsimp only
    rw [if_neg (by simp)]
    unfold reNextFound
    refine wpAny_bind (wpAny_found (P := fun x => Found x m.st m.hd #[some m.b, some m.e] 1 1) (by rw [Int.toNat_natCast]; exact hr) hn (fun m' F => F.o) fun m' F => ?_)
    dsimp only
    rw [F.start, F.handed, Int.toNat_natCast]
    -- the rest of the turn, with the text ahead of the match put away
    have rest : ∀ (s₁ : Shared) (ps₁ : List (List Nat)), LSt c fz₀ s₀ L fz s₁ ps₁ → ps₁.length ≤ ps.length + 1 → ps₁.flatten = ps.flatten ++ (l.drop pos).take (m.st - pos) → (ps₁.map List.length).sum = (ps.map List.length).sum + ((l.drop pos).take (m.st - pos)).length →
        wpAny c.M c.A.in1 (do
          let found ← reNewMatch (.ref pat) (.str (S l) t) 1 0 (S l).cps.size m'
          let item ← holding [found] (if (((1 : Nat) : Int) == 1) = true then call rp [found] else do
            let x ← reFound found
            reExpand rp x)
          if (item != .none) = true then do
            updateSeq L fun x => x.push item
            again (.builtin "re.Pattern.sub.loop" ⟨[.ref pat, .str (S l) t, rp, rawInt ((1 : Nat) : Int), rawInt 0, rawInt ((nn : Int) + 1), rawInt m.hd, rawInt m.hd, .bool (m.hd == m.st), .ref L, .bool false], []⟩)
          else
            again (.builtin "re.Pattern.sub.loop" ⟨[.ref pat, .str (S l) t, rp, rawInt ((1 : Nat) : Int), rawInt 0, rawInt ((nn : Int) + 1), rawInt m.hd, rawInt m.hd, .bool (m.hd == m.st), .ref L, .bool false], []⟩))
          (fun fin s' => match fin with | .done f => wants Q E (.ok f) s' | .again c' => c'.quiet = true ∧ codeAny c.M c.A c' (wants Q E) s') (fun e s' => wants Q E (.error e) s') s₁ := by
      intro s₁ ps₁ X₁ q1 q2 q3
      refine wpAny_bind (wpAny_newMatch1 F (Nat.le_of_lt g3) ?_)
      obtain ⟨fz₂, N₂, I₂, r₂⟩ := new2 (hf₁ := by rfl) (hf₂ := by rfl) (c := c) (d := .mat (S l) [(m.st : Int), m.hd, m.b, m.e]) (o₁ := tupO ([(m.st : Int), m.hd, m.b, m.e].map rawInt) 0) (o₂ := { cls := .type "re.Match", data := .fields #[.str (S l) t, .ref pat, rawInt (0 : Nat), rawInt ((S l).cps.size : Nat), rawInt 1, .ref s₁.heap.objs.size] }) X₁.I fun fz' hle h1 h2 => .mat h2 h1
      have X₂ := X₁.next N₂ I₂ X₁.tk
      refine wpAny_bind (wpAny_holding ?_)
      rw [if_pos (show (((1 : Nat) : Int) == 1) = true by decide)]
      refine wpAny_mono (wpAny_with_toks (Q := fun v s' => _) X₁.tk (hF m.st m.hd m.b m.e fz₂ _ _ g3 g4 (fun a o e => N₂.mono _ _ (X₁.nx.mono _ _ (hle₀ a o e))) I₂ X₁.tk r₂ (fun v s' => 1 ≤ s'.toks → _) (fun e s' => 1 ≤ s'.toks → _) fun v fz₃ s₃ N₃ I₃ r₃ tk₃ => ?_)) (fun _ _ x => x) fun _ _ x => x
      have X₃ := X₂.next N₃ I₃ tk₃
      obtain ⟨u, rfl⟩ := r₃.inv
      ·
        rw [if_pos (show ((Value.str (S (fr ((l.drop m.b).take (m.e - m.b)))) u) != .none) = true from rfl)]
        refine wpAny_bind (X₃.push (.str _ _) (by (first | lia | omega)) fun s₄ X₄ _ => ?_)
        rw [show (m.hd == m.st) = false from beq_eq_false_iff_ne.mpr (by (first | lia | omega))]
        refine wpAny_pure ⟨quiet_subloop _, ?_⟩
        rw [← g5] at X₄
        have hrep : m.rep.length ≤ 10 + m.rep.length := by (first | lia | omega)
        refine sub_hits hk hp hF hle₀ hl hout out hQ ms m.hd (nn + 1) fz₃ s₄ _ X₄ g6 ?_ ?_ ?_
        · rw [List.length_append, List.length_cons, List.length_nil]; (first | lia | omega)
        · rw [hsum, q3]; (first | lia | omega)
        · rw [List.flatten_append, q2, ← ho, outL]
          simp
    split
    · rename_i hlt
      refine wpAny_bind (wpAny_reSlice hl ?_)
      refine wpAny_bind ((X.next (Next.toks (s.toks + 1)) (X.I.toks _) (Nat.le_succ_of_le X.tk)).push (.str _ _) (by (first | lia | omega)) fun s' X' _ => ?_)
      rw [if_neg (show ¬ (((1 : Nat) : Int) == 0) = true by decide)]
      exact rest s' _ X' (by rw [List.length_append]; exact Nat.le_refl _) (by rw [List.flatten_append]; simp) (hsum _ _)
    · rename_i hlt
      rw [if_neg (show ¬ (((1 : Nat) : Int) == 0) = true by decide)]
      have e0 : (l.drop pos).take (m.st - pos) = [] := by rw [show m.st - pos = 0 by (first | lia | omega)]; rfl
      exact rest s _ X (Nat.le_succ _) (by rw [e0, List.append_nil]) (by rw [e0]; rfl)
end
end Mine
end R8

section R9
open PySem PySem.W PySem.Spec PySem.Calls PyProof.Rows
open PySem.Builtin PySem.Builtin.Re
namespace Mine
theorem nocall_str : typeLookup (.type "str") "__call__" = pure none := by rw [typeLookup_type, builtinLookup_eq_fast]; kernel_rfl
theorem nosub_str_ba : isSubtype (.type "str") (.type "bytearray") = pure false := by rw [isSubtype_type]; kernel_rfl
theorem reNamedSub (id f : String) (r v : Value) : reNamed id f ["repl", "string", "count"] 2 [r, v] [] = (pure [some r, some v, none] : Sem (List (Option Value))) := by
  rfl

section
variable {c : Cx} {ρ : List (Str × D)} {own : List Ow} {fz : FZ} {s : Shared} {d : D}
theorem newList_LSt {A : Around} {E : Value → Shared → Prop} {Q : Value → Shared → Prop} (I : Inv c.G fz s) (tk : 1 ≤ s.toks) (h : ∀ L s', LSt c fz s L fz s' [] → Q (.ref L) s') : wpAny c.M A (newList []) Q E s := by
  refine wpAny_newList ?_ (by decide)
  exact h _ _ ⟨Next.push _ s.toks, I.push _ s.toks, Nat.le_refl _, I.lt95, I.fresh (Nat.le_refl _), ⟨[], 0, Heap.get?_push_size _ rfl, .nil⟩, tk⟩

/- one match at the head, and a text put in that is nothing -/
theorem sub_lit {pat : Addr} {code : List Nat} {l : List Nat} {t u : Tok} {L : Addr} {n n' : Nat} {fz₀ : FZ} {s₀ : Shared} {j h : Nat} {Q E : Value → Shared → Prop} (hk : c.k = j + 1) (hp : PatAt c pat code 0) (X : LSt c fz₀ s₀ L fz s []) (hl : l.length ≤ 1000000)
    (hr : Runs n (Sre.forSearch code.toArray l.toArray 0 0 l.toArray.size false) (fun m => Found m 0 (h + 1) #[] (-1) (-1))) (hn : n ≤ 100000000)
    (hr' : Runs n' (Sre.forSearch code.toArray l.toArray 0 (h + 1) l.toArray.size false) Failed) (hn' : n' ≤ 100000000)
    (hQ : ∀ v fz' s', Next fz₀ s₀ fz' s' → Inv c.G fz' s' → Rep fz' v (.tuple [.str (S (l.drop (h + 1))), .int 1]) → Q v s') :
    codeAny c.M c.A (.builtin "re.Pattern.sub.loop" (subArgs pat l t (.str (S []) u) 0 0 0 0 L true)) (wants Q E) s := by
  refine codeAny_builtin entry_subloop ?_
  rw [Around.under_plainId plain_subloop]
  unfold «re.Pattern.sub.loop»
  dsimp only
  refine wpAny_bind (wpAny_whole X.I hp ?_)
  rw [if_pos (show (((0 : Nat) : Int) == 0) = true by decide)]
  refine wpAny_bind (wpAny_pure ?_)
  dsimp only
  rw [if_neg (by simp)]
  unfold reNextFound
  refine wpAny_bind (wpAny_found (P := fun m => Found m 0 (h + 1) #[] (-1) (-1)) (by rw [Int.toNat_natCast]; exact hr) hn (fun m' F => F.o) fun m' F => ?_)
  dsimp only
  rw [F.start, F.handed, if_neg (show ¬ ((0 : Nat) : Int).toNat < 0 from Nat.not_lt_zero _), if_pos (show (((0 : Nat) : Int) == 0) = true by decide)]
  refine wpAny_bind (wpAny_pure ?_)
  rw [if_pos (show ((Value.str (S []) u) != .none) = true from rfl)]
  refine wpAny_bind (X.push (x := []) (.str _ _) (by decide) fun s₂ X₂ _ => ?_)
  rw [show (h + 1 == 0) = false from rfl]
  refine wpAny_pure ⟨quiet_subloop _, ?_⟩
  refine sub_end (c := c) (l := l) (way := 0) (nn := 1) (pos := h + 1) (wc := true) hk hp (.inl ⟨rfl, _, _, rfl⟩) X₂ hl (by decide) (by decide) hr' hn' ?_
  intro v fz' s' N I' r'
  rw [if_pos rfl] at r'
  exact hQ v fz' s' N I' r'
theorem op_subn_twin {a : Addr} {x : Nat} {r : List Nat} {j : Nat} (hk : c.k = j + 1) (hp : PatAt c a cTWIN.toList 0) (hx : x ∈ alpha ∧ fTok x = true) (hl : r.length ≤ 900000) :
    OPs c (fun vs => call (.builtin "re.Pattern.subn") vs) [.obj a, .str (S []), .str (S (59 :: 32 :: x :: r))] (.tuple [.str (S (x :: r)), .int 1]) := fun fz s vs I tk rr Q E hQ => by
  obtain ⟨_, _, rfl, r₁, rr⟩ := rr.inv
  · obtain ⟨_, _, rfl, r₂, rr⟩ := rr.inv
    · obtain ⟨_, _, rfl, r₃, rr⟩ := rr.inv
      · obtain rfl := rr.inv
        · obtain rfl := r₁.inv; obtain ⟨u, rfl⟩ := r₂.inv
          · obtain ⟨t, rfl⟩ := r₃.inv
            ·
              have hl' : (59 :: 32 :: x :: r).length ≤ 1000000 := by simp only [List.length_cons]; (first | lia | omega)
              refine call_body slot_subn (obj_ty hp I) entry_subn (args_subn _ _ _) ?_
              unfold «re.Pattern.subn» reSubstitute
              dsimp only
              rw [reNamedSub]
              refine wpAny_bind (wpAny_pure ?_)
              refine wpAny_bind (wpAny_pure ?_)
              refine wpAny_bind (wpAny_specialOf (typeIs_str _ _ _) nocall_str ?_)
              refine wpAny_bind (wpAny_pure ?_)
              dsimp only
              refine wpAny_bind (wpAny_pure ?_)
              rw [if_neg (show ¬ (none : Option Value).isSome = true by decide), if_pos (show (!(S []).cps.contains 92) = true by show (!(#[] : Array Nat).contains 92) = true; simp)]
              refine wpAny_bind (wpAny_pure ?_)
              dsimp only
              refine wpAny_bind (wpAny_holding (wpAny_whole I hp ?_))
              rw [if_neg (by decide)]
              refine wpAny_bind (newList_LSt I tk fun L s₁ X₁ => ?_)
              refine wpAny_pure ⟨quiet_subloop _, ?_⟩
              refine sub_lit (c := c) (h := 1) (l := 59 :: 32 :: x :: r) (n := 10) (n' := 3 * (59 :: 32 :: x :: r).length + 20) hk hp X₁ hl' ?_ (by (first | lia | omega)) ?_ (by (first | lia | omega)) ?_
              · exact twin_match (c := x) (r := r) hx (by (first | lia | omega))
              · rw [List.size_toArray]; exact twin_no (l := 59 :: 32 :: x :: r) (p := 2) (by decide) (by simp only [List.length_cons]; (first | lia | omega))
              · exact hQ

/- PATTERN.sub(f, text) with a function -/
theorem call_sub {a f : Addr} {code : List Nat} {l : List Nat} {t : Tok} {fr : List Nat → List Nat} {ms : List Seg} {j : Nat} {Q E : Value → Shared → Prop} (hk : c.k = j + 1) (hp : PatAt c a code 1) (I : Inv c.G fz s) (tk : 1 ≤ s.toks) (hf : s.TypeIs (.ref f) "function") (hF : Fn c fz l (.ref f) fr) (hl : l.length ≤ 1000000)
    (hout : ∀ x : List Nat, (fr x).length ≤ x.length + 1) (hc : Chain code l fr 0 ms) (hms : ms.length ≤ 40000) (hol : (outL l 0 ms).length ≤ 1000000)
    (hQ : ∀ v fz' s', Next fz s fz' s' → Inv c.G fz' s' → Rep fz' v (.str (S (outL l 0 ms))) → Q v s') : wpAny c.M c.A (call (.builtin "re.Pattern.sub") [.ref a, .ref f, .str (S l) t]) Q E s := by
  refine call_body slot_sub (obj_ty hp I) entry_sub (args_sub _ _ _) ?_
  unfold «re.Pattern.sub» reSubstitute
  dsimp only
  rw [reNamedSub]
  refine wpAny_bind (wpAny_pure ?_)
  refine wpAny_bind (wpAny_pure ?_)
  refine wpAny_bind (wpAny_specialOf hf call_look_function ?_)
  rw [if_pos (show (some (Value.builtin "function.__call__")).isSome = true from rfl)]
  refine wpAny_bind (wpAny_pure ?_)
  rw [if_pos (show (some (Value.builtin "function.__call__")).isSome = true from rfl)]
  refine wpAny_bind (wpAny_pure ?_)
  dsimp only
  refine wpAny_bind (wpAny_holding (wpAny_whole I hp ?_))
  rw [if_pos (by decide)]
  refine wpAny_bind ?_
  unfold reNotHeld
  refine wpAny_bind ?_
  unfold isInstance
  refine wpAny_bind (wpAny_pure ?_)
  rw [nosub_str_ba]
  refine wpAny_pure ?_
  rw [if_neg Bool.false_ne_true]
  refine wpAny_pure ?_
  refine wpAny_bind (newList_LSt I tk fun L s₁ X₁ => ?_)
  refine wpAny_pure ⟨quiet_subloop _, ?_⟩
  refine sub_hits (c := c) hk hp hF (fun a o e => e) hl hout (outL l 0 ms) ?_ ms 0 0 fz s₁ [] X₁ hc ?_ ?_ ?_
  · intro v fz' s' N I' r'
    exact hQ v fz' s' N I' r'
  · simp only [List.length_nil]; (first | lia | omega)
  · simp only [List.map_nil, List.sum_nil]; (first | lia | omega)
  · simp
end
end Mine
end R9

section R10
open PySem PySem.W PySem.Spec PySem.Calls PyProof.Rows
open PySem.Builtin PySem.Builtin.Re
namespace Mine

section
variable {c : Cx} {ρ : List (Str × D)} {own : List Ow} {fz : FZ} {s : Shared} {d : D}

/- f is a lambda of the text: its code's record has the name qual -/
noncomputable def LamAt (fz : FZ) (f : Addr) (qual : Str) (params : Arguments) (body : PySem.Expr) (scope : Scope) : Prop :=
  ∃ c' ctv pm oc vs t, fz f = some { cls := .type "function", data := .func (kla_fn "<lambda>" qual params body scope [] pm (.ref c') ctv) } ∧ fz c' = some oc ∧ oc.data = .fields vs ∧ vs[1]? = some (.str qual t)

theorem lam_call {fzF : FZ} {f : Addr} {qual x : Str} {params : Arguments} {body : PySem.Expr} {scope : Scope} {d₁ : D} {j : Nat} {v : Value} {Q E : Value → Shared → Prop} (hk : c.k = j + 2) (hL : LamAt fzF f qual params body scope) (hle : FZ.le fzF fz) (I : Inv c.G fz s) (tk : 1 ≤ s.toks) (r : Rep fz v d₁)
    (hbind : ∀ pm c' ctv v, bindArgs (kla_fn "<lambda>" qual params body scope [] pm (.ref c') ctv) ⟨[v], []⟩ = pure [(x, v)]) (hloc : scope.names.lookup x = some .local) (hco : scope.isCoroutine = false) (hgen : scope.isGenerator = false) (hkind : scope.kind = .function) (hcell : ∀ y ∈ scope.names, y.2 ≠ .cell)
    (h : ∀ c' : Cx, c'.w = c.w → c'.G = c.G → c'.k = j → (∃ cd L, c'.env = defEnv scope qual cd f L) → EV c' [(x, d₁)] [] body d)
    (hQ : ∀ v fz' s', Next fz s fz' s' → Inv c.G fz' s' → Rep fz' v d → Q v s') : wpAny c.M c.A.in1 (call (.ref f) [v]) Q E s := by
  obtain ⟨mg, mb, T⟩ := c.st.top
  obtain ⟨cc, ctv, pm, oc, vs, t, h1, h2, h3, h4⟩ := hL
  have e1 := I.le _ _ (hle _ _ h1)
  have e2 := I.le _ _ (hle _ _ h2)
  have R1 : Room c.A.in1 (j + 1) := Room.in1 (by rw [← hk]; exact c.room)
  refine wpAny_call (kla_callFunE R1.dlt e1 rfl hco hgen rfl ⟨cc, oc, vs, t, rfl, e2, h3, h4⟩ ?_)
  rw [hbind]
  refine wpAny_pure (wpAny_newFunctionEnv hcell (fun y hy => ?_) (fun h' hn hs => ?_) hkind)
  · rw [List.mem_singleton.mp hy]; exact hloc
  · have hk' : ∀ b o, s.heap.get? b = some o → h'.get? b = some o := fun b o e => hs.extBut b o (Nat.ne_of_lt (Heap.lt_size e)) (Heap.get?_push_of_some _ e)
    refine ⟨T.nolimit.keeps fun b o e => hk' _ _ (I.ge e), ?_⟩
    let env : Env := defEnv scope qual (.ref cc) f s.heap.objs.size
    let c' : Cx := { w := c.w, G := c.G, A := c.A.in1.deeper env, env := env, fz₀ := fz, s₀ := s, k := j, st := c.st, room := Room.deeper R1, kind := hkind, glob := rfl, bi := rfl, big := I.lt95 }
    have hext : Heap.ExtBut s.heap.objs.size s.heap h' := fun b o hb e => hk' b o e
    have hsz : s.heap.objs.size ≤ h'.objs.size := by rw [hs.1, Heap.size_push]; (first | lia | omega)
    have F : Frm c' [(x, d₁)] [] fz { s with heap := h', toks := s.toks + 1 } := by
      obtain ⟨N, I'⟩ := ext_next (c := c') (tk := s.toks + 1) I hext hsz
      refine ⟨N, I', ⟨_, hn, fun y e he => ?_, fun q hq => nomatch hq⟩, ⟨Nat.le_refl _, I.fresh (Nat.le_refl _)⟩, fun q hq => (nomatch hq), List.nodup_nil, Nat.le_trans tk (Nat.le_add_right _ _), Kept.none rfl rfl rfl⟩
      rw [List.lookup_cons] at he
      split at he
      · rename_i hq
        cases he
        have hq := beq_iff_eq.mp hq
        subst hq
        refine ⟨v, .inl ⟨hloc, ?_⟩, r⟩
        show List.lookup y [(y, v)] = some v
        rw [List.lookup_cons, beq_self_eq_true]
      · cases he
    refine kla_codeExpr ?_
    exact h c' rfl rfl rfl ⟨_, _, rfl⟩ fz _ F _ _ fun v fz' s' N F' r' => hQ v fz' s' ((ext_next (c := c') (tk := s.toks + 1) I hext hsz).1.trans N) F'.I r'

/- a lambda is made -/
theorem ev_lam {params : Arguments} {body : PySem.Expr} {scope : Scope} {pos : Pos} {x : Lam} {cc : Addr} {v : Value} {Q E : Value → Shared → Prop} (F : Frm c ρ own fz s) (hx : x = lamS ∨ x = lamJ) (hcode : c.env.code = .ref cc) (C : CodeHd c.G cc x.tab) (hqual : c.env.qual ++ "<lambda>" = x.qual) (hline : pos.line = x.line) (hcol : pos.col = x.col)
    (hcl : closureFor scope c.env = pure []) (hdef : defaultsOf params c.env = ([], []))
    (hQ : ∀ f fz' s', Next fz s fz' s' → Inv c.G fz' s' → LamAt fz' f x.qual params body scope → Q (.ref f) s') : wpAny c.M c.A (eval (.Lambda params body scope pos) c.env) Q E s := by
  obtain ⟨mg, mb, T⟩ := c.st.top
  have hge : ∀ b o, c.G.get? b = some o → s.heap.get? b = some o := fun b o e => F.I.ge e
  refine kla_eval hdef ?_
  rw [hqual]
  have hg := T.g.keeps hge
  obtain ⟨bm, ob, b1, b2, b3, b4, b5, b6⟩ := T.bmain
  have htab : TabOK fz s.heap x := by
    rcases hx with rfl | rfl
    · exact F.I.t78
    · exact F.I.t95
  have hno : fz x.tab = none := by
    rcases hx with rfl | rfl
    · exact F.I.f78
    · exact F.I.f95
  have hnG : ∀ o, c.G.get? x.tab ≠ some o := fun o e => by rw [F.I.base _ _ e] at hno; cases hno
  have hgP : mainGlobals ≠ x.tab := fun q => by
    obtain ⟨o, es, ep, e, hd, _⟩ := T.g
    rw [q] at e; exact hnG _ e
  have hbP : bm ≠ x.tab := fun q => by rw [q] at b3; exact hnG _ b3
  have hbG : bm ≠ mainGlobals := fun q => by
    obtain ⟨o, es, ep, e, hd, _⟩ := T.g
    rw [q, e] at b3; cases b3; rw [hd] at b6; cases b6
  have hb : s.heap.BuiltinsAt mg x.tab := ⟨bm, ob, b1, b2, hbG, hbP, hge _ _ b3, b4, b5, b6⟩
  rcases htab with e | ⟨c', oc, vs, t, e, hc, hd, hv⟩
  · refine kla_makeFunction (mg := mg) hcl c.glob hg hcode (C.keeps hge) e trivial rfl hgP hb fun c' ctv h' tk hx' hge' hlt hrec htb => ?_
    obtain ⟨c₂, oc, vs, t, e2, hoc, hd, hv⟩ := hrec
    cases e2
    have hn : fz c' = none := F.I.fresh hge'
    have hc78 : (78 : Nat) ≠ c' := Nat.ne_of_lt (Nat.lt_of_lt_of_le F.I.lt78 hge')
    have hc95 : (95 : Nat) ≠ c' := Nat.ne_of_lt (Nat.lt_of_lt_of_le F.I.lt95 hge')
    have tabx : TabOK (fz.put c' oc) h' x := by
      refine .inr ⟨c', oc, vs, t, ?_, FZ.put_self _ _ _, hd, hv⟩
      rw [htb, hline, hcol]; rfl
    have N₁ : Next fz s (fz.put c' oc) { s with heap := h', toks := tk } := by
      refine ⟨FZ.put_le hn, fun a ha h => ?_, Nat.le_trans hge' (Nat.le_of_lt hlt), fun a o h1 h2 h => hx' a o ?_ h, fun _ _ h => h, rfl⟩
      · rw [FZ.put_ne _ _ (Nat.ne_of_lt (Nat.lt_of_lt_of_le ha hge'))]; exact h
      · rcases hx with rfl | rfl
        · exact h1
        · exact h2
    have I₁ : Inv c.G (fz.put c' oc) { s with heap := h', toks := tk } := by
      refine ⟨fun b o h => FZ.put_le hn _ _ (F.I.base b o h), fun b o h => ?_, ?_, ?_, ?_, ?_, F.I.gens⟩
      · unfold FZ.put at h
        split at h
        · rename_i q; subst q; cases h; exact hoc
        · exact hx' b o (fun q => by rw [q] at h; rw [hno] at h; cases h) (F.I.le b o h)
      · rcases hx with rfl | rfl
        · exact tabx
        · refine F.I.t78.mono (FZ.put_le hn) ?_
          obtain ⟨o, h⟩ := F.I.t78.get
          show s.heap.get? 78 = h'.get? 78
          rw [show s.heap.get? 78 = some o from h, hx' 78 o (by decide) h]
      · rcases hx with rfl | rfl
        · refine F.I.t95.mono (FZ.put_le hn) ?_
          obtain ⟨o, h⟩ := F.I.t95.get
          show s.heap.get? 95 = h'.get? 95
          rw [show s.heap.get? 95 = some o from h, hx' 95 o (by decide) h]
        · exact tabx
      · rw [FZ.put_ne _ _ hc78]; exact F.I.f78
      · rw [FZ.put_ne _ _ hc95]; exact F.I.f95
    obtain ⟨N₂, I₂, e₂⟩ := new_fz (hf := by rfl) I₁ (kla_obj "<lambda>" x.qual params body scope [] ((mg "__name__").getD .none) c' ctv) tk
    exact hQ _ _ _ (N₁.trans N₂) I₂ ⟨c', ctv, _, oc, vs, t, e₂, N₂.mono _ _ (FZ.put_self _ _ _), hd, hv⟩
  · refine kla_makeFunctionHit (mg := mg) (cv := .ref c') hcl c.glob hg hcode (C.keeps hge) e trivial ?_ hb fun ctv h' tk hk hsz => ?_
    · show codeAmong pos [rawInt x.line, rawInt x.col, .ref c'] = some (.ref c')
      rw [← hline, ← hcol]
      simp [codeAmong, rawInt]
    · obtain ⟨N₁, I₁⟩ := ext_next (c := c) (tk := tk) F.I (fun b o _ e => hk b o e) hsz
      obtain ⟨N₂, I₂, e₂⟩ := new_fz (hf := by rfl) I₁ (kla_obj "<lambda>" x.qual params body scope [] ((mg "__name__").getD .none) c' ctv) tk
      exact hQ _ _ _ (N₁.trans N₂) I₂ ⟨c', ctv, _, oc, vs, t, e₂, N₂.mono _ _ hc, hd, hv⟩
end
end Mine
end R10

section R11
open PySem PySem.W PySem.Spec PySem.Calls PyProof.Rows
open PySem.Builtin PySem.Builtin.Re
namespace Mine

section
variable {c : Cx} {ρ : List (Str × D)} {own : List Ow} {fz : FZ} {s : Shared} {d : D}

theorem ev_or {a b : PySem.Expr} {rest : List PySem.Expr} {pos : Pos} (ha : EV c ρ own a d) (h : OPT c d true) : EV c ρ own (.BoolOp .Or (a :: b :: rest) pos) d := EV.mk fun fz s F Q E hQ =>
  BoolOp_or (ha fz s F _ _ fun v fz₁ s₁ N₁ F₁ r₁ => h fz₁ s₁ v F₁.I F₁.tk r₁ _ _ fun fz₂ s₂ N₂ I₂ => by
    rw [if_pos rfl]
    exact hQ v fz₂ s₂ (N₁.trans N₂) I₂ (r₁.mono N₂.mono))

theorem ev_resub {o e : PySem.Expr} {apos pos lpos : Pos} {a : Addr} {code l : List Nat} {fr : List Nat → List Nat} {ms : List Seg} {j : Nat} {params : Arguments} {body : PySem.Expr} {scope : Scope} {x : Lam} {cc : Addr} (hk : c.k = j + 1) (hp : PatAt c a code 1)
    (ho : EV c ρ own o (.obj a)) (hob : ∃ ob, (hd.heap_39 c.w.params).lookup a = some ob ∧ ob.dict = none)
    (hx : x = lamS ∨ x = lamJ) (hcode : c.env.code = .ref cc) (C : CodeHd c.G cc x.tab) (hqual : c.env.qual ++ "<lambda>" = x.qual) (hline : lpos.line = x.line) (hcol : lpos.col = x.col) (hcl : closureFor scope c.env = pure []) (hdef : defaultsOf params c.env = ([], []))
    (he : EV c ρ own e (.str (S l))) (hF : ∀ f fz, LamAt fz f x.qual params body scope → Fn c fz l (.ref f) fr) (hl : l.length ≤ 1000000)
    (hout : ∀ x : List Nat, (fr x).length ≤ x.length + 1) (hc : Chain code l fr 0 ms) (hms : ms.length ≤ 40000) (hol : (outL l 0 ms).length ≤ 1000000)
    (hbase : attributeBase o (Str.ofString "sub") c.env (eval o c.env) = eval o c.env) (hpl : ([PySem.Expr.Lambda params body scope lpos, e].all fun e => match e with | .Starred .. => false | _ => true) = true)
    (hline' : (apos.endLine == pos.line) = true) (hs : ∀ env, starEach [PySem.Expr.Lambda params body scope lpos, e] env = [(false, eval (.Lambda params body scope lpos) env), (false, eval e env)]) :
    EV c ρ own (.Call (.Attribute o (Str.ofString "sub") apos) [.Lambda params body scope lpos, e] [] pos) (.str (S (outL l 0 ms))) := EV.mk fun fz s F Q E hQ => by
  have hst := plain_args (c := c) (pos := pos) hpl
  refine wpAny_Call_method hbase ?_ hline' plain_pat slot_sub type_sub ?_
  · rw [Bool.and_eq_true, Bool.and_eq_true]
    exact ⟨⟨List.all_eq_true.mpr fun x hx => by rw [hst x hx]; rfl, rfl⟩, rfl⟩
  refine ho fz s F _ _ fun v fz₁ s₁ N₁ F₁ r₁ => ?_
  obtain rfl := r₁.inv
  obtain ⟨ob, hob1, hob2⟩ := hob
  refine ⟨obj_ty hp F₁.I, fun b q => by cases q; exact ⟨ob, F₁.I.ge (c.st.k _ _ hob1), hob2⟩, callWith_builtin (List.any_eq_false.mpr fun x hx => by rw [hst x hx]; exact Bool.false_ne_true) (args_any hst ?_)⟩
  rw [hs]
  show wpAny _ _ (spliced [(false, eval (.Lambda params body scope lpos) c.env), (false, eval e c.env)]) _ _ _
  refine Calls.spliced_cons ?_
  refine wpAny_mono (wpAny_with_toks (Q := fun v s' => _) F₁.tk (ev_lam F₁ hx hcode C hqual hline hcol hcl hdef (Q := fun v s' => 1 ≤ s'.toks → _) (E := fun e s' => 1 ≤ s'.toks → _) (v := .none) fun f fz₂ s₂ N₂ I₂ hL tk₂ => ?_)) (fun _ _ x => x) fun _ _ x => x
  have F₂ := F₁.next N₂ I₂ tk₂
  refine Calls.spliced_cons (he fz₂ s₂ F₂ _ _ fun v fz₃ s₃ N₃ F₃ r₃ => Calls.spliced_nil ?_)
  obtain ⟨t, rfl⟩ := r₃.inv
  ·
    have hL₃ : LamAt fz₃ f x.qual params body scope := by
      obtain ⟨c', ctv, pm, oc, vs, t, g1, g2, g3, g4⟩ := hL
      exact ⟨c', ctv, pm, oc, vs, t, N₃.mono _ _ g1, N₃.mono _ _ g2, g3, g4⟩
    have hty : s₃.TypeIs (.ref f) "function" := by
      obtain ⟨c', ctv, pm, oc, vs, t, g1, g2, g3, g4⟩ := hL₃
      exact ⟨_, F₃.I.le _ _ g1, rfl⟩
    exact call_sub hk hp F₃.I F₃.tk hty (hF f fz₃ hL₃) hl hout hc hms hol fun v fz' s' N I r => hQ v fz' s' (((N₁.trans N₂).trans N₃).trans N) I r
end
end Mine
end R11

section R12
open PySem PySem.W PySem.Spec PySem.Calls PyProof.Rows
open PySem.Builtin PySem.Builtin.Re
namespace Mine

noncomputable def escL (l : List Nat) : List Nat := l.flatMap fun c => if fJE c then [92, c] else [c]
theorem escL_nil : escL [] = [] := rfl
theorem escL_cons (c : Nat) (r : List Nat) : escL (c :: r) = (if fJE c then [92, c] else [c]) ++ escL r := rfl
theorem escL_app (a b : List Nat) : escL (a ++ b) = escL a ++ escL b := by unfold escL; rw [List.flatMap_append]
theorem escL_len (l : List Nat) : l.length ≤ (escL l).length ∧ (escL l).length ≤ 2 * l.length := by
  induction l with
  | nil => exact ⟨Nat.le_refl _, Nat.le_refl _⟩
  | cons c r ih =>
    rw [escL_cons, List.length_append, List.length_cons]
    split <;> simp only [List.length_cons, List.length_nil] <;> (first | lia | omega)
theorem escL_alpha {l : List Nat} (h : ∀ c ∈ l, c ∈ alpha) : ∀ c ∈ escL l, c ∈ alpha := by
  intro c hc
  unfold escL at hc
  obtain ⟨x, hx, hm⟩ := List.mem_flatMap.mp hc
  split at hm
  · rcases List.mem_cons.mp hm with rfl | hm
    · decide
    · rw [List.mem_singleton.mp hm]; exact h _ hx
  · rw [List.mem_singleton.mp hm]; exact h _ hx

theorem repl_esc (l : List Nat) : replL 34 [92, 34] (replL 92 [92, 92] l) = escL l := by
  induction l with
  | nil => rfl
  | cons c r ih =>
    have h1 : replL 92 [92, 92] (c :: r) = (if c = 92 then [92, 92] else [c]) ++ replL 92 [92, 92] r := rfl
    have app : ∀ a b, replL 34 [92, 34] (a ++ b) = replL 34 [92, 34] a ++ replL 34 [92, 34] b := fun a b => by unfold replL; rw [List.flatMap_append]
    rw [h1, app, ih, escL_cons]
    congr 1
    by_cases h92 : c = 92
    · subst h92; rfl
    · by_cases h34 : c = 34
      · subst h34; rfl
      · rw [if_neg h92, if_neg (by unfold fJE; simp [h92, h34])]
        unfold replL
        simp [h34]

/- the marks put before, one by one -/
noncomputable def segsJ : Nat → List Nat → List Seg
  | _, [] => []
  | pos, c :: r => if fJE c then ⟨pos, pos + 1, pos, pos + 1, [92, c]⟩ :: segsJ (pos + 1) r else segsJ (pos + 1) r
theorem segsJ_len : ∀ (r : List Nat) (pos : Nat), (segsJ pos r).length ≤ r.length
  | [], _ => Nat.le_refl _
  | c :: r, pos => by
    unfold segsJ
    have := segsJ_len r (pos + 1)
    split <;> simp only [List.length_cons] <;> (first | lia | omega)
theorem chainJ {l : List Nat} : ∀ (r p pre : List Nat), l = pre ++ (p ++ r) → (∀ x ∈ p, x ∈ alpha ∧ fJE x = false) → (∀ x ∈ r, x ∈ alpha) →
    Chain cJE.toList l (fun y => 92 :: y) pre.length (segsJ (pre.length + p.length) r) ∧ outL l pre.length (segsJ (pre.length + p.length) r) = p ++ escL r
  | [], p, pre, hl, hp, hr => by
    rw [List.append_nil] at hl
    refine ⟨⟨5, by decide, ?_⟩, ?_⟩
    · exact je_no (T := l.toArray) (pre := pre) (p := p) (by rw [hl]) hp
    · show l.drop pre.length = _
      rw [hl, List.drop_left, escL_nil, List.append_nil]
  | c :: r, p, pre, hl, hp, hr => by
    have hc := hr c (.head _)
    have hr' : ∀ x ∈ r, x ∈ alpha := fun x hx => hr x (.tail _ hx)
    by_cases hf : fJE c = true
    · have e : segsJ (pre.length + p.length) (c :: r) = ⟨pre.length + p.length, pre.length + p.length + 1, pre.length + p.length, pre.length + p.length + 1, [92, c]⟩ :: segsJ (pre.length + p.length + 1) r := by
        rw [segsJ, if_pos hf]
      have hlen : (pre ++ p ++ [c]).length = pre.length + p.length + 1 := by simp only [List.length_append, List.length_cons, List.length_nil]
      have ih := chainJ (l := l) r [] (pre ++ p ++ [c]) (by rw [hl]; simp) (fun x hx => nomatch hx) hr'
      rw [hlen, List.length_nil, Nat.add_zero, List.nil_append] at ih
      have h1 : l.drop pre.length = p ++ c :: r := by rw [hl, List.drop_left]
      have h2 : l.drop (pre.length + p.length) = c :: r := by rw [← List.drop_drop, h1, List.drop_left]
      rw [e]
      refine ⟨⟨⟨10, by decide, je_yes (T := l.toArray) (pre := pre) (p := p) (r := r) (c := c) (by rw [hl]) hp ⟨hc, hf⟩⟩, Nat.le_add_right _ _, Nat.lt_succ_self _, Nat.lt_succ_self _, ?_, ?_, ih.1⟩, ?_⟩
      · show pre.length + p.length + 1 ≤ l.length
        rw [hl]; simp only [List.length_append, List.length_cons]; (first | lia | omega)
      · show [92, c] = 92 :: ((l.drop (pre.length + p.length)).take (pre.length + p.length + 1 - (pre.length + p.length)))
        rw [h2, show pre.length + p.length + 1 - (pre.length + p.length) = 1 by (first | lia | omega)]; rfl
      · show (l.drop pre.length).take (pre.length + p.length - pre.length) ++ [92, c] ++ outL l (pre.length + p.length + 1) _ = _
        rw [ih.2, h1, show pre.length + p.length - pre.length = p.length by (first | lia | omega), List.take_left, escL_cons, if_pos hf, List.append_assoc]
    · have hf' : fJE c = false := by simpa using hf
      have e : segsJ (pre.length + p.length) (c :: r) = segsJ (pre.length + (p ++ [c]).length) r := by
        rw [segsJ, if_neg hf]; simp [Nat.add_assoc]
      have ih := chainJ (l := l) r (p ++ [c]) pre (by rw [hl]; simp) (fun x hx => by
        rcases List.mem_append.mp hx with h | h
        · exact hp x h
        · rw [List.mem_singleton.mp h]; exact ⟨hc, hf'⟩) hr'
      rw [e, escL_cons, if_neg hf]
      refine ⟨ih.1, ih.2.trans ?_⟩
      simp

/- .. and taken away -/
noncomputable def segsE : Nat → List Nat → List Seg
  | _, [] => []
  | pos, c :: r => if fJE c then ⟨pos, pos + 2, pos + 1, pos + 2, [c]⟩ :: segsE (pos + 2) r else segsE (pos + 1) r
theorem segsE_len : ∀ (r : List Nat) (pos : Nat), (segsE pos r).length ≤ r.length
  | [], _ => Nat.le_refl _
  | c :: r, pos => by
    unfold segsE
    have h1 := segsE_len r (pos + 1)
    have h2 := segsE_len r (pos + 2)
    split <;> simp only [List.length_cons] <;> (first | lia | omega)
theorem chainE {l : List Nat} (hmax : l.length ≤ 1000000) : ∀ (w p pre : List Nat), l = pre ++ (p ++ escL w) → (∀ x ∈ p, x ≠ 92) → (∀ x ∈ w, x ∈ alpha) →
    Chain cESC.toList l (fun y => y) pre.length (segsE (pre.length + p.length) w) ∧ outL l pre.length (segsE (pre.length + p.length) w) = p ++ w
  | [], p, pre, hl, hp, hr => by
    rw [escL_nil, List.append_nil] at hl
    have hpl : p.length ≤ l.length := by rw [hl, List.length_append]; (first | lia | omega)
    refine ⟨⟨2 * p.length + 12, by (first | lia | omega), ?_⟩, ?_⟩
    · exact esc_no (T := l.toArray) (pre := pre) (p := p) (by rw [hl]) hp
    · show l.drop pre.length = _
      rw [hl, List.drop_left, List.append_nil]
  | c :: w, p, pre, hl, hp, hr => by
    have hc := hr c (.head _)
    have hr' : ∀ x ∈ w, x ∈ alpha := fun x hx => hr x (.tail _ hx)
    by_cases hf : fJE c = true
    · have e : segsE (pre.length + p.length) (c :: w) = ⟨pre.length + p.length, pre.length + p.length + 2, pre.length + p.length + 1, pre.length + p.length + 2, [c]⟩ :: segsE (pre.length + p.length + 2) w := by
        rw [segsE, if_pos hf]
      rw [escL_cons, if_pos hf] at hl
      have hpl : p.length ≤ l.length := by rw [hl]; simp only [List.length_append]; (first | lia | omega)
      have hlen : (pre ++ p ++ [92, c]).length = pre.length + p.length + 2 := by simp; (first | lia | omega)
      have ih := chainE (l := l) hmax w [] (pre ++ p ++ [92, c]) (by rw [hl]; simp) (fun x hx => nomatch hx) hr'
      rw [hlen, List.length_nil, Nat.add_zero, List.nil_append] at ih
      have h1 : l.drop pre.length = p ++ ([92, c] ++ escL w) := by rw [hl, List.drop_left]
      have h2 : l.drop (pre.length + p.length + 1) = c :: escL w := by rw [Nat.add_assoc, ← List.drop_drop, h1, ← List.drop_drop, List.drop_left]; rfl
      rw [e]
      refine ⟨⟨⟨2 * p.length + 12, by (first | lia | omega), esc_yes (T := l.toArray) (pre := pre) (p := p) (r := escL w) (c := c) (by rw [hl]; rfl) hp hc⟩, Nat.le_add_right _ _, by show pre.length + p.length < pre.length + p.length + 2; (first | lia | omega), by show pre.length + p.length + 1 < pre.length + p.length + 2; (first | lia | omega), ?_, ?_, ih.1⟩, ?_⟩
      · show pre.length + p.length + 2 ≤ l.length
        rw [hl]; simp only [List.length_append, List.length_cons, List.length_nil]; (first | lia | omega)
      · show [c] = ((l.drop (pre.length + p.length + 1)).take (pre.length + p.length + 2 - (pre.length + p.length + 1)))
        rw [h2, show pre.length + p.length + 2 - (pre.length + p.length + 1) = 1 by (first | lia | omega)]; rfl
      · show (l.drop pre.length).take (pre.length + p.length - pre.length) ++ [c] ++ outL l (pre.length + p.length + 2) _ = _
        rw [ih.2, h1, show pre.length + p.length - pre.length = p.length by (first | lia | omega), List.take_left, List.append_assoc]; rfl
    · have hf' : fJE c = false := by simpa using hf
      have e : segsE (pre.length + p.length) (c :: w) = segsE (pre.length + (p ++ [c]).length) w := by
        rw [segsE, if_neg hf]; simp [Nat.add_assoc]
      rw [escL_cons, if_neg hf] at hl
      have ih := chainE (l := l) hmax w (p ++ [c]) pre (by rw [hl]; simp) (fun x hx => by
        rcases List.mem_append.mp hx with h | h
        · exact hp x h
        · rw [List.mem_singleton.mp h]
          rintro rfl
          exact absurd hf' (by decide)) hr'
      rw [e]
      refine ⟨ih.1, ih.2.trans ?_⟩
      simp

/- what lies between the marks, block by block -/
noncomputable def blkP : List Nat → List Nat
  | [] => []
  | c :: r => if fJE c then [] else c :: blkP r
noncomputable def blkB : List Nat → List (Nat × List Nat)
  | [] => []
  | c :: r => if fJE c then (c, blkP r) :: blkB r else blkB r
theorem blk_eq : ∀ w : List Nat, escL w = blkP w ++ flatB (blkB w)
  | [] => rfl
  | c :: w => by
    have h1 : blkP (c :: w) = if fJE c then [] else c :: blkP w := rfl
    have h2 : blkB (c :: w) = if fJE c then (c, blkP w) :: blkB w else blkB w := rfl
    rw [escL_cons, blk_eq w, h1, h2]
    split
    · simp [flatB]
    · simp
theorem blkP_pl : ∀ {w : List Nat}, (∀ c ∈ w, c ∈ alpha) → ∀ c ∈ blkP w, isPl c
  | [], _, c, hc => nomatch hc
  | d :: w, h, c, hc => by
    unfold blkP at hc
    split at hc
    · cases hc
    · rename_i hf
      rcases List.mem_cons.mp hc with rfl | hc
      · refine ⟨h _ (.head _), ?_⟩
        unfold fJE at hf
        unfold fPl
        cases h1 : c == 92 <;> cases h2 : c == 34 <;> simp_all
      · exact blkP_pl (fun x hx => h x (.tail _ hx)) c hc
theorem blkB_pl : ∀ {w : List Nat}, (∀ c ∈ w, c ∈ alpha) → ∀ b ∈ blkB w, b.1 ∈ alpha ∧ ∀ c ∈ b.2, isPl c
  | [], _, b, hb => nomatch hb
  | d :: w, h, b, hb => by
    unfold blkB at hb
    split at hb
    · rcases List.mem_cons.mp hb with rfl | hb
      · exact ⟨h _ (.head _), blkP_pl fun x hx => h x (.tail _ hx)⟩
      · exact blkB_pl (fun x hx => h x (.tail _ hx)) b hb
    · exact blkB_pl (fun x hx => h x (.tail _ hx)) b hb
theorem quo_esc {w r : List Nat} (hw : ∀ c ∈ w, c ∈ alpha) (hlen : (61 :: 34 :: (escL w ++ 34 :: r)).length ≤ 1000000) : ∃ n, n ≤ 100000000 ∧
    Runs n (Sre.forSearch cQUO (61 :: 34 :: (escL w ++ 34 :: r)).toArray 1 0 (61 :: 34 :: (escL w ++ 34 :: r)).length false) (fun x => Found x 0 (2 + (escL w).length + 1) #[some 2, some (2 + (escL w).length)] 1 1) := by
  have hb : (blkB w).length ≤ (flatB (blkB w)).length := by
    generalize blkB w = bs
    unfold flatB
    induction bs with
    | nil => simp
    | cons b bs ih => simp only [List.flatMap_cons, List.length_append, List.length_cons] at ih ⊢; (first | lia | omega)
  have hsum : (escL w).length = (blkP w).length + (flatB (blkB w)).length := by rw [blk_eq, List.length_append]
  have h := quo_match (p := blkP w) (bs := blkB w) (r := r) (l := 61 :: 34 :: (escL w ++ 34 :: r)) (by rw [blk_eq, List.append_assoc]) (blkP_pl hw) (blkB_pl hw) hlen
  have e : 2 + (blkP w).length + (flatB (blkB w)).length = 2 + (escL w).length := by (first | lia | omega)
  rw [e] at h
  refine ⟨_, ?_, h⟩
  simp only [List.length_cons, List.length_append] at hlen
  (first | lia | omega)
end Mine
end R12

section R13
open PySem PySem.W PySem.Spec PySem.Calls PyProof.Rows
open PySem.Builtin PySem.Builtin.Re
namespace Mine
section
variable {c : Cx} {ρ : List (Str × D)} {own : List Ow} {fz : FZ} {s : Shared} {d : D}
theorem ev_fmt {e : PySem.Expr} {pos : Pos} {l : List Nat} (he : EV c ρ own e (.str (S l))) (hl : l.length ≤ 1000000) : EV c ρ own (.FormattedValue e 115 none pos) (.str (S l)) := EV.mk fun fz s F Q E hQ => by
  have hsz : sizeLine = 16777216 := by decide
  refine wpAny_FormattedValue_s (he fz s F _ _ fun v fz₁ s₁ N₁ F₁ r₁ => ?_)
  obtain ⟨t, rfl⟩ := r₁.inv
  ·
    refine habitSame_str (fun t' tk => ?_) (by rw [S_len]; (first | lia | omega))
    refine formatField_str (fun t'' tk' => ?_) (by rw [S_len]; (first | lia | omega))
    exact hQ _ fz₁ _ (N₁.trans (Next.toks tk')) (F₁.I.toks tk') (.str _ _)
noncomputable def EJ (c : Cx) (ρ : List (Str × D)) (own : List Ow) (es : List PySem.Expr) (l : List Nat) : Prop := ∀ fz s (acc : List Nat), Frm c ρ own fz s → acc.length + l.length ≤ 1000000 → ∀ (Q E : Value → Shared → Prop),
  (∀ v fz' s', Next fz s fz' s' → Inv c.G fz' s' → Rep fz' v (.str (S (acc ++ l))) → Q v s') → wpAny c.M c.A (joinParts (S acc) (evalEach es c.env)) Q E s
theorem ej_nil : EJ c ρ own [] [] := fun fz s acc F hl Q E hQ => by
  have hsz : sizeLine = 16777216 := by decide
  rw [List.append_nil] at hQ
  exact joinParts_nil (hQ _ fz _ (Next.toks _) (F.I.toks _) (.str _ _)) (by rw [S_len]; rw [List.length_nil] at hl; (first | lia | omega))
theorem ej_cons {e : PySem.Expr} {es : List PySem.Expr} {x l : List Nat} (he : EV c ρ own e (.str (S x))) (hes : EJ c ρ own es l) : EJ c ρ own (e :: es) (x ++ l) := fun fz s acc F hl Q E hQ => by
  have hsz : sizeLine = 16777216 := by decide
  rw [List.length_append] at hl
  show wpAny c.M c.A (joinParts (S acc) (eval e c.env :: evalEach es c.env)) Q E s
  refine joinParts_cons (he fz s F _ _ fun v fz₁ s₁ N₁ F₁ r₁ => ?_)
  obtain ⟨t, rfl⟩ := r₁.inv
  ·
    dsimp only
    rw [S_app]
    refine ⟨by rw [S_len, List.length_append]; (first | lia | omega), ?_⟩
    refine hes fz₁ s₁ (acc ++ x) F₁ (by rw [List.length_append]; (first | lia | omega)) Q E fun v fz' s' N I r => hQ v fz' s' (N₁.trans N) I ?_
    rw [List.append_assoc] at r
    exact r
theorem ev_joined {v₁ v₂ : PySem.Expr} {rest : List PySem.Expr} {pos : Pos} {l : List Nat} (h : EJ c ρ own (v₁ :: v₂ :: rest) l) (hl : l.length ≤ 1000000) : EV c ρ own (.JoinedStr (v₁ :: v₂ :: rest) pos) (.str (S l)) := EV.mk fun fz s F Q E hQ =>
  JoinedStr_many (h fz s [] F (by rw [List.length_nil]; (first | lia | omega)) Q E fun v fz' s' N I r => hQ v fz' s' N I r)
theorem tvs_or1 {e : PySem.Expr} {b : Bool} (h : TV c ρ own e b) : TVs c ρ own .Or [e] b := by
  cases b
  · exact tvs_on (op := .Or) h tvs_nil
  · exact tvs_stop (op := .Or) h
theorem tvs_and1 {e : PySem.Expr} {b : Bool} (h : TV c ρ own e b) : TVs c ρ own .And [e] b := by
  cases b
  · exact tvs_stop (op := .And) h
  · exact tvs_on (op := .And) h tvs_nil
end
end Mine
end R13

section R14
open PySem PySem.W PySem.Spec PySem.Calls PyProof.Rows
open PySem.Builtin PySem.Builtin.Re
namespace Mine
section
variable {c : Cx} {ρ : List (Str × D)} {own : List Ow} {fz : FZ} {s : Shared} {d : D}
theorem ex_while {test : PySem.Expr} {body rest : List Stmt} {pos} {R : Flow → FZ → Shared → Prop} (n : Nat) (ρs : Nat → List (Str × D)) (ows : Nat → List Ow) (h0 : ∀ p ∈ ρs 0, ρ.lookup p.1 = some p.2) (hw0 : ows 0 = own)
    (tests : ∀ i, i ≤ n → TV c (ρs i) (ows i) test (decide (i < n))) (turn : ∀ i, i < n → EX c (ρs i) (ows i) body (NextR c (ρs (i + 1)) (ows (i + 1))))
    (fin : EX c (ρs n) (ows n) rest R) : EX c ρ own (.While test body [] pos :: rest) R := fun fz s F Q E hQ => by
  refine wpAny_execs_cons (wpAny_While ?_)
  have F₀ : Frm c (ρs 0) (ows 0) fz s := by rw [hw0]; exact F.weaken h0
  refine codeAny_whileLoop (fun m s' => ∃ i fz', m = n - i ∧ i ≤ n ∧ FZ.le fz fz' ∧ Frm c (ρs i) (ows i) fz' s') ?_ n ⟨0, fz, rfl, Nat.zero_le _, fun _ _ e => e, F₀⟩
  rintro m s₁ ⟨i, fz₁, rfl, hi, hl₁, F₁⟩
  refine tests i hi fz₁ s₁ F₁ _ _ fun fz₂ s₂ N₂ F₂ => ?_
  by_cases hx : i < n
  · rw [decide_eq_true hx]
    simp only [if_true]
    refine turn i hx fz₂ s₂ F₂ _ _ ?_
    rintro f fz₃ s₃ hl₃ ⟨rfl, F₃⟩
    exact ⟨n - (i + 1), Nat.sub_lt_sub_left hx (Nat.lt_succ_self i), i + 1, fz₃, rfl, hx, fun a o e => hl₃ a o (N₂.mono a o (hl₁ a o e)), F₃⟩
  · have hi' : i = n := Nat.le_antisymm hi (Nat.not_lt.mp hx)
    subst hi'
    rw [decide_eq_false hx]
    simp only [Bool.false_eq_true, if_false]
    refine wpAny_execs_nil ?_
    exact fin fz₂ s₂ F₂ Q E fun f fz' s' hl r => hQ f fz' s' (fun a o e => hl a o (N₂.mono a o (hl₁ a o e))) r
end
end Mine
end R14

section R15
open PySem PySem.W PySem.Spec PySem.Calls PyProof.Rows
open PySem.Builtin PySem.Builtin.Re
namespace Mine
section
variable {c : Cx} {ρ : List (Str × D)} {own : List Ow} {fz : FZ} {s : Shared} {d : D}

theorem lstrip_S {c : Nat} {r : List Nat} (hc : Unicode.isSpace c = false) : Txt.lstrip (S (c :: r)) = S (c :: r) := by
  have e : stripSame Unicode.isSpace true false (S (c :: r)) = true := by
    unfold stripSame stripLo stripHi
    rw [if_pos rfl, if_neg Bool.false_ne_true, S_list, List.takeWhile_cons, hc]
    simp
  show (if _ then _ else _) = _
  rw [if_pos e]
theorem op_lstrip {c' : Nat} {r : List Nat} (hc : Unicode.isSpace c' = false) (hl : (c' :: r).length ≤ 1000000) : OPs c (fun vs => call (.builtin "str.lstrip") vs) [.str (S (c' :: r))] (.str (S (c' :: r))) := fun fz s vs I tk rr Q E hQ => by
  have hsz : sizeLine = 16777216 := by decide
  obtain ⟨_, _, rfl, r₁, rr⟩ := rr.inv
  · obtain rfl := rr.inv
    · obtain ⟨t, rfl⟩ := r₁.inv
      ·
        refine SC.lstrip (fun t' k => ?_) (by rw [S_len]; (first | lia | omega))
        rw [lstrip_S hc]
        exact fin0 I hQ (.str _ _) _
theorem op_rstrip0 : OPs c (fun vs => call (.builtin "str.rstrip") vs) [.str (S [])] (.str (S [])) := fun fz s vs I tk rr Q E hQ => by
  obtain ⟨_, _, rfl, r₁, rr⟩ := rr.inv
  · obtain rfl := rr.inv
    · obtain ⟨t, rfl⟩ := r₁.inv
      ·
        refine SC.rstrip (fun t' k => ?_) (by decide)
        exact fin0 I hQ (.str _ _) _
theorem rstrip_S {w : List Nat} (h : ∀ c ∈ w, Unicode.isSpace c = false) : Txt.rstrip (S w) = S w := by
  have e : stripSame Unicode.isSpace false true (S w) = true := by
    unfold stripSame stripLo stripHi
    rw [if_neg Bool.false_ne_true, if_pos rfl, S_list, List.drop_zero]
    have : w.reverse.takeWhile Unicode.isSpace = [] := by
      cases hr : w.reverse with
      | nil => rfl
      | cons x r => rw [List.takeWhile_cons, h x (List.mem_reverse.mp (hr ▸ List.mem_cons_self ..))]; rfl
    rw [this]
    simp
  show (if _ then _ else _) = _
  rw [if_pos e]
theorem op_rstripT {w : List Nat} (h : ∀ c ∈ w, Unicode.isSpace c = false) (hl : w.length ≤ 1000000) : OPs c (fun vs => call (.builtin "str.rstrip") vs) [.str (S w)] (.str (S w)) := fun fz s vs I tk rr Q E hQ => by
  have hsz : sizeLine = 16777216 := by decide
  obtain ⟨_, _, rfl, r₁, rr⟩ := rr.inv
  · obtain rfl := rr.inv
    · obtain ⟨t, rfl⟩ := r₁.inv
      ·
        refine SC.rstrip (fun t' k => ?_) (by rw [S_len]; (first | lia | omega))
        rw [rstrip_S h]
        exact fin0 I hQ (.str _ _) _
theorem op_starts_no {a b : Nat} {r : List Nat} (hab : a ≠ b) : OPs c (fun vs => call (.builtin "str.startswith") vs) [.str (S (a :: r)), .str (S [b])] (.bool false) := fun fz s vs I tk rr Q E hQ => by
  obtain ⟨_, _, rfl, r₁, rr⟩ := rr.inv
  · obtain ⟨_, _, rfl, r₂, rr⟩ := rr.inv
    · obtain rfl := rr.inv
      · obtain ⟨t, rfl⟩ := r₁.inv
        · obtain ⟨u, rfl⟩ := r₂.inv
          ·
            refine SC.startswith ?_
            have e : Txt.startswith (S (a :: r)) (S [b]) = false := by
              unfold Txt.startswith
              rw [Bool.and_eq_false_iff]
              right
              rw [StrLaws.subAt_eq, S_list, S_list, S_len]
              show ([a] == [b]) = false
              rw [beq_eq_false_iff_ne]
              intro h
              cases h
              exact hab rfl
            rw [e]
            exact fin0' I hQ (.bool _)
theorem ev_isi {f : Str} {p q pos : Pos} {e : PySem.Expr} {ds : List D} (hf : f = Str.ofString "isinstance") (he : EV c ρ own e (.list ds)) (hx : c.env.kindOf f = some .globalImplicit) (hn : nsIn (hd.heap_39 c.w.params) mainGlobals f = some none)
    (hx2 : c.env.kindOf (Str.ofString "str") = some .globalImplicit) (hn2 : nsIn (hd.heap_39 c.w.params) mainGlobals (Str.ofString "str") = some none)
    (hs : ∀ env, starEach [e, .Name (Str.ofString "str") q] env = [(false, eval e env), (false, eval (.Name (Str.ofString "str") q) env)]) :
    EV c ρ own (.Call (.Name f p) [e, .Name (Str.ofString "str") q] [] pos) (.bool false) := EV.mk fun fz s F Q E hQ => by
  subst hf
  show wpAny _ _ (do callWith pos (← eval (.Name (Str.ofString "isinstance") p) c.env) [] (backTo pos (starEach [e, .Name (Str.ofString "str") q] c.env)) (backToKw pos (keywordEach [] c.env))) _ _ _
  refine wpAny_bind (name_builtin (hn := by decide) (hd := by decide) F ?_ hx hn (v := .builtin "isinstance") rfl)
  rw [hs]
  refine callWith_builtin rfl (evalArgs_plain ?_)
  show wpAny _ _ (spliced [(false, eval e c.env), (false, eval (.Name (Str.ofString "str") q) c.env)]) _ _ _
  refine Calls.spliced_cons (he fz s F _ _ fun v fz₁ s₁ N₁ F₁ r₁ => Calls.spliced_cons (name_builtin (hn := by decide) (hd := by decide) F₁ (v := .type "str") (Calls.spliced_nil ?_) hx2 hn2 rfl))
  obtain ⟨_, _, _, rfl, e₁, _⟩ := r₁.inv
  · exact IsiPair.list_str (F₁.I.le _ _ e₁) rfl (hQ _ fz₁ _ (N₁.trans (Next.toks _)) (F₁.I.toks _) (.bool _))
theorem opt_strT {l : List Nat} (hl : l.length ≤ 1000000) : OPT c (.str (S l)) (decide (0 < l.length)) := by
  have h := opt_str (c := c) (x := S l) (by rw [S_len]; have : sizeLine = 16777216 := by decide
                                            (first | lia | omega))
  rw [S_len] at h
  have e : ((l.length : Int) != 0) = decide (0 < l.length) := by
    cases l with
    | nil => rfl
    | cons x r =>
      rw [decide_eq_true (show 0 < (x :: r).length from Nat.succ_pos _), bne_iff_ne]
      simp only [List.length_cons]
      (first | lia | omega)
  rw [e] at h
  exact h
theorem opt_eq {b b' : Bool} (h : OPT c d b) (e : b = b') : OPT c d b' := e ▸ h
end

/- words, as they stand in a text -/
inductive WV where
  | no
  | quo (w : List Nat)
  | eq
  | tok (w : List Nat)
noncomputable def WV.text : WV → List Nat
  | .no => []
  | .quo w => [61, 34] ++ escL w ++ [34]
  | .eq => [61]
  | .tok w => 61 :: w
noncomputable def WV.val : WV → Option (List Nat)
  | .no => none
  | .quo w => some w
  | .eq => some []
  | .tok w => some w
noncomputable def sepT : List Nat → List Nat
  | [] => []
  | x :: r => 59 :: 32 :: x :: r
noncomputable def wordsT : List (List Nat × WV) → List Nat
  | [] => []
  | (n, v) :: r => n ++ v.text ++ sepT (wordsT r)
noncomputable def NameOk (n : List Nat) : Prop := n ≠ [] ∧ ∀ c ∈ n, c ∈ alpha ∧ fTok c = true
noncomputable def TokOk (w : List Nat) : Prop := w ≠ [] ∧ ∀ c ∈ w, c ∈ alpha ∧ fSpec c = false
noncomputable def WordOk (p : List Nat × WV) : Prop := NameOk p.1 ∧ (∀ w, p.2 = .quo w → ∀ c ∈ w, c ∈ alpha) ∧ ∀ w, p.2 = .tok w → TokOk w
theorem wordsT_head {n : List Nat} {v : WV} {r : List (List Nat × WV)} (h : NameOk n) : ∃ x u, wordsT ((n, v) :: r) = x :: u ∧ x ∈ alpha ∧ fTok x = true := by
  obtain ⟨h1, h2⟩ := h
  cases n with
  | nil => exact absurd rfl h1
  | cons x u => exact ⟨x, _, rfl, h2 x (.head _)⟩
/- what is behind the name of a word -/
noncomputable def behT (v : WV) (r : List (List Nat × WV)) : List Nat := v.text ++ sepT (wordsT r)
theorem wordsT_cons (n : List Nat) (v : WV) (r : List (List Nat × WV)) : wordsT ((n, v) :: r) = n ++ behT v r := by
  show n ++ v.text ++ sepT (wordsT r) = _
  unfold behT; rw [List.append_assoc]
theorem sepT_headNot (l : List Nat) : HeadNot fTok (sepT l) := by
  cases l with
  | nil => trivial
  | cons x r => exact ⟨by decide, rfl⟩
theorem behT_headNot (v : WV) (r : List (List Nat × WV)) : HeadNot fTok (behT v r) := by
  cases v with
  | no => exact sepT_headNot _
  | quo w => exact ⟨by decide, rfl⟩
  | eq => exact ⟨by decide, rfl⟩
  | tok w => exact ⟨by decide, rfl⟩

noncomputable def prD (p : List Nat × WV) : D := .tuple [.str (S p.1), match p.2.val with | none => .none | some l => .str (S l)]
noncomputable def stT (ws : List (List Nat × WV)) (j : Nat) : List Nat := if j % 2 = 0 then wordsT (ws.drop (j / 2)) else sepT (wordsT (ws.drop ((j + 1) / 2)))
noncomputable def stP (ws : List (List Nat × WV)) (j : Nat) : List D := (ws.take ((j + 1) / 2)).map prD
theorem wordsT_len {ws : List (List Nat × WV)} (h : ∀ p ∈ ws, WordOk p) : 0 < (wordsT ws).length ↔ 0 < ws.length := by
  cases ws with
  | nil => exact Iff.rfl
  | cons p r =>
    obtain ⟨n, v⟩ := p
    obtain ⟨x, u, e, _⟩ := wordsT_head (v := v) (r := r) (h (n, v) (.head _)).1
    rw [e]
    simp
theorem sepT_len (l : List Nat) : 0 < (sepT l).length ↔ 0 < l.length := by
  cases l with
  | nil => exact Iff.rfl
  | cons x r => simp [sepT]
theorem stT_test {ws : List (List Nat × WV)} (h : ∀ p ∈ ws, WordOk p) (hne : ws ≠ []) (j : Nat) : decide (0 < (stT ws j).length) = decide (j < 2 * ws.length - 1) := by
  have hk : 0 < ws.length := List.length_pos_iff.mpr hne
  have hd : ∀ i, ∀ p ∈ ws.drop i, WordOk p := fun i p hp => h p (List.mem_of_mem_drop hp)
  unfold stT
  split
  · rw [decide_eq_decide, wordsT_len (hd _), List.length_drop]
    omega
  · rw [decide_eq_decide, sepT_len, wordsT_len (hd _), List.length_drop]
    omega
theorem sepT_le (l : List Nat) : (sepT l).length ≤ l.length + 2 := by cases l <;> simp [sepT]
theorem wordsT_drop_le : ∀ (ws : List (List Nat × WV)) (i : Nat), (wordsT (ws.drop i)).length ≤ (wordsT ws).length
  | ws, 0 => Nat.le_refl _
  | [], i + 1 => Nat.le_refl _
  | (n, v) :: r, i + 1 => by
    have h1 := wordsT_drop_le r i
    have h2 : (wordsT r).length ≤ (sepT (wordsT r)).length := by cases wordsT r <;> simp [sepT]
    rw [List.drop_succ_cons, wordsT_cons]
    unfold behT
    simp only [List.length_append]
    (first | lia | omega)
theorem stT_le (ws : List (List Nat × WV)) (j : Nat) : (stT ws j).length ≤ (wordsT ws).length + 2 := by
  unfold stT
  split
  · exact Nat.le_trans (wordsT_drop_le _ _) (Nat.le_add_right _ _)
  · exact Nat.le_trans (sepT_le _) (Nat.add_le_add_right (wordsT_drop_le _ _) _)
end Mine
end R15

section R16
open PySem PySem.W PySem.Spec PySem.Calls PyProof.Rows
open PySem.Builtin PySem.Builtin.Re
namespace Mine
section
variable {c : Cx} {ρ : List (Str × D)} {own es : List Ow} {fz : FZ} {s : Shared} {d : D}
theorem ex_freeze1 {x : Str} {a : Addr} {ds : List D} {ss : List Stmt} {R : Flow → FZ → Shared → Prop} (hr : (ρ.any fun q => q.1 == x) = false) (h : EX c ((x, .list ds) :: ρ) own ss R) : EX c ρ (⟨some x, a, .list ds⟩ :: own) ss R := fun fz s F => by
  have e : ((⟨some x, a, .list ds⟩ :: own : List Ow).filter fun q => q.addr != a) = own := by
    have hn := F.nodup
    rw [List.map_cons, List.nodup_cons] at hn
    rw [List.filter_cons]
    simp only [bne_self_eq_false, Bool.false_eq_true, if_false]
    rw [List.filter_eq_self]
    intro q hq
    rw [bne_iff_ne]
    intro h
    exact hn.1 (List.mem_map.mpr ⟨q, hq, h⟩)
  refine ex_freeze (x := x) (a := a) (ds := ds) ?_ hr (by rw [e]; exact h) fz s F
  unfold ownGet
  rw [List.find?_cons, show ((⟨some x, a, .list ds⟩ : Ow).name == some x) = true from beq_self_eq_true _]
theorem all_es {x : Str} {a : Addr} (hes : ∀ q ∈ es, q.name = none) (h : (own.all fun q => q.name != some x || q.addr == a) = true) : ((es ++ own).all fun q => q.name != some x || q.addr == a) = true := by
  rw [List.all_append, h, Bool.and_true, List.all_eq_true]
  intro q hq
  rw [hes q hq]; rfl
theorem ex_append_es {x : Str} {a : Addr} {ds : List D} {e : PySem.Expr} {np apos pos xpos} {rest : List Stmt} {R : Flow → FZ → Shared → Prop} (hes : ∀ q ∈ es, q.name = none) (he : EV c ρ (es ++ own) e d) (hg : ownGet own x = some (a, ds)) (hu : (own.all fun q => q.name != some x || q.addr == a) = true)
    (h : EX c ρ (es ++ ownSet own x (ds ++ [d])) rest R) (hl : ds.length ≤ sizeLine)
    (hline : (apos.endLine == pos.line) = true) (hd : (x == ("__debug__" : Str)) = false)
    (hs : ∀ env, starEach [e] env = [(false, eval e env)]) : EX c ρ (es ++ own) (.Expr (.Call (.Attribute (.Name x np) "append" apos) [e] [] pos) xpos :: rest) R :=
  ex_append he (by rw [ownGet_es hes]; exact hg) (all_es hes hu) (by rw [ownSet_es hes]; exact h) hl hline hd hs
theorem ex_append_pes {x : Str} {a : Addr} {ds : List D} {e : PySem.Expr} {np apos pos xpos} {rest : List Stmt} {R : Flow → FZ → Shared → Prop} (hes : ∀ q ∈ es, q.name = none) (hown : (own.all fun q => q.name != some x) = true) (he : EV c ρ (⟨some x, a, .list ds⟩ :: (es ++ own)) e d)
    (h : EX c ρ (⟨some x, a, .list (ds ++ [d])⟩ :: (es ++ own)) rest R) (hl : ds.length ≤ sizeLine)
    (hline : (apos.endLine == pos.line) = true) (hd : (x == ("__debug__" : Str)) = false)
    (hs : ∀ env, starEach [e] env = [(false, eval e env)]) : EX c ρ (⟨some x, a, .list ds⟩ :: (es ++ own)) (.Expr (.Call (.Attribute (.Name x np) "append" apos) [e] [] pos) xpos :: rest) R := by
  have hb : ((some x : Option Str) == some x) = true := beq_self_eq_true _
  refine ex_append (a := a) he ?_ ?_ ?_ hl hline hd hs
  · unfold ownGet
    rw [List.find?_cons, show ((⟨some x, a, .list ds⟩ : Ow).name == some x) = true from hb]
  · rw [List.all_cons]
    have h2 : ((es ++ own).all fun q => q.name != some x || q.addr == a) = true := all_es hes (by
      rw [List.all_eq_true] at hown ⊢
      intro q hq
      rw [hown q hq]; rfl)
    rw [h2]
    simp
  · have e2 : ownSet (⟨some x, a, .list ds⟩ :: (es ++ own)) x (ds ++ [d]) = ⟨some x, a, .list (ds ++ [d])⟩ :: (es ++ own) := by
      unfold ownSet
      rw [List.map_cons]
      congr 1
      · rw [show ((⟨some x, a, .list ds⟩ : Ow).name == some x) = true from hb]; rfl
      · refine (List.map_congr_left (g := _root_.id) ?_).trans (List.map_id _)
        intro q hq
        rcases List.mem_append.mp hq with h | h
        · rw [hes q h]; rfl
        · have := List.all_eq_true.mp hown q h
          have : (q.name == some x) = false := by simpa [bne] using this
          rw [this]; rfl
    rw [e2]
    exact h
end
end Mine
end R16

section R17
open PySem PySem.W PySem.Spec PySem.Calls PyProof.Rows
open PySem.Builtin PySem.Builtin.Re
namespace Mine
theorem ws_len : ∀ {ws : List (List Nat × WV)}, (∀ p ∈ ws, WordOk p) → ws.length ≤ (wordsT ws).length
  | [], _ => Nat.le_refl _
  | (n, v) :: r, h => by
    have h1 := ws_len (ws := r) fun p hp => h p (.tail _ hp)
    have h2 : (wordsT r).length ≤ (sepT (wordsT r)).length := by cases wordsT r <;> simp [sepT]
    have h3 : 0 < n.length := List.length_pos_iff.mpr (h (n, v) (.head _)).1.1
    rw [wordsT_cons]
    unfold behT
    simp only [List.length_append, List.length_cons]
    (first | lia | omega)
theorem st_even {ws : List (List Nat × WV)} {i : Nat} (hi : i < ws.length) : stT ws (2 * i) = ws[i].1 ++ behT ws[i].2 (ws.drop (i + 1)) ∧ stT ws (2 * i + 1) = sepT (wordsT (ws.drop (i + 1))) ∧ stP ws (2 * i + 1) = stP ws (2 * i) ++ [prD ws[i]] := by
  refine ⟨?_, ?_, ?_⟩
  · unfold stT
    rw [if_pos (by (first | lia | omega)), show 2 * i / 2 = i by (first | lia | omega), List.drop_eq_getElem_cons hi]
    exact wordsT_cons _ _ _
  · unfold stT
    rw [if_neg (by (first | lia | omega)), show (2 * i + 1 + 1) / 2 = i + 1 by (first | lia | omega)]
  · unfold stP
    rw [show (2 * i + 1 + 1) / 2 = i + 1 by (first | lia | omega), show (2 * i + 1) / 2 = i by (first | lia | omega), List.take_succ_eq_append_getElem hi, List.map_append]
    rfl
theorem st_odd {ws : List (List Nat × WV)} {i : Nat} (hws : ∀ p ∈ ws, WordOk p) (hi : i + 1 < ws.length) : ∃ x u, stT ws (2 * i + 1) = 59 :: 32 :: x :: u ∧ stT ws (2 * i + 1 + 1) = x :: u ∧ (x ∈ alpha ∧ fTok x = true) ∧ stP ws (2 * i + 1 + 1) = stP ws (2 * i + 1) := by
  have hd : ws.drop (i + 1) = ws[i + 1] :: ws.drop (i + 2) := List.drop_eq_getElem_cons hi
  obtain ⟨x, u, e, hx⟩ := wordsT_head (v := ws[i + 1].2) (r := ws.drop (i + 2)) (hws ws[i + 1] (List.getElem_mem _)).1
  have e' : wordsT (ws.drop (i + 1)) = x :: u := by rw [hd]; exact e
  refine ⟨x, u, ?_, ?_, hx, ?_⟩
  · unfold stT
    rw [if_neg (by (first | lia | omega)), show (2 * i + 1 + 1) / 2 = i + 1 by (first | lia | omega), e']; rfl
  · unfold stT
    rw [if_pos (by (first | lia | omega)), show (2 * i + 1 + 1) / 2 = i + 1 by (first | lia | omega), e']
  · unfold stP
    rw [show (2 * i + 1 + 1 + 1) / 2 = i + 1 by (first | lia | omega), show (2 * i + 1 + 1) / 2 = i + 1 by (first | lia | omega)]
theorem behT_len {v : WV} {r : List (List Nat × WV)} {n : List Nat} {k : Nat} (h : (n ++ behT v r).length ≤ k) : (behT v r).length ≤ k := by rw [List.length_append] at h; (first | lia | omega)
end Mine
end R17

section R18
open PySem PySem.W PySem.Spec PySem.Calls PyProof.Rows
open PySem.Builtin PySem.Builtin.Re
namespace Mine
theorem quo_sep {l : List Nat} (h : l.length ≤ 1000000) : ∃ n, n ≤ 100000000 ∧ Runs n (Sre.forSearch cQUO (sepT l).toArray 1 0 (sepT l).length false) Failed := by
  cases l with
  | nil => exact ⟨1, by decide, quo_nil⟩
  | cons x r => 
    refine ⟨_, ?_, quo_no (r := 32 :: x :: r)⟩
    simp only [List.length_cons] at h ⊢
    (first | lia | omega)
theorem val_sep {l : List Nat} (h : l.length ≤ 1000000) : ∃ n, n ≤ 100000000 ∧ Runs n (Sre.forSearch cVAL (sepT l).toArray 1 0 (sepT l).length false) Failed := by
  cases l with
  | nil => exact ⟨1, by decide, val_nil⟩
  | cons x r => 
    refine ⟨_, ?_, val_no (r := 32 :: x :: r)⟩
    simp only [List.length_cons] at h ⊢
    (first | lia | omega)
theorem behT_quo (w : List Nat) (r : List (List Nat × WV)) : behT (.quo w) r = 61 :: 34 :: (escL w ++ 34 :: sepT (wordsT r)) := by
  show [61, 34] ++ escL w ++ [34] ++ sepT (wordsT r) = _
  simp
theorem quo_drop (e t : List Nat) : List.take 0 (61 :: 34 :: (e ++ 34 :: t)) ++ List.drop (2 + e.length + 1) (61 :: 34 :: (e ++ 34 :: t)) = t := by
  rw [List.take_zero, List.nil_append, show 2 + e.length + 1 = (e.length + 1) + 1 + 1 by (first | lia | omega), List.drop_succ_cons, List.drop_succ_cons, ← List.drop_drop, List.drop_left]
  rfl
theorem quo_take (e t : List Nat) : List.take (2 + e.length - 2) (List.drop 2 (61 :: 34 :: (e ++ 34 :: t))) = e := by
  rw [show 2 + e.length - 2 = e.length by (first | lia | omega)]
  show List.take e.length (e ++ 34 :: t) = e
  rw [List.take_left]
theorem sepT_not {f : Nat → Bool} (h : f 59 = false) (l : List Nat) : HeadNot f (sepT l) := by
  cases l with
  | nil => trivial
  | cons x r => exact ⟨by decide, h⟩
theorem escE_chain {w : List Nat} (hw : ∀ c ∈ w, c ∈ alpha) (hl : (escL w).length ≤ 1000000) : Chain cESC.toList (escL w) (fun y => y) 0 (segsE 0 w) ∧ outL (escL w) 0 (segsE 0 w) = w :=
  chainE (l := escL w) hl w [] [] rfl (fun x hx => nomatch hx) hw
theorem escJ_chain {w : List Nat} (hw : ∀ c ∈ w, c ∈ alpha) : Chain cJE.toList w (fun y => 92 :: y) 0 (segsJ 0 w) ∧ outL w 0 (segsJ 0 w) = escL w :=
  chainJ (l := w) w [] [] rfl (fun x hx => nomatch hx) hw
theorem drop_take_ne {l : List Nat} {b e : Nat} (h : b < e) (he : e ≤ l.length) : decide (0 < ((l.drop b).take (e - b)).length) = true := by
  rw [decide_eq_true_eq, List.length_take, List.length_drop]
  exact Nat.lt_min.mpr ⟨Nat.sub_pos_of_lt h, Nat.sub_pos_of_lt (Nat.lt_of_lt_of_le h he)⟩
theorem drop_take_le {l : List Nat} {b e : Nat} (h : l.length ≤ 1000000) : ((l.drop b).take (e - b)).length ≤ 1000000 := by
  rw [List.length_take, List.length_drop]
  exact Nat.le_trans (Nat.min_le_right _ _) (Nat.le_trans (Nat.sub_le _ _) h)
theorem tok_head {x : Nat} {l : List Nat} (h : x ∈ alpha ∧ fSpec x = false) : HeadNot (fun c => c == 34 || c == 32) (x :: l) := by
  refine ⟨h.1, ?_⟩
  have h2 := h.2
  unfold fSpec at h2
  simp only [Bool.or_eq_false_iff] at h2 ⊢
  exact ⟨h2.1.1.1.2, h2.2⟩
theorem tok_set {c : Nat} (h : fSpec c = false) : (!(c == 59 || c == 32)) = true := by
  unfold fSpec at h
  simp only [Bool.or_eq_false_iff] at h
  rw [h.1.2, h.2]; rfl
theorem tok_space {c : Nat} (h : c ∈ alpha ∧ fSpec c = false) : Unicode.isSpace c = false := by
  have key : ∀ c ∈ alpha, fSpec c = false → Unicode.isSpace c = false := by
    refine alpha_cases ⟨?_, ?_, ?_, ?_, ?_, ?_, ?_, ?_, ?_, ?_, ?_, ?_⟩ <;> decide +kernel
  exact key c h.1 h.2
theorem tok_drop (w t : List Nat) : List.take 0 (61 :: (w ++ t)) ++ List.drop (1 + w.length) (61 :: (w ++ t)) = t := by
  rw [List.take_zero, List.nil_append, Nat.add_comm, List.drop_succ_cons, List.drop_left]
theorem tok_take (w t : List Nat) : List.take (1 + w.length - 1) (List.drop 1 (61 :: (w ++ t))) = w := by
  rw [Nat.add_sub_cancel_left, List.drop_succ_cons, List.drop_zero, List.take_left]
end Mine
end R18

section R19
open PySem PySem.W PySem.Spec PySem.Calls PyProof.Rows
open PySem.Builtin PySem.Builtin.Re
namespace Mine
section
variable {c : Cx} {ρ : List (Str × D)} {own es es₂ : List Ow} {fz : FZ} {s : Shared} {d : D}
theorem ownSet_pes {x : Str} {a : Addr} {ds ds' : List D} (hes : ∀ q ∈ es, q.name = none) (hown : (own.all fun q => q.name != some x) = true) :
    ownSet (⟨some x, a, .list ds⟩ :: (es ++ own)) x ds' = ⟨some x, a, .list ds'⟩ :: (es ++ own) := by
  unfold ownSet
  rw [List.map_cons]
  congr 1
  · rw [show ((⟨some x, a, .list ds⟩ : Ow).name == some x) = true from beq_self_eq_true _]; rfl
  · refine (List.map_congr_left (g := _root_.id) ?_).trans (List.map_id _)
    intro q hq
    rcases List.mem_append.mp hq with h | h
    · rw [hes q h]; rfl
    · have := List.all_eq_true.mp hown q h
      have : (q.name == some x) = false := by simpa [bne] using this
      rw [this]; rfl
theorem ex_append_epe {x : Str} {a : Addr} {ds : List D} {e : PySem.Expr} {np apos pos xpos} {rest : List Stmt} {R : Flow → FZ → Shared → Prop} (hes₂ : ∀ q ∈ es₂, q.name = none) (hes : ∀ q ∈ es, q.name = none) (hown : (own.all fun q => q.name != some x) = true) (he : EV c ρ (es₂ ++ (⟨some x, a, .list ds⟩ :: (es ++ own))) e d)
    (h : EX c ρ (es₂ ++ (⟨some x, a, .list (ds ++ [d])⟩ :: (es ++ own))) rest R) (hl : ds.length ≤ sizeLine)
    (hline : (apos.endLine == pos.line) = true) (hd : (x == ("__debug__" : Str)) = false)
    (hs : ∀ env, starEach [e] env = [(false, eval e env)]) : EX c ρ (es₂ ++ (⟨some x, a, .list ds⟩ :: (es ++ own))) (.Expr (.Call (.Attribute (.Name x np) "append" apos) [e] [] pos) xpos :: rest) R := by
  refine ex_append_es (a := a) hes₂ he ?_ ?_ ?_ hl hline hd hs
  · unfold ownGet
    rw [List.find?_cons, show ((⟨some x, a, .list ds⟩ : Ow).name == some x) = true from beq_self_eq_true _]
  · rw [List.all_cons]
    have h2 : ((es ++ own).all fun q => q.name != some x || q.addr == a) = true := all_es hes (by
      rw [List.all_eq_true] at hown ⊢
      intro q hq
      rw [hown q hq]; rfl)
    rw [h2]
    simp
  · rw [ownSet_pes hes hown]; exact h
theorem any_pes {x : Str} {p : Ow} (hes : ∀ q ∈ es, q.name = none) (hp : (p.name == some x) = false) (h : (own.any fun q => q.name == some x) = false) : ((p :: (es ++ own)).any fun q => q.name == some x) = false := by
  rw [List.any_cons, hp, Bool.false_or]
  exact any_es hes h
end

noncomputable def pD (p : List Nat × Option (List Nat)) : D := .tuple [.str (S p.1), match p.2 with | none => .none | some l => .str (S l)]
noncomputable def PairOk (p : List Nat × Option (List Nat)) : Prop := p.1.length ≤ 20000 ∧ ∀ v, p.2 = some v → v ≠ [] ∧ v.length ≤ 20000 ∧ ∀ c ∈ v, c ∈ alpha

theorem jt_split {v : List Nat} (h : v.any fSpec = true) : ∃ p x r, v = p ++ x :: r ∧ (∀ y ∈ p, fSpec y = false) ∧ fSpec x = true := by
  induction v with
  | nil => cases h
  | cons y v ih =>
    by_cases hy : fSpec y = true
    · exact ⟨[], y, v, rfl, (fun _ h => nomatch h), hy⟩
    · have hy' : fSpec y = false := by simpa using hy
      rw [List.any_cons, hy', Bool.false_or] at h
      obtain ⟨p, x, r, e, hp, hx⟩ := ih h
      refine ⟨y :: p, x, r, by rw [e]; rfl, fun z hz => ?_, hx⟩
      rcases List.mem_cons.mp hz with rfl | hz
      · exact hy'
      · exact hp z hz
theorem fJT_spec (c : Nat) : fJT c = !fSpec c := rfl
theorem op_full_jt {a : Addr} {v : List Nat} (hp : ∀ c, PatAt c a cJT.toList 0) (hne : v ≠ []) (hv : v.length ≤ 20000 ∧ ∀ c ∈ v, c ∈ alpha) : ∃ d, (∀ c, OPs c (fun vs => call (.builtin "re.Pattern.fullmatch") vs) [.obj a, .str (S v)] d) ∧ ∀ c, OPT c d (!v.any fSpec) := by
  cases h : v.any fSpec with
  | false =>
    refine ⟨_, fun c => op_full_yes (hp c) (jt_yes hne (fun x hx => ⟨hv.2 x hx, ?_⟩) (by (first | lia | omega))) (by decide) (by (first | lia | omega)), fun c => opt_mat⟩
    have := List.any_eq_false.mp h x hx
    rw [fJT_spec]
    simpa using this
  | true =>
    obtain ⟨p, x, r, e, hpl, hx⟩ := jt_split h
    subst e
    have hl := hv.1
    rw [List.length_append] at hl
    refine ⟨_, fun c => op_full_no (hp c) (jt_no (p := p) (r := r) (c := x) (fun y hy => ⟨hv.2 y (List.mem_append_left _ hy), by rw [fJT_spec, hpl y hy]; rfl⟩) ⟨hv.2 x (List.mem_append_right _ (.head _)), by rw [fJT_spec, hx]; rfl⟩ (by rw [List.length_append]; (first | lia | omega))) (by (first | lia | omega)) (by rw [List.length_append]; (first | lia | omega)), fun c => opt_none⟩
end Mine
end R19

section Z1
open PySem PySem.W PySem.Spec PySem.Calls PyProof.Rows
namespace Mine

section
variable {c : Cx} {ρ ρ' : List (Str × D)} {own own' W W' : List Ow} {fz fz' : FZ} {s s' : Shared} {d : D}

/- some entries' objects change, others come -/
theorem Frm.re {h' : Heap} {tk : Nat} (F : Frm c ρ (W ++ own) fz s) (hk : ∀ b o, (∀ q ∈ W, q.addr ≠ b) → s.heap.get? b = some o → h'.get? b = some o)
    (hW : ∀ q ∈ W', (∃ p ∈ W, p.addr = q.addr) ∨ s.heap.objs.size ≤ q.addr) (hnd : (W'.map (·.addr)).Nodup) (hn : ∀ q ∈ W', q.name = none) (hv : ∀ q ∈ W', q.val.Holds fz h' q.addr) (htk : 1 ≤ tk)
    (hz : s.heap.objs.size ≤ h'.objs.size) : Frm c ρ (W' ++ own) fz { s with heap := h', toks := tk } := by
  obtain ⟨m, hns, hr, hw⟩ := F.ns
  have hfz : ∀ q ∈ W, fz q.addr = none := fun q hq => (F.ow q (List.mem_append_left _ hq)).2.1
  have h78 : ∀ q ∈ W, q.addr ≠ 78 := fun q hq => F.ne78 (F.ow q (List.mem_append_left _ hq)).1
  have h95 : ∀ q ∈ W, q.addr ≠ 95 := fun q hq => F.ne95 (F.ow q (List.mem_append_left _ hq)).1
  have hL : ∀ q ∈ W, q.addr ≠ c.env.locals := fun q hq => by
    obtain ⟨o, hg, hd, _⟩ := (F.ow q (List.mem_append_left _ hq)).2.2.get
    exact Ns_ne hns hg hd
  have hfzk : ∀ b o, fz b = some o → ∀ q ∈ W, q.addr ≠ b := fun b o e q hq x => by rw [← x, hfz q hq] at e; cases e
  have I' : Inv c.G fz { s with heap := h', toks := tk } := by
    refine ⟨F.I.base, fun a o e => hk _ _ (hfzk a o e) (F.I.le a o e), ?_, ?_, F.I.f78, F.I.f95, F.I.gens⟩
    · rcases F.I.t78 with e | ⟨x, oc, vs, t, e, r⟩
      · exact .inl (hk _ _ h78 e)
      · exact .inr ⟨x, oc, vs, t, hk _ _ h78 e, r⟩
    · rcases F.I.t95 with e | ⟨x, oc, vs, t, e, r⟩
      · exact .inl (hk _ _ h95 e)
      · exact .inr ⟨x, oc, vs, t, hk _ _ h95 e, r⟩
  have hns' : h'.Ns c.env.locals m := let ⟨o, es, ep, e, r⟩ := hns; ⟨o, es, ep, hk _ _ hL e, r⟩
  have hnd0 : ∀ q ∈ W, ∀ p ∈ own, q.addr ≠ p.addr := fun q hq p hp e => by
    have := F.nodup
    rw [List.map_append, List.nodup_append] at this
    exact this.2.2 _ (List.mem_map.mpr ⟨q, hq, rfl⟩) _ (List.mem_map.mpr ⟨p, hp, rfl⟩) e
  have hlt : ∀ p ∈ own, p.addr < s.heap.objs.size := fun p hp => by
    obtain ⟨o, hg, _⟩ := (F.ow p (List.mem_append_right _ hp)).2.2.get
    exact Heap.lt_size hg
  refine ⟨⟨F.nx.mono, F.nx.old, Nat.le_trans F.nx.size hz, fun a o h1 h2 e => ?_, F.nx.gens, F.nx.os⟩, I', ⟨m, hns', fun y e hy => ?_, fun q hq y hy => ?_⟩, F.lo, fun q hq => ?_, ?_, htk, ?_⟩
  · refine hk _ _ (fun q hq x => ?_) (F.nx.keep a o h1 h2 e)
    exact Nat.lt_irrefl _ (Nat.lt_of_lt_of_le (Heap.lt_size e) (x ▸ (F.ow q (List.mem_append_left _ hq)).1))
  · obtain ⟨u, hb, ru⟩ := hr y e hy
    refine ⟨u, ?_, ru⟩
    rcases hb with hb | ⟨q, hkq, hl, hc⟩
    · exact .inl hb
    · obtain ⟨o', ho', hd'⟩ := id hc
      refine .inr ⟨q, hkq, hl, o', hk _ _ (fun p hp => ?_) ho', hd'⟩
      obtain ⟨o, hg, _, hd2⟩ := (F.ow p (List.mem_append_left _ hp)).2.2.get
      exact Ne.symm (IsCell_ne hc hg hd2)
  · rcases List.mem_append.mp hq with hq | hq
    · rw [hn q hq] at hy; cases hy
    · exact hw q (List.mem_append_right _ hq) y hy
  · rcases List.mem_append.mp hq with hq | hq
    · rcases hW q hq with ⟨p, hp, e⟩ | h
      · exact ⟨e ▸ (F.ow p (List.mem_append_left _ hp)).1, e ▸ hfz p hp, hv q hq⟩
      · exact ⟨Nat.le_trans F.nx.size h, F.I.fresh h, hv q hq⟩
    · obtain ⟨h1, h2, h3⟩ := F.ow q (List.mem_append_right _ hq)
      exact ⟨h1, h2, h3.keep (fun _ _ e => e) fun o' e => hk _ _ (fun p hp => hnd0 p hp q hq) e⟩
  · rw [List.map_append, List.nodup_append]
    have := F.nodup
    rw [List.map_append, List.nodup_append] at this
    refine ⟨hnd, this.2.1, fun a ha b hb => ?_⟩
    obtain ⟨q, hq, rfl⟩ := List.mem_map.mp ha
    obtain ⟨p, hp, rfl⟩ := List.mem_map.mp hb
    rcases hW q hq with ⟨p', hp', e⟩ | h
    · rw [← e]; exact hnd0 p' hp' p hp
    · exact Nat.ne_of_gt (Nat.lt_of_lt_of_le (hlt p hp) h)
  · refine ⟨fun b o e => ?_, fun b o e q hq => ?_, F.kp.gens, fun b e => ?_⟩
    · obtain ⟨h1, h2⟩ := F.kp.obj b o e
      exact ⟨hk _ _ (fun q hq => F.kp.own b o e q (List.mem_append_left _ hq)) h1, h2⟩
    · rcases List.mem_append.mp hq with hq | hq
      · rcases hW q hq with ⟨p, hp, x⟩ | h
        · rw [← x]; exact F.kp.own b o e p (List.mem_append_left _ hp)
        · exact Nat.ne_of_gt (Nat.lt_of_lt_of_le (F.kp.lt e) h)
      · exact F.kp.own b o e q (List.mem_append_right _ hq)
    · obtain ⟨h1, h2, r⟩ := F.kp.loose b e
      refine ⟨h1, fun q hq => ?_, r⟩
      rcases List.mem_append.mp hq with hq | hq
      · rcases hW q hq with ⟨p, hp, x⟩ | h
        · rw [← x]; exact h2 p (List.mem_append_left _ hp)
        · exact Nat.ne_of_gt (Nat.lt_of_lt_of_le (F.kp.ltN F.I e) h)
      · exact h2 q (List.mem_append_right _ hq)

/- an object that nobody holds stands still -/
theorem Frm.freeze {a : Addr} {o : Obj} (F : Frm c ρ own fz s) (hg : s.heap.get? a = some o) (hf : fz a = none) (hlo : c.s₀.heap.objs.size ≤ a) (ha : ∀ q ∈ own, q.addr ≠ a) (hl : c.env.locals ≠ a) (hN : ∀ b, c.kN b → a ≠ b) : Frm c ρ own (fz.put a o) s := by
  obtain ⟨m, hns, hr, hw⟩ := F.ns
  exact ⟨F.nx.freeze hf hlo, F.I.freeze hg hf (F.ne78 hlo) (F.ne95 hlo), ⟨m, hns, fun x d e => let ⟨v, hb, r⟩ := hr x d e; ⟨v, hb, r.mono (FZ.put_le hf)⟩, hw⟩, ⟨F.lo.1, by rw [FZ.put_ne _ _ hl]; exact F.lo.2⟩,
    fun q hq => let ⟨h1, h2, h3⟩ := F.ow q hq; ⟨h1, by rw [FZ.put_ne _ _ (ha q hq)]; exact h2, h3.keep (FZ.put_le hf) fun _ e => e⟩, F.nodup, F.tk, F.kp.freeze hf hN⟩

/- zip of two lists that stand still -/
noncomputable def zipAt (TI TO : Addr) (f0 f1 : Value) : OPred where
  P := fun h a => h.get? a = some { cls := .type "zip", dict := none, data := .fields #[f0, f1, .bool false, .ref TI, .ref TO], slots := #[] }
  stab := fun h h' a hk x => hk _ x
  get := fun h a x => ⟨_, x, (by intro es n h; cases h), (by intro v h; cases h)⟩
noncomputable def pairAt (a b : Value) : OPred where
  P := fun h T => IsPair h T a b
  stab := fun h h' a hk x => hk _ x
  get := fun h a x => ⟨_, x, (by intro es n h; cases h), (by intro v h; cases h)⟩
noncomputable def anyPair : OPred where
  P := fun h T => ∃ a b, IsPair h T a b
  stab := fun h h' a hk x => let ⟨u, v, e⟩ := x; ⟨u, v, hk _ e⟩
  get := fun h a x => let ⟨u, v, e⟩ := x; ⟨_, e, (by intro es n h; cases h), (by intro v h; cases h)⟩

/- the five objects of a zip -/
noncomputable def zipW (z TI TO i1 i2 l1 l2 : Addr) (f0 f1 : Value) (i : Nat) : List Ow :=
  [⟨none, z, .pr (zipAt TI TO f0 f1)⟩, ⟨none, TO, .pr anyPair⟩, ⟨none, i1, .pr (listIt l1 i)⟩, ⟨none, i2, .pr (listIt l2 i)⟩, ⟨none, TI, .pr (pairAt (.ref i1) (.ref i2))⟩]
theorem zipW_names {z TI TO i1 i2 l1 l2 : Addr} {f0 f1 : Value} {i : Nat} : ∀ q ∈ zipW z TI TO i1 i2 l1 l2 f0 f1 i, q.name = none := fun q hq => by
  simp only [zipW, List.mem_cons, List.not_mem_nil, or_false] at hq
  rcases hq with rfl | rfl | rfl | rfl | rfl <;> rfl

theorem zip_apart {z TI TO i1 i2 l1 l2 : Addr} {f0 f1 : Value} {i : Nat} {o1 o2 : Obj} (F : Frm c ρ (zipW z TI TO i1 i2 l1 l2 f0 f1 i ++ own) fz s) (h1 : fz l1 = some o1) (h2 : fz l2 = some o2) : ZipApart z TI TO i1 i2 l1 l2 := by
  have nd := F.nodup
  have hn : ∀ q ∈ zipW z TI TO i1 i2 l1 l2 f0 f1 i, fz q.addr = none := fun q hq => (F.ow q (List.mem_append_left _ hq)).2.1
  have n1 : ∀ q ∈ zipW z TI TO i1 i2 l1 l2 f0 f1 i, l1 ≠ q.addr := fun q hq e => by rw [e, hn q hq] at h1; cases h1
  have n2 : ∀ q ∈ zipW z TI TO i1 i2 l1 l2 f0 f1 i, l2 ≠ q.addr := fun q hq e => by rw [e, hn q hq] at h2; cases h2
  rw [List.map_append, List.nodup_append] at nd
  have nd : [z, TO, i1, i2, TI].Nodup := nd.1
  simp only [List.nodup_cons, List.mem_cons, List.not_mem_nil, or_false, not_or] at nd
  simp only [zipW, List.forall_mem_cons] at n1 n2
  obtain ⟨⟨a1, a2, a3, a4⟩, ⟨b1, b2, b3⟩, ⟨c1, c2⟩, d1, _⟩ := nd
  exact ⟨Ne.symm a4, Ne.symm a1, Ne.symm a2, Ne.symm a3, Ne.symm b3, Ne.symm c2, Ne.symm d1, b1, b2, c1, n1.1, n1.2.1, n1.2.2.1, n1.2.2.2.1, n2.1, n2.2.1, n2.2.2.1, n2.2.2.2.1⟩


theorem zip_read {z TI TO i1 i2 l1 l2 : Addr} {f0 f1 : Value} {i : Nat} (F : Frm c ρ (zipW z TI TO i1 i2 l1 l2 f0 f1 i ++ own) fz s) :
    (zipAt TI TO f0 f1).P s.heap z ∧ IsPair s.heap TI (.ref i1) (.ref i2) ∧ (∃ a b, IsPair s.heap TO a b) ∧ s.heap.IsListIter i1 l1 i ∧ s.heap.IsListIter i2 l2 i := by
  have h : ∀ q ∈ zipW z TI TO i1 i2 l1 l2 f0 f1 i, q.val.Holds fz s.heap q.addr := fun q hq => (F.ow q (List.mem_append_left _ hq)).2.2
  simp only [zipW, List.forall_mem_cons] at h
  exact ⟨h.1, h.2.2.2.2.1, h.2.1, h.2.2.1, h.2.2.2.1⟩

/- after a step: the four that moved -/
theorem zip_step {z TI TO i1 i2 l1 l2 : Addr} {f0 f1 g0 g1 : Value} {i j : Nat} {h' : Heap} {tk : Nat} {o : Obj} (F : Frm c ρ (zipW z TI TO i1 i2 l1 l2 f0 f1 i ++ own) fz s)
    (hz : (zipAt TI TO g0 g1).P h' z) (hTO : ∃ a b, IsPair h' TO a b) (h1 : h'.IsListIter i1 l1 j) (h2 : h'.IsListIter i2 l2 j)
    (hk : ∀ b o, b ≠ z → b ≠ TO → b ≠ i1 → b ≠ i2 → s.heap.get? b = some o → h'.get? b = some o) (hT : h'.get? s.heap.objs.size = some o) (htk : 1 ≤ tk) :
    Frm c ρ (zipW z TI TO i1 i2 l1 l2 g0 g1 j ++ own) (fz.put s.heap.objs.size o) { s with heap := h', toks := tk } := by
  have nd := F.nodup
  rw [List.map_append, List.nodup_append] at nd
  have nd4 : [z, TO, i1, i2].Nodup := by
    have nd : [z, TO, i1, i2, TI].Nodup := nd.1
    simp only [List.nodup_cons, List.mem_cons, List.not_mem_nil, or_false, not_or] at nd ⊢
    obtain ⟨⟨a1, a2, a3, a4⟩, ⟨b1, b2, b3⟩, ⟨c1, c2⟩, d1, _⟩ := nd
    exact ⟨⟨a1, a2, a3⟩, ⟨b1, b2⟩, c1, not_false, List.nodup_nil⟩
  have F' : Frm c ρ (zipW z TI TO i1 i2 l1 l2 g0 g1 j ++ own) fz { s with heap := h', toks := tk } := by
    refine Frm.re (W := [⟨none, z, .pr (zipAt TI TO f0 f1)⟩, ⟨none, TO, .pr anyPair⟩, ⟨none, i1, .pr (listIt l1 i)⟩, ⟨none, i2, .pr (listIt l2 i)⟩])
      (W' := [⟨none, z, .pr (zipAt TI TO g0 g1)⟩, ⟨none, TO, .pr anyPair⟩, ⟨none, i1, .pr (listIt l1 j)⟩, ⟨none, i2, .pr (listIt l2 j)⟩]) (own := ⟨none, TI, .pr (pairAt (.ref i1) (.ref i2))⟩ :: own) F ?_ ?_ nd4 ?_ ?_ htk ?_
    · intro b o hb e
      simp only [List.forall_mem_cons] at hb
      exact hk b o (Ne.symm hb.1) (Ne.symm hb.2.1) (Ne.symm hb.2.2.1) (Ne.symm hb.2.2.2.1) e
    · intro q hq
      refine .inl ?_
      simp only [List.mem_cons, List.not_mem_nil, or_false] at hq
      rcases hq with rfl | rfl | rfl | rfl
      · exact ⟨_, .head _, rfl⟩
      · exact ⟨_, .tail _ (.head _), rfl⟩
      · exact ⟨_, .tail _ (.tail _ (.head _)), rfl⟩
      · exact ⟨_, .tail _ (.tail _ (.tail _ (.head _))), rfl⟩
    · intro q hq
      simp only [List.mem_cons, List.not_mem_nil, or_false] at hq
      rcases hq with rfl | rfl | rfl | rfl <;> rfl
    · intro q hq
      simp only [List.mem_cons, List.not_mem_nil, or_false] at hq
      rcases hq with rfl | rfl | rfl | rfl
      · exact hz
      · exact hTO
      · exact h1
      · exact h2
    · exact Nat.le_of_lt (Heap.lt_size hT)
  refine F'.freeze hT (F.I.fresh (Nat.le_refl _)) F.nx.size (fun q hq => ?_) ?_ fun b e => Ne.symm (Nat.ne_of_lt (F.kp.ltN F.I e))
  · obtain ⟨p, hp, e⟩ : ∃ p ∈ zipW z TI TO i1 i2 l1 l2 f0 f1 i ++ own, p.addr = q.addr := by
      rcases List.mem_append.mp hq with hq | hq
      · simp only [zipW, List.mem_cons, List.not_mem_nil, or_false] at hq
        rcases hq with rfl | rfl | rfl | rfl | rfl
        · exact ⟨_, .head _, rfl⟩
        · exact ⟨_, .tail _ (.head _), rfl⟩
        · exact ⟨_, .tail _ (.tail _ (.head _)), rfl⟩
        · exact ⟨_, .tail _ (.tail _ (.tail _ (.head _))), rfl⟩
        · exact ⟨_, .tail _ (.tail _ (.tail _ (.tail _ (.head _)))), rfl⟩
      · exact ⟨q, List.mem_append_right _ hq, rfl⟩
    obtain ⟨o, hg, _⟩ := (F.ow p hp).2.2.get
    rw [← e]
    exact Nat.ne_of_lt (Heap.lt_size hg)
  · obtain ⟨m, hn, _⟩ := F.ns
    exact Nat.ne_of_lt hn.lt

theorem zip_gone {z TI TO i1 i2 l1 l2 : Addr} {f0 f1 : Value} {i : Nat} {h' : Heap} {tk : Nat} (F : Frm c ρ (zipW z TI TO i1 i2 l1 l2 f0 f1 i ++ own) fz s)
    (hk : ∀ b o, b ≠ z → b ≠ TO → b ≠ i1 → b ≠ i2 → s.heap.get? b = some o → h'.get? b = some o) (hz : s.heap.objs.size ≤ h'.objs.size) (htk : 1 ≤ tk) : Frm c ρ own fz { s with heap := h', toks := tk } := by
  refine Frm.re (W := zipW z TI TO i1 i2 l1 l2 f0 f1 i) (W' := []) F (fun b o hb e => ?_) (fun q hq => nomatch hq) List.nodup_nil (fun q hq => nomatch hq) (fun q hq => nomatch hq) htk hz
  simp only [zipW, List.forall_mem_cons] at hb
  exact hk b o (Ne.symm hb.1) (Ne.symm hb.2.1) (Ne.symm hb.2.2.1) (Ne.symm hb.2.2.2.1) e

noncomputable def ZipOk (l1 l2 : Addr) (vs us : List Value) (n k : Nat) (xs ys : List D) (fz : FZ) : Prop := (fz l1 = some (listO vs n) ∧ Reps fz vs xs) ∧ fz l2 = some (listO us k) ∧ Reps fz us ys
theorem ZipOk.mono {l1 l2 : Addr} {vs us : List Value} {n k : Nat} {xs ys : List D} (h : FZ.le fz fz') (x : ZipOk l1 l2 vs us n k xs ys fz) : ZipOk l1 l2 vs us n k xs ys fz' := ⟨⟨h _ _ x.1.1, x.1.2.mono h⟩, h _ _ x.2.1, x.2.2.mono h⟩

theorem itr_zip {w : World} {G : Heap} {elts : List PySem.Expr} {k0 : Nat} {pos : Pos} {z TI TO i1 i2 l1 l2 : Addr} {vs us : List Value} {n k m : Nat} {xs ys : List D} (hx : xs.length = m) (hy : ys.length = m) :
    ITR w G (.Tuple elts k0 pos) z m (fun i => .tuple [xs.getD i .none, ys.getD i .none]) (fun i => zipW z TI TO i1 i2 l1 l2 .none (.bool false) i) (ZipOk l1 l2 vs us n k xs ys) where
  mono := fun fz fz' h x => x.mono h
  names := fun i => zipW_names
  self := fun c _ _ ρ own fz s i F Q E hQ => wpAny_pyIter_zip (zip_read F).1 hQ
  nxt := fun c _ _ ρ own fz s i hi F ok Q E hQ => by
    obtain ⟨hz, hTI, ⟨a, b, hTO⟩, h1, h2⟩ := zip_read F
    have D := zip_apart F ok.1.1 ok.2.1
    have hd1 : xs[i]? = some (xs.getD i .none) := by rw [List.getD_eq_getElem?_getD, List.getElem?_eq_getElem (hx ▸ hi)]; rfl
    have hd2 : ys[i]? = some (ys.getD i .none) := by rw [List.getD_eq_getElem?_getD, List.getElem?_eq_getElem (hy ▸ hi)]; rfl
    obtain ⟨v, hv, r⟩ := ok.1.2.get i _ hd1
    obtain ⟨u, hu, r'⟩ := ok.2.2.get i _ hd2
    refine wpAny_pyNext_zip_item D hz hTI hTO h1 h2 (IsList_of F.I ok.1.1) (IsList_of F.I ok.2.1) (by rw [List.getElem?_toArray]; exact hv) (by rw [List.getElem?_toArray]; exact hu) fun h' a1 a2 a3 a4 a5 a6 a7 => ?_
    have F' := zip_step (tk := s.toks) F a1 ⟨_, _, a2⟩ a3 a4 a7 a5 F.tk
    have hl : FZ.le fz (fz.put s.heap.objs.size (tupO [v, u] 0)) := FZ.put_le (F.I.fresh (Nat.le_refl _))
    refine hQ (.ref s.heap.objs.size) _ _ hl fun Q' E' hq => wpAny_letOwnedTupleGo_zip a1 fun h'' hz'' hs'' => hq _ ?_ (.tuple (FZ.put_self _ _ _) (.cons (r.mono hl) (.cons (r'.mono hl) .nil)))
    exact F'.upd (v' := .pr (zipAt TI TO .none (.bool false))) hs''.extBut hz'' F.tk
  done := fun c _ _ ρ own fz s F ok Q E hQ => by
    obtain ⟨hz, hTI, ⟨a, b, hTO⟩, h1, h2⟩ := zip_read F
    have D := zip_apart F ok.1.1 ok.2.1
    refine with_size (wpAny_pyNext_zip_end c.room.handled D hz hTI hTO h1 h2 (IsList_of F.I ok.1.1) (IsList_of F.I ok.2.1) (.inl ?_) fun h' hk hsz => hQ fz _ (fun _ _ e => e) (zip_gone F hk hsz F.tk))
    rw [List.getElem?_toArray, List.getElem?_eq_none_iff, ok.1.2.length, hx]
    exact Nat.le_refl _

/- zip(x, y) made -/
theorem zip_made {f : Str} {p pos : Pos} {e₁ e₂ : PySem.Expr} {xs ys : List D} (hf : f = Str.ofString "zip") (hx : c.env.kindOf f = some .globalImplicit) (hn : nsIn (hd.heap_39 c.w.params) mainGlobals f = some none) (he : EVs c ρ own [e₁, e₂] [.list xs, .list ys])
    (hpl : ([e₁, e₂].all fun e => match e with | .Starred .. => false | _ => true) = true) (F : Frm c ρ own fz s) {Q E : Value → Shared → Prop}
    (hQ : ∀ z TI TO i1 i2 l1 l2 vs us n k fz' s', Next fz s fz' s' → (∀ q ∈ zipW z TI TO i1 i2 l1 l2 .none (.bool false) 0, s.heap.objs.size ≤ q.addr) → ZipOk l1 l2 vs us n k xs ys fz' →
      Frm c ρ (zipW z TI TO i1 i2 l1 l2 .none (.bool false) 0 ++ own) fz' s' → Q (.ref z) s') : wpAny c.M c.A (eval (.Call (.Name f p) [e₁, e₂] [] pos) c.env) Q E s := by
  subst hf
  refine wp_typecall (hne := by decide) (hd := by decide) (T := "zip") F hx hn rfl he (fun vs fz₁ s₁ N₁ F₁ rs => ?_) hpl
  obtain ⟨_, _, rfl, r₁, rs⟩ := rs.inv
  · obtain ⟨_, _, rfl, r₂, rs⟩ := rs.inv
    · obtain rfl := rs.inv
      · obtain ⟨l1, vs, n, rfl, g1, q1⟩ := r₁.inv
        · obtain ⟨l2, us, k, rfl, g2, q2⟩ := r₂.inv
          ·
            refine call_zip_2 (IsList_of F₁.I g1) (IsList_of F₁.I g2) fun h' a1 a2 a3 a4 a5 a6 a7 => ?_
            have hz : s₁.heap.objs.size ≤ h'.objs.size := by rw [a6]; exact Nat.le_add_right _ _
            obtain ⟨N₂, _⟩ := ext_next (c := c) (tk := s₁.toks) F₁.I (fun b o _ e => a7 b o e) hz
            have hge : ∀ q ∈ zipW (s₁.heap.objs.size + 4) (s₁.heap.objs.size + 2) (s₁.heap.objs.size + 3) s₁.heap.objs.size (s₁.heap.objs.size + 1) l1 l2 .none (.bool false) 0, s₁.heap.objs.size ≤ q.addr := fun q hq => by
              simp only [zipW, List.mem_cons, List.not_mem_nil, or_false] at hq
              rcases hq with rfl | rfl | rfl | rfl | rfl
              · exact Nat.le_add_right _ _
              · exact Nat.le_add_right _ _
              · exact Nat.le_refl _
              · exact Nat.le_add_right _ _
              · exact Nat.le_add_right _ _
            refine hQ _ _ _ _ _ l1 l2 vs us n k fz₁ _ (N₁.trans N₂) (fun q hq => Nat.le_trans N₁.size (hge q hq)) ⟨⟨g1, q1⟩, g2, q2⟩ ?_
            refine Frm.re (W := []) (own := own) F₁ (fun b o _ e => a7 b o e) (fun q hq => .inr (hge q hq)) ?_ zipW_names ?_ F₁.tk hz
            · show [s₁.heap.objs.size + 4, s₁.heap.objs.size + 3, s₁.heap.objs.size, s₁.heap.objs.size + 1, s₁.heap.objs.size + 2].Nodup
              generalize s₁.heap.objs.size = b
              have hb : ∀ x y : Nat, x ≠ y → (b + x : Nat) ≠ b + y := fun x y h e => h (Nat.add_left_cancel e)
              simp only [List.nodup_cons, List.mem_cons, List.not_mem_nil, or_false, not_or]
              exact ⟨⟨hb 4 3 (by decide), hb 4 0 (by decide), hb 4 1 (by decide), hb 4 2 (by decide)⟩, ⟨hb 3 0 (by decide), hb 3 1 (by decide), hb 3 2 (by decide)⟩, ⟨hb 0 1 (by decide), hb 0 2 (by decide)⟩, hb 1 2 (by decide), not_false, List.nodup_nil⟩
            · intro q hq
              simp only [zipW, List.mem_cons, List.not_mem_nil, or_false] at hq
              rcases hq with rfl | rfl | rfl | rfl | rfl
              · exact a1
              · exact ⟨_, _, a3⟩
              · exact a4
              · exact a5
              · exact a2

theorem itern_zip {f : Str} {elts : List PySem.Expr} {k0 : Nat} {tp p pos : Pos} {e₁ e₂ : PySem.Expr} {xs ys : List D} {m : Nat} (hf : f = Str.ofString "zip") (hx : c.env.kindOf f = some .globalImplicit) (hn : nsIn (hd.heap_39 c.w.params) mainGlobals f = some none) (he : EVs c ρ own [e₁, e₂] [.list xs, .list ys])
    (hm : xs.length = m) (hm' : ys.length = m) (hpl : ([e₁, e₂].all fun e => match e with | .Starred .. => false | _ => true) = true) :
    ITERN c ρ own (.Tuple elts k0 tp) (.Call (.Name f p) [e₁, e₂] [] pos) m (fun i => .tuple [xs.getD i .none, ys.getD i .none]) := fun fz s F Q E hQ => by
  refine zip_made hf hx hn he hpl F fun z TI TO i1 i2 l1 l2 vs us n k fz' s' N hge ok F' => ?_
  exact wpAny_pyIter_zip (zip_read F').1 (hQ _ _ _ _ _ N hge (itr_zip hm hm') ok F')
end
end Mine
end Z1

section Z2
open PySem PySem.W PySem.Spec PySem.Calls PyProof.Rows
namespace Mine
section
variable {prog : Program} {w : World} {A : Around} {E : Value → Shared → Prop} {s : Shared}
noncomputable abbrev IsZipF (h : Heap) (z TI TO : Addr) (f0 f1 : Value) : Prop := (zipAt TI TO f0 f1).P h z

theorem wpAny_loadIfAlive' {a : Addr} {Q : Option Obj → Shared → Prop} (h : Q (s.heap.get? a) s) : wpAny (model prog w) A (loadIfAlive a) Q E s := fun Γ p hΓ => by
  unfold loadIfAlive
  rw [Sem.wp_loadIfAlive]
  exact h
theorem zip_held {z TI TO T : Addr} {f1 : Value} {o : Obj} {Q : Bool → Shared → Prop} (hz : IsZipF s.heap z TI TO (rawInt T) f1) (hT : s.heap.get? T = some o) (hf : f1 = .bool false ∨ f1 = .bool true)
    (hQ : ∀ h', IsZipF h' z TI TO (rawInt T) (.bool true) → (∀ b o, b ≠ z → s.heap.get? b = some o → h'.get? b = some o) → h'.objs.size = s.heap.objs.size → Q false { s with heap := h' }) :
    wpAny (model prog w) A (Builtin.SmallTypes.ownedTupleIsFree (.ref z)) Q E s := by
  unfold Builtin.SmallTypes.ownedTupleIsFree
  refine wpAny_bind (wpAny_field hz rfl (x := rawInt T) rfl ?_)
  show wpAny _ _ (loadIfAlive (Int.toNat (T : Int)) >>= _) _ _ _
  rw [Int.toNat_natCast]
  refine wpAny_bind (wpAny_loadIfAlive' ?_)
  rw [hT]
  simp only [Option.isNone_some, Bool.false_eq_true, if_false]
  refine wpAny_bind (wpAny_field hz rfl (x := f1) rfl ?_)
  rcases hf with rfl | rfl
  · simp only [show (Value.bool false != Value.bool true) = true by decide, if_true]
    refine wpAny_bind (wpAny_setField_rec hz (by simp) fun h₁ hz₁ hs₁ => ?_)
    exact wpAny_pure (hQ h₁ hz₁ (fun b o hb e => hs₁.extBut _ _ hb e) hs₁.1)
  · simp only [show (Value.bool true != Value.bool true) = false by decide, Bool.false_eq_true, if_false]
    exact wpAny_pure (hQ s.heap hz (fun b o hb e => e) rfl)

theorem zip_held_item {z TI TO i1 i2 l1 l2 T : Addr} {k1 k2 : Nat} {xs ys : Array Value} {x y f1 : Value} {o : Obj} {Q : Value → Shared → Prop} (D : ZipApart z TI TO i1 i2 l1 l2)
    (hz : IsZipF s.heap z TI TO (rawInt T) f1) (hT : s.heap.get? T = some o) (hf : f1 = .bool false ∨ f1 = .bool true) (hTI : IsPair s.heap TI (.ref i1) (.ref i2))
    (h1 : s.heap.IsListIter i1 l1 k1) (h2 : s.heap.IsListIter i2 l2 k2) (hl1 : s.heap.IsList l1 xs) (hl2 : s.heap.IsList l2 ys) (hx : xs[k1]? = some x) (hy : ys[k2]? = some y)
    (hQ : ∀ h', IsZipF h' z TI TO (rawInt T) (.bool true) → h'.IsListIter i1 l1 (k1 + 1) → h'.IsListIter i2 l2 (k2 + 1) → IsPair h' s.heap.objs.size x y →
      (∀ c o, c ≠ z → c ≠ i1 → c ≠ i2 → s.heap.get? c = some o → h'.get? c = some o) → Q (.ref s.heap.objs.size) { s with heap := h' }) :
    wpAny (model prog w) A (Builtin.«zip.__next__» ⟨[.ref z], []⟩) (fun fin s' => ∃ v, fin = .done (.ret v) ∧ Q v s') E s := by
  show wpAny _ _ (field (.ref z) 2 >>= _) _ _ _
  refine wpAny_bind (wpAny_field hz rfl (x := .bool false) rfl ?_)
  show wpAny _ _ (field (.ref z) 3 >>= _) _ _ _
  refine wpAny_bind (wpAny_field hz rfl (x := .ref TI) rfl ?_)
  refine wpAny_bind (wpAny_seqItems hTI rfl ?_)
  show wpAny _ _ (Builtin.SmallTypes.ownedTupleIsFree (.ref z) >>= _) _ _ _
  refine wpAny_bind (zip_held hz hT hf fun h₁ hz₁ hs₁ sz₁ => ?_)
  simp only [Bool.false_eq_true, if_false]
  simp only [List.forIn_toArray, List.forIn_cons, List.forIn_nil]
  refine wpAny_bind (wpAny_bind (wpAny_bind (wpAny_holding ?_)))
  show wpAny _ _ (Builtin.SmallTypes.nextOf (.ref i1) >>= _) _ _ _
  refine wpAny_bind (wpAny_nextOf_list_item (h1.at fun o e => hs₁ _ o D.i1z e) (hl1.at fun o e => hs₁ _ o D.l1z e) hx fun h₂ h1₂ hs₂ => wpAny_pure (wpAny_pure (wpAny_bind (wpAny_bind (wpAny_holding ?_)))))
  show wpAny _ _ (Builtin.SmallTypes.nextOf (.ref i2) >>= _) _ _ _
  refine wpAny_bind (wpAny_nextOf_list_item ((h2.at fun o e => hs₁ _ o D.i2z e).extBut hs₂.extBut D.i12.symm) ((hl2.at fun o e => hs₁ _ o D.l2z e).extBut hs₂.extBut D.l2i1) hy fun h₃ h2₃ hs₃ => wpAny_pure (wpAny_pure (wpAny_pure ?_)))
  show wpAny _ _ (newTuple [x, y] >>= _) _ _ _
  refine wpAny_bind (wpAny_newTuple (wpAny_pure ⟨_, rfl, ?_⟩))
  have hsz : h₃.objs.size = s.heap.objs.size := by rw [hs₃.1, hs₂.1, sz₁]
  have up : ∀ b o, b ≠ z → b ≠ i1 → b ≠ i2 → s.heap.get? b = some o → (h₃.push { cls := .type "tuple", data := .seq #[x, y] }).get? b = some o := fun b o c1 c2 c3 e => Heap.get?_push_of_some _ (hs₃.extBut _ _ c3 (hs₂.extBut _ _ c2 (hs₁ _ _ c1 e)))
  have hz₃ : IsZipF (h₃.push { cls := .type "tuple", data := .seq #[x, y] }) z TI TO (rawInt T) (.bool true) := Heap.get?_push_of_some _ (hs₃.extBut _ _ D.i2z.symm (hs₂.extBut _ _ D.i1z.symm hz₁))
  have hT₃ : IsPair (h₃.push { cls := .type "tuple", data := .seq #[x, y] }) h₃.objs.size x y := Heap.get?_push_size _ rfl
  show Q (.ref h₃.objs.size) _
  rw [hsz] at hT₃ ⊢
  exact hQ _ hz₃ ((h1₂.extBut hs₃.extBut D.i12).at fun o e => Heap.get?_push_of_some _ e) (h2₃.at fun o e => Heap.get?_push_of_some _ e) hT₃ up

theorem zip_held_end {z TI TO i1 i2 l1 l2 T : Addr} {k1 : Nat} {xs : Array Value} {f1 : Value} {o : Obj} {Q : Fin → Shared → Prop} (hh : A.handled = none) (D : ZipApart z TI TO i1 i2 l1 l2)
    (hz : IsZipF s.heap z TI TO (rawInt T) f1) (hT : s.heap.get? T = some o) (hf : f1 = .bool false ∨ f1 = .bool true) (hTI : IsPair s.heap TI (.ref i1) (.ref i2))
    (h1 : s.heap.IsListIter i1 l1 k1) (hl1 : s.heap.IsList l1 xs) (hend : xs[k1]? = none)
    (hE : ∀ h' e, (∀ c o, c ≠ z → c ≠ i1 → c ≠ i2 → s.heap.get? c = some o → h'.get? c = some o) → (∃ o, h'.get? e = some o ∧ o.cls = .type "StopIteration") → E (.ref e) { s with heap := h' }) :
    wpAny (model prog w) A (Builtin.«zip.__next__» ⟨[.ref z], []⟩) Q E s := by
  show wpAny _ _ (field (.ref z) 2 >>= _) _ _ _
  refine wpAny_bind (wpAny_field hz rfl (x := .bool false) rfl ?_)
  show wpAny _ _ (field (.ref z) 3 >>= _) _ _ _
  refine wpAny_bind (wpAny_field hz rfl (x := .ref TI) rfl ?_)
  refine wpAny_bind (wpAny_seqItems hTI rfl ?_)
  show wpAny _ _ (Builtin.SmallTypes.ownedTupleIsFree (.ref z) >>= _) _ _ _
  refine wpAny_bind (zip_held hz hT hf fun h₁ hz₁ hs₁ sz₁ => ?_)
  simp only [Bool.false_eq_true, if_false]
  simp only [List.forIn_toArray, List.forIn_cons, List.forIn_nil]
  refine wpAny_bind (wpAny_bind (wpAny_bind (wpAny_holding ?_)))
  show wpAny _ _ (Builtin.SmallTypes.nextOf (.ref i1) >>= _) _ _ _
  refine wpAny_bind (wpAny_nextOf_list_end hh (h1.at fun o e => hs₁ _ o D.i1z e) (hl1.at fun o e => hs₁ _ o D.l1z e) hend fun h₂ e hs₂ he => ?_)
  exact hE h₂ e (fun c o c1 c2 c3 x => hs₂ _ _ c2 (hs₁ _ _ c1 x)) he

theorem wpAny_pyNext_held_item {z TI TO i1 i2 l1 l2 T : Addr} {k1 k2 : Nat} {xs ys : Array Value} {x y f1 : Value} {o : Obj} {Q : Option Value → Shared → Prop} (D : ZipApart z TI TO i1 i2 l1 l2)
    (hz : IsZipF s.heap z TI TO (rawInt T) f1) (hT : s.heap.get? T = some o) (hf : f1 = .bool false ∨ f1 = .bool true) (hTI : IsPair s.heap TI (.ref i1) (.ref i2))
    (h1 : s.heap.IsListIter i1 l1 k1) (h2 : s.heap.IsListIter i2 l2 k2) (hl1 : s.heap.IsList l1 xs) (hl2 : s.heap.IsList l2 ys) (hx : xs[k1]? = some x) (hy : ys[k2]? = some y)
    (hQ : ∀ h', IsZipF h' z TI TO (rawInt T) (.bool true) → h'.IsListIter i1 l1 (k1 + 1) → h'.IsListIter i2 l2 (k2 + 1) → IsPair h' s.heap.objs.size x y →
      (∀ c o, c ≠ z → c ≠ i1 → c ≠ i2 → s.heap.get? c = some o → h'.get? c = some o) → Q (some (.ref s.heap.objs.size)) { s with heap := h' }) :
    wpAny (model prog w) A (pyNext (.ref z)) Q E s := by
  have hTy : s.TypeIs (.ref z) "zip" := ⟨_, hz, rfl⟩
  unfold pyNext
  exact wpAny_bind (wpAny_attempt (wpAny_callSpecial?_slot (name := Str.ofString "__next__") hTy PySem.F.slot_zip_next
    (wpAny_call_entry PySem.F.slot_zip_next hTy PySem.F.entry_zip_next
      (zip_held_item D hz hT hf hTI h1 h2 hl1 hl2 hx hy fun h' a1 a2 a3 a4 a5 => wpAny_pure (hQ h' a1 a2 a3 a4 a5)) (PySem.F.args_zip_next_1 _))))

theorem wpAny_pyNext_held_end {z TI TO i1 i2 l1 l2 T : Addr} {k1 : Nat} {xs : Array Value} {f1 : Value} {o : Obj} {Q : Option Value → Shared → Prop} (hh : A.handled = none) (D : ZipApart z TI TO i1 i2 l1 l2)
    (hz : IsZipF s.heap z TI TO (rawInt T) f1) (hT : s.heap.get? T = some o) (hf : f1 = .bool false ∨ f1 = .bool true) (hTI : IsPair s.heap TI (.ref i1) (.ref i2))
    (h1 : s.heap.IsListIter i1 l1 k1) (hl1 : s.heap.IsList l1 xs) (hend : xs[k1]? = none)
    (hQ : ∀ h', (∀ c o, c ≠ z → c ≠ i1 → c ≠ i2 → s.heap.get? c = some o → h'.get? c = some o) → Q none { s with heap := h' }) : wpAny (model prog w) A (pyNext (.ref z)) Q E s := by
  have hTy : s.TypeIs (.ref z) "zip" := ⟨_, hz, rfl⟩
  unfold pyNext
  refine wpAny_bind (wpAny_attempt (wpAny_callSpecial?_slot (name := Str.ofString "__next__") hTy PySem.F.slot_zip_next
    (wpAny_call_entry PySem.F.slot_zip_next hTy PySem.F.entry_zip_next (zip_held_end hh D hz hT hf hTI h1 hl1 hend fun h' e hk he => ?_) (PySem.F.args_zip_next_1 _))))
  obtain ⟨o, ho, hc⟩ := he
  refine wpAny_bind (wpAny_isInstance (T := "StopIteration") (b := true) ⟨o, ho, hc⟩ isSubtype_stop ?_)
  exact wpAny_pure (hQ _ hk)
end
end Mine
end Z2

section Z3
open PySem PySem.W PySem.Spec PySem.Calls PyProof.Rows
namespace Mine
theorem zip_no_len : typeLookup (.type "zip") "__len__" = pure none := by rw [typeLookup_type, builtinLookup_eq_fast]; kernel_rfl
theorem zip_no_hint : typeLookup (.type "zip") "__length_hint__" = pure none := by rw [typeLookup_type, builtinLookup_eq_fast]; kernel_rfl

section
variable {c : Cx} {ρ ρ' : List (Str × D)} {own own' : List Ow} {fz fz' : FZ} {s s' : Shared} {d : D} {A : Around} {z TI TO i1 i2 l1 l2 : Addr} {vs us : List Value} {n k m : Nat} {xs ys : List D}

/- from wherever it began, the step leads on, if the objects at these places are new since -/
noncomputable def RN (as : List Addr) (fz : FZ) (s : Shared) (fz' : FZ) (s' : Shared) : Prop := ∀ fzb sb, Next fzb sb fz s → (∀ a ∈ as, sb.heap.objs.size ≤ a) → Next fzb sb fz' s'
theorem RN.refl {as : List Addr} : RN as fz s fz s := fun _ _ N _ => N
theorem RN.trans {as : List Addr} {fz'' : FZ} {s'' : Shared} (x : RN as fz s fz' s') (y : RN as fz' s' fz'' s'') : RN as fz s fz'' s'' := fun fzb sb N h => y fzb sb (x fzb sb N h) h
theorem RN.sub {as bs : List Addr} (x : RN as fz s fz' s') (h : ∀ a ∈ as, a ∈ bs) : RN bs fz s fz' s' := fun fzb sb N hb => x fzb sb N fun a ha => hb a (h a ha)
theorem RN.but {as : List Addr} {h' : Heap} {tk : Nat} (hk : ∀ b o, b ∉ as → s.heap.get? b = some o → h'.get? b = some o) (hz : s.heap.objs.size ≤ h'.objs.size) : RN as fz s fz { s with heap := h', toks := tk } := fun fzb sb N hb =>
  ⟨N.mono, N.old, Nat.le_trans N.size hz, fun a o h1 h2 e => hk _ _ (fun hm => Nat.lt_irrefl _ (Nat.lt_of_lt_of_le (Heap.lt_size e) (hb a hm))) (N.keep a o h1 h2 e), N.gens, N.os⟩
theorem RN.freeze {as : List Addr} {a : Addr} {o : Obj} (x : RN as fz s fz' s') (hf : fz' a = none) (ha : s.heap.objs.size ≤ a) : RN as fz s (fz'.put a o) s' := fun fzb sb N hb => (x fzb sb N hb).freeze hf (Nat.le_trans N.size ha)

/- .. or one object at the end is new itself -/
theorem RN.new {as : List Addr} {h₁ : Heap} {tk : Nat} (hz : s.heap.objs.size ≤ h₁.objs.size) (hk : ∀ b o, b < s.heap.objs.size → s.heap.get? b = some o → h₁.get? b = some o) (x : RN (s.heap.objs.size :: as) fz { s with heap := h₁, toks := tk } fz' s') : RN as fz s fz' s' := fun fzb sb N hb =>
  x fzb sb ((RN.but (as := []) (tk := tk) (fun b o _ e => hk b o (Heap.lt_size e) e) hz) fzb sb N fun a h => nomatch h) fun a ha => by
    rcases List.mem_cons.mp ha with rfl | ha
    · exact N.size
    · exact hb a ha

noncomputable def HeldZ (f0 f1 : Value) (fz : FZ) (i : Nat) : Prop := (f0 = .none ∧ f1 = .bool false) ∨ ∃ (T : Addr) (o : Obj), f0 = rawInt T ∧ fz T = some o ∧ (f1 = .bool false ∨ f1 = .bool true)

theorem zip_pull {f0 f1 : Value} {i : Nat} (hx : xs.length = m) (hy : ys.length = m) (hi : i < m) (F : Frm c ρ (zipW z TI TO i1 i2 l1 l2 f0 f1 i ++ own) fz s) (ok : ZipOk l1 l2 vs us n k xs ys fz) (hh : HeldZ f0 f1 fz i) {Q : Option Value → Shared → Prop} {E : Value → Shared → Prop}
    (hQ : ∀ v fz' s' g0 g1, RN [z, TO, i1, i2] fz s fz' s' → FZ.le fz fz' → Frm c ρ (zipW z TI TO i1 i2 l1 l2 g0 g1 (i + 1) ++ own) fz' s' → HeldZ g0 g1 fz' (i + 1) → Rep fz' v (.tuple [xs.getD i .none, ys.getD i .none]) → Q (some v) s') :
    wpAny c.M A (pyNext (.ref z)) Q E s := by
  obtain ⟨hz, hTI, ⟨a, b, hTO⟩, h1, h2⟩ := zip_read F
  have D := zip_apart F ok.1.1 ok.2.1
  have hd1 : xs[i]? = some (xs.getD i .none) := by rw [List.getD_eq_getElem?_getD, List.getElem?_eq_getElem (hx ▸ hi)]; rfl
  have hd2 : ys[i]? = some (ys.getD i .none) := by rw [List.getD_eq_getElem?_getD, List.getElem?_eq_getElem (hy ▸ hi)]; rfl
  obtain ⟨v, hv, r⟩ := ok.1.2.get i _ hd1
  obtain ⟨u, hu, r'⟩ := ok.2.2.get i _ hd2
  have hl : FZ.le fz (fz.put s.heap.objs.size (tupO [v, u] 0)) := FZ.put_le (F.I.fresh (Nat.le_refl _))
  have hr : Rep (fz.put s.heap.objs.size (tupO [v, u] 0)) (.ref s.heap.objs.size) (.tuple [xs.getD i .none, ys.getD i .none]) := .tuple (FZ.put_self _ _ _) (.cons (r.mono hl) (.cons (r'.mono hl) .nil))
  rcases hh with ⟨rfl, rfl⟩ | ⟨T, o, rfl, hT, hf⟩
  · refine wpAny_pyNext_zip_item D hz hTI hTO h1 h2 (IsList_of F.I ok.1.1) (IsList_of F.I ok.2.1) (by rw [List.getElem?_toArray]; exact hv) (by rw [List.getElem?_toArray]; exact hu) fun h' a1 a2 a3 a4 a5 a6 a7 => ?_
    exact hQ _ _ _ _ _ ((RN.but (tk := s.toks) (fun b o hb e => by simp only [List.mem_cons, List.not_mem_nil, or_false, not_or] at hb; exact a7 b o hb.1 hb.2.1 hb.2.2.1 hb.2.2.2 e) (by rw [a6]; exact Nat.le_succ _)).freeze (F.I.fresh (Nat.le_refl _)) (Nat.le_refl _)) hl (zip_step (tk := s.toks) F a1 ⟨_, _, a2⟩ a3 a4 a7 a5 F.tk) (.inr ⟨_, _, rfl, FZ.put_self _ _ _, .inl rfl⟩) hr
  · refine wpAny_pyNext_held_item D hz (F.I.le _ _ hT) hf hTI h1 h2 (IsList_of F.I ok.1.1) (IsList_of F.I ok.2.1) (by rw [List.getElem?_toArray]; exact hv) (by rw [List.getElem?_toArray]; exact hu) fun h' a1 a3 a4 a5 a7 => ?_
    exact hQ _ _ _ _ _ ((RN.but (tk := s.toks) (fun b o hb e => by simp only [List.mem_cons, List.not_mem_nil, or_false, not_or] at hb; exact a7 b o hb.1 hb.2.2.1 hb.2.2.2 e) (Nat.le_of_lt (Heap.lt_size a5))).freeze (F.I.fresh (Nat.le_refl _)) (Nat.le_refl _)) hl (zip_step (tk := s.toks) F a1 ⟨_, _, a7 _ _ D.TOz D.TOi1 D.TOi2 hTO⟩ a3 a4 (fun b o c1 _ c3 c4 e => a7 b o c1 c3 c4 e) a5 F.tk) (.inr ⟨_, _, rfl, hl _ _ hT, .inr rfl⟩) hr

theorem zip_over {f0 f1 : Value} (hx : xs.length = m) (hA : A.handled = none) (F : Frm c ρ (zipW z TI TO i1 i2 l1 l2 f0 f1 m ++ own) fz s) (ok : ZipOk l1 l2 vs us n k xs ys fz) (hh : HeldZ f0 f1 fz m) {Q : Option Value → Shared → Prop} {E : Value → Shared → Prop}
    (hQ : ∀ s', RN [z, TO, i1, i2] fz s fz s' → Frm c ρ own fz s' → Q none s') : wpAny c.M A (pyNext (.ref z)) Q E s := by
  obtain ⟨hz, hTI, ⟨a, b, hTO⟩, h1, h2⟩ := zip_read F
  have D := zip_apart F ok.1.1 ok.2.1
  have hend : vs.toArray[m]? = none := by
    rw [List.getElem?_toArray, List.getElem?_eq_none_iff, ok.1.2.length, hx]
    exact Nat.le_refl _
  rcases hh with ⟨rfl, rfl⟩ | ⟨T, o, rfl, hT, hf⟩
  · exact with_size (wpAny_pyNext_zip_end hA D hz hTI hTO h1 h2 (IsList_of F.I ok.1.1) (IsList_of F.I ok.2.1) (.inl hend) fun h' hk hsz => hQ _ (RN.but (tk := s.toks) (fun b o hb e => by simp only [List.mem_cons, List.not_mem_nil, or_false, not_or] at hb; exact hk b o hb.1 hb.2.1 hb.2.2.1 hb.2.2.2 e) hsz) (zip_gone F hk hsz F.tk))
  · exact with_size (wpAny_pyNext_held_end hA D hz (F.I.le _ _ hT) hf hTI h1 (IsList_of F.I ok.1.1) hend fun h' hk hsz => hQ _ (RN.but (tk := s.toks) (fun b o hb e => by simp only [List.mem_cons, List.not_mem_nil, or_false, not_or] at hb; exact hk b o hb.1 hb.2.2.1 hb.2.2.2 e) hsz) (zip_gone F (fun b o c1 _ c3 c4 e => hk b o c1 c3 c4 e) hsz F.tk))

noncomputable def zipD (xs ys : List D) : List D := List.zipWith (fun a b => .tuple [a, b]) xs ys
theorem sub_next {m i j : Nat} (h : m - i = j + 1) : m - (i + 1) = j := (Nat.sub_succ _ _).trans (congrArg Nat.pred h)
theorem zipD_take (xs ys : List D) (i : Nat) (h1 : i < xs.length) (h2 : i < ys.length) : (zipD xs ys).take (i + 1) = (zipD xs ys).take i ++ [.tuple [xs.getD i .none, ys.getD i .none]] := by
  rw [List.take_add_one]
  congr 1
  unfold zipD
  rw [List.getElem?_zipWith, List.getElem?_eq_getElem h1, List.getElem?_eq_getElem h2, List.getD_eq_getElem?_getD, List.getElem?_eq_getElem h1, List.getD_eq_getElem?_getD, List.getElem?_eq_getElem h2]
  rfl

theorem zip_loop {S : Addr} {res : Value} {R : Result → Shared → Prop} (hx : xs.length = m) (hy : ys.length = m) (hm : m ≤ 1000) (hA : A.handled = none) : ∀ (j i : Nat) (fz : FZ) (s : Shared) (f0 f1 : Value), m - i = j → i ≤ m →
    Frm c ρ (zipW z TI TO i1 i2 l1 l2 f0 f1 i ++ (⟨none, S, .list ((zipD xs ys).take i)⟩ :: own)) fz s → ZipOk l1 l2 vs us n k xs ys fz → HeldZ f0 f1 fz i →
    (∀ fz' s', RN [S, z, TO, i1, i2] fz s fz' s' → FZ.le fz fz' → Frm c ρ (⟨none, S, .list (zipD xs ys)⟩ :: own) fz' s' → R (.ok (.ret res)) s') →
    codeAny c.M A (.builtin "list.extend.loop" ⟨[.ref S, .ref z, res], []⟩) R s := by
  intro j
  induction j with
  | zero =>
    intro i fz s f0 f1 hj hi F ok hh hR
    have : i = m := by (first | lia | omega)
    subst this
    refine codeAny_builtin PySem.F.entry_extend_loop ?_
    rw [Around.under_plainId PySem.F.plain_extend_loop _]
    show wpAny _ A.in1 (pyNext (.ref z) >>= _) _ _ s
    refine wpAny_bind (zip_over (A := A.in1) hx hA F ok hh fun s' rn F' => wpAny_pure (hR fz s' (rn.sub fun a h => .tail _ h) (fun _ _ e => e) ?_))
    have : (zipD xs ys).take i = zipD xs ys := List.take_of_length_le (by unfold zipD; rw [List.length_zipWith]; (first | lia | omega))
    rw [this] at F'
    exact F'
  | succ j ih =>
    intro i fz s f0 f1 hj hi F ok hh hR
    have hlt : i < m := by (first | lia | omega)
    refine codeAny_builtin PySem.F.entry_extend_loop ?_
    rw [Around.under_plainId PySem.F.plain_extend_loop _]
    show wpAny _ A.in1 (pyNext (.ref z) >>= _) _ _ s
    refine wpAny_bind (zip_pull hx hy hlt F ok hh fun v fz' s' g0 g1 rn hl F' hh' r => ?_)
    have F₁ := F'.perm List.perm_middle
    obtain ⟨ha, hf, vs', n', hg, rs⟩ := F₁.ow _ (.head _)
    have hlen : vs'.length = i := by rw [rs.length, List.length_take]; unfold zipD; rw [List.length_zipWith]; (first | lia | omega)
    show wpAny _ A.in1 (updateSeq S (·.push v) >>= _) _ _ _
    have hs := Heap.SameBut.update s'.heap S (Obj.mapSeq (·.push v))
    have hg' : ∃ e, (s'.heap.update S (Obj.mapSeq (·.push v))).get? S = some (listO (vs' ++ [v]) e) := by
      rw [Heap.get?_update_self _ hg rfl]
      exact ⟨n' + 1, by simp [Obj.mapSeq, listO]⟩
    have hz : vs'.toArray.size ≤ sizeLine := by rw [List.size_toArray, hlen]; exact Nat.le_trans hi (Nat.le_trans hm (by decide))
    refine wpAny_bind (wpAny_updateSeq (hz := hz) (_hz' := by rw [Array.size_push]; (first | lia | omega)) hg rfl (wpAny_pure ⟨plainId_quiet PySem.F.plain_extend_loop _, ?_⟩))
    obtain ⟨e, hg'⟩ := hg'
    have F₂ : Frm c ρ (⟨none, S, .list ((zipD xs ys).take (i + 1))⟩ :: (zipW z TI TO i1 i2 l1 l2 g0 g1 (i + 1) ++ own)) fz' { s' with heap := s'.heap.update S (Obj.mapSeq (·.push v)), toks := s'.toks } := by
      rw [zipD_take xs ys i (by (first | lia | omega)) (by (first | lia | omega))]
      exact F₁.upd (v' := .list _) hs.extBut ⟨vs' ++ [v], e, hg', rs.append (.cons r .nil)⟩ F₁.tk
    exact ih (i + 1) fz' _ g0 g1 (sub_next hj) hlt (F₂.perm List.perm_middle.symm) (ok.mono hl) hh' fun fz'' s'' rn' hl' F'' => hR fz'' s'' ((rn.sub fun a h => .tail _ h).trans ((RN.but (tk := s'.toks) (fun b o hb e => hs.extBut _ _ (fun q => hb (q ▸ .head _)) e) (Nat.le_of_eq hs.1.symm)).trans rn')) (fun a o e => hl' a o (hl a o e)) F''

/- a list takes in all that zip gives -/
theorem zip_extend {S : Addr} {res : Value} {R : Result → Shared → Prop} (hx : xs.length = m) (hy : ys.length = m) (hm : m ≤ 1000) (hA : A.handled = none)
    (F : Frm c ρ (zipW z TI TO i1 i2 l1 l2 .none (.bool false) 0 ++ (⟨none, S, .list []⟩ :: own)) fz s) (ok : ZipOk l1 l2 vs us n k xs ys fz)
    (hR : ∀ fz' s', RN [S, z, TO, i1, i2] fz s fz' s' → FZ.le fz fz' → Frm c ρ (⟨none, S, .list (zipD xs ys)⟩ :: own) fz' s' → R (.ok (.ret res)) s') :
    wpAny c.M A.in1 (Builtin.List.listExtendWith (.ref S) (.ref z) res)
      (fun fin s' => match fin with | .done f => R (.ok f) s' | .again c' => c'.quiet = true ∧ codeAny c.M A c' R s') (fun e s' => R (.error e) s') s := by
  have F₁ := F.perm List.perm_middle
  obtain ⟨ha, hf, vs', n', hS, rs⟩ := F₁.ow _ (.head _)
  cases rs
  have hz := (zip_read F).1
  have hT : s.TypeIs (.ref z) "zip" := ⟨_, hz, rfl⟩
  have hSz : S ≠ z := fun e => by
    have := F₁.nodup
    exact (List.nodup_cons.mp this).1 (by rw [e]; exact .head _)
  unfold Builtin.List.listExtendWith
  refine wpAny_bind (wpAny_typeOf hT ?_)
  have h1 : Builtin.List.listSameRef (.ref S) (.ref z) = false := by simp [Builtin.List.listSameRef, hSz]
  have h2 : (Value.type "zip" == Value.type "list") = false := by decide
  have h3 : (Value.type "zip" == Value.type "tuple") = false := by decide
  simp only [h1, h2, h3, Bool.or_false, Bool.false_eq_true, if_false]
  refine wpAny_bind (wpAny_pyIter_zip hz ?_)
  refine wpAny_bind (wpAny_holding ?_)
  unfold Builtin.List.listLengthHint
  refine wpAny_bind (wpAny_specialOf hT zip_no_len ?_)
  show wpAny _ A.in1 (specialOf (Value.ref z) (Str.ofString "__length_hint__") >>= _) _ _ _
  refine wpAny_bind (wpAny_specialOf hT zip_no_hint ?_)
  refine wpAny_pure ?_
  show wpAny _ A.in1 (rule "list.extend.makes-room" >>= fun _ => Builtin.List.listTouch (.ref S) >>= fun _ =>
    again (.builtin "list.extend.loop" ⟨[.ref S, .ref z, res], []⟩)) _ _ _
  refine wpAny_bind (wpAny_rule ?_)
  refine wpAny_bind ?_
  show wpAny _ A.in1 (updateSeq S (·.push .none) >>= fun _ => updateSeq S (·.pop)) _ _ _
  refine wpAny_bind (wpAny_updateSeq hS rfl ?_)
  have hS₂ := Heap.get?_update_self (Obj.mapSeq (·.push Value.none)) hS rfl
  refine wpAny_updateSeq (hz := by seq_fits) hS₂ rfl ?_
  have hS₃ := Heap.get?_update_self (Obj.mapSeq (·.pop)) hS₂ rfl
  have oth : ∀ b o, b ≠ S → s.heap.get? b = some o → ((s.heap.update S (Obj.mapSeq (·.push Value.none))).update S (Obj.mapSeq (·.pop))).get? b = some o :=
    fun b o hb e => (Heap.get?_update_other _ _ (Ne.symm hb)).trans ((Heap.get?_update_other _ _ (Ne.symm hb)).trans e)
  have hsz : ((s.heap.update S (Obj.mapSeq (·.push Value.none))).update S (Obj.mapSeq (·.pop))).objs.size = s.heap.objs.size := by rw [(Heap.SameBut.update _ _ _).1, (Heap.SameBut.update _ _ _).1]
  have F₂ : Frm c ρ (⟨none, S, .list []⟩ :: (zipW z TI TO i1 i2 l1 l2 .none (.bool false) 0 ++ own)) fz { s with heap := (s.heap.update S (Obj.mapSeq (·.push Value.none))).update S (Obj.mapSeq (·.pop)), toks := s.toks } :=
    F₁.upd (v' := .list []) (fun b o hb e => oth b o hb e) ⟨[], _, hS₃, .nil⟩ F₁.tk
  exact wpAny_pure ⟨plainId_quiet PySem.F.plain_extend_loop _, zip_loop hx hy hm hA m 0 fz _ .none (.bool false) (Nat.sub_zero _) (Nat.zero_le _) (F₂.perm List.perm_middle.symm) ok (.inl ⟨rfl, rfl⟩) fun fz' s' rn => hR fz' s' ((RN.but (tk := s.toks) (fun b o hb e => oth b o (fun q => hb (q ▸ .head _)) e) (Nat.le_of_eq hsz.symm)).trans rn)⟩

/- list(zip(..)) -/
theorem zip_listed {Q E : Value → Shared → Prop} (hx : xs.length = m) (hy : ys.length = m) (hm : m ≤ 1000) (hA : A.handled = none)
    (F : Frm c ρ (zipW z TI TO i1 i2 l1 l2 .none (.bool false) 0 ++ own) fz s) (ok : ZipOk l1 l2 vs us n k xs ys fz)
    (hQ : ∀ S fz' s', s.heap.objs.size ≤ S → RN [z, TO, i1, i2] fz s fz' s' → FZ.le fz fz' → Frm c ρ (⟨none, S, .list (zipD xs ys)⟩ :: own) fz' s' → Q (.ref S) s') : wpAny c.M A (call (.type "list") [.ref z]) Q E s := by
  refine callType_codes (Q₁ := fun obj s₁ => obj = .ref s.heap.objs.size ∧ s₁ = { s with heap := s.heap.push { cls := .type "list", data := .seq #[] } }) PySem.F.called_list (PySem.F.typeCall_list_1 _) PySem.F.entry_list_init
    (code_list_new _ ⟨rfl, rfl⟩) fun obj s₁ h₁ => ?_
  obtain ⟨rfl, rfl⟩ := h₁
  have hS : (s.heap.push { cls := .type "list", data := .seq #[] }).get? s.heap.objs.size = some { cls := .type "list", data := .seq #[] } := Heap.get?_push_size _ rfl
  have F₁ : Frm c ρ (⟨none, s.heap.objs.size, .list []⟩ :: (zipW z TI TO i1 i2 l1 l2 .none (.bool false) 0 ++ own)) fz { s with heap := s.heap.push { cls := .type "list", data := .seq #[] }, toks := s.toks } := F.alloc (v := .list []) ⟨[], 0, hS, .nil⟩ F.tk
  refine ⟨⟨_, hS, rfl⟩, PySem.F.args_list_init_2 _ _, ?_⟩
  show wpAny _ A.in1.in1 (do let old ← Builtin.List.listItems (.ref s.heap.objs.size); Builtin.List.listUpdate (.ref s.heap.objs.size) (fun _ => #[]); letGo old.toList.reverse; Builtin.List.listExtendWith (.ref s.heap.objs.size) (.ref z) .none) _ _ _
  refine wpAny_bind ?_
  unfold Builtin.List.listItems
  refine wpAny_bind (wpAny_seqItems hS rfl (wpAny_pure ?_))
  show wpAny _ A.in1.in1 (updateSeq s.heap.objs.size (fun _ => #[]) >>= fun _ => letGo (#[] : Array Value).toList.reverse >>= fun _ => Builtin.List.listExtendWith (.ref s.heap.objs.size) (.ref z) .none) _ _ _
  refine wpAny_bind (wpAny_updateSeq hS rfl ?_)
  have hS₂ := Heap.get?_update_self (Obj.mapSeq (fun _ => (#[] : Array Value))) hS rfl
  refine wpAny_bind (wpAny_letGo ?_)
  have F₂ : Frm c ρ (⟨none, s.heap.objs.size, .list []⟩ :: (zipW z TI TO i1 i2 l1 l2 .none (.bool false) 0 ++ own)) fz { s with heap := (s.heap.push { cls := .type "list", data := .seq #[] }).update s.heap.objs.size (Obj.mapSeq (fun _ => (#[] : Array Value))), toks := s.toks } :=
    F₁.upd (v' := .list []) (Heap.SameBut.update _ _ _).extBut ⟨[], _, hS₂, .nil⟩ F₁.tk
  exact zip_extend (res := .none) hx hy hm hA (F₂.perm List.perm_middle.symm) ok fun fz' s' rn hl F' => ⟨rfl, hQ _ fz' s' (Nat.le_refl _) (RN.new (tk := s.toks) (by rw [(Heap.SameBut.update _ _ _).1, Heap.size_push]; exact Nat.le_succ _) (fun b o hb e => (Heap.get?_update_other _ _ (Ne.symm (Nat.ne_of_lt hb))).trans (Heap.get?_push_of_some _ e)) rn) hl F'⟩

/- collect of a zip -/
theorem zip_collected {Q : List Value → Shared → Prop} {E : Value → Shared → Prop} (hx : xs.length = m) (hy : ys.length = m) (hm : m ≤ 1000) (hA : A.handled = none)
    (F : Frm c ρ (zipW z TI TO i1 i2 l1 l2 .none (.bool false) 0 ++ own) fz s) (ok : ZipOk l1 l2 vs us n k xs ys fz)
    (hQ : ∀ ps fz' s', RN [z, TO, i1, i2] fz s fz' s' → FZ.le fz fz' → Frm c ρ own fz' s' → Reps fz' ps (zipD xs ys) → Q ps s') : wpAny c.M A (collect (.ref z)) Q E s := by
  unfold collect
  refine wpAny_bind (wpAny_runValue (codeAny_builtin PySem.F.entry_proto_collect ?_))
  rw [Around.under_plainId PySem.F.plain_proto_collect _]
  show wpAny _ A.in1 (newList [] >>= fun l => again (.builtin "list.__iadd__" ⟨[l, .ref z], []⟩)) _ _ s
  refine wpAny_bind (wpAny_newObj_type ?_)
  refine wpAny_pure ⟨plainId_quiet PySem.F.plain_list_iadd _, codeAny_builtin PySem.F.entry_list_iadd ?_⟩
  rw [Around.under_plainId PySem.F.plain_list_iadd _]
  have F₁ : Frm c ρ (⟨none, s.heap.objs.size, .list []⟩ :: (zipW z TI TO i1 i2 l1 l2 .none (.bool false) 0 ++ own)) fz { s with heap := s.heap.push { cls := .type "list", data := .seq ([] : List Value).toArray }, toks := s.toks } := F.alloc (v := .list []) ⟨[], 0, Heap.get?_push_size _ rfl, .nil⟩ F.tk
  show wpAny _ A.in1 (Builtin.List.listExtendWith (.ref s.heap.objs.size) (.ref z) (.ref s.heap.objs.size)) _ _ _
  have key : ∀ fz' s', RN [s.heap.objs.size, z, TO, i1, i2] fz { s with heap := s.heap.push { cls := .type "list", data := .seq ([] : List Value).toArray }, toks := s.toks } fz' s' → FZ.le fz fz' → Frm c ρ (⟨none, s.heap.objs.size, .list (zipD xs ys)⟩ :: own) fz' s' → wpAny c.M A (do match (← load s.heap.objs.size).data with
    | .seq xs _ => pure xs.toList
    | _ => unsupported "internal:collect") Q E s' := fun fz' s' rn hl F' => by
    obtain ⟨ha, hf, ps, n', hS, rs⟩ := F'.ow _ (.head _)
    refine wpAny_bind (wpAny_load hS ?_)
    exact wpAny_pure (hQ _ fz' s' (RN.new (tk := s.toks) (by rw [Heap.size_push]; exact Nat.le_succ _) (fun b o hb e => Heap.get?_push_of_some _ e) rn) hl F'.drop (by simpa using rs))
  refine wpAny_mono (zip_extend (R := fun r s' => r = .ok (.ret (.ref s.heap.objs.size)) ∧ ∃ fz', RN [s.heap.objs.size, z, TO, i1, i2] fz { s with heap := s.heap.push { cls := .type "list", data := .seq ([] : List Value).toArray }, toks := s.toks } fz' s' ∧ FZ.le fz fz' ∧ Frm c ρ (⟨none, s.heap.objs.size, .list (zipD xs ys)⟩ :: own) fz' s') hx hy hm hA (F₁.perm List.perm_middle.symm) ok fun fz' s' rn hl F' => ⟨rfl, fz', rn, hl, F'⟩) (fun fin s' h => ?_) (fun e s' h => nomatch h.1)
  cases fin with
  | done f =>
    obtain ⟨h, fz', rn, hl, F'⟩ := h
    cases h
    exact key fz' s' rn hl F'
  | again c' =>
    refine ⟨h.1, codeAny_mono h.2 fun r s₁ hr => ?_⟩
    obtain ⟨rfl, fz', rn, hl, F'⟩ := hr
    exact key fz' s₁ rn hl F'
end
end Mine
end Z3

section Z4
open PySem PySem.W PySem.Spec PySem.Calls PyProof.Rows
namespace Mine
/- lists of numbers, compared as Python does -/
noncomputable def ltL : List Nat → List Nat → Bool
  | [], [] => false
  | [], _ :: _ => true
  | _ :: _, [] => false
  | x :: xs, y :: ys => if x = y then ltL xs ys else decide (x < y)

structure IntsAt (h : Heap) (l : Addr) (xs : List Nat) : Prop where
  ex : ∃ vs n, h.get? l = some (listO vs n) ∧ vs.length = xs.length ∧ ∀ (j x : Nat), xs[j]? = some x → ∃ t, vs[j]? = some (Value.int (x : Int) t)

theorem drop_some {α : Type} {l : List α} {i : Nat} {x : α} (h : l[i]? = some x) : l.drop i = x :: l.drop (i + 1) := by
  obtain ⟨hi, e⟩ := List.getElem?_eq_some_iff.mp h
  rw [List.drop_eq_getElem_cons hi, e]

section
variable {prog : Program} {w : World} {A : Around} {s : Shared} {l b : Addr} {xs ys : List Nat}
theorem lt_loop (hx : IntsAt s.heap l xs) (hy : IntsAt s.heap b ys) {R : Result → Shared → Prop} : ∀ (k i : Nat), xs.length - i = k → i ≤ xs.length → i ≤ ys.length → R (.ok (.ret (.bool (ltL (xs.drop i) (ys.drop i))))) s →
    codeAny (model prog w) A (.builtin "list.__eq__.loop" ⟨[.ref l, .ref b, rawInt i, rawInt 0], []⟩) R s := by
  obtain ⟨vs, n, hl, lx, rx⟩ := hx.ex
  obtain ⟨us, m, hb, ly, ry⟩ := hy.ex
  intro k
  induction k with
  | zero =>
    intro i hk hi hj hR
    have : i = xs.length := by (first | lia | omega)
    subst this
    refine codeAny_builtin MeetsSeq3.entry_eq_loop ?_
    rw [Around.under_plainId MeetsSeq3.plain_eq_loop _]
    show wpAny _ A.in1 (Builtin.List.listItems (.ref l) >>= _) _ _ s
    refine wpAny_bind (listItems_at hl rfl ?_)
    show wpAny _ A.in1 (Builtin.List.listItems (.ref b) >>= _) _ _ s
    refine wpAny_bind (listItems_at hb rfl ?_)
    have e1 : vs.toArray[((xs.length : Nat) : Int).toNat]? = none := by simp [lx]
    rw [e1]
    show wpAny _ A.in1 (Builtin.List.listItems (.ref l) >>= _) _ _ s
    refine wpAny_bind (listItems_at hl rfl ?_)
    show wpAny _ A.in1 (Builtin.List.listItems (.ref b) >>= _) _ _ s
    refine wpAny_bind (listItems_at hb rfl (wpAny_pure ?_))
    show R (.ok (.ret (.bool (decide (vs.toArray.size < us.toArray.size))))) s
    rw [List.size_toArray, List.size_toArray, lx, ly]
    have : ltL (xs.drop xs.length) (ys.drop xs.length) = decide (xs.length < ys.length) := by
      rw [List.drop_length]
      by_cases h : xs.length < ys.length
      · obtain ⟨y, hy⟩ : ∃ y, ys[xs.length]? = some y := ⟨_, List.getElem?_eq_getElem h⟩
        rw [drop_some hy, decide_eq_true h]; rfl
      · rw [List.drop_eq_nil_of_le (Nat.le_of_not_lt h), decide_eq_false h]; rfl
    rw [← this]
    exact hR
  | succ k ih =>
    intro i hk hi hj hR
    obtain ⟨x, hx⟩ : ∃ x, xs[i]? = some x := ⟨_, List.getElem?_eq_getElem (show i < xs.length by (first | lia | omega))⟩
    obtain ⟨t, hv⟩ := rx i x hx
    refine codeAny_builtin MeetsSeq3.entry_eq_loop ?_
    rw [Around.under_plainId MeetsSeq3.plain_eq_loop _]
    show wpAny _ A.in1 (Builtin.List.listItems (.ref l) >>= _) _ _ s
    refine wpAny_bind (listItems_at hl rfl ?_)
    show wpAny _ A.in1 (Builtin.List.listItems (.ref b) >>= _) _ _ s
    refine wpAny_bind (listItems_at hb rfl ?_)
    have e1 : vs.toArray[((i : Nat) : Int).toNat]? = some (.int x t) := by rw [Int.toNat_natCast, List.getElem?_toArray]; exact hv
    rw [drop_some hx] at hR
    cases hy : ys[i]? with
    | none =>
      have hlen : ys.length ≤ i := List.getElem?_eq_none_iff.mp hy
      have e2 : us.toArray[((i : Nat) : Int).toNat]? = none := by simp [ly]; exact hlen
      rw [e1, e2]
      show wpAny _ A.in1 (Builtin.List.listItems (.ref l) >>= _) _ _ s
      refine wpAny_bind (listItems_at hl rfl ?_)
      show wpAny _ A.in1 (Builtin.List.listItems (.ref b) >>= _) _ _ s
      refine wpAny_bind (listItems_at hb rfl (wpAny_pure ?_))
      show R (.ok (.ret (.bool (decide (vs.toArray.size < us.toArray.size))))) s
      rw [List.size_toArray, List.size_toArray, lx, ly, decide_eq_false (by (first | lia | omega))]
      rw [List.drop_eq_nil_of_le hlen] at hR
      exact hR
    | some y =>
      obtain ⟨u, hu⟩ := ry i y hy
      have e2 : us.toArray[((i : Nat) : Int).toNat]? = some (.int y u) := by rw [Int.toNat_natCast, List.getElem?_toArray]; exact hu
      rw [e1, e2]
      refine wpAny_bind (SeqAt.EqAt.int_int _ _ _ _ prog w _ _ ?_)
      rw [drop_some hy] at hR
      have hlt := (List.getElem?_eq_some_iff.mp hy).1
      by_cases h : x = y
      · subst h
        simp only [beq_self_eq_true, if_true]
        refine wpAny_pure ⟨plainId_quiet MeetsSeq3.plain_eq_loop _, ?_⟩
        have hc : ((i : Int) + 1) = ((i + 1 : Nat) : Int) := rfl
        rw [hc]
        refine ih (i + 1) (sub_next hk) (by (first | lia | omega)) hlt ?_
        unfold ltL at hR
        rw [if_pos rfl] at hR
        exact hR
      · have hne : ((x : Int) == (y : Int)) = false := by rw [beq_eq_false_iff_ne]; (first | lia | omega)
        rw [hne]
        show wpAny _ A.in1 (Builtin.List.listItems (.ref l) >>= _) _ _ s
        refine wpAny_bind (listItems_at hl rfl ?_)
        show wpAny _ A.in1 (Builtin.List.listItems (.ref b) >>= _) _ _ s
        refine wpAny_bind (listItems_at hb rfl ?_)
        rw [e1, e2]
        show wpAny _ A.in1 (richCompare .Lt (.int x t) (.int y u) >>= _) _ _ s
        refine wpAny_bind (P.lt_int (wpAny_pure ?_))
        unfold ltL at hR
        rw [if_neg h] at hR
        have : decide ((x : Int) < (y : Int)) = decide (x < y) := by rw [decide_eq_decide]; (first | lia | omega)
        rw [this]
        exact hR
theorem call_list_lt {Q E : Value → Shared → Prop} (hx : IntsAt s.heap l xs) (hy : IntsAt s.heap b ys) (h : Q (.bool (ltL xs ys)) s) :
    wpAny (model prog w) A (call (.builtin "list.__lt__") [.ref l, .ref b]) Q E s := by
  obtain ⟨vs, n, hl, lx, rx⟩ := id hx.ex
  obtain ⟨us, m, hb, ly, ry⟩ := id hy.ex
  refine wpAny_call (codeAny_call_builtin PySem.F.slot_list_lt.plain PySem.F.entry_list_lt (PySem.F.slot_list_lt.check _ _ _ _ _ _ _ _ ⟨_, hl, rfl⟩ (PySem.F.args_list_lt_2 _ _) ?_))
  refine wpAny_bind (m := slotArgs _ 1 _) (wpAny_pure ?_)
  refine wpAny_bind (wpAny_isInstance (T := "list") (b := true) ⟨_, hb, rfl⟩ AutoSeq1.sub_list_list ?_)
  show wpAny _ _ (again (.builtin "list.__eq__.loop" ⟨[.ref l, .ref b, rawInt 0, rawInt 0], []⟩)) _ _ _
  exact wpAny_pure ⟨plainId_quiet MeetsSeq3.plain_eq_loop _, lt_loop hx hy _ 0 rfl (Nat.zero_le _) (Nat.zero_le _) h⟩
theorem oneLt_list {Q : Bool → Shared → Prop} {E : Value → Shared → Prop} (hu : A.units < cLine) (hx : IntsAt s.heap l xs) (hy : IntsAt s.heap b ys) (h : Q (ltL xs ys) s) : wpAny (model prog w) A (oneLt' true (.ref l) (.ref b)) Q E s := by
  obtain ⟨vs, n, hl, lx, rx⟩ := id hx.ex
  rw [oneLt'_eq]
  simp only [if_true]
  refine wpAny_bind (wpAny_cRoomFor hu ?_)
  refine wpAny_bind (wpAny_callSpecialIfBound?_slot ⟨_, hl, rfl⟩ PySem.F.slot_list_lt (call_list_lt hx hy ?_))
  exact wpAny_truthy_bool h
end
end Mine
end Z4

section Ds
open PySem PySem.W PySem.Spec PySem.Calls PyProof.Rows
set_option maxHeartbeats 4000000
namespace Mine
theorem filledD : hd.heap_39 = hd.heap_39 ∧ PySem.Challenge.rw_wn0086_01 = PySem.Challenge.rw_wn0086_01 := by
  k_fill
  exact ⟨rfl, rfl⟩

section D1
noncomputable def deepL (l : List Nat) (n : Nat) : List Nat := l.flatMap fun c => if c = 92 then List.replicate (2 ^ n) 92 else if c = 34 then List.replicate (2 ^ n - 1) 92 ++ [34] else [c]
theorem deepL_take (l : List Nat) (n i : Nat) (h : i < l.length) : deepL (l.take (i + 1)) n = deepL (l.take i) n ++ deepL [l[i]] n := by
  unfold deepL
  rw [List.take_succ_eq_append_getElem h, List.flatMap_append]
theorem deepL_len (l : List Nat) (n : Nat) : (deepL l n).length ≤ l.length * 2 ^ n := by
  induction l with
  | nil => simp [deepL]
  | cons a r ih =>
    have h1 : 1 ≤ 2 ^ n := Nat.one_le_two_pow
    have h2 : (deepL (a :: r) n).length = (deepL [a] n).length + (deepL r n).length := by simp [deepL]
    have h3 : (deepL [a] n).length ≤ 2 ^ n := by
      unfold deepL
      simp only [List.flatMap_cons, List.flatMap_nil, List.append_nil]
      split
      · simp
      · split
        · simp; (first | lia | omega)
        · simp; (first | lia | omega)
    rw [h2, List.length_cons, Nat.succ_mul]
    (first | lia | omega)

theorem deep_call {c : Cx} {l : List Nat} {n : Nat} (hk : 1 ≤ c.k) (hl : l.length ≤ 10) (hn : n ≤ 10) : OPs c (fun vs => call (.ref 121) vs) [.str (S l), .int n] (.str (S (deepL l n))) := by
  refine' call_def ⟨?k, ?g1, ?g2, ?g3, ?g4, ?g5, ?g6, ?g7, ?g8, ?g9⟩ ?hb ?hl ?hk ?h
  (case k => k_is)
  (case g3 => exact rfl)
  (case g1 => exact rfl)
  (case g2 => exact rfl)
  (case g4 => exact rfl)
  (case g5 => exact rfl)
  (case g6 => exact rfl)
  (case g7 => exact rfl)
  (case g8 => decide)
  (case g9 => k_is)
  case hb => 
    refine binds_pos (names := [Str.ofString "name", Str.ofString "depth"]) ?_ rfl
    intro vs h
    obtain ⟨a, b, rfl⟩ := len2 h
    rfl
  case hl => rfl
  case hk => exact hk
  case h =>
    rintro ⟨w, G, A, env, fz₀, s₀, k, st, room, kind, glob, bi, big, kA, kG, kN⟩ hw hG hk' L hL
    dsimp only at hw hG hk' hL
    subst hw hG hL
    have hpow : 2 ^ n ≤ 2 ^ 10 := Nat.pow_le_pow_right (by (first | lia | omega)) hn
    have hp1 : 1 ≤ 2 ^ n := Nat.one_le_two_pow
    (((with_reducible refine' ex_assign ?he_2 ?h_2 ?hx_2 ?ho_2 ?hs_2); (case he_2 => with_reducible exact ev_l0); (case hx_2 => exact rfl); (case ho_2 => exact rfl); (case hs_2 => exact rfl)))
    refine' ex_forI (n := l.length) (iters_str (x := S l) ?_) (fun i => [(Str.ofString "text", .str (S (deepL (l.take i) n))), (Str.ofString "name", .str (S l)), (Str.ofString "depth", .int n)]) (fun _ => []) ?_ rfl ?_ ?_ ?_
    · ((with_reducible refine' ev_name ?wx1 ?wy1 ?wz1); (case wx1 => exact rfl); (case wy1 => decide); (case wz1 => decide))
    · (repeat' (first | (with_reducible refine List.forall_mem_cons.mpr ⟨?_, ?_⟩) | exact rfl | (intro p hp; exact nomatch hp)))
    · intro i es hi hes
      rw [sign_S hi]
      refine ⟨_, (by ((refine' as_name ?h1_4 ?h2_4; (case h1_4 => exact rfl); (case h2_4 => (refine any_es (by assumption) ?_; exact rfl))))), ?_⟩
      have hlen : (deepL (l.take i) n).length ≤ 10240 := Nat.le_trans (deepL_len _ _) (Nat.le_trans (Nat.mul_le_mul (Nat.le_trans (List.length_take_le' ..) hl) hpow) (by decide))
      have ht := deepL_take l n i hi
      refine' ex_if ?t ?a ?b
      case t => (first | ((with_reducible refine' tv_cmp ?hl_5 ?hr_5 ?h_5 ?hm_5); (case hl_5 => ((with_reducible refine' ev_name ?wx2 ?wy2 ?wz2); (case wx2 => exact rfl); (case wy2 => decide); (case wz2 => decide))); (case hr_5 => with_reducible exact ev_bs); (case h_5 => with_reducible exact op_eqS); (case hm_5 => with_unfolding_all exact rfl)) | done)
      case a =>
        intro hc
        have hc : l[i] = 92 := by simpa using hc
        show EX _ _ _ [_] _
        (((with_reducible refine' ex_assign ?he_6 ?h_6 ?hx_6 ?ho_6 ?hs_6); (case he_6 => ((with_reducible refine' ev_bin ?wl3 ?wr3 ?wo3); (case wl3 => ((with_reducible refine' ev_name ?wx4 ?wy4 ?wz4); (case wx4 => exact rfl); (case wy4 => decide); (case wz4 => decide))); (case wr3 => ((with_reducible refine' ev_bin ?wl5 ?wr5 ?wo5); (case wl5 => with_reducible exact ev_bs); (case wr5 => ((with_reducible refine' ev_bin ?wl6 ?wr6 ?wo6); (case wl6 => with_reducible exact ev_int); (case wr6 => ((with_reducible refine' ev_name ?wx7 ?wy7 ?wz7); (case wx7 => exact rfl); (case wy7 => decide); (case wz7 => decide))); (case wo6 => ((with_reducible refine op_pow ?_); (first | lia | omega))))); (case wo5 => ((with_reducible refine op_mul1 ?_); (first | lia | omega))))); (case wo3 => ((with_reducible refine op_catS ?_); (simp only [List.length_append, List.length_replicate, List.length_cons, List.length_nil] at *; (first | lia | omega)))))); (case hx_6 => exact rfl); (case ho_6 => (refine any_es (by assumption) ?_; exact rfl)); (case hs_6 => exact rfl)))
        refine ex_nil fun fz s F => ⟨rfl, F.weaken ?_⟩
        rw [ht, hc, show deepL [92] n = List.replicate (2 ^ n) 92 by simp [deepL]]
        (repeat' (first | (with_reducible refine List.forall_mem_cons.mpr ⟨?_, ?_⟩) | exact rfl | (intro p hp; exact nomatch hp)))
      case b =>
        intro hc
        have hc : l[i] ≠ 92 := by simpa using hc
        show EX _ _ _ [_] _
        refine' ex_if ?t ?a ?b
        case t => (first | ((with_reducible refine' tv_cmp ?hl_8 ?hr_8 ?h_8 ?hm_8); (case hl_8 => ((with_reducible refine' ev_name ?wx8 ?wy8 ?wz8); (case wx8 => exact rfl); (case wy8 => decide); (case wz8 => decide))); (case hr_8 => with_reducible exact ev_qu); (case h_8 => with_reducible exact op_eqS); (case hm_8 => with_unfolding_all exact rfl)) | done)
        case a =>
          intro hd
          have hd : l[i] = 34 := by simpa using hd
          show EX _ _ _ [_] _
          (((with_reducible refine' ex_assign ?he_9 ?h_9 ?hx_9 ?ho_9 ?hs_9); (case he_9 => ((with_reducible refine' ev_bin ?wl9 ?wr9 ?wo9); (case wl9 => ((with_reducible refine' ev_bin ?wl10 ?wr10 ?wo10); (case wl10 => ((with_reducible refine' ev_name ?wx11 ?wy11 ?wz11); (case wx11 => exact rfl); (case wy11 => decide); (case wz11 => decide))); (case wr10 => ((with_reducible refine' ev_bin ?wl12 ?wr12 ?wo12); (case wl12 => with_reducible exact ev_bs); (case wr12 => ((with_reducible refine' ev_bin ?wl13 ?wr13 ?wo13); (case wl13 => ((with_reducible refine' ev_bin ?wl14 ?wr14 ?wo14); (case wl14 => with_reducible exact ev_int); (case wr14 => ((with_reducible refine' ev_name ?wx15 ?wy15 ?wz15); (case wx15 => exact rfl); (case wy15 => decide); (case wz15 => decide))); (case wo14 => ((with_reducible refine op_pow ?_); (first | lia | omega))))); (case wr13 => with_reducible exact ev_int); (case wo13 => ((with_reducible refine op_sub1 ?_); assumption)))); (case wo12 => ((with_reducible refine op_mul1 ?_); (first | lia | omega))))); (case wo10 => ((with_reducible refine op_catS ?_); (simp only [List.length_append, List.length_replicate, List.length_cons, List.length_nil] at *; (first | lia | omega)))))); (case wr9 => with_reducible exact ev_qu); (case wo9 => ((with_reducible refine op_catS ?_); (simp only [List.length_append, List.length_replicate, List.length_cons, List.length_nil] at *; (first | lia | omega)))))); (case hx_9 => exact rfl); (case ho_9 => (refine any_es (by assumption) ?_; exact rfl)); (case hs_9 => exact rfl)))
          refine ex_nil fun fz s F => ⟨rfl, F.weaken ?_⟩
          rw [ht, hd, show deepL [34] n = List.replicate (2 ^ n - 1) 92 ++ [34] by simp [deepL], ← List.append_assoc]
          (repeat' (first | (with_reducible refine List.forall_mem_cons.mpr ⟨?_, ?_⟩) | exact rfl | (intro p hp; exact nomatch hp)))
        case b =>
          intro hd
          have hd : l[i] ≠ 34 := by simpa using hd
          show EX _ _ _ [_] _
          (((with_reducible refine' ex_assign ?he_11 ?h_11 ?hx_11 ?ho_11 ?hs_11); (case he_11 => ((with_reducible refine' ev_bin ?wl16 ?wr16 ?wo16); (case wl16 => ((with_reducible refine' ev_name ?wx17 ?wy17 ?wz17); (case wx17 => exact rfl); (case wy17 => decide); (case wz17 => decide))); (case wr16 => ((with_reducible refine' ev_name ?wx18 ?wy18 ?wz18); (case wx18 => exact rfl); (case wy18 => decide); (case wz18 => decide))); (case wo16 => ((with_reducible refine op_catS ?_); (simp only [List.length_append, List.length_replicate, List.length_cons, List.length_nil] at *; (first | lia | omega)))))); (case hx_11 => exact rfl); (case ho_11 => (refine any_es (by assumption) ?_; exact rfl)); (case hs_11 => exact rfl)))
          refine ex_nil fun fz s F => ⟨rfl, F.weaken ?_⟩
          rw [ht, show deepL [l[i]] n = [l[i]] by simp [deepL, hc, hd]]
          (repeat' (first | (with_reducible refine List.forall_mem_cons.mpr ⟨?_, ?_⟩) | exact rfl | (intro p hp; exact nomatch hp)))
    · rw [List.take_length]
      refine ex_return ?_
      ((with_reducible refine' ev_name ?wx19 ?wy19 ?wz19); (case wx19 => exact rfl); (case wy19 => decide); (case wz19 => decide))
    · exact fun _ => rfl
end D1

section D2
noncomputable def dOpt : Option (List Nat) → D
  | none => .none
  | some l => .str (S l)
noncomputable def fmtL (p : List Nat) (v : Option (List Nat)) (q : Bool) : List Nat := match v with
  | none => p
  | some [] => p
  | some v => if q || v.any fSpec then p ++ [61, 34] ++ escL v ++ [34] else p ++ [61] ++ v

theorem pat_ts (c : Cx) : PatAt c 36 cTS.toList 0 := ⟨_, _, _, _, _, _, by k_is, by k_is⟩

theorem dflt44 (c : Cx) : ∃ o, (hd.heap_39 c.w.params).lookup 37 = some o ∧ ∃ t n, o.data = .seq #[.none, .int 1 t] n := ⟨_, by k_is, _, _, rfl⟩
theorem op_search_ts {v : List Nat} (hv : v.length ≤ 100000 ∧ ∀ c ∈ v, c ∈ alpha) : ∃ d, (∀ c, OPs c (fun vs => call (.builtin "re.Pattern.search") vs) [.obj 36, .str (S v)] d) ∧ ∀ c, OPT c d (v.any fSpec) := by
  cases h : v.any fSpec with
  | false =>
    refine ⟨_, fun c => op_search_no (pat_ts c) (ts_no (l := v) fun x hx => ⟨hv.2 x hx, ?_⟩) (by decide) (by (first | lia | omega)), fun c => opt_none⟩
    have := List.any_eq_false.mp h x hx
    simpa using this
  | true =>
    obtain ⟨p, x, r, e, hp, hx⟩ : ∃ p x r, v = p ++ x :: r ∧ (∀ y ∈ p, fSpec y = false) ∧ fSpec x = true := by
      clear hv
      induction v with
      | nil => cases h
      | cons y v ih =>
        by_cases hy : fSpec y = true
        · exact ⟨[], y, v, rfl, (fun _ h => nomatch h), hy⟩
        · have hy' : fSpec y = false := by simpa using hy
          rw [List.any_cons, hy', Bool.false_or] at h
          obtain ⟨p, x, r, e, hp, hx⟩ := ih h
          refine ⟨y :: p, x, r, by rw [e]; rfl, fun z hz => ?_, hx⟩
          rcases List.mem_cons.mp hz with rfl | hz
          · exact hy'
          · exact hp z hz
    subst e
    exact ⟨_, fun c => op_search_yes0 (pat_ts c) (ts_yes (p := p) (r := r) (c := x) (fun y hy => ⟨hv.2 y (List.mem_append_left _ hy), hp y hy⟩) ⟨hv.2 x (List.mem_append_right _ (.head _)), hx⟩) (by decide) (by (first | lia | omega)), fun c => opt_mat⟩

theorem replLen (l : List Nat) : (replL 92 [92, 92] l).length ≤ 2 * l.length := by
  induction l with
  | nil => exact Nat.le_refl _
  | cons c r ih =>
    have h1 : replL 92 [92, 92] (c :: r) = (if c = 92 then [92, 92] else [c]) ++ replL 92 [92, 92] r := rfl
    rw [h1, List.length_append, List.length_cons]
    split <;> simp only [List.length_cons, List.length_nil] <;> (first | lia | omega)
theorem ev_l {c : Cx} {ρ : List (Str × D)} {own : List Ow} {z : String} {l : List Nat} {k pos} (h : Str.ofString z = S l) : EV c ρ own (.Constant (.str (Str.ofString z)) k pos) (.str (S l)) := by
  rw [h]; exact ev_str


theorem fmt0_call {c : Cx} {p : List Nat} {v : Option (List Nat)} (hk : 2 ≤ c.k) (hp : p.length ≤ 100000) (hv : ∀ x, v = some x → x.length ≤ 100000 ∧ ∀ c ∈ x, c ∈ alpha) : OPs c (fun vs => call (.ref 44) vs) [.str (S p), dOpt v, .int 0] (.str (S (fmtL p v false))) := by
  refine' call_def ⟨?k, ?g1, ?g2, ?g3, ?g4, ?g5, ?g6, ?g7, ?g8, ?g9⟩ ?hb ?hl ?hk ?h
  (case k => k_is)
  (case g3 => exact rfl)
  (case g1 => exact rfl)
  (case g2 => exact rfl)
  (case g4 => exact rfl)
  (case g5 => exact rfl)
  (case g6 => exact rfl)
  (case g7 => exact rfl)
  (case g8 => decide)
  (case g9 => k_is)
  case hb => 
    intro fz s vs I rs
    obtain ⟨a, _, rfl, _, r₁⟩ := rs.inv
    obtain ⟨b, _, rfl, _, r₂⟩ := r₁.inv
    obtain ⟨d, _, rfl, _, r₃⟩ := r₂.inv
    obtain rfl := r₃.inv
    ·
      obtain ⟨o, e37, t, n, ho⟩ := dflt44 c
      exact ⟨_, BindsTo.of_defaults rfl (I.ge (c.st.k _ _ e37)) ho rfl rfl, (RBs.zip [Str.ofString "param", Str.ofString "value", Str.ofString "quote"] rs).reverse⟩
  case hl => rfl
  case hk => (first | lia | omega)
  case h =>
    rintro ⟨w, G, A, env, fz₀, s₀, k, st, room, kind, glob, bi, big, kA, kG, kN⟩ hw hG hk' L hL
    dsimp only at hw hG hk' hL
    subst hw hG hL
    cases v with
    | none =>
      dsimp only [dOpt]
      refine' ex_if (b := false) ?t ?a ?b
      case t =>
        refine tv_bool (tvs_stop (op := .And) ?_)
        show TV _ _ _ _ false
        (first | ((with_reducible refine' tv_cmp ?hl_14 ?hr_14 ?h_14 ?hm_14); (case hl_14 => ((with_reducible refine' ev_name ?wx20 ?wy20 ?wz20); (case wx20 => exact rfl); (case wy20 => decide); (case wz20 => decide))); (case hr_14 => with_reducible exact ev_none); (case h_14 => with_reducible exact op_isnot_none_none); (case hm_14 => with_unfolding_all exact rfl)) | done)
      case a => intro h; cases h
      case b =>
        intro _
        refine ex_return ?_
        ((with_reducible refine' ev_name ?wx21 ?wy21 ?wz21); (case wx21 => exact rfl); (case wy21 => decide); (case wz21 => decide))
    | some v =>
      dsimp only [dOpt]
      have hvl := (hv v rfl).1
      refine' ex_if (b := !v.isEmpty) ?t ?a ?b
      case t =>
        have e : (!v.isEmpty) = decide ((v.length : Int) > 0) := by cases v <;> simp <;> (first | lia | omega)
        rw [e]
        refine tv_bool (tvs_on (op := .And) ?_ ?_)
        · show TV _ _ _ _ true
          (first | ((with_reducible refine' tv_cmp ?hl_15 ?hr_15 ?h_15 ?hm_15); (case hl_15 => ((with_reducible refine' ev_name ?wx22 ?wy22 ?wz22); (case wx22 => exact rfl); (case wy22 => decide); (case wz22 => decide))); (case hr_15 => with_reducible exact ev_none); (case h_15 => with_reducible exact op_isnot_none_str); (case hm_15 => with_unfolding_all exact rfl)) | done)
        cases hd : decide ((v.length : Int) > 0)
        · refine tvs_stop (op := .And) ?_
          refine' tv_cmp ?hl ?hr ?h ?hm
          case hl => ((refine' ev_builtin1 (id := "len") ?h1_16 ?h2_16 ?h3_16 ?h4_16 ?h5_16 ?h6_16 ?h7_16 ?h8_16; (case h1_16 => exact rfl); (case h2_16 => k_is); (case h3_16 => exact rfl); (case h4_16 => ((refine' evs_cons ?wa23 ?wb23 ?wc23); (case wa23 => ((with_reducible refine' ev_name ?wx24 ?wy24 ?wz24); (case wx24 => exact rfl); (case wy24 => decide); (case wz24 => decide))); (case wb23 => exact evs_nil); (case wc23 => exact fun _ => rfl))); (case h5_16 => first | ((with_reducible refine op_len_str ?_); (first | lia | omega)) | ((with_reducible refine op_len_list ?_); assumption)); (case h6_16 => exact rfl); (case h7_16 => decide); (case h8_16 => decide)))
          case hr => with_reducible exact ev_int
          case h => (show OP2 _ _ _ _ (.bool false); rw [← hd]; exact op_gt)
          case hm => with_unfolding_all exact rfl
        · refine tvs_on (op := .And) (b := true) ?_ tvs_nil
          refine' tv_cmp ?hl ?hr ?h ?hm
          case hl => ((refine' ev_builtin1 (id := "len") ?h1_17 ?h2_17 ?h3_17 ?h4_17 ?h5_17 ?h6_17 ?h7_17 ?h8_17; (case h1_17 => exact rfl); (case h2_17 => k_is); (case h3_17 => exact rfl); (case h4_17 => ((refine' evs_cons ?wa25 ?wb25 ?wc25); (case wa25 => ((with_reducible refine' ev_name ?wx26 ?wy26 ?wz26); (case wx26 => exact rfl); (case wy26 => decide); (case wz26 => decide))); (case wb25 => exact evs_nil); (case wc25 => exact fun _ => rfl))); (case h5_17 => first | ((with_reducible refine op_len_str ?_); (first | lia | omega)) | ((with_reducible refine op_len_list ?_); assumption)); (case h6_17 => exact rfl); (case h7_17 => decide); (case h8_17 => decide)))
          case hr => with_reducible exact ev_int
          case h => (show OP2 _ _ _ _ (.bool true); rw [← hd]; exact op_gt)
          case hm => with_unfolding_all exact rfl
      case b =>
        intro h
        have : v = [] := by cases v <;> simp_all
        subst this
        refine ex_return ?_
        ((with_reducible refine' ev_name ?wx27 ?wy27 ?wz27); (case wx27 => exact rfl); (case wy27 => decide); (case wz27 => decide))
      case' a => 
        intro h
        obtain ⟨x, r, rfl⟩ : ∃ x r, v = x :: r := by cases v <;> simp_all
      -- a value, and no marks asked for
      have hq : fmtL p (some (x :: r)) false = if (x :: r).any fSpec then p ++ [61, 34] ++ escL (x :: r) ++ [34] else p ++ [61] ++ (x :: r) := rfl
      obtain ⟨dm, hm, ht⟩ := op_search_ts (hv (x :: r) rfl)
      rw [hq]
      refine' ex_if (b := (x :: r).any fSpec) ?t2 ?a2 ?b2
      case t2 =>
        refine tv_bool (tvs_on (op := .Or) (show TV _ _ _ _ ((0 : Int) != 0) from tv_val (hs := by intros; rfl) ?_ opt_int) ?_)
        · ((with_reducible refine' ev_name ?wx28 ?wy28 ?wz28); (case wx28 => exact rfl); (case wy28 => decide); (case wz28 => decide))
        refine tvs_or1 ?_
        refine' tv_val (d := dm) ?htv (ht _) ?htw
        case' htw => exact fun _ _ => rfl
        refine' ev_method ?ho ?hes (ty_obj (T := "re.Pattern") ?e1 ?e2 ?e3) plain_pat slot_search type_search ?op ?hb ?hpl ?hln ?hline
        case ho => (refine' ev_global ?wx29 ?wy29 ?wz29; (case wx29 => exact rfl); (case wy29 => k_is); (case wz29 => decide))
        case hes => ((refine' evs_cons ?wa30 ?wb30 ?wc30); (case wa30 => ((with_reducible refine' ev_name ?wx31 ?wy31 ?wz31); (case wx31 => exact rfl); (case wy31 => decide); (case wz31 => decide))); (case wb30 => exact evs_nil); (case wc30 => exact fun _ => rfl))
        case op => exact hm _
        case e1 => k_is
        case e2 => exact rfl
        case e3 => exact rfl
        (((case hb => exact rfl); (case hpl => exact rfl); (case hln => decide); (case hline => exact rfl)))
      case a2 => 
        intro hs
        rw [if_pos hs]
        refine' ex_assign ?he ?h ?hx ?ho ?hs
        case he =>
          refine' ev_replace (ch := 34) (w := [92, 34]) ?ho1 ?hy1 ?hz1 ?hne1 ?hsz1 ?hb1 ?hl1
          case ho1 =>
            refine' ev_replace (ch := 92) (w := [92, 92]) ?ho2 ?hy2 ?hz2 ?hne2 ?hsz2 ?hb2 ?hl2
            case ho2 => ((with_reducible refine' ev_name ?wx32 ?wy32 ?wz32); (case wx32 => exact rfl); (case wy32 => decide); (case wz32 => decide))
            case hy2 => exact (by decide +kernel)
            case hz2 => exact (by decide +kernel)
            case hne2 => decide
            case hsz2 => (simp only [List.length_cons, List.length_nil] at hvl ⊢; (first | lia | omega))
            case hb2 => exact rfl
            case hl2 => exact rfl
          case hy1 => exact (by decide +kernel)
          case hz1 => exact (by decide +kernel)
          case hne1 => decide
          case hsz1 => (have hr := replLen (x :: r); simp only [List.length_cons, List.length_nil] at hvl hr ⊢; (first | lia | omega))
          case hb1 => exact rfl
          case hl1 => exact rfl
        case hx => exact rfl
        case ho => exact rfl
        case hs => exact rfl
        case h =>
          rw [repl_esc]
          have hel := (escL_len (x :: r)).2
          refine ex_return ?_
          have e : p ++ [61, 34] ++ escL (x :: r) ++ [34] = p ++ ([61, 34] ++ (escL (x :: r) ++ ([34] ++ []))) := by simp
          rw [e]
          refine ev_joined (ej_cons (ev_fmt ?_ (by (first | lia | omega))) (ej_cons ?_ (ej_cons (ev_fmt ?_ (by (first | lia | omega))) (ej_cons ?_ ej_nil)))) (by simp only [List.length_append, List.length_cons, List.length_nil] at hvl hel ⊢; (first | lia | omega))
          · ((with_reducible refine' ev_name ?wx33 ?wy33 ?wz33); (case wx33 => exact rfl); (case wy33 => decide); (case wz33 => decide))
          · exact ev_l (by decide +kernel)
          · ((with_reducible refine' ev_name ?wx34 ?wy34 ?wz34); (case wx34 => exact rfl); (case wy34 => decide); (case wz34 => decide))
          · exact ev_l (by decide +kernel)
      case b2 =>
        intro hs
        rw [if_neg (by rw [hs]; decide)]
        refine ex_return ?_
        have e : p ++ [61] ++ (x :: r) = p ++ ([61] ++ ((x :: r) ++ [])) := by simp
        rw [e]
        refine ev_joined (ej_cons (ev_fmt ?_ (by (first | lia | omega))) (ej_cons ?_ (ej_cons (ev_fmt ?_ (by (first | lia | omega))) ej_nil))) (by simp only [List.length_append, List.length_cons, List.length_nil] at hvl ⊢; (first | lia | omega))
        · ((with_reducible refine' ev_name ?wx35 ?wy35 ?wz35); (case wx35 => exact rfl); (case wy35 => decide); (case wz35 => decide))
        · exact ev_l (by decide +kernel)
        · ((with_reducible refine' ev_name ?wx36 ?wy36 ?wz36); (case wx36 => exact rfl); (case wy36 => decide); (case wz36 => decide))
theorem fmt1_call {c : Cx} {p v : List Nat} (hk : 2 ≤ c.k) (hp : p.length ≤ 100000) (hv : v.length ≤ 100000 ∧ ∀ c ∈ v, c ∈ alpha) : OPs c (fun vs => call (.ref 44) vs) [.str (S p), .str (S v)] (.str (S (fmtL p (some v) true))) := by
  refine' call_def ⟨?k, ?g1, ?g2, ?g3, ?g4, ?g5, ?g6, ?g7, ?g8, ?g9⟩ ?hb ?hl ?hk ?h
  (case k => k_is)
  (case g3 => exact rfl)
  (case g1 => exact rfl)
  (case g2 => exact rfl)
  (case g4 => exact rfl)
  (case g5 => exact rfl)
  (case g6 => exact rfl)
  (case g7 => exact rfl)
  (case g8 => decide)
  (case g9 => k_is)
  case hb => 
    intro fz s vs I rs
    obtain ⟨o, e37, t, n, ho⟩ := dflt44 c
    obtain ⟨a, _, rfl, r1, r₁⟩ := rs.inv
    obtain ⟨b, _, rfl, r2, r₂⟩ := r₁.inv
    obtain rfl := r₂.inv
    ·
      exact ⟨_, BindsTo.of_defaults rfl (I.ge (c.st.k _ _ e37)) ho rfl rfl, RBs.reverse (.cons (x := Str.ofString "param") r1 (.cons (x := Str.ofString "value") r2 (.cons (x := Str.ofString "quote") (.int _ _) .nil)))⟩
  case hl => rfl
  case hk => (first | lia | omega)
  case h =>
    rintro ⟨w, G, A, env, fz₀, s₀, k, st, room, kind, glob, bi, big, kA, kG, kN⟩ hw hG hk' L hL
    dsimp only at hw hG hk' hL
    subst hw hG hL
    have hvl := (hv).1
    refine' ex_if (b := !v.isEmpty) ?t ?a ?b
    case t =>
      have e : (!v.isEmpty) = decide ((v.length : Int) > 0) := by cases v <;> simp <;> (first | lia | omega)
      rw [e]
      refine tv_bool (tvs_on (op := .And) ?_ ?_)
      · show TV _ _ _ _ true
        (first | ((with_reducible refine' tv_cmp ?hl_20 ?hr_20 ?h_20 ?hm_20); (case hl_20 => ((with_reducible refine' ev_name ?wx37 ?wy37 ?wz37); (case wx37 => exact rfl); (case wy37 => decide); (case wz37 => decide))); (case hr_20 => with_reducible exact ev_none); (case h_20 => with_reducible exact op_isnot_none_str); (case hm_20 => with_unfolding_all exact rfl)) | done)
      cases hd : decide ((v.length : Int) > 0)
      · refine tvs_stop (op := .And) ?_
        refine' tv_cmp ?hl ?hr ?h ?hm
        case hl => ((refine' ev_builtin1 (id := "len") ?h1_21 ?h2_21 ?h3_21 ?h4_21 ?h5_21 ?h6_21 ?h7_21 ?h8_21; (case h1_21 => exact rfl); (case h2_21 => k_is); (case h3_21 => exact rfl); (case h4_21 => ((refine' evs_cons ?wa38 ?wb38 ?wc38); (case wa38 => ((with_reducible refine' ev_name ?wx39 ?wy39 ?wz39); (case wx39 => exact rfl); (case wy39 => decide); (case wz39 => decide))); (case wb38 => exact evs_nil); (case wc38 => exact fun _ => rfl))); (case h5_21 => first | ((with_reducible refine op_len_str ?_); (first | lia | omega)) | ((with_reducible refine op_len_list ?_); assumption)); (case h6_21 => exact rfl); (case h7_21 => decide); (case h8_21 => decide)))
        case hr => with_reducible exact ev_int
        case h => (show OP2 _ _ _ _ (.bool false); rw [← hd]; exact op_gt)
        case hm => with_unfolding_all exact rfl
      · refine tvs_on (op := .And) (b := true) ?_ tvs_nil
        refine' tv_cmp ?hl ?hr ?h ?hm
        case hl => ((refine' ev_builtin1 (id := "len") ?h1_22 ?h2_22 ?h3_22 ?h4_22 ?h5_22 ?h6_22 ?h7_22 ?h8_22; (case h1_22 => exact rfl); (case h2_22 => k_is); (case h3_22 => exact rfl); (case h4_22 => ((refine' evs_cons ?wa40 ?wb40 ?wc40); (case wa40 => ((with_reducible refine' ev_name ?wx41 ?wy41 ?wz41); (case wx41 => exact rfl); (case wy41 => decide); (case wz41 => decide))); (case wb40 => exact evs_nil); (case wc40 => exact fun _ => rfl))); (case h5_22 => first | ((with_reducible refine op_len_str ?_); (first | lia | omega)) | ((with_reducible refine op_len_list ?_); assumption)); (case h6_22 => exact rfl); (case h7_22 => decide); (case h8_22 => decide)))
        case hr => with_reducible exact ev_int
        case h => (show OP2 _ _ _ _ (.bool true); rw [← hd]; exact op_gt)
        case hm => with_unfolding_all exact rfl
    case b =>
      intro h
      have : v = [] := by cases v <;> simp_all
      subst this
      refine ex_return ?_
      ((with_reducible refine' ev_name ?wx42 ?wy42 ?wz42); (case wx42 => exact rfl); (case wy42 => decide); (case wz42 => decide))
    case' a => 
      intro h
      obtain ⟨x, r, rfl⟩ : ∃ x r, v = x :: r := by cases v <;> simp_all
    refine' ex_if (b := true) ?t2 ?a2 ?b2
    case t2 =>
      refine tv_bool (tvs_stop (op := .Or) (show TV _ _ _ _ ((1 : Int) != 0) from tv_val (hs := by intros; rfl) ?_ opt_int))
      ((with_reducible refine' ev_name ?wx43 ?wy43 ?wz43); (case wx43 => exact rfl); (case wy43 => decide); (case wz43 => decide))
    case b2 => intro h; cases h
    case a2 => 
      intro _
      refine' ex_assign ?he ?h ?hx ?ho ?hs
      case he =>
        refine' ev_replace (ch := 34) (w := [92, 34]) ?ho1 ?hy1 ?hz1 ?hne1 ?hsz1 ?hb1 ?hl1
        case ho1 =>
          refine' ev_replace (ch := 92) (w := [92, 92]) ?ho2 ?hy2 ?hz2 ?hne2 ?hsz2 ?hb2 ?hl2
          case ho2 => ((with_reducible refine' ev_name ?wx44 ?wy44 ?wz44); (case wx44 => exact rfl); (case wy44 => decide); (case wz44 => decide))
          case hy2 => exact (by decide +kernel)
          case hz2 => exact (by decide +kernel)
          case hne2 => decide
          case hsz2 => (simp only [List.length_cons, List.length_nil] at hvl ⊢; (first | lia | omega))
          case hb2 => exact rfl
          case hl2 => exact rfl
        case hy1 => exact (by decide +kernel)
        case hz1 => exact (by decide +kernel)
        case hne1 => decide
        case hsz1 => (have hr := replLen (x :: r); simp only [List.length_cons, List.length_nil] at hvl hr ⊢; (first | lia | omega))
        case hb1 => exact rfl
        case hl1 => exact rfl
      case hx => exact rfl
      case ho => exact rfl
      case hs => exact rfl
      case h =>
        rw [repl_esc]
        have hel := (escL_len (x :: r)).2
        refine ex_return ?_
        have e : p ++ [61, 34] ++ escL (x :: r) ++ [34] = p ++ ([61, 34] ++ (escL (x :: r) ++ ([34] ++ []))) := by simp
        rw [show fmtL p (some (x :: r)) true = p ++ [61, 34] ++ escL (x :: r) ++ [34] from rfl, e]
        refine ev_joined (ej_cons (ev_fmt ?_ (by (first | lia | omega))) (ej_cons ?_ (ej_cons (ev_fmt ?_ (by (first | lia | omega))) (ej_cons ?_ ej_nil)))) (by simp only [List.length_append, List.length_cons, List.length_nil] at hvl hel ⊢; (first | lia | omega))
        · ((with_reducible refine' ev_name ?wx45 ?wy45 ?wz45); (case wx45 => exact rfl); (case wy45 => decide); (case wz45 => decide))
        · exact ev_l (by decide +kernel)
        · ((with_reducible refine' ev_name ?wx46 ?wy46 ?wz46); (case wx46 => exact rfl); (case wy46 => decide); (case wz46 => decide))
        · exact ev_l (by decide +kernel)
end D2

section D3
theorem unm_call {c : Cx} {l : List Nat} {st h : Nat} {rest : List Int} (hk : 2 ≤ c.k) (hl : l.length ≤ 1000000) : OPs c (fun vs => call (.ref 56) vs) [.mat (S l) ((st : Int) :: (h : Int) :: rest)] (.str (S (l.take st ++ l.drop h))) := by
  refine' call_def ⟨?k, ?g1, ?g2, ?g3, ?g4, ?g5, ?g6, ?g7, ?g8, ?g9⟩ ?hb ?hl ?hk ?h
  (case k => k_is)
  (case g3 => exact rfl)
  (case g1 => exact rfl)
  (case g2 => exact rfl)
  (case g4 => exact rfl)
  (case g5 => exact rfl)
  (case g6 => exact rfl)
  (case g7 => exact rfl)
  (case g8 => decide)
  (case g9 => k_is)
  case hb => 
    refine binds_pos (names := [Str.ofString "match"]) ?_ rfl
    intro vs h
    obtain ⟨a, rfl⟩ := len1 h
    rfl
  case hl => rfl
  case hk => (first | lia | omega)
  case h =>
    rintro ⟨w, G, A, env, fz₀, s₀, k, st', room, kind, glob, bi, big, kA, kG, kN⟩ hw hG hk' L hL
    dsimp only at hw hG hk' hL
    subst hw hG hL
    obtain ⟨j, rfl⟩ : ∃ j, k = j + 1 := ⟨k - 1, by (first | lia | omega)⟩
    clear hk hk'
    refine' ex_unpack ?he ?ha ?h ?hs ?hw
    case he =>
      refine' ev_method ?ho ?hes ty_mat plain_mat slot_span type_span (op_span0 (st := st) (h := h) (sp := (st : Int) :: (h : Int) :: rest) rfl) ?hb ?hpl ?hln ?hline
      case ho => ((with_reducible refine' ev_name ?wx47 ?wy47 ?wz47); (case wx47 => exact rfl); (case wy47 => decide); (case wz47 => decide))
      case hes => ((refine' evs_cons ?wa48 ?wb48 ?wc48); (case wa48 => with_reducible exact ev_int); (case wb48 => exact evs_nil); (case wc48 => exact fun _ => rfl))
      (((case hb => exact rfl); (case hpl => exact rfl); (case hln => decide); (case hline => exact rfl)))
    case ha => 
      refine' as_pair ?a1 ?a2 ?a3 ?a4
      case a1 => exact rfl
      case a2 => exact rfl
      case a3 => exact rfl
      case a4 => exact rfl
    case hs => exact rfl
    case hw => exact rfl
    case h =>
      refine ex_return ?_
      refine' ev_bin ?b1 ?b2 ?b3
      case b1 =>
        refine' ev_eq (ev_cut ?v1 ?v2 ?v3 ?v4) ?v5
        case v1 => (refine' ev_string ?v6 ?v7; (case v6 => ((with_reducible refine' ev_name ?wx49 ?wy49 ?wz49); (case wx49 => exact rfl); (case wy49 => decide); (case wz49 => decide))); (case v7 => exact fun _ => rfl))
        case v2 => exact part_none
        case v3 => (refine' part_some ?v8; (case v8 => ((with_reducible refine' ev_name ?wx50 ?wy50 ?wz50); (case wx50 => exact rfl); (case wy50 => decide); (case wz50 => decide))))
        case v4 => (rw [S_len]; (first | lia | omega))
        case v5 => exact congrArg D.str (strSlice_ns l st)
      case b2 =>
        refine' ev_eq (ev_cut ?u1 ?u2 ?u3 ?u4) ?u5
        case u1 => (refine' ev_string ?u6 ?u7; (case u6 => ((with_reducible refine' ev_name ?wx51 ?wy51 ?wz51); (case wx51 => exact rfl); (case wy51 => decide); (case wz51 => decide))); (case u7 => exact fun _ => rfl))
        case u2 => (refine' part_some ?u8; (case u8 => ((with_reducible refine' ev_name ?wx52 ?wy52 ?wz52); (case wx52 => exact rfl); (case wy52 => decide); (case wz52 => decide))))
        case u3 => exact part_none
        case u4 => (rw [S_len]; (first | lia | omega))
        case u5 => exact congrArg D.str (strSlice_sn l h)
      case b3 => exact op_catS (by rw [List.length_take, List.length_drop]; exact Nat.le_trans (Nat.add_le_add (Nat.le_trans (Nat.min_le_right _ _) hl) (Nat.le_trans (Nat.sub_le _ _) hl)) (by decide))
end D3

section D4
theorem pat_tok (c : Cx) : PatAt c 61 cTOK.toList 1 := ⟨_, _, _, _, _, _, by k_is, by k_is⟩
theorem pat_quo (c : Cx) : PatAt c 66 cQUO.toList 1 := ⟨_, _, _, _, _, _, by k_is, by k_is⟩
theorem pat_val (c : Cx) : PatAt c 71 cVAL.toList 1 := ⟨_, _, _, _, _, _, by k_is, by k_is⟩
theorem pat_esc (c : Cx) : PatAt c 76 cESC.toList 1 := ⟨_, _, _, _, _, _, by k_is, by k_is⟩
theorem pat_twin (c : Cx) : PatAt c 49 cTWIN.toList 0 := ⟨_, _, _, _, _, _, by k_is, by k_is⟩

theorem fn56 (c : Cx) : FnAt c.w 56 := ⟨_, _, by k_is, rfl⟩
theorem split_call {c : Cx} {ws : List (List Nat × WV)} (hk : 6 ≤ c.k) (hne : ws ≠ []) (hws : ∀ p ∈ ws, WordOk p) (hlen : (wordsT ws).length ≤ 10000) :
    OPs c (fun vs => call (.ref 83) vs) [.list [.str (S (wordsT ws))]] (.list [.list (ws.map prD)]) := by
  refine' call_def ⟨?k, ?g1, ?g2, ?g3, ?g4, ?g5, ?g6, ?g7, ?g8, ?g9⟩ ?hb ?hl ?hk ?h
  (case k => k_is)
  (case g3 => exact rfl)
  (case g1 => exact rfl)
  (case g2 => exact rfl)
  (case g4 => exact rfl)
  (case g5 => exact rfl)
  (case g6 => exact rfl)
  (case g7 => exact rfl)
  (case g8 => decide)
  (case g9 => k_is)
  case hb => 
    refine binds_pos (names := [Str.ofString "header_values"]) ?_ rfl
    intro vs h
    obtain ⟨a, rfl⟩ := len1 h
    rfl
  case hl => rfl
  case hk => (first | lia | omega)
  case h =>
    rintro ⟨w, G, A, env, fz₀, s₀, k, st', room, kind, glob, bi, big, kA, kG, kN⟩ hw hG hk' L hL
    dsimp only at hw hG hk' hL
    subst hw hG hL
    have hsz : sizeLine = 16777216 := by decide
    obtain ⟨j, rfl⟩ : ∃ j, k = j + 5 := ⟨k - 5, by (first | lia | omega)⟩
    clear hk hk'
    refine' ex_assert ?as1 ?as2
    case as1 =>
      refine' tv_not (b := false) (tv_val ?t1 opt_bool ?t2)
      case t1 => 
        refine' ev_isi rfl ?i1 ?i2 ?i3 ?i4 ?i5 ?i6
        case i1 => 
          refine' ev_name ?q1 ?q2 ?q3
          case q1 => exact rfl
          case q2 => decide
          case q3 => decide
        case i2 => exact rfl
        case i3 => k_is
        case i4 => exact rfl
        case i5 => k_is
        case i6 => exact fun _ => rfl
      case t2 => exact fun _ _ => rfl
    case as2 =>
      refine' ex_new (ds := []) ?n1 ?n2 ?n3 ?n4 ?n5 ?n6
      case n1 => exact evs_nil
      case n3 => exact rfl
      case n4 => exact rfl
      case n5 => exact rfl
      case n6 => decide
      case n2 =>
        intro ar
        refine' ex_forI (iters_list (ds := [.str (S (wordsT ws))]) ?it1 ?it2) (fun _ => []) (fun i => [⟨some (Str.ofString "result"), ar, .list (if i = 0 then [] else [.list (ws.map prD)])⟩]) ?h0 ?hw0 ?turn ?fin ?hs
        case it1 => ((with_reducible refine' ev_name ?wx53 ?wy53 ?wz53); (case wx53 => exact rfl); (case wy53 => decide); (case wz53 => decide))
        case it2 => (intro d hd; rw [List.mem_singleton.mp hd]; exact rfl)
        case h0 => (intro p hp; exact nomatch hp)
        case hw0 => exact rfl
        case hs => exact fun _ => rfl
        case fin => 
          refine ex_freeze1 rfl ?_
          refine ex_return ?_
          ((with_reducible refine' ev_name ?wx54 ?wy54 ?wz54); (case wx54 => exact rfl); (case wy54 => decide); (case wz54 => decide))
        case turn => 
          intro i es hi hes
          obtain rfl : i = 0 := by (have : i < 1 := hi); (first | lia | omega)
          refine ⟨_, (by ((refine' as_name ?h1_26 ?h2_26; (case h1_26 => exact rfl); (case h2_26 => (refine any_es (by assumption) ?_; exact rfl))))), ?_⟩
          rw [if_pos rfl, if_neg (by decide)]
          (((with_reducible refine' ex_assign ?he_27 ?h_27 ?hx_27 ?ho_27 ?hs_27); (case he_27 => ((with_reducible refine' ev_name ?wx55 ?wy55 ?wz55); (case wx55 => exact rfl); (case wy55 => decide); (case wz55 => decide))); (case hx_27 => exact rfl); (case ho_27 => (refine any_es (by assumption) ?_; exact rfl)); (case hs_27 => exact rfl)))
          refine' ex_new (ds := []) ?n1 ?n2 ?n3 ?n4 ?n5 ?n6
          case n1 => exact evs_nil
          case n3 => exact rfl
          case n4 => (refine any_es (by assumption) ?_; exact rfl)
          case n5 => exact rfl
          case n6 => decide
          case n2 =>
            intro ap
            refine' ex_while (2 * ws.length - 1) (fun j => [(Str.ofString "text", .str (S (stT ws j)))]) (fun j => ⟨some (Str.ofString "pairs"), ap, .list (stP ws j)⟩ :: (es ++ [⟨some (Str.ofString "result"), ar, .list []⟩])) ?h0 ?hw0 ?tests ?turn2 ?fin2
            case h0 => (repeat' (first | (with_reducible refine List.forall_mem_cons.mpr ⟨?_, ?_⟩) | exact rfl | (intro p hp; exact nomatch hp)))
            case hw0 => exact rfl
            case tests =>
              intro j hj
              rw [← stT_test hws hne j]
              refine' tv_val ?tt1 (opt_strT (by have := stT_le ws j; (first | lia | omega))) ?tt2
              case tt1 => ((with_reducible refine' ev_name ?wx56 ?wy56 ?wz56); (case wx56 => exact rfl); (case wy56 => decide); (case wz56 => decide))
              case tt2 => exact fun _ _ => rfl
            case turn2 =>
              intro jj hjj
              obtain ⟨i, rfl | rfl⟩ : ∃ i, jj = 2 * i ∨ jj = 2 * i + 1 := ⟨jj / 2, by (first | lia | omega)⟩
              · have hi : i < ws.length := by (first | lia | omega)
                obtain ⟨q1, q2, q3⟩ := st_even hi
                have hw := hws _ (List.getElem_mem hi)
                have hlt : (stT ws (2 * i)).length ≤ 20000 := by have := stT_le ws (2 * i); (first | lia | omega)
                rw [q1, q2, q3]
                rw [q1] at hlt
                generalize ws[i] = p at hw hlt
                generalize ws.drop (i + 1) = rest at hlt
                have hpsl : (stP ws (2 * i)).length ≤ 16777216 := by (have := ws_len hws; unfold stP; rw [List.length_map, List.length_take]; (first | lia | omega))
                generalize stP ws (2 * i) = ps at hpsl
                obtain ⟨n, v⟩ := p
                obtain ⟨hn, hv, hv2⟩ := hw
                dsimp only at hn hv hv2 hlt ⊢
                have hnl : n.length ≤ 20000 := by rw [List.length_append] at hlt; (first | lia | omega)
                refine' ex_assign ?m1 ?m2 ?m3 ?m4 ?m5
                case m1 => (((refine' ev_method ?ho_29 ?hes_29 (ty_obj (T := "re.Pattern") ?e1_29 ?e2_29 ?e3_29) plain_pat slot_search type_search ?op_29 ?hb_29 ?hpl_29 ?hln_29 ?hline_29; (case ho_29 => (refine' ev_global ?wx57 ?wy57 ?wz57; (case wx57 => exact rfl); (case wy57 => k_is); (case wz57 => decide))); (case hes_29 => ((refine' evs_cons ?wa58 ?wb58 ?wc58); (case wa58 => ((with_reducible refine' ev_name ?wx59 ?wy59 ?wz59); (case wx59 => exact rfl); (case wy59 => decide); (case wz59 => decide))); (case wb58 => exact evs_nil); (case wc58 => exact fun _ => rfl))); (case e1_29 => k_is); (case e2_29 => exact rfl); (case e3_29 => exact rfl); (case hb_29 => exact rfl); (case hpl_29 => exact rfl); (case hln_29 => decide); (case hline_29 => exact rfl))); any_goals exact op_search_yes (pat_tok _) (tok_match hn.1 hn.2 (behT_headNot v rest) (by (first | lia | omega))) (by decide) (by (first | lia | omega)) (Nat.zero_le _))
                case m3 => exact rfl
                case m4 => (refine any_es (by assumption) ?_; exact rfl)
                case m5 => exact rfl
                case m2 =>
                  refine' ex_if (tv_val ?t6 opt_mat ?t7) ?a6 ?b6
                  case t6 => ((with_reducible refine' ev_name ?wx60 ?wy60 ?wz60); (case wx60 => exact rfl); (case wy60 => decide); (case wz60 => decide))
                  case t7 => exact fun _ _ => rfl
                  case b6 => intro h; cases h
                  case a6 =>
                    intro _
                    refine' ex_assign ?m6 ?m7 ?m8 ?m9 ?m10
                    case m6 => (((refine' ev_call ?hx_30 ?hn_30 ?hf_30 ?hes_30 ?h_30 ?hs_30 ?hd_30; (case hx_30 => exact rfl); (case hn_30 => k_is); (case hes_30 => ((refine' evs_cons ?wa61 ?wb61 ?wc61); (case wa61 => ((with_reducible refine' ev_name ?wx62 ?wy62 ?wz62); (case wx62 => exact rfl); (case wy62 => decide); (case wz62 => decide))); (case wb61 => exact evs_nil); (case wc61 => exact fun _ => rfl))); (case hs_30 => exact fun _ => rfl); (case hd_30 => decide))); any_goals (first | exact fn56 _ | exact unm_call (Nat.le_trans (by decide : 2 ≤ 5) (Nat.le_add_left 5 j)) (by (first | lia | omega))))
                    case m8 => exact rfl
                    case m9 => (refine any_es (by assumption) ?_; exact rfl)
                    case m10 => exact rfl
                    case m7 =>
                      rw [List.take_zero, List.nil_append, List.drop_left]
                      refine' ex_assign ?m11 ?m12 ?m13 ?m14 ?m15
                      case m11 => ((refine' ev_method ?ho_31 ?hes_31 ty_mat plain_mat slot_group type_group (op_group1 ?hl_31) ?hb_31 ?hpl_31 ?hln_31 ?hline_31; (case ho_31 => ((with_reducible refine' ev_name ?wx63 ?wy63 ?wz63); (case wx63 => exact rfl); (case wy63 => decide); (case wz63 => decide))); (case hes_31 => ((refine' evs_cons ?wa64 ?wb64 ?wc64); (case wa64 => with_reducible exact ev_int); (case wb64 => exact evs_nil); (case wc64 => exact fun _ => rfl))); (case hl_31 => (first | lia | omega)); (case hb_31 => exact rfl); (case hpl_31 => exact rfl); (case hln_31 => decide); (case hline_31 => exact rfl)))
                      case m13 => exact rfl
                      case m14 => (refine any_es (by assumption) ?_; exact rfl)
                      case m15 => exact rfl
                      case m12 =>
                        rw [List.drop_zero, Nat.sub_zero, List.take_left]
                        have hbl : (behT v rest).length ≤ 20000 := behT_len hlt
                        have hsl : (sepT (wordsT rest)).length ≤ 20000 := by
                          have : behT v rest = v.text ++ sepT (wordsT rest) := rfl
                          rw [this, List.length_append] at hbl
                          (first | lia | omega)
                        have hwl : (wordsT rest).length ≤ 20000 := by
                          have : (wordsT rest).length ≤ (sepT (wordsT rest)).length := by cases wordsT rest <;> simp [sepT]
                          (first | lia | omega)
                        cases v with
                        | no =>
                          obtain ⟨n1, hn1, hr1⟩ := quo_sep (l := wordsT rest) (by (first | lia | omega))
                          obtain ⟨n2, hn2, hr2⟩ := val_sep (l := wordsT rest) (by (first | lia | omega))
                          have eb : behT .no rest = sepT (wordsT rest) := rfl
                          rw [eb]
                          refine' ex_assign ?as1n1 ?as2n1 ?as3n1 ?as4n1 ?as5n1
                          case as1n1 => (((refine' ev_method ?ho_32 ?hes_32 (ty_obj (T := "re.Pattern") ?e1_32 ?e2_32 ?e3_32) plain_pat slot_search type_search ?op_32 ?hb_32 ?hpl_32 ?hln_32 ?hline_32; (case ho_32 => (refine' ev_global ?wx65 ?wy65 ?wz65; (case wx65 => exact rfl); (case wy65 => k_is); (case wz65 => decide))); (case hes_32 => ((refine' evs_cons ?wa66 ?wb66 ?wc66); (case wa66 => ((with_reducible refine' ev_name ?wx67 ?wy67 ?wz67); (case wx67 => exact rfl); (case wy67 => decide); (case wz67 => decide))); (case wb66 => exact evs_nil); (case wc66 => exact fun _ => rfl))); (case e1_32 => k_is); (case e2_32 => exact rfl); (case e3_32 => exact rfl); (case hb_32 => exact rfl); (case hpl_32 => exact rfl); (case hln_32 => decide); (case hline_32 => exact rfl))); any_goals exact op_search_no (pat_quo _) hr1 hn1 (by (first | lia | omega)))
                          case as3n1 => exact rfl
                          case as4n1 => (refine any_es (by assumption) ?_; exact rfl)
                          case as5n1 => exact rfl
                          case' as2n1 => skip
                          refine' ex_if (tv_val ?if1n2 opt_none ?if2n2) ?if3n2 ?if4n2
                          case if1n2 => ((with_reducible refine' ev_name ?wx68 ?wy68 ?wz68); (case wx68 => exact rfl); (case wy68 => decide); (case wz68 => decide))
                          case if2n2 => exact fun _ _ => rfl
                          case if3n2 => intro h; cases h
                          case' if4n2 => intro _
                          refine' ex_assign ?as1n3 ?as2n3 ?as3n3 ?as4n3 ?as5n3
                          case as1n3 => (((refine' ev_method ?ho_33 ?hes_33 (ty_obj (T := "re.Pattern") ?e1_33 ?e2_33 ?e3_33) plain_pat slot_search type_search ?op_33 ?hb_33 ?hpl_33 ?hln_33 ?hline_33; (case ho_33 => (refine' ev_global ?wx69 ?wy69 ?wz69; (case wx69 => exact rfl); (case wy69 => k_is); (case wz69 => decide))); (case hes_33 => ((refine' evs_cons ?wa70 ?wb70 ?wc70); (case wa70 => ((with_reducible refine' ev_name ?wx71 ?wy71 ?wz71); (case wx71 => exact rfl); (case wy71 => decide); (case wz71 => decide))); (case wb70 => exact evs_nil); (case wc70 => exact fun _ => rfl))); (case e1_33 => k_is); (case e2_33 => exact rfl); (case e3_33 => exact rfl); (case hb_33 => exact rfl); (case hpl_33 => exact rfl); (case hln_33 => decide); (case hline_33 => exact rfl))); any_goals exact op_search_no (pat_val _) hr2 hn2 (by (first | lia | omega)))
                          case as3n3 => exact rfl
                          case as4n3 => (refine any_es (by assumption) ?_; exact rfl)
                          case as5n3 => exact rfl
                          case' as2n3 => skip
                          refine' ex_if (tv_val ?if1n4 opt_none ?if2n4) ?if3n4 ?if4n4
                          case if1n4 => ((with_reducible refine' ev_name ?wx72 ?wy72 ?wz72); (case wx72 => exact rfl); (case wy72 => decide); (case wz72 => decide))
                          case if2n4 => exact fun _ _ => rfl
                          case if3n4 => intro h; cases h
                          case' if4n4 => intro _
                          refine' ex_assign ?as1n5 ?as2n5 ?as3n5 ?as4n5 ?as5n5
                          case as1n5 => (with_reducible exact ev_none)
                          case as3n5 => exact rfl
                          case as4n5 => (refine any_es (by assumption) ?_; exact rfl)
                          case as5n5 => exact rfl
                          case' as2n5 => skip
                          refine' ex_append_pes (x := Str.ofString "pairs") (a := ap) (ds := ps) hes ?ap1n6 ?ap2n6 ?ap3n6 ?ap4n6 ?ap5n6 ?ap6n6 ?ap7n6
                          case ap1n6 => exact rfl
                          case ap2n6 => (refine' ev_tuple ?et1n6 ?et2n6; (case et1n6 => ((refine' evs_cons ?wa73 ?wb73 ?wc73); (case wa73 => ((with_reducible refine' ev_name ?wx74 ?wy74 ?wz74); (case wx74 => exact rfl); (case wy74 => decide); (case wz74 => decide))); (case wb73 => ((refine' evs_cons ?wa75 ?wb75 ?wc75); (case wa75 => ((with_reducible refine' ev_name ?wx76 ?wy76 ?wz76); (case wx76 => exact rfl); (case wy76 => decide); (case wz76 => decide))); (case wb75 => exact evs_nil); (case wc75 => exact fun _ => rfl))); (case wc73 => exact fun _ => rfl))); (case et2n6 => (show 2 ≤ sizeLine; decide)))
                          case ap4n6 => (rw [hsz]; exact hpsl)
                          case ap5n6 => exact rfl
                          case ap6n6 => decide
                          case ap7n6 => exact fun _ => rfl
                          case ap3n6 => exact ex_nil fun fz s F => ⟨rfl, F.weaken (by (repeat' (first | (with_reducible refine List.forall_mem_cons.mpr ⟨?_, ?_⟩) | exact rfl | (intro p hp; exact nomatch hp))))⟩
                        | eq =>
                          have eb : behT .eq rest = 61 :: sepT (wordsT rest) := rfl
                          rw [eb]
                          refine' ex_assign ?as1e1 ?as2e1 ?as3e1 ?as4e1 ?as5e1
                          case as1e1 => (((refine' ev_method ?ho_35 ?hes_35 (ty_obj (T := "re.Pattern") ?e1_35 ?e2_35 ?e3_35) plain_pat slot_search type_search ?op_35 ?hb_35 ?hpl_35 ?hln_35 ?hline_35; (case ho_35 => (refine' ev_global ?wx77 ?wy77 ?wz77; (case wx77 => exact rfl); (case wy77 => k_is); (case wz77 => decide))); (case hes_35 => ((refine' evs_cons ?wa78 ?wb78 ?wc78); (case wa78 => ((with_reducible refine' ev_name ?wx79 ?wy79 ?wz79); (case wx79 => exact rfl); (case wy79 => decide); (case wz79 => decide))); (case wb78 => exact evs_nil); (case wc78 => exact fun _ => rfl))); (case e1_35 => k_is); (case e2_35 => exact rfl); (case e3_35 => exact rfl); (case hb_35 => exact rfl); (case hpl_35 => exact rfl); (case hln_35 => decide); (case hline_35 => exact rfl))); any_goals exact op_search_no (pat_quo _) (quo_eq (sepT_not rfl _)) (by (first | lia | omega)) (by simp only [List.length_cons]; (first | lia | omega)))
                          case as3e1 => exact rfl
                          case as4e1 => (refine any_es (by assumption) ?_; exact rfl)
                          case as5e1 => exact rfl
                          case' as2e1 => skip
                          refine' ex_if (tv_val ?if1e2 opt_none ?if2e2) ?if3e2 ?if4e2
                          case if1e2 => ((with_reducible refine' ev_name ?wx80 ?wy80 ?wz80); (case wx80 => exact rfl); (case wy80 => decide); (case wz80 => decide))
                          case if2e2 => exact fun _ _ => rfl
                          case if3e2 => intro h; cases h
                          case' if4e2 => intro _
                          refine' ex_assign ?as1e3 ?as2e3 ?as3e3 ?as4e3 ?as5e3
                          case as1e3 => (((refine' ev_method ?ho_36 ?hes_36 (ty_obj (T := "re.Pattern") ?e1_36 ?e2_36 ?e3_36) plain_pat slot_search type_search ?op_36 ?hb_36 ?hpl_36 ?hln_36 ?hline_36; (case ho_36 => (refine' ev_global ?wx81 ?wy81 ?wz81; (case wx81 => exact rfl); (case wy81 => k_is); (case wz81 => decide))); (case hes_36 => ((refine' evs_cons ?wa82 ?wb82 ?wc82); (case wa82 => ((with_reducible refine' ev_name ?wx83 ?wy83 ?wz83); (case wx83 => exact rfl); (case wy83 => decide); (case wz83 => decide))); (case wb82 => exact evs_nil); (case wc82 => exact fun _ => rfl))); (case e1_36 => k_is); (case e2_36 => exact rfl); (case e3_36 => exact rfl); (case hb_36 => exact rfl); (case hpl_36 => exact rfl); (case hln_36 => decide); (case hline_36 => exact rfl))); any_goals exact op_search_yes (pat_val _) (val_match (sepT_not rfl _)) (by decide) (by simp only [List.length_cons]; (first | lia | omega)) (Nat.le_refl _))
                          case as3e3 => exact rfl
                          case as4e3 => (refine any_es (by assumption) ?_; exact rfl)
                          case as5e3 => exact rfl
                          case' as2e3 => skip
                          refine' ex_if (tv_val ?if1e4 opt_mat ?if2e4) ?if3e4 ?if4e4
                          case if1e4 => ((with_reducible refine' ev_name ?wx84 ?wy84 ?wz84); (case wx84 => exact rfl); (case wy84 => decide); (case wz84 => decide))
                          case if2e4 => exact fun _ _ => rfl
                          case if4e4 => intro h; cases h
                          case' if3e4 => intro _
                          refine' ex_assign ?as1e5 ?as2e5 ?as3e5 ?as4e5 ?as5e5
                          case as1e5 => (((refine' ev_call ?hx_37 ?hn_37 ?hf_37 ?hes_37 ?h_37 ?hs_37 ?hd_37; (case hx_37 => exact rfl); (case hn_37 => k_is); (case hes_37 => ((refine' evs_cons ?wa85 ?wb85 ?wc85); (case wa85 => ((with_reducible refine' ev_name ?wx86 ?wy86 ?wz86); (case wx86 => exact rfl); (case wy86 => decide); (case wz86 => decide))); (case wb85 => exact evs_nil); (case wc85 => exact fun _ => rfl))); (case hs_37 => exact fun _ => rfl); (case hd_37 => decide))); any_goals (first | exact fn56 _ | exact unm_call (st := 0) (h := 1) (Nat.le_trans (by decide : 2 ≤ 5) (Nat.le_add_left 5 j)) (by simp only [List.length_cons]; (first | lia | omega))))
                          case as3e5 => exact rfl
                          case as4e5 => (refine any_es (by assumption) ?_; exact rfl)
                          case as5e5 => exact rfl
                          case' as2e5 => skip
                          rw [show List.take 0 (61 :: sepT (wordsT rest)) ++ List.drop 1 (61 :: sepT (wordsT rest)) = sepT (wordsT rest) from rfl]
                          refine' ex_assign ?as1e6 ?as2e6 ?as3e6 ?as4e6 ?as5e6
                          case as1e6 => (((refine' ev_method ?ho_38 ?hes_38 ty_mat plain_mat slot_group type_group (op_group1 ?hl_38) ?hb_38 ?hpl_38 ?hln_38 ?hline_38; (case ho_38 => ((with_reducible refine' ev_name ?wx87 ?wy87 ?wz87); (case wx87 => exact rfl); (case wy87 => decide); (case wz87 => decide))); (case hes_38 => ((refine' evs_cons ?wa88 ?wb88 ?wc88); (case wa88 => with_reducible exact ev_int); (case wb88 => exact evs_nil); (case wc88 => exact fun _ => rfl))); (case hl_38 => (first | lia | omega)); (case hb_38 => exact rfl); (case hpl_38 => exact rfl); (case hln_38 => decide); (case hline_38 => exact rfl))))
                          case as3e6 => exact rfl
                          case as4e6 => (refine any_es (by assumption) ?_; exact rfl)
                          case as5e6 => exact rfl
                          case' as2e6 => skip
                          rw [show List.take (1 - 1) (List.drop 1 (61 :: sepT (wordsT rest))) = [] from rfl]
                          refine' ex_assign ?as1e7 ?as2e7 ?as3e7 ?as4e7 ?as5e7
                          case as1e7 => (refine' ev_method ?rs1 ?rs2 ty_str plain_str PySem.F.slot_str_rstrip PySem.F.type_str_rstrip op_rstrip0 ?rs3 ?rs4 ?rs5 ?rs6; (case rs1 => ((with_reducible refine' ev_name ?wx89 ?wy89 ?wz89); (case wx89 => exact rfl); (case wy89 => decide); (case wz89 => decide))); (case rs2 => exact evs_nil); (case rs3 => exact rfl); (case rs4 => exact rfl); (case rs5 => decide); (case rs6 => exact rfl))
                          case as3e7 => exact rfl
                          case as4e7 => (refine any_es (by assumption) ?_; exact rfl)
                          case as5e7 => exact rfl
                          case' as2e7 => skip
                          refine' ex_append_pes (x := Str.ofString "pairs") (a := ap) (ds := ps) hes ?ap1e8 ?ap2e8 ?ap3e8 ?ap4e8 ?ap5e8 ?ap6e8 ?ap7e8
                          case ap1e8 => exact rfl
                          case ap2e8 => (refine' ev_tuple ?et1e8 ?et2e8; (case et1e8 => ((refine' evs_cons ?wa90 ?wb90 ?wc90); (case wa90 => ((with_reducible refine' ev_name ?wx91 ?wy91 ?wz91); (case wx91 => exact rfl); (case wy91 => decide); (case wz91 => decide))); (case wb90 => ((refine' evs_cons ?wa92 ?wb92 ?wc92); (case wa92 => ((with_reducible refine' ev_name ?wx93 ?wy93 ?wz93); (case wx93 => exact rfl); (case wy93 => decide); (case wz93 => decide))); (case wb92 => exact evs_nil); (case wc92 => exact fun _ => rfl))); (case wc90 => exact fun _ => rfl))); (case et2e8 => (show 2 ≤ sizeLine; decide)))
                          case ap4e8 => (rw [hsz]; exact hpsl)
                          case ap5e8 => exact rfl
                          case ap6e8 => decide
                          case ap7e8 => exact fun _ => rfl
                          case ap3e8 => exact ex_nil fun fz s F => ⟨rfl, F.weaken (by (repeat' (first | (with_reducible refine List.forall_mem_cons.mpr ⟨?_, ?_⟩) | exact rfl | (intro p hp; exact nomatch hp))))⟩
                        | tok w =>
                          obtain ⟨hwne, hwa⟩ := hv2 w rfl
                          have eb : behT (.tok w) rest = 61 :: (w ++ sepT (wordsT rest)) := rfl
                          rw [eb] at hbl ⊢
                          have hwl3 : w.length ≤ 20000 := by (simp only [List.length_cons, List.length_append] at hbl; (first | lia | omega))
                          obtain ⟨x, w', rfl⟩ : ∃ x w', w = x :: w' := by (cases w with | nil => exact absurd rfl hwne | cons x w' => exact ⟨x, w', rfl⟩)
                          have hx := hwa x (.head _)
                          refine' ex_assign ?as1t1 ?as2t1 ?as3t1 ?as4t1 ?as5t1
                          case as1t1 => (((refine' ev_method ?ho_40 ?hes_40 (ty_obj (T := "re.Pattern") ?e1_40 ?e2_40 ?e3_40) plain_pat slot_search type_search ?op_40 ?hb_40 ?hpl_40 ?hln_40 ?hline_40; (case ho_40 => (refine' ev_global ?wx94 ?wy94 ?wz94; (case wx94 => exact rfl); (case wy94 => k_is); (case wz94 => decide))); (case hes_40 => ((refine' evs_cons ?wa95 ?wb95 ?wc95); (case wa95 => ((with_reducible refine' ev_name ?wx96 ?wy96 ?wz96); (case wx96 => exact rfl); (case wy96 => decide); (case wz96 => decide))); (case wb95 => exact evs_nil); (case wc95 => exact fun _ => rfl))); (case e1_40 => k_is); (case e2_40 => exact rfl); (case e3_40 => exact rfl); (case hb_40 => exact rfl); (case hpl_40 => exact rfl); (case hln_40 => decide); (case hline_40 => exact rfl))); any_goals exact op_search_no (pat_quo _) (quo_eq (r := (x :: w') ++ sepT (wordsT rest)) (tok_head hx)) (by simp only [List.length_cons, List.length_append] at hbl ⊢; (first | lia | omega)) (by simp only [List.length_cons, List.length_append] at hbl ⊢; (first | lia | omega)))
                          case as3t1 => exact rfl
                          case as4t1 => (refine any_es (by assumption) ?_; exact rfl)
                          case as5t1 => exact rfl
                          case' as2t1 => skip
                          refine' ex_if (tv_val ?if1t2 opt_none ?if2t2) ?if3t2 ?if4t2
                          case if1t2 => ((with_reducible refine' ev_name ?wx97 ?wy97 ?wz97); (case wx97 => exact rfl); (case wy97 => decide); (case wz97 => decide))
                          case if2t2 => exact fun _ _ => rfl
                          case if3t2 => intro h; cases h
                          case' if4t2 => intro _
                          refine' ex_assign ?as1t3 ?as2t3 ?as3t3 ?as4t3 ?as5t3
                          case as1t3 => (((refine' ev_method ?ho_41 ?hes_41 (ty_obj (T := "re.Pattern") ?e1_41 ?e2_41 ?e3_41) plain_pat slot_search type_search ?op_41 ?hb_41 ?hpl_41 ?hln_41 ?hline_41; (case ho_41 => (refine' ev_global ?wx98 ?wy98 ?wz98; (case wx98 => exact rfl); (case wy98 => k_is); (case wz98 => decide))); (case hes_41 => ((refine' evs_cons ?wa99 ?wb99 ?wc99); (case wa99 => ((with_reducible refine' ev_name ?wx100 ?wy100 ?wz100); (case wx100 => exact rfl); (case wy100 => decide); (case wz100 => decide))); (case wb99 => exact evs_nil); (case wc99 => exact fun _ => rfl))); (case e1_41 => k_is); (case e2_41 => exact rfl); (case e3_41 => exact rfl); (case hb_41 => exact rfl); (case hpl_41 => exact rfl); (case hln_41 => decide); (case hline_41 => exact rfl))); any_goals exact op_search_yes (pat_val _) (val_tok hwne (fun c hc => ⟨(hwa c hc).1, tok_set (hwa c hc).2⟩) (sepT_not rfl _) (by (first | lia | omega))) (by decide) (by (first | lia | omega)) (by (first | lia | omega)))
                          case as3t3 => exact rfl
                          case as4t3 => (refine any_es (by assumption) ?_; exact rfl)
                          case as5t3 => exact rfl
                          case' as2t3 => skip
                          refine' ex_if (tv_val ?if1t4 opt_mat ?if2t4) ?if3t4 ?if4t4
                          case if1t4 => ((with_reducible refine' ev_name ?wx101 ?wy101 ?wz101); (case wx101 => exact rfl); (case wy101 => decide); (case wz101 => decide))
                          case if2t4 => exact fun _ _ => rfl
                          case if4t4 => intro h; cases h
                          case' if3t4 => intro _
                          refine' ex_assign ?as1t5 ?as2t5 ?as3t5 ?as4t5 ?as5t5
                          case as1t5 => (((refine' ev_call ?hx_42 ?hn_42 ?hf_42 ?hes_42 ?h_42 ?hs_42 ?hd_42; (case hx_42 => exact rfl); (case hn_42 => k_is); (case hes_42 => ((refine' evs_cons ?wa102 ?wb102 ?wc102); (case wa102 => ((with_reducible refine' ev_name ?wx103 ?wy103 ?wz103); (case wx103 => exact rfl); (case wy103 => decide); (case wz103 => decide))); (case wb102 => exact evs_nil); (case wc102 => exact fun _ => rfl))); (case hs_42 => exact fun _ => rfl); (case hd_42 => decide))); any_goals (first | exact fn56 _ | exact unm_call (st := 0) (h := 1 + (x :: w').length) (Nat.le_trans (by decide : 2 ≤ 5) (Nat.le_add_left 5 j)) (by (first | lia | omega))))
                          case as3t5 => exact rfl
                          case as4t5 => (refine any_es (by assumption) ?_; exact rfl)
                          case as5t5 => exact rfl
                          case' as2t5 => skip
                          rw [tok_drop]
                          refine' ex_assign ?as1t6 ?as2t6 ?as3t6 ?as4t6 ?as5t6
                          case as1t6 => (((refine' ev_method ?ho_43 ?hes_43 ty_mat plain_mat slot_group type_group (op_group1 ?hl_43) ?hb_43 ?hpl_43 ?hln_43 ?hline_43; (case ho_43 => ((with_reducible refine' ev_name ?wx104 ?wy104 ?wz104); (case wx104 => exact rfl); (case wy104 => decide); (case wz104 => decide))); (case hes_43 => ((refine' evs_cons ?wa105 ?wb105 ?wc105); (case wa105 => with_reducible exact ev_int); (case wb105 => exact evs_nil); (case wc105 => exact fun _ => rfl))); (case hl_43 => (first | lia | omega)); (case hb_43 => exact rfl); (case hpl_43 => exact rfl); (case hln_43 => decide); (case hline_43 => exact rfl))))
                          case as3t6 => exact rfl
                          case as4t6 => (refine any_es (by assumption) ?_; exact rfl)
                          case as5t6 => exact rfl
                          case' as2t6 => skip
                          rw [tok_take]
                          refine' ex_assign ?as1t7 ?as2t7 ?as3t7 ?as4t7 ?as5t7
                          case as1t7 => (refine' ev_method ?rt1 ?rt2 ty_str plain_str PySem.F.slot_str_rstrip PySem.F.type_str_rstrip (op_rstripT (fun c hc => tok_space (hwa c hc)) (by (first | lia | omega))) ?rt3 ?rt4 ?rt5 ?rt6; (case rt1 => ((with_reducible refine' ev_name ?wx106 ?wy106 ?wz106); (case wx106 => exact rfl); (case wy106 => decide); (case wz106 => decide))); (case rt2 => exact evs_nil); (case rt3 => exact rfl); (case rt4 => exact rfl); (case rt5 => decide); (case rt6 => exact rfl))
                          case as3t7 => exact rfl
                          case as4t7 => (refine any_es (by assumption) ?_; exact rfl)
                          case as5t7 => exact rfl
                          case' as2t7 => skip
                          refine' ex_append_pes (x := Str.ofString "pairs") (a := ap) (ds := ps) hes ?ap1t8 ?ap2t8 ?ap3t8 ?ap4t8 ?ap5t8 ?ap6t8 ?ap7t8
                          case ap1t8 => exact rfl
                          case ap2t8 => (refine' ev_tuple ?et1t8 ?et2t8; (case et1t8 => ((refine' evs_cons ?wa107 ?wb107 ?wc107); (case wa107 => ((with_reducible refine' ev_name ?wx108 ?wy108 ?wz108); (case wx108 => exact rfl); (case wy108 => decide); (case wz108 => decide))); (case wb107 => ((refine' evs_cons ?wa109 ?wb109 ?wc109); (case wa109 => ((with_reducible refine' ev_name ?wx110 ?wy110 ?wz110); (case wx110 => exact rfl); (case wy110 => decide); (case wz110 => decide))); (case wb109 => exact evs_nil); (case wc109 => exact fun _ => rfl))); (case wc107 => exact fun _ => rfl))); (case et2t8 => (show 2 ≤ sizeLine; decide)))
                          case ap4t8 => (rw [hsz]; exact hpsl)
                          case ap5t8 => exact rfl
                          case ap6t8 => decide
                          case ap7t8 => exact fun _ => rfl
                          case ap3t8 => exact ex_nil fun fz s F => ⟨rfl, F.weaken (by (repeat' (first | (with_reducible refine List.forall_mem_cons.mpr ⟨?_, ?_⟩) | exact rfl | (intro p hp; exact nomatch hp))))⟩
                        | quo w =>
                          have hw := hv w rfl
                          rw [behT_quo] at hbl ⊢
                          obtain ⟨n1, hn1, hr1⟩ := quo_esc (w := w) (r := sepT (wordsT rest)) hw (by (first | lia | omega))
                          have hel : (escL w).length ≤ 20000 := by (simp only [List.length_cons, List.length_append] at hbl; (first | lia | omega))
                          have hwl2 := (escL_len w).1
                          obtain ⟨hch, hout⟩ := escE_chain hw (by (first | lia | omega))
                          refine' ex_assign ?as1q1 ?as2q1 ?as3q1 ?as4q1 ?as5q1
                          case as1q1 => (((refine' ev_method ?ho_45 ?hes_45 (ty_obj (T := "re.Pattern") ?e1_45 ?e2_45 ?e3_45) plain_pat slot_search type_search ?op_45 ?hb_45 ?hpl_45 ?hln_45 ?hline_45; (case ho_45 => (refine' ev_global ?wx111 ?wy111 ?wz111; (case wx111 => exact rfl); (case wy111 => k_is); (case wz111 => decide))); (case hes_45 => ((refine' evs_cons ?wa112 ?wb112 ?wc112); (case wa112 => ((with_reducible refine' ev_name ?wx113 ?wy113 ?wz113); (case wx113 => exact rfl); (case wy113 => decide); (case wz113 => decide))); (case wb112 => exact evs_nil); (case wc112 => exact fun _ => rfl))); (case e1_45 => k_is); (case e2_45 => exact rfl); (case e3_45 => exact rfl); (case hb_45 => exact rfl); (case hpl_45 => exact rfl); (case hln_45 => decide); (case hline_45 => exact rfl))); any_goals exact op_search_yes (pat_quo _) hr1 hn1 (by (first | lia | omega)) (by (first | lia | omega)))
                          case as3q1 => exact rfl
                          case as4q1 => (refine any_es (by assumption) ?_; exact rfl)
                          case as5q1 => exact rfl
                          case' as2q1 => skip
                          refine' ex_if (tv_val ?if1q2 opt_mat ?if2q2) ?if3q2 ?if4q2
                          case if1q2 => ((with_reducible refine' ev_name ?wx114 ?wy114 ?wz114); (case wx114 => exact rfl); (case wy114 => decide); (case wz114 => decide))
                          case if2q2 => exact fun _ _ => rfl
                          case if4q2 => intro h; cases h
                          case' if3q2 => intro _
                          refine' ex_assign ?as1q3 ?as2q3 ?as3q3 ?as4q3 ?as5q3
                          case as1q3 => (((refine' ev_call ?hx_46 ?hn_46 ?hf_46 ?hes_46 ?h_46 ?hs_46 ?hd_46; (case hx_46 => exact rfl); (case hn_46 => k_is); (case hes_46 => ((refine' evs_cons ?wa115 ?wb115 ?wc115); (case wa115 => ((with_reducible refine' ev_name ?wx116 ?wy116 ?wz116); (case wx116 => exact rfl); (case wy116 => decide); (case wz116 => decide))); (case wb115 => exact evs_nil); (case wc115 => exact fun _ => rfl))); (case hs_46 => exact fun _ => rfl); (case hd_46 => decide))); any_goals (first | exact fn56 _ | exact unm_call (st := 0) (h := 2 + (escL w).length + 1) (Nat.le_trans (by decide : 2 ≤ 5) (Nat.le_add_left 5 j)) (by (first | lia | omega))))
                          case as3q3 => exact rfl
                          case as4q3 => (refine any_es (by assumption) ?_; exact rfl)
                          case as5q3 => exact rfl
                          case' as2q3 => skip
                          rw [quo_drop]
                          refine' ex_assign ?as1q4 ?as2q4 ?as3q4 ?as4q4 ?as5q4
                          case as1q4 => (((refine' ev_method ?ho_47 ?hes_47 ty_mat plain_mat slot_group type_group (op_group1 ?hl_47) ?hb_47 ?hpl_47 ?hln_47 ?hline_47; (case ho_47 => ((with_reducible refine' ev_name ?wx117 ?wy117 ?wz117); (case wx117 => exact rfl); (case wy117 => decide); (case wz117 => decide))); (case hes_47 => ((refine' evs_cons ?wa118 ?wb118 ?wc118); (case wa118 => with_reducible exact ev_int); (case wb118 => exact evs_nil); (case wc118 => exact fun _ => rfl))); (case hl_47 => (first | lia | omega)); (case hb_47 => exact rfl); (case hpl_47 => exact rfl); (case hln_47 => decide); (case hline_47 => exact rfl))))
                          case as3q4 => exact rfl
                          case as4q4 => (refine any_es (by assumption) ?_; exact rfl)
                          case as5q4 => exact rfl
                          case' as2q4 => skip
                          rw [quo_take]
                          refine' ex_assign ?as1q5 ?as2q5 ?as3q5 ?as4q5 ?as5q5
                          case as1q5 =>
                            refine' ev_eq (ev_resub (x := lamS) (cc := 82) (j := j + 4) (fr := fun y => y) (ms := segsE 0 w) (code := cESC.toList) (a := 76) ?u1 ?u2 ?u3 ?u4 ?u5 ?u6 ?u7 ?u8 ?u9 ?u10 ?u11 ?u12 ?u13 ?u14 ?u15 ?u16 ?u17 ?u18 ?u19 ?u20 ?u21 ?u22 ?u23) ?u24
                            (case u1 => exact rfl)
                            (case u2 => exact pat_esc _)
                            (case u3 => (refine' ev_global ?wx119 ?wy119 ?wz119; (case wx119 => exact rfl); (case wy119 => k_is); (case wz119 => decide)))
                            (case u4 => exact ⟨_, by k_is, rfl⟩)
                            (case u5 => exact .inl rfl)
                            (case u6 => exact rfl)
                            (case u7 => exact st'.c82)
                            (case u8 => exact rfl)
                            (case u9 => exact rfl)
                            (case u10 => exact rfl)
                            (case u11 => exact rfl)
                            (case u12 => exact rfl)
                            (case u13 => ((with_reducible refine' ev_name ?wx120 ?wy120 ?wz120); (case wx120 => exact rfl); (case wy120 => decide); (case wz120 => decide)))
                            case u14 =>
                              intro f fz hL st h b e fz' s' v' hbe hel hle I tk r Q E hQ
                              refine' lam_call (x := Str.ofString "_m") (d₁ := .mat (S (escL w)) [(st : Int), h, b, e]) (j := j + 3) ?l1 hL hle I tk r ?l2 ?l3 ?l4 ?l5 ?l6 ?l7 ?l8 hQ
                              case l1 => exact rfl
                              case l2 => exact fun _ _ _ _ => rfl
                              case l3 => exact rfl
                              case l4 => exact rfl
                              case l5 => exact rfl
                              case l6 => exact rfl
                              case l7 => decide
                              case l8 =>
                                rintro ⟨w', G', A', env', fz₀', s₀', k', st'', room', kind', glob', bi', big', kA', kG', kN'⟩ hw' hG' hk' ⟨cd, L', hE⟩
                                dsimp only at hw' hG' hk' hE
                                subst hE
                                refine' ev_bin ?x1 ?x2 ?x3
                                case x1 => exact ev_l0
                                case x2 =>
                                  refine' ev_or ?x4 (opt_eq (opt_strT (drop_take_le (by (first | lia | omega)))) (drop_take_ne hbe hel))
                                  case x4 => ((refine' ev_method ?ho_48 ?hes_48 ty_mat plain_mat slot_group type_group (op_group1 ?hl_48) ?hb_48 ?hpl_48 ?hln_48 ?hline_48; (case ho_48 => ((with_reducible refine' ev_name ?wx121 ?wy121 ?wz121); (case wx121 => exact rfl); (case wy121 => decide); (case wz121 => decide))); (case hes_48 => ((refine' evs_cons ?wa122 ?wb122 ?wc122); (case wa122 => with_reducible exact ev_int); (case wb122 => exact evs_nil); (case wc122 => exact fun _ => rfl))); (case hl_48 => (first | lia | omega)); (case hb_48 => exact rfl); (case hpl_48 => exact rfl); (case hln_48 => decide); (case hline_48 => exact rfl)))
                                case x3 => exact op_catS (by have := drop_take_le (l := escL w) (b := b) (e := e) (by (first | lia | omega)); rw [List.length_nil]; (first | lia | omega))
                            (case u15 => (first | lia | omega))
                            (case u16 => intro x; exact Nat.le_succ _)
                            (case u17 => exact hch)
                            (case u18 => (have := segsE_len w 0; (first | lia | omega)))
                            (case u19 => (rw [hout]; (first | lia | omega)))
                            (case u20 => exact rfl)
                            (case u21 => exact rfl)
                            (case u22 => exact rfl)
                            (case u23 => exact fun _ => rfl)
                            (case u24 => rw [hout])
                          case as3q5 => exact rfl
                          case as4q5 => (refine any_es (by assumption) ?_; exact rfl)
                          case as5q5 => exact rfl
                          case' as2q5 => skip
                          refine' ex_append_pes (x := Str.ofString "pairs") (a := ap) (ds := ps) hes ?ap1q6 ?ap2q6 ?ap3q6 ?ap4q6 ?ap5q6 ?ap6q6 ?ap7q6
                          case ap1q6 => exact rfl
                          case ap2q6 => (refine' ev_tuple ?et1q6 ?et2q6; (case et1q6 => ((refine' evs_cons ?wa123 ?wb123 ?wc123); (case wa123 => ((with_reducible refine' ev_name ?wx124 ?wy124 ?wz124); (case wx124 => exact rfl); (case wy124 => decide); (case wz124 => decide))); (case wb123 => ((refine' evs_cons ?wa125 ?wb125 ?wc125); (case wa125 => ((with_reducible refine' ev_name ?wx126 ?wy126 ?wz126); (case wx126 => exact rfl); (case wy126 => decide); (case wz126 => decide))); (case wb125 => exact evs_nil); (case wc125 => exact fun _ => rfl))); (case wc123 => exact fun _ => rfl))); (case et2q6 => (show 2 ≤ sizeLine; decide)))
                          case ap4q6 => (rw [hsz]; exact hpsl)
                          case ap5q6 => exact rfl
                          case ap6q6 => decide
                          case ap7q6 => exact fun _ => rfl
                          case ap3q6 => exact ex_nil fun fz s F => ⟨rfl, F.weaken (by (repeat' (first | (with_reducible refine List.forall_mem_cons.mpr ⟨?_, ?_⟩) | exact rfl | (intro p hp; exact nomatch hp))))⟩
              · obtain ⟨x, u, q1, q2, hx, q3⟩ := st_odd (i := i) hws (by (first | lia | omega))
                have hlt : (stT ws (2 * i + 1)).length ≤ 20000 := by have := stT_le ws (2 * i + 1); (first | lia | omega)
                rw [q1, q2, q3]
                rw [q1] at hlt
                generalize stP ws (2 * i + 1) = ps
                simp only [List.length_cons] at hlt
                refine' ex_assign ?o1 ?o2 ?o3 ?o4 ?o5
                case o1 => (((refine' ev_method ?ho_50 ?hes_50 (ty_obj (T := "re.Pattern") ?e1_50 ?e2_50 ?e3_50) plain_pat slot_search type_search ?op_50 ?hb_50 ?hpl_50 ?hln_50 ?hline_50; (case ho_50 => (refine' ev_global ?wx127 ?wy127 ?wz127; (case wx127 => exact rfl); (case wy127 => k_is); (case wz127 => decide))); (case hes_50 => ((refine' evs_cons ?wa128 ?wb128 ?wc128); (case wa128 => ((with_reducible refine' ev_name ?wx129 ?wy129 ?wz129); (case wx129 => exact rfl); (case wy129 => decide); (case wz129 => decide))); (case wb128 => exact evs_nil); (case wc128 => exact fun _ => rfl))); (case e1_50 => k_is); (case e2_50 => exact rfl); (case e3_50 => exact rfl); (case hb_50 => exact rfl); (case hpl_50 => exact rfl); (case hln_50 => decide); (case hline_50 => exact rfl))); any_goals exact op_search_no (pat_tok _) (tok_no (r := 32 :: x :: u) (by simp only [List.length_cons]; (first | lia | omega))) (by simp only [List.length_cons]; (first | lia | omega)) (by simp only [List.length_cons]; (first | lia | omega)))
                case o3 => exact rfl
                case o4 => (refine any_es (by assumption) ?_; exact rfl)
                case o5 => exact rfl
                case o2 =>
                  refine' ex_if (tv_val ?o6 opt_none ?o7) ?o8 ?o9
                  case o6 => ((with_reducible refine' ev_name ?wx130 ?wy130 ?wz130); (case wx130 => exact rfl); (case wy130 => decide); (case wz130 => decide))
                  case o7 => exact fun _ _ => rfl
                  case o8 => intro h; cases h
                  case o9 =>
                    intro _
                    refine' ex_if (tv_val ?p1 (opt_bool (b := false)) ?p2) ?p3 ?p4
                    case p2 => exact fun _ _ => rfl
                    case p3 => intro h; cases h
                    case p1 =>
                      refine' ev_method ?r1 ?r2 ty_str plain_str PySem.F.slot_str_startswith PySem.F.type_str_startswith (op_starts_no (a := 59) (b := 44) (r := 32 :: x :: u) (by decide)) ?r3 ?r4 ?r5 ?r6
                      case r1 =>
                        refine' ev_method ?r7 ?r8 ty_str plain_str PySem.F.slot_str_lstrip PySem.F.type_str_lstrip (op_lstrip (by decide +kernel) (by simp only [List.length_cons]; (first | lia | omega))) ?r9 ?r10 ?r11 ?r12
                        case r7 => ((with_reducible refine' ev_name ?wx131 ?wy131 ?wz131); (case wx131 => exact rfl); (case wy131 => decide); (case wz131 => decide))
                        case r8 => exact evs_nil
                        case r9 => exact rfl
                        case r10 => exact rfl
                        case r11 => decide
                        case r12 => exact rfl
                      case r2 => ((refine' evs_cons ?wa132 ?wb132 ?wc132); (case wa132 => with_reducible exact ev_comma); (case wb132 => exact evs_nil); (case wc132 => exact fun _ => rfl))
                      case r3 => exact rfl
                      case r4 => exact rfl
                      case r5 => decide
                      case r6 => exact rfl
                    case p4 =>
                      intro _
                      refine' ex_unpack ?s1 ?s2 ?s3 ?s4 ?s5
                      case s1 =>
                        refine' ev_method ?r13 ?r14 (ty_obj (T := "re.Pattern") ?e1 ?e2 ?e3) plain_pat slot_subn type_subn (op_subn_twin (x := x) (r := u) (j := j + 4) rfl (pat_twin _) hx (by (first | lia | omega))) ?r15 ?r16 ?r17 ?r18
                        case r13 => (refine' ev_global ?wx133 ?wy133 ?wz133; (case wx133 => exact rfl); (case wy133 => k_is); (case wz133 => decide))
                        case r14 => ((refine' evs_cons ?wa134 ?wb134 ?wc134); (case wa134 => with_reducible exact ev_l0); (case wb134 => ((refine' evs_cons ?wa135 ?wb135 ?wc135); (case wa135 => ((with_reducible refine' ev_name ?wx136 ?wy136 ?wz136); (case wx136 => exact rfl); (case wy136 => decide); (case wz136 => decide))); (case wb135 => exact evs_nil); (case wc135 => exact fun _ => rfl))); (case wc134 => exact fun _ => rfl))
                        case e1 => k_is
                        case e2 => exact rfl
                        case e3 => exact rfl
                        case r15 => exact rfl
                        case r16 => exact rfl
                        case r17 => decide
                        case r18 => exact rfl
                      case s2 => 
                        refine' as_pair ?a1 ?a2 ?a3 ?a4
                        case a1 => exact rfl
                        case a2 => (refine any_es (by assumption) ?_; exact rfl)
                        case a3 => exact rfl
                        case a4 => (refine any_es (by assumption) ?_; exact rfl)
                      case s4 => exact rfl
                      case s5 => exact rfl
                      case s3 =>
                        refine' ex_assert ?v1 ?v2
                        case v1 =>
                          refine' tv_eq (tv_cmp ?v3 ?v4 op_gt ?v5) ?v6
                          case v3 => ((with_reducible refine' ev_name ?wx137 ?wy137 ?wz137); (case wx137 => exact rfl); (case wy137 => decide); (case wz137 => decide))
                          case v4 => with_reducible exact ev_int
                          case v5 => with_unfolding_all exact rfl
                          case v6 => exact rfl
                        case v2 =>
                          refine' ex_assign ?w1 ?w2 ?w3 ?w4 ?w5
                          case w1 =>
                            refine' ev_name ?w6 ?w7 ?w8
                            case w6 => exact rfl
                            case w7 => decide
                            case w8 => decide
                          case w3 => exact rfl
                          case w4 => (refine any_es (by assumption) ?_; exact rfl)
                          case w5 => exact rfl
                          case w2 => exact ex_nil fun fz s F => ⟨rfl, F.weaken (by (repeat' (first | (with_reducible refine List.forall_mem_cons.mpr ⟨?_, ?_⟩) | exact rfl | (intro p hp; exact nomatch hp))))⟩
            case fin2 => 
              have hkk : 0 < ws.length := List.length_pos_iff.mpr hne
              have hP : stP ws (2 * ws.length - 1) = ws.map prD := by
                unfold stP
                rw [show (2 * ws.length - 1 + 1) / 2 = ws.length by (first | lia | omega), List.take_length]
              rw [hP]
              refine ex_freeze1 rfl ?_
              refine' ex_if (b := true) ?t3 ?a3 ?b3
              case t3 =>
                have hb : (!(ws.map prD).isEmpty) = true := by cases ws with
                  | nil => exact absurd rfl hne
                  | cons _ _ => rfl
                rw [← hb]
                refine' tv_val ?tt3 (opt_list ?tt4) ?tt5
                case tt3 => ((with_reducible refine' ev_name ?wx138 ?wy138 ?wz138); (case wx138 => exact rfl); (case wy138 => decide); (case wz138 => decide))
                case tt4 => (have := ws_len hws; have : sizeLine = 16777216 := (by decide); rw [List.length_map]; (first | lia | omega))
                case tt5 => exact fun _ _ => rfl
              case b3 => intro h; cases h
              case a3 =>
                intro _
                refine' ex_append_es (x := Str.ofString "result") (a := ar) (ds := []) hes ?e1 ?e2 ?e3 ?e4 ?e5 ?e6 ?e7 ?e8
                case e1 => ((with_reducible refine' ev_name ?wx139 ?wy139 ?wz139); (case wx139 => exact rfl); (case wy139 => decide); (case wz139 => decide))
                case e2 => exact rfl
                case e3 => exact (by simp)
                case e5 => decide
                case e6 => exact rfl
                case e7 => decide
                case e8 => exact fun _ => rfl
                case e4 => exact ex_nil fun fz s F => ⟨rfl, F.weaken fun p hp => nomatch hp⟩
end D4

section D5
theorem pat_jt (c : Cx) : PatAt c 88 cJT.toList 0 := ⟨_, _, _, _, _, _, by k_is, by k_is⟩
theorem pat_je (c : Cx) : PatAt c 93 cJE.toList 1 := ⟨_, _, _, _, _, _, by k_is, by k_is⟩

theorem fmtL_len {p : List Nat × Option (List Nat)} (h : PairOk p) : (fmtL p.1 p.2 false).length ≤ 70000 := by
  obtain ⟨n, vo⟩ := p
  obtain ⟨h1, h2⟩ := h
  dsimp only at h1 h2 ⊢
  cases vo with
  | none => show n.length ≤ _; (first | lia | omega)
  | some v =>
    obtain ⟨_, hv, _⟩ := h2 v rfl
    have := (escL_len v).2
    cases v with
    | nil => show n.length ≤ _; (first | lia | omega)
    | cons x r =>
      show (if _ then _ else _ : List Nat).length ≤ _
      split <;> simp only [List.length_append, List.length_cons, List.length_nil] at hv this ⊢ <;> (first | lia | omega)
theorem fmtL_sum : ∀ {ps : List (List Nat × Option (List Nat))}, (∀ p ∈ ps, PairOk p) → ((ps.map fun p => fmtL p.1 p.2 false).map fun x => x.length + [59, 32].length).sum ≤ 70002 * ps.length
  | [], _ => Nat.le_refl _
  | p :: r, h => by
    have h1 := fmtL_sum (ps := r) fun q hq => h q (.tail _ hq)
    have h2 := fmtL_len (h p (.head _))
    simp only [List.map_cons, List.sum_cons, List.length_cons, List.length_nil] at h1 ⊢
    (first | lia | omega)
theorem joinL_len (sep : List Nat) : ∀ xs : List (List Nat), (joinL sep xs).length ≤ (xs.map fun x => x.length + sep.length).sum
  | [] => Nat.le_refl _
  | [x] => by simp [joinL]
  | x :: y :: r => by
    have := joinL_len sep (y :: r)
    rw [joinL, List.length_append, List.length_append, List.map_cons, List.sum_cons]
    (first | lia | omega)
theorem join_call {c : Cx} {ps : List (List Nat × Option (List Nat))} (hk : 6 ≤ c.k) (hps : ∀ p ∈ ps, PairOk p) (hlen : ps.length ≤ 100) :
    OPs c (fun vs => call (.ref 100) vs) [.list [.list (ps.map pD)]] (.str (S (joinL [59, 32] (ps.map fun p => fmtL p.1 p.2 false)))) := by
  refine' call_def ⟨?k, ?g1, ?g2, ?g3, ?g4, ?g5, ?g6, ?g7, ?g8, ?g9⟩ ?hb ?hl ?hk ?h
  (case k => k_is)
  (case g3 => exact rfl)
  (case g1 => exact rfl)
  (case g2 => exact rfl)
  (case g4 => exact rfl)
  (case g5 => exact rfl)
  (case g6 => exact rfl)
  (case g7 => exact rfl)
  (case g8 => decide)
  (case g9 => k_is)
  case hb => 
    refine binds_pos (names := [Str.ofString "lists"]) ?_ rfl
    intro vs h
    obtain ⟨a, rfl⟩ := len1 h
    rfl
  case hl => rfl
  case hk => (first | lia | omega)
  case h =>
    rintro ⟨w, G, A, env, fz₀, s₀, k, st', room, kind, glob, bi, big, kA, kG, kN⟩ hw hG hk' L hL
    dsimp only at hw hG hk' hL
    subst hw hG hL
    have hsz : sizeLine = 16777216 := by decide
    obtain ⟨j, rfl⟩ : ∃ j, k = j + 5 := ⟨k - 5, by (first | lia | omega)⟩
    clear hk hk'
    refine' ex_new (ds := []) ?n1 ?n2 ?n3 ?n4 ?n5 ?n6
    case n1 => exact evs_nil
    case n3 => exact rfl
    case n4 => exact rfl
    case n5 => exact rfl
    case n6 => decide
    case n2 =>
      intro ah
      refine' ex_forI (iters_list (ds := [.list (ps.map pD)]) ?it1 ?it2) (fun _ => []) (fun i => [⟨some (Str.ofString "headers"), ah, .list (if i = 0 then [] else if ps.isEmpty then [] else [.str (S (joinL [59, 32] (ps.map fun p => fmtL p.1 p.2 false)))])⟩]) ?h0 ?hw0 ?turn ?fin ?hs
      case it1 => ((with_reducible refine' ev_name ?wx140 ?wy140 ?wz140); (case wx140 => exact rfl); (case wy140 => decide); (case wz140 => decide))
      case it2 => (intro d hd; rw [List.mem_singleton.mp hd]; exact rfl)
      case h0 => (intro p hp; exact nomatch hp)
      case hw0 => exact rfl
      case hs => exact fun _ => rfl
      case fin =>
        rw [show ([D.list (ps.map pD)] : List D).length = 1 from rfl, if_neg (by decide)]
        refine ex_freeze1 rfl ?_
        refine ex_return ?_
        have hsum := fmtL_sum hps
        have hjl := joinL_len [59, 32] (ps.map fun p => fmtL p.1 p.2 false)
        cases ps with
        | nil =>
          refine' ev_join (sep := [44, 32]) (xs := []) ?jo ?jl (by decide) ?jb ?jp ?jn ?js
          case jo => with_reducible exact ev_commab
          case jl => ((with_reducible refine' ev_name ?wx141 ?wy141 ?wz141); (case wx141 => exact rfl); (case wy141 => decide); (case wz141 => decide))
          case jb => exact rfl
          case jp => exact rfl
          case jn => exact rfl
          case js => exact fun _ => rfl
        | cons p r =>
          refine' ev_join (sep := [44, 32]) (xs := [joinL [59, 32] ((p :: r).map fun p => fmtL p.1 p.2 false)]) ?jo ?jl (by simp only [List.map_cons, List.map_nil, List.sum_cons, List.sum_nil, List.length_cons, List.length_nil] at hsum hjl hlen ⊢; (first | lia | omega)) ?jb ?jp ?jn ?js
          case jo => with_reducible exact ev_commab
          case jl => ((with_reducible refine' ev_name ?wx142 ?wy142 ?wz142); (case wx142 => exact rfl); (case wy142 => decide); (case wz142 => decide))
          case jb => exact rfl
          case jp => exact rfl
          case jn => exact rfl
          case js => exact fun _ => rfl
      case turn => 
        intro i es hi hes
        obtain rfl : i = 0 := by (have : i < 1 := hi); (first | lia | omega)
        refine ⟨_, (by ((refine' as_name ?h1_53 ?h2_53; (case h1_53 => exact rfl); (case h2_53 => (refine any_es (by assumption) ?_; exact rfl))))), ?_⟩
        rw [if_pos rfl, if_neg (by decide)]
        refine' ex_new (ds := []) ?n7 ?n8 ?n9 ?n10 ?n11 ?n12
        case n7 => exact evs_nil
        case n9 => exact rfl
        case n10 => (refine any_es (by assumption) ?_; exact rfl)
        case n11 => exact rfl
        case n12 => decide
        case n8 =>
          intro aa
          refine' ex_forI (iters_list (ds := ps.map pD) ?it3 ?it4) (fun _ => []) (fun i => ⟨some (Str.ofString "attr"), aa, .list ((ps.take i).map fun p => .str (S (fmtL p.1 p.2 false)))⟩ :: (es ++ [⟨some (Str.ofString "headers"), ah, .list []⟩])) ?h1 ?hw1 ?turn2 ?fin2 ?hs1
          case it3 => ((with_reducible refine' ev_name ?wx143 ?wy143 ?wz143); (case wx143 => exact rfl); (case wy143 => decide); (case wz143 => decide))
          case it4 => (intro d hd; obtain ⟨p, _, rfl⟩ := List.mem_map.mp hd; exact rfl)
          case h1 => (intro p hp; exact nomatch hp)
          case hw1 => exact rfl
          case hs1 => exact fun _ => rfl
          case fin2 =>
            rw [List.length_map, List.take_length]
            refine ex_freeze1 rfl ?_
            have hsum := fmtL_sum hps
            cases ps with
            | nil =>
              refine' ex_if (tv_val ?g1 (opt_list (ds := []) (by decide)) ?g2) ?g3 ?g4
              case g1 => ((with_reducible refine' ev_name ?wx144 ?wy144 ?wz144); (case wx144 => exact rfl); (case wy144 => decide); (case wz144 => decide))
              case g2 => exact fun _ _ => rfl
              case g3 => intro h; cases h
              case g4 =>
                intro _
                exact ex_nil fun fz s F => ⟨rfl, F.weaken fun p hp => nomatch hp⟩
            | cons p r =>
              refine' ex_if (tv_val (d := .list ((p :: r).map fun p => .str (S (fmtL p.1 p.2 false)))) ?g5 (opt_list ?g9) ?g6) ?g7 ?g8
              case g5 => ((with_reducible refine' ev_name ?wx145 ?wy145 ?wz145); (case wx145 => exact rfl); (case wy145 => decide); (case wz145 => decide))
              case g9 => (rw [List.length_map, hsz]; (first | lia | omega))
              case g6 => exact fun _ _ => rfl
              case g8 => intro h; cases h
              case g7 =>
                intro _
                refine' ex_append_es (x := Str.ofString "headers") (a := ah) (ds := []) hes ?k1 ?k2 ?k3 ?k4 ?k5 ?k6 ?k7 ?k8
                case k1 =>
                  refine' ev_join (sep := [59, 32]) (xs := (p :: r).map fun p => fmtL p.1 p.2 false) ?jo1 ?jl1 (by simp only [List.length_cons] at hsum hlen ⊢; (first | lia | omega)) ?jb1 ?jp1 ?jn1 ?js1
                  case jo1 => with_reducible exact ev_semi
                  case jl1 => (rw [List.map_map]; ((with_reducible refine' ev_name ?wx146 ?wy146 ?wz146); (case wx146 => exact rfl); (case wy146 => decide); (case wz146 => decide)))
                  case jb1 => exact rfl
                  case jp1 => exact rfl
                  case jn1 => exact rfl
                  case js1 => exact fun _ => rfl
                case k2 => exact rfl
                case k3 => exact (by simp)
                case k5 => decide
                case k6 => exact rfl
                case k7 => decide
                case k8 => exact fun _ => rfl
                case k4 => exact ex_nil fun fz s F => ⟨rfl, F.weaken fun p hp => nomatch hp⟩
          case turn2 =>
            intro i es₂ hi hes₂
            rw [List.length_map] at hi
            have hpk := hps _ (List.getElem_mem hi)
            have e1 : (ps.map pD).getD i .none = pD ps[i] := by rw [List.getD_eq_getElem?_getD, List.getElem?_map, List.getElem?_eq_getElem hi]; rfl
            rw [e1, List.take_succ_eq_append_getElem hi, List.map_append]
            generalize ps[i] = p at hpk
            have hprel : ((ps.take i).map (fun p => D.str (S (fmtL p.1 p.2 false)))).length ≤ 16777216 := by (rw [List.length_map, List.length_take]; (first | lia | omega))
            generalize (ps.take i).map (fun p => D.str (S (fmtL p.1 p.2 false))) = pre at hprel
            obtain ⟨n, vo⟩ := p
            dsimp only [List.map_cons, List.map_nil, pD]
            refine' ⟨_, as_pair ?a1 ?a2 ?a3 ?a4, ?bod⟩
            case a1 => exact rfl
            case a2 => exact any_es hes₂ (any_pes hes rfl rfl)
            case a3 => exact rfl
            case a4 => exact any_es hes₂ (any_pes hes rfl rfl)
            case bod =>
              obtain ⟨hnl, hvo⟩ := hpk
              dsimp only at hnl hvo
              cases vo with
              | none =>
                dsimp only
                refine' ex_if (b := false) ?i1 ?i2 ?i3
                case i1 => (first | ((with_reducible refine' tv_cmp ?hl_54 ?hr_54 ?h_54 ?hm_54); (case hl_54 => ((with_reducible refine' ev_name ?wx147 ?wy147 ?wz147); (case wx147 => exact rfl); (case wy147 => decide); (case wz147 => decide))); (case hr_54 => with_reducible exact ev_none); (case h_54 => with_reducible exact op_isnot_none_none); (case hm_54 => with_unfolding_all exact rfl)) | done)
                case i2 => intro h; cases h
                case i3 =>
                  intro _
                  show EX _ _ _ [_] _
                  refine' ex_append_epe (x := Str.ofString "attr") (a := aa) (ds := pre) hes₂ hes ?f1a ?f2a ?f3a ?f4a ?f5a ?f6a ?f7a
                  case f1a => exact rfl
                  case f2a => ((with_reducible refine' ev_name ?wx148 ?wy148 ?wz148); (case wx148 => exact rfl); (case wy148 => decide); (case wz148 => decide))
                  case f4a => rw [hsz]; exact hprel
                  case f5a => exact rfl
                  case f6a => decide
                  case f7a => exact fun _ => rfl
                  case f3a => exact ex_nil fun fz s F => ⟨rfl, F.weaken fun p hp => nomatch hp⟩
              | some v =>
                obtain ⟨hne, hvl, hva⟩ := hvo v rfl
                have hel := escL_len v
                obtain ⟨hch, hout⟩ := escJ_chain hva
                obtain ⟨dm, hm, ht⟩ := op_full_jt pat_jt hne ⟨hvl, hva⟩
                have hq : fmtL n (some v) false = if v.any fSpec then n ++ [61, 34] ++ escL v ++ [34] else n ++ [61] ++ v := by
                  cases v with
                  | nil => exact absurd rfl hne
                  | cons x r => rfl
                have hq2 : List.map (fun p : List Nat × Option (List Nat) => D.str (S (fmtL p.1 p.2 false))) [(n, some v)] = [.str (S (if v.any fSpec then n ++ [61, 34] ++ escL v ++ [34] else n ++ [61] ++ v))] := by rw [List.map_cons, List.map_nil, hq]
                rw [hq2]
                dsimp only
                refine' ex_if (b := true) ?i4 ?i5 ?i6
                case i4 => (first | ((with_reducible refine' tv_cmp ?hl_55 ?hr_55 ?h_55 ?hm_55); (case hl_55 => ((with_reducible refine' ev_name ?wx149 ?wy149 ?wz149); (case wx149 => exact rfl); (case wy149 => decide); (case wz149 => decide))); (case hr_55 => with_reducible exact ev_none); (case h_55 => with_reducible exact op_isnot_none_str); (case hm_55 => with_unfolding_all exact rfl)) | done)
                case i6 => intro h; cases h
                case i5 =>
                  intro _
                  refine' ex_if (b := v.any fSpec) ?i7 ?i8 ?i9
                  case i7 =>
                    refine' tv_eq (tv_not (tv_val (d := dm) ?tv1 (ht _) ?tv2)) (Bool.not_not _)
                    case tv2 => exact fun _ _ => rfl
                    case tv1 =>
                      refine' ev_method ?ho ?hes (ty_obj (T := "re.Pattern") ?e1 ?e2 ?e3) plain_pat slot_fullmatch type_fullmatch (hm _) ?hb ?hpl ?hln ?hline
                      case ho => (refine' ev_global ?wx150 ?wy150 ?wz150; (case wx150 => exact rfl); (case wy150 => k_is); (case wz150 => decide))
                      case hes => ((refine' evs_cons ?wa151 ?wb151 ?wc151); (case wa151 => ((with_reducible refine' ev_name ?wx152 ?wy152 ?wz152); (case wx152 => exact rfl); (case wy152 => decide); (case wz152 => decide))); (case wb151 => exact evs_nil); (case wc151 => exact fun _ => rfl))
                      case e1 => k_is
                      case e2 => exact rfl
                      case e3 => exact rfl
                      (((case hb => exact rfl); (case hpl => exact rfl); (case hln => decide); (case hline => exact rfl)))
                  case i8 =>
                    intro hs
                    rw [if_pos hs]
                    refine' ex_assign ?as1b ?as2b ?as3b ?as4b ?as5b
                    case as1b =>
                      refine' ev_eq (ev_resub (x := lamJ) (cc := 99) (j := j + 4) (fr := fun y => 92 :: y) (ms := segsJ 0 v) (code := cJE.toList) (a := 93) ?u1 ?u2 ?u3 ?u4 ?u5 ?u6 ?u7 ?u8 ?u9 ?u10 ?u11 ?u12 ?u13 ?u14 ?u15 ?u16 ?u17 ?u18 ?u19 ?u20 ?u21 ?u22 ?u23) ?u24
                      (case u1 => exact rfl)
                      (case u2 => exact pat_je _)
                      (case u3 => (refine' ev_global ?wx153 ?wy153 ?wz153; (case wx153 => exact rfl); (case wy153 => k_is); (case wz153 => decide)))
                      (case u4 => exact ⟨_, by k_is, rfl⟩)
                      (case u5 => exact .inr rfl)
                      (case u6 => exact rfl)
                      (case u7 => exact st'.c99)
                      (case u8 => exact rfl)
                      (case u9 => exact rfl)
                      (case u10 => exact rfl)
                      (case u11 => exact rfl)
                      (case u12 => exact rfl)
                      (case u13 => ((with_reducible refine' ev_name ?wx154 ?wy154 ?wz154); (case wx154 => exact rfl); (case wy154 => decide); (case wz154 => decide)))
                      case u14 =>
                        intro f fz hL st h b e fz' s' v' hbe hel hle I tk r Q E hQ
                        refine' lam_call (x := Str.ofString "_m") (d₁ := .mat (S v) [(st : Int), h, b, e]) (j := j + 3) ?l1 hL hle I tk r ?l2 ?l3 ?l4 ?l5 ?l6 ?l7 ?l8 hQ
                        case l1 => exact rfl
                        case l2 => exact fun _ _ _ _ => rfl
                        case l3 => exact rfl
                        case l4 => exact rfl
                        case l5 => exact rfl
                        case l6 => exact rfl
                        case l7 => decide
                        case l8 =>
                          rintro ⟨w', G', A', env', fz₀', s₀', k', st'', room', kind', glob', bi', big', kA', kG', kN'⟩ hw' hG' hk' ⟨cd, L', hE⟩
                          dsimp only at hw' hG' hk' hE
                          subst hE
                          refine' ev_bin ?x1 ?x2 ?x3
                          case x1 => exact ev_bs
                          case x2 =>
                            refine' ev_or ?x4 (opt_eq (opt_strT (drop_take_le (by (first | lia | omega)))) (drop_take_ne hbe hel))
                            case x4 => ((refine' ev_method ?ho_57 ?hes_57 ty_mat plain_mat slot_group type_group (op_group1 ?hl_57) ?hb_57 ?hpl_57 ?hln_57 ?hline_57; (case ho_57 => ((with_reducible refine' ev_name ?wx155 ?wy155 ?wz155); (case wx155 => exact rfl); (case wy155 => decide); (case wz155 => decide))); (case hes_57 => ((refine' evs_cons ?wa156 ?wb156 ?wc156); (case wa156 => with_reducible exact ev_int); (case wb156 => exact evs_nil); (case wc156 => exact fun _ => rfl))); (case hl_57 => (first | lia | omega)); (case hb_57 => exact rfl); (case hpl_57 => exact rfl); (case hln_57 => decide); (case hline_57 => exact rfl)))
                          case x3 => exact op_catS (by have := drop_take_le (l := v) (b := b) (e := e) (by (first | lia | omega)); simp only [List.length_cons, List.length_nil]; (first | lia | omega))
                      (case u15 => (first | lia | omega))
                      (case u16 => intro x; exact Nat.le_refl _)
                      (case u17 => exact hch)
                      (case u18 => (have := segsJ_len v 0; (first | lia | omega)))
                      (case u19 => (rw [hout]; (first | lia | omega)))
                      (case u20 => exact rfl)
                      (case u21 => exact rfl)
                      (case u22 => exact rfl)
                      (case u23 => exact fun _ => rfl)
                      (case u24 => rw [hout])
                    case as3b => exact rfl
                    case as4b => exact any_es hes₂ (any_pes hes rfl rfl)
                    case as5b => exact rfl
                    case' as2b => skip
                    refine' ex_assign ?as1c ?as2c ?as3c ?as4c ?as5c
                    case as1c =>
                      refine' ev_bin ?bb1 ?bb2 (op_q (b := escL v) (by (first | lia | omega)))
                      case bb1 => exact ev_str
                      case bb2 => ((with_reducible refine' ev_name ?wx157 ?wy157 ?wz157); (case wx157 => exact rfl); (case wy157 => decide); (case wz157 => decide))
                    case as3c => exact rfl
                    case as4c => exact any_es hes₂ (any_pes hes rfl rfl)
                    case as5c => exact rfl
                    case' as2c => skip
                    refine' ex_assign ?as1d ?as2d ?as3d ?as4d ?as5d
                    case as1d =>
                      refine ev_joined (l := n ++ ([61] ++ (([34] ++ escL v ++ [34]) ++ []))) (ej_cons (ev_fmt ?_ (by (first | lia | omega))) (ej_cons (ev_l (by decide +kernel)) (ej_cons (ev_fmt ?_ (by first | (first | lia | omega) | (simp only [List.length_append, List.length_cons, List.length_nil]; (first | lia | omega)))) ej_nil))) (by simp only [List.length_append, List.length_cons, List.length_nil]; (first | lia | omega))
                      · ((with_reducible refine' ev_name ?wx158 ?wy158 ?wz158); (case wx158 => exact rfl); (case wy158 => decide); (case wz158 => decide))
                      · ((with_reducible refine' ev_name ?wx159 ?wy159 ?wz159); (case wx159 => exact rfl); (case wy159 => decide); (case wz159 => decide))
                    case as3d => exact rfl
                    case as4d => exact any_es hes₂ (any_pes hes rfl rfl)
                    case as5d => exact rfl
                    case' as2d => skip
                    have e : n ++ [61, 34] ++ escL v ++ [34] = n ++ ([61] ++ (([34] ++ escL v ++ [34]) ++ [])) := by simp
                    rw [e]
                    refine' ex_append_epe (x := Str.ofString "attr") (a := aa) (ds := pre) hes₂ hes ?f1e ?f2e ?f3e ?f4e ?f5e ?f6e ?f7e
                    case f1e => exact rfl
                    case f2e => ((with_reducible refine' ev_name ?wx160 ?wy160 ?wz160); (case wx160 => exact rfl); (case wy160 => decide); (case wz160 => decide))
                    case f4e => rw [hsz]; exact hprel
                    case f5e => exact rfl
                    case f6e => decide
                    case f7e => exact fun _ => rfl
                    case f3e => exact ex_nil fun fz s F => ⟨rfl, F.weaken fun p hp => nomatch hp⟩
                  case i9 =>
                    intro hs
                    rw [if_neg (by rw [hs]; decide)]
                    refine' ex_assign ?as1f ?as2f ?as3f ?as4f ?as5f
                    case as1f =>
                      refine ev_joined (l := n ++ ([61] ++ (v ++ []))) (ej_cons (ev_fmt ?_ (by (first | lia | omega))) (ej_cons (ev_l (by decide +kernel)) (ej_cons (ev_fmt ?_ (by first | (first | lia | omega) | (simp only [List.length_append, List.length_cons, List.length_nil]; (first | lia | omega)))) ej_nil))) (by simp only [List.length_append, List.length_cons, List.length_nil]; (first | lia | omega))
                      · ((with_reducible refine' ev_name ?wx161 ?wy161 ?wz161); (case wx161 => exact rfl); (case wy161 => decide); (case wz161 => decide))
                      · ((with_reducible refine' ev_name ?wx162 ?wy162 ?wz162); (case wx162 => exact rfl); (case wy162 => decide); (case wz162 => decide))
                    case as3f => exact rfl
                    case as4f => exact any_es hes₂ (any_pes hes rfl rfl)
                    case as5f => exact rfl
                    case' as2f => skip
                    have e : n ++ [61] ++ v = n ++ ([61] ++ (v ++ [])) := by simp
                    rw [e]
                    refine' ex_append_epe (x := Str.ofString "attr") (a := aa) (ds := pre) hes₂ hes ?f1g ?f2g ?f3g ?f4g ?f5g ?f6g ?f7g
                    case f1g => exact rfl
                    case f2g => ((with_reducible refine' ev_name ?wx163 ?wy163 ?wz163); (case wx163 => exact rfl); (case wy163 => decide); (case wz163 => decide))
                    case f4g => rw [hsz]; exact hprel
                    case f5g => exact rfl
                    case f6g => decide
                    case f7g => exact fun _ => rfl
                    case f3g => exact ex_nil fun fz s F => ⟨rfl, F.weaken fun p hp => nomatch hp⟩
end D5

section D6
theorem gen_call {c : Cx} {l : List Nat} {t : Tok} {fz : FZ} {s : Shared} {Q E : Value → Shared → Prop} (I : Inv c.G fz s) (tk : 1 ≤ s.toks)
    (hQ : ∀ C a gs s', GenNew c l s C a gs s' → Q (.ref a) s') : wpAny c.M c.A (call (.ref 107) [.str (S l) t]) Q E s := by
  refine' call_gen (x := Str.ofString "addr") ⟨?k, ?g1, ?g2, ?g3, ?g4, ?g5, ?g6, ?g7, ?g8, ?g9⟩ ?hb ?hl I tk ?h
  (case k => k_is)
  (case g3 => exact rfl)
  (case g1 => exact rfl)
  (case g2 => exact rfl)
  (case g4 => exact rfl)
  (case g5 => exact rfl)
  (case g6 => exact rfl)
  (case g7 => exact rfl)
  (case g8 => decide)
  (case g9 => k_is)
  (case hb => exact rfl)
  (case hl => exact rfl)
  case h =>
    intro h' tk' nm qn hn hk hsz htk
    refine hQ s.heap.objs.size h'.objs.size _ _ ⟨⟨Nat.le_refl _, by show s.heap.objs.size < h'.objs.size; (first | lia | omega), by show _ = (Heap.push _ _).objs.size; rw [Heap.size_push]⟩, fun b o e => Heap.get?_push_of_some _ (hk b o e), ⟨_, _, _, Heap.get?_push_size _ rfl, rfl, rfl, rfl⟩, rfl, rfl, rfl, htk, ?_⟩
    intro s₀ hC hs₀ hG htk₀
    replace hs₀ : s₀.heap.objs.size = (h'.push _).objs.size := hs₀
    rw [Heap.size_push, hsz] at hs₀
    have hn₀ : s₀.heap.Ns s.heap.objs.size (fun y => [(Str.ofString "addr", Value.str (S l) t)].lookup y) := by
      obtain ⟨o, es, ep, h1, r⟩ := hn.push _
      exact ⟨o, es, ep, hC _ h1, r⟩
    rw [show (Shared.heap { s with heap := h'.push { cls := .type "generator", data := .fields #[.int s.gens.size 0, nm, qn] }, gens := s.gens.push (.fresh _), toks := tk' }).objs.size = s₀.heap.objs.size from by rw [hs₀]; show (Heap.push _ _).objs.size = _; rw [Heap.size_push, hsz]]
    have hGC : ∀ o, c.G.get? s.heap.objs.size ≠ some o := fun o e => absurd (I.lt (I.base _ _ e)) (Nat.lt_irrefl _)
    generalize hCC : s.heap.objs.size = C at hn₀ hC hs₀ hGC ⊢
    generalize hBB : s₀.heap.objs.size = B at hs₀ ⊢
    have hL0 : scanF 0 false l 0 = [] ++ scanF 0 false l 0 := rfl
    generalize hLL : scanF 0 false l 0 = L
    refine ⟨rfl, seg_func ?_⟩
    have hCB : C < B := by (first | lia | omega)
    have hei : B + 1 ≠ B := Nat.succ_ne_self _
    have hiC : B ≠ C := Nat.ne_of_gt hCB
    have heC : B + 1 ≠ C := by (first | lia | omega)
    refine seg_step (wpAny_Assign_Name (wpAny_Constant_int (wpAny_storeName_local (m := fun y => [(Str.ofString "addr", Value.str (S l) t)].lookup y) rfl hn₀ (fun h₁ hn₁ hs₁ => ⟨rfl, ?_⟩) rfl)) rfl)
    refine seg_step (wpAny_Assign_Name (gf_constBool (wpAny_storeName_local rfl hn₁ (fun h₂ hn₂ hs₂ => ⟨rfl, ?_⟩) rfl)) rfl)
    refine seg_For ?_ (fun _ => rfl)
    refine gf_enum (c := c) (x := S l) (t := t) (s₀ := s₀) hn₂ ?ga ⟨_, _, rfl⟩ ?gb ?gc ?gd ?ge rfl rfl rfl rfl rfl ?gf ?gg
    (case ga => rfl)
    (case gb => exact Nat.le_add_left _ _)
    (case gc => exact fun b o hb e => hs₂.extBut _ _ hb (hs₁.extBut _ _ hb e))
    (case gd => exact hs₂.1.trans hs₁.1)
    (case ge => exact fun b o e => hs₂.extBut _ _ (fun q => by have q' : b = C := q; rw [q'] at e; exact hGC o e) (hs₁.extBut _ _ (fun q => by have q' : b = C := q; rw [q'] at e; exact hGC o e) (hG b o e)))
    (case gf => k_is)
    case gg =>
      intro s₃ F₃ p k hk
      rw [hBB] at F₃ ⊢
      refine seg_forLoop_ind (X := List Nat × Bool × Nat) (fun x => x.1.length) (fun x n s₀ s => ∃ pre m done tp, l = pre ++ x.1 ∧ L = done ++ scanF pre.length x.2.1 x.1 x.2.2 ∧ n = (scanF pre.length x.2.1 x.1 x.2.2).length ∧ GF _ B (B + 1) (S l) t pre.length m s₀ s ∧ m (Str.ofString "escape") = some (.bool x.2.1) ∧ m (Str.ofString "pos") = some (.int (x.2.2 : Nat) tp)) ?turn (l, false, 0) _ _ _ ⟨[], _, [], s₀.toks, rfl, hLL.symm, by rw [← hLL]; rfl, F₃, rfl, rfl⟩
      rintro ⟨r, b, pz⟩ n s₁ s ⟨pre, m, done, tp, hl, hL, hn, F, hesc, hpos⟩ ih
      dsimp only at hl hL hn hesc hpos ih
      cases r with
      | nil =>
        refine gf_end (show c.A.handled = none from c.room.handled) F hei hiC heC (by rw [hl, List.append_nil]; simp [S]) (Nat.lt_succ_self _) fun s' W => hk _ _ _ ?_
        refine seg_if (gf_true (hd := by decide) W.ns rfl rfl hesc ?_)
        cases b with
        | false =>
          rw [if_neg Bool.false_ne_true]
          have hn0 : n = 0 := hn
          subst hn0
          exact seg_end (.ok (.ret .none)) ⟨rfl, rfl, W.kp⟩
        | true =>
          rw [if_pos rfl]
          have hn1 : n = 0 + 1 := hn
          subst hn1
          refine seg_yieldS rfl rfl rfl (gf_yield (hs := by intro _; rfl) (y := [92]) W rfl rfl hpos ?_ ?_) rfl rfl
          · intro Q hQ
            exact Calls.Constant_str (hQ _ _ (Nat.le_add_left _ _))
          · intro T ti tx k' hk' hT1 hT2 hT3 W' kap hkap
            refine ⟨pz, [92], ti, tx, T, rfl, hT1, hT2, hT3 ▸ Heap.get?_push_size _ rfl, ?_, W'.kp, fun s'' hkeep htk => hkap s'' ?_⟩
            · rw [hL]; simp [scanF]
            · exact seg_end (.ok (.ret .none)) ⟨rfl, rfl, ⟨_, _, rfl⟩, htk, fun _ _ _ _ _ e => e⟩
      | cons ch r =>
        have hi : pre.length < (S l).cps.size := by rw [hl]; simp [S]
        have hget : (S l).cps.getD pre.length 0 = ch := by rw [hl]; simp [S]
        have hl' : l = (pre ++ [ch]) ++ r := by rw [hl]; simp
        have hlen : (pre ++ [ch]).length = pre.length + 1 := by simp
        refine gf_item (show c.A.handled = none from c.room.handled) F hei hiC heC rfl rfl rfl hi fun s' m' F' hp' hc' he' => ?_
        obtain ⟨tp', hp'⟩ := hp'
        obtain ⟨tc, hc'⟩ := hc'
        rw [hget] at hc'
        rw [hesc] at he'
        refine seg_if (gf_true (hd := by decide) F'.ns rfl rfl he' ?_)
        cases b with
        | true =>
          rw [if_pos rfl]
          have hsc : scanF pre.length true (ch :: r) pz = (pre.length, [92, ch]) :: scanF (pre.length + 1) false r pre.length := rfl
          rw [hsc] at hL hn
          obtain ⟨n', rfl⟩ : ∃ n', n = n' + 1 := ⟨_, hn⟩
          refine seg_yieldS rfl rfl rfl (gf_yield (hs := by intro _; rfl) (y := [92, ch]) F'.weak rfl rfl hp' ?_ ?_) rfl rfl
          · intro Q hQ
            have e : Str.ofString "\\" ++ ⟨#[ch]⟩ = S [92, ch] := S_app [92] [ch]
            refine wpAny_mono (wpAny_with_toks (Q := fun v s' => Q v s') F'.kp.tk (wpAny_BinOp (Calls.Constant_str (gf_name (hd := by decide) (v := .str ⟨#[ch]⟩ tc) (m := m') F'.ns rfl rfl hc' (SB.add (fun t' k hk => ?_) ?_))))) (fun _ _ x => x) fun _ _ x => x
            · rw [e]; exact hQ _ _ hk
            · show 2 ≤ sizeLine; decide
          · intro T ti tx k' hk' hT1 hT2 hT3 W' kap hkap
            refine ⟨pre.length, [92, ch], ti, tx, T, rfl, hT1, hT2, hT3 ▸ Heap.get?_push_size _ rfl, ?_, W'.kp, fun s'' hkeep htk => hkap s'' ?_⟩
            · rw [hL]
              have : (scanF (pre.length + 1) false r pre.length).length = n' := (Nat.succ.inj hn).symm
              simp only [List.length_append, List.length_cons, this]
              rw [show done.length + (n' + 1) - 1 - n' = done.length by (first | lia | omega)]
              simp
            · have F'' := (F'.push _ hk').again hkeep htk
              refine seg_step (gf_setBool F'' rfl hiC heC rfl (fun s₄ F₄ => ⟨rfl, ?_⟩) rfl)
              refine seg_again rfl ?_
              exact ih (r, false, pre.length) (Nat.lt_succ_self _) n' s'' s₄ ⟨pre ++ [ch], (fun y => if y = Str.ofString "escape" then some (.bool false) else m' y), done ++ [(pre.length, [92, ch])], tp', hl', by rw [hL, hlen]; simp, by rw [hlen]; exact Nat.succ.inj hn, by rw [hlen]; exact F₄, if_pos rfl, (if_neg (show ¬ (Str.ofString "pos" = Str.ofString "escape") by decide)).trans hp'⟩
        | false =>
          rw [if_neg Bool.false_ne_true]
          have ecmp : ((⟨#[ch]⟩ : Str).cps.toList == (Str.ofString "\\").cps.toList) = decide (ch = 92) := by
            rw [show (Str.ofString "\\").cps.toList = [92] from rfl]
            show ([ch] == [92]) = _
            by_cases h : ch = 92 <;> simp [h]
          refine seg_if (wpAny_isTrue_Compare1 (gf_name (hd := by decide) F'.ns rfl rfl hc' (Calls.Constant_str (P.eq_str (wpAny_truthy_bool ?_)))) (by with_unfolding_all rfl))
          have F₁ := F'.toks (k := s'.toks + 1) (Nat.le_add_left _ _)
          rw [ecmp]
          by_cases hch : ch = 92
          · rw [decide_eq_true hch, if_pos rfl]
            have hsc : scanF pre.length false (ch :: r) pz = scanF (pre.length + 1) true r pre.length := if_pos hch
            rw [hsc] at hL hn
            refine seg_step (gf_setBool F₁ rfl hiC heC rfl (fun s₄ F₄ => ⟨rfl, ?_⟩) rfl)
            refine seg_again rfl ?_
            exact ih (r, true, pre.length) (Nat.lt_succ_self _) n s₁ s₄ ⟨pre ++ [ch], (fun y => if y = Str.ofString "escape" then some (.bool true) else m' y), done, tp', hl', by rw [hlen]; exact hL, by rw [hlen]; exact hn, by rw [hlen]; exact F₄, if_pos rfl, (if_neg (show ¬ (Str.ofString "pos" = Str.ofString "escape") by decide)).trans hp'⟩
          · rw [decide_eq_false hch, if_neg Bool.false_ne_true]
            have hsc : scanF pre.length false (ch :: r) pz = (pre.length, [ch]) :: scanF (pre.length + 1) false r pre.length := if_neg hch
            rw [hsc] at hL hn
            obtain ⟨n', rfl⟩ : ∃ n', n = n' + 1 := ⟨_, hn⟩
            refine seg_yieldS rfl rfl rfl (gf_yield (hs := by intro _; rfl) (y := [ch]) F₁.weak rfl rfl hp' ?_ ?_) rfl rfl
            · intro Q hQ
              exact gf_name (hd := by decide) (m := m') F₁.ns rfl rfl hc' (hQ tc _ F₁.kp.tk)
            · intro T ti tx k' hk' hT1 hT2 hT3 W' kap hkap
              refine ⟨pre.length, [ch], ti, tx, T, rfl, hT1, hT2, hT3 ▸ Heap.get?_push_size _ rfl, ?_, W'.kp, fun s'' hkeep htk => hkap s'' ?_⟩
              · rw [hL]
                have : (scanF (pre.length + 1) false r pre.length).length = n' := (Nat.succ.inj hn).symm
                simp only [List.length_append, List.length_cons, this]
                rw [show done.length + (n' + 1) - 1 - n' = done.length by (first | lia | omega)]
                simp
              · have F'' := (F₁.push _ hk').again hkeep htk
                refine seg_again rfl ?_
                exact ih (r, false, pre.length) (Nat.lt_succ_self _) n' s'' s'' ⟨pre ++ [ch], _, done ++ [(pre.length, [ch])], tp', hl', by rw [hL, hlen]; simp, by rw [hlen]; exact Nat.succ.inj hn, by rw [hlen]; exact F'', he', hp'⟩
end D6

section D7
noncomputable def dON : Option Nat → D
  | none => .none
  | some n => .int (n : Int)
noncomputable def strS (l : List Nat) (a : Nat × Option Nat × List (List Nat)) (p : Nat × List Nat) : Nat × Option Nat × List (List Nat) :=
  if p.2 = [34] then match a.2.1 with
    | none => (a.1, some p.1, a.2.2)
    | some o => (p.1 + 1, none, if a.1 = o then a.2.2 else a.2.2 ++ [(l.drop a.1).take (o - a.1)])
  else a
noncomputable def strR (l : List Nat) : Nat × Option Nat × List (List Nat) := (scanF 0 false l 0).foldl (strS l) (0, none, [])
noncomputable def stripL (l : List Nat) : List Nat := if 34 ∈ l then joinL [] (if (strR l).1 < l.length then (strR l).2.2 ++ [l.drop (strR l).1] else (strR l).2.2) else l

theorem scanF_len : ∀ (r : List Nat) (i : Nat) (b : Bool) (p : Nat), (scanF i b r p).length ≤ r.length + (if b = true then 1 else 0)
  | [], i, false, p => Nat.le_refl _
  | [], i, true, p => Nat.le_refl _
  | c :: r, i, true, p => by
    have := scanF_len r (i + 1) false i
    show (scanF (i + 1) false r i).length + 1 ≤ _
    simp only [List.length_cons] at this ⊢
    simp at this ⊢
    (first | lia | omega)
  | c :: r, i, false, p => by
    show (if c = 92 then scanF (i + 1) true r i else (i, [c]) :: scanF (i + 1) false r i).length ≤ _
    split
    · have := scanF_len r (i + 1) true i
      simp only [List.length_cons] at this ⊢
      simp at this ⊢
      (first | lia | omega)
    · have := scanF_len r (i + 1) false i
      simp only [List.length_cons] at this ⊢
      simp at this ⊢
      (first | lia | omega)
theorem strS_ok (l : List Nat) : ∀ (L : List (Nat × List Nat)) (a : Nat × Option Nat × List (List Nat)), (∀ x ∈ a.2.2, x.length ≤ l.length) → (L.foldl (strS l) a).2.2.length ≤ a.2.2.length + L.length ∧ ∀ x ∈ (L.foldl (strS l) a).2.2, x.length ≤ l.length
  | [], a, h => ⟨Nat.le_refl _, h⟩
  | p :: L, a, h => by
    have key : (∀ x ∈ (strS l a p).2.2, x.length ≤ l.length) ∧ (strS l a p).2.2.length ≤ a.2.2.length + 1 := by
      obtain ⟨st, o, acc⟩ := a
      unfold strS
      split
      · cases o with
        | none => exact ⟨h, Nat.le_succ _⟩
        | some o =>
          dsimp only
          split
          · exact ⟨h, Nat.le_succ _⟩
          · refine ⟨fun x hx => ?_, by rw [List.length_append]; exact Nat.le_refl _⟩
            rcases List.mem_append.mp hx with hx | hx
            · exact h x hx
            · rw [List.mem_singleton.mp hx, List.length_take, List.length_drop]; omega
      · exact ⟨h, Nat.le_succ _⟩
    obtain ⟨h1, h2⟩ := strS_ok l L _ key.1
    rw [List.foldl_cons]
    refine ⟨?_, h2⟩
    rw [List.length_cons]
    omega
theorem sum_le {xs : List (List Nat)} {k : Nat} (h : ∀ x ∈ xs, x.length ≤ k) : (xs.map fun x => x.length + ([] : List Nat).length).sum ≤ k * xs.length := by
  induction xs with
  | nil => exact Nat.zero_le _
  | cons x r ih =>
    have h1 := h x (.head _)
    have h2 := ih fun y hy => h y (.tail _ hy)
    simp only [List.map_cons, List.sum_cons, List.length_cons, List.length_nil, Nat.add_zero, Nat.mul_succ] at h2 ⊢
    (first | lia | omega)

theorem op_notinS {c : Cx} {a : Nat} {l : List Nat} : OP2 c (compareOp .NotIn) (.str (S [a])) (.str (S l)) (.bool (!decide (a ∈ l))) := op2_eq op_notin (by
  have : Txt.contains (S l) (S [a]) = decide (a ∈ l) := by
    have h := StrLaws.found_one (S l) a
    rw [S_list] at h
    exact h
  rw [this])

theorem ev_gen {c : Cx} {ρ : List (Str × D)} {own : List Ow} {l : List Nat} {f : Str} {p pos : Pos} {e : PySem.Expr} (hx : c.env.kindOf f = some .globalImplicit) (hn : nsIn (hd.heap_39 c.w.params) mainGlobals f = some (some (.ref 107)))
    (hf : FnAt c.w 107) (he : EV c ρ own e (.str (S l)))
    (hs : ∀ env, starEach [e] env = [(false, eval e env)]) (hd : (f == ("__debug__" : Str)) = false) :
    ∀ fz s, Frm c ρ own fz s → ∀ (Q E : Value → Shared → Prop), (∀ fz₁ s₁ C a gs s', FZ.le fz fz₁ → Frm c ρ own fz₁ s₁ → GenNew c l s₁ C a gs s' → Q (.ref a) s') → wpAny c.M c.A (eval (.Call (.Name f p) [e] [] pos) c.env) Q E s := fun fz s F Q E hQ => by
  show wpAny _ _ (do callWith pos (← eval (.Name f p) c.env) [] (backTo pos (starEach [e] c.env)) (backToKw pos (keywordEach [] c.env))) _ _ _
  refine wpAny_bind (ev_global (ρ := ρ) (own := own) hx hn hd fz s F _ _ fun v fz₁ s₁ N₁ F₁ r₁ => ?_)
  obtain ⟨o, fd, ho, hd'⟩ := hf
  have hv : v = .ref 107 := r₁.inv
  subst hv
  refine callWith_function (o := o) (fd := fd) ?_
  have key : wpAny c.M c.A (spliced [(false, eval e c.env)]) (fun vs s' => (s'.heap.get? 107 = some o ∧ o.data = .func fd) ∧ wpAny c.M c.A (call (.ref 107) ([] ++ vs) []) Q E s') E s₁ := by
    refine Calls.spliced_cons (he fz₁ s₁ F₁ _ _ fun v fz₂ s₂ N₂ F₂ r₂ => Calls.spliced_nil ⟨⟨F₂.I.ge (c.st.k 107 o ho), hd'⟩, ?_⟩)
    obtain ⟨t, rfl⟩ := r₂.inv
    · exact gen_call F₂.I F₂.tk fun C a gs s' G => hQ fz₂ s₂ C a gs s' (fun a o e => N₂.mono _ _ (N₁.mono _ _ e)) F₂ G
  rw [hs]
  exact evalArgs_plain (x := eval e c.env) (rest := []) key

theorem fn107 (c : Cx) : FnAt c.w 107 := ⟨_, _, by k_is, rfl⟩
theorem strip_call {c : Cx} {l : List Nat} (hk : 4 ≤ c.k) (hl : l.length ≤ 3000) : OPs c (fun vs => call (.ref 114) vs) [.str (S l)] (.str (S (stripL l))) := by
  refine' call_def ⟨?k, ?g1, ?g2, ?g3, ?g4, ?g5, ?g6, ?g7, ?g8, ?g9⟩ ?hb ?hl ?hk ?h
  (case k => k_is)
  (case g3 => exact rfl)
  (case g1 => exact rfl)
  (case g2 => exact rfl)
  (case g4 => exact rfl)
  (case g5 => exact rfl)
  (case g6 => exact rfl)
  (case g7 => exact rfl)
  (case g8 => decide)
  (case g9 => k_is)
  case hb => 
    refine binds_pos (names := [Str.ofString "addr"]) ?_ rfl
    intro vs h
    obtain ⟨a, rfl⟩ := len1 h
    rfl
  case hl => rfl
  case hk => (first | lia | omega)
  case h =>
    rintro ⟨w, G, A, env, fz₀, s₀, k, st', room, kind, glob, bi, big, kA, kG, kN⟩ hw hG hk' L hL
    dsimp only at hw hG hk' hL
    subst hw hG hL
    have hsz : sizeLine = 16777216 := by decide
    obtain ⟨j, rfl⟩ : ∃ j, k = j + 3 := ⟨k - 3, by (first | lia | omega)⟩
    clear hk hk'
    refine' ex_if (b := !decide (34 ∈ l)) ?t ?a ?b
    case t =>
      refine' tv_cmp ?hl ?hr op_notinS ?hm
      case hl => with_reducible exact ev_qu
      case hr => ((with_reducible refine' ev_name ?wx164 ?wy164 ?wz164); (case wx164 => exact rfl); (case wy164 => decide); (case wz164 => decide))
      case hm => with_unfolding_all exact rfl
    case a =>
      intro h
      have h34 : ¬ 34 ∈ l := by simpa using h
      unfold stripL
      rw [if_neg h34]
      refine ex_return ?_
      ((with_reducible refine' ev_name ?wx165 ?wy165 ?wz165); (case wx165 => exact rfl); (case wy165 => decide); (case wz165 => decide))
    case b =>
      intro h
      have h34 : 34 ∈ l := by simpa using h
      unfold stripL
      rw [if_pos h34]
      show EX _ _ _ (_ :: _) _
      (((with_reducible refine' ex_assign ?he_59 ?h_59 ?hx_59 ?ho_59 ?hs_59); (case he_59 => with_reducible exact ev_int); (case hx_59 => exact rfl); (case ho_59 => exact rfl); (case hs_59 => exact rfl)))
      (((with_reducible refine' ex_assign ?he_60 ?h_60 ?hx_60 ?ho_60 ?hs_60); (case he_60 => with_reducible exact ev_none); (case hx_60 => exact rfl); (case ho_60 => exact rfl); (case hs_60 => exact rfl)))
      refine' ex_new (ds := []) ?n1 ?n2 ?n3 ?n4 ?n5 ?n6
      case n1 => exact evs_nil
      case n3 => exact rfl
      case n4 => exact rfl
      case n5 => exact rfl
      case n6 => decide
      case n2 =>
        intro ar
        refine' ex_forGen (l := l) rfl ?call (fun i => [(Str.ofString "addr", .str (S l)), (Str.ofString "start", .int (((scanF 0 false l 0).take i).foldl (strS l) (0, none, [])).1), (Str.ofString "open_pos", dON (((scanF 0 false l 0).take i).foldl (strS l) (0, none, [])).2.1)])
          (fun i => [⟨some (Str.ofString "result"), ar, .list ((((scanF 0 false l 0).take i).foldl (strS l) (0, none, [])).2.2.map fun x => .str (S x))⟩]) ?h0 ?hw0 ?turn ?fin ?hs
        case call =>
          refine' ev_gen ?c1 ?c2 (fn107 _) ?c3 ?c4 ?c5
          case c1 => exact rfl
          case c2 => k_is
          case c3 => ((with_reducible refine' ev_name ?wx166 ?wy166 ?wz166); (case wx166 => exact rfl); (case wy166 => decide); (case wz166 => decide))
          case c4 => exact fun _ => rfl
          case c5 => decide
        case h0 => (repeat' (first | (with_reducible refine List.forall_mem_cons.mpr ⟨?_, ?_⟩) | exact rfl | (intro p hp; exact nomatch hp)))
        case hw0 => exact rfl
        case hs => exact fun _ => rfl
        case fin =>
          have hok := strS_ok l (scanF 0 false l 0) (0, none, []) (fun x hx => nomatch hx)
          have hlen := scanF_len l 0 false 0
          rw [if_neg Bool.false_ne_true] at hlen
          rw [List.take_length]
          rw [show (scanF 0 false l 0).foldl (strS l) (0, none, []) = strR l from rfl] at hok ⊢
          generalize strR l = rr at hok ⊢
          obtain ⟨st, o, acc⟩ := rr
          dsimp only at hok ⊢
          obtain ⟨hok1, hok2⟩ := hok
          have hok1 : acc.length ≤ 0 + (scanF 0 false l 0).length := hok1
          have hmul : ∀ k, k ≤ l.length + 1 → l.length * k ≤ 3000 * 3001 := fun k hk => Nat.mul_le_mul hl (by (first | lia | omega))
          refine' ex_if (b := decide ((st : Int) < (l.length : Int))) ?t1 ?a1 ?b1
          case t1 =>
            refine' tv_cmp ?hl ?hr op_lt ?hm
            case hl => ((with_reducible refine' ev_name ?wx167 ?wy167 ?wz167); (case wx167 => exact rfl); (case wy167 => decide); (case wz167 => decide))
            case hr => ((refine' ev_builtin1 (id := "len") ?h1_62 ?h2_62 ?h3_62 ?h4_62 ?h5_62 ?h6_62 ?h7_62 ?h8_62; (case h1_62 => exact rfl); (case h2_62 => k_is); (case h3_62 => exact rfl); (case h4_62 => ((refine' evs_cons ?wa168 ?wb168 ?wc168); (case wa168 => ((with_reducible refine' ev_name ?wx169 ?wy169 ?wz169); (case wx169 => exact rfl); (case wy169 => decide); (case wz169 => decide))); (case wb168 => exact evs_nil); (case wc168 => exact fun _ => rfl))); (case h5_62 => first | ((with_reducible refine op_len_str ?_); (first | lia | omega)) | ((with_reducible refine op_len_list ?_); assumption)); (case h6_62 => exact rfl); (case h7_62 => decide); (case h8_62 => decide)))
            case hm => with_unfolding_all exact rfl
          case a1 =>
            intro h
            have h : st < l.length := by simpa using h
            rw [if_pos h]
            show EX _ _ _ [_, _] _
            refine' ex_append_pes (x := Str.ofString "result") (a := ar) (ds := acc.map fun x => .str (S x)) (es := []) (own := []) (fun q hq => nomatch hq) ?ap1 ?ap2 ?ap3 ?ap4 ?ap5 ?ap6 ?ap7
            case ap1 => exact rfl
            case ap2 =>
              refine' ev_eq (ev_cut ?u1 ?u2 ?u3 ?u4) ?u5
              case u1 => ((with_reducible refine' ev_name ?wx170 ?wy170 ?wz170); (case wx170 => exact rfl); (case wy170 => decide); (case wz170 => decide))
              case u2 => (refine' part_some ?u8; (case u8 => ((with_reducible refine' ev_name ?wx171 ?wy171 ?wz171); (case wx171 => exact rfl); (case wy171 => decide); (case wz171 => decide))))
              case u3 => exact part_none
              case u4 => (rw [S_len]; (first | lia | omega))
              case u5 => exact congrArg D.str (strSlice_sn l st)
            case ap4 => (rw [List.length_map]; (first | lia | omega))
            case ap5 => exact rfl
            case ap6 => decide
            case ap7 => exact fun _ => rfl
            case ap3 =>
              rw [show (acc.map fun x => D.str (S x)) ++ [.str (S (l.drop st))] = (acc ++ [l.drop st]).map fun x => .str (S x) by simp]
              refine ex_freeze1 rfl ?_
              refine ex_return ?_
              refine' ev_join (sep := []) (xs := acc ++ [l.drop st]) ?jo ?jl ?jz ?jb ?jp ?jn ?js
              case jo => with_reducible exact ev_l0
              case jl => ((with_reducible refine' ev_name ?wx172 ?wy172 ?wz172); (case wx172 => exact rfl); (case wy172 => decide); (case wz172 => decide))
              case jz =>
                refine Nat.le_trans (sum_le (k := l.length) fun x hx => ?_) ?_
                · rcases List.mem_append.mp hx with hx | hx
                  · exact hok2 x hx
                  · rw [List.mem_singleton.mp hx, List.length_drop]; (first | lia | omega)
                · rw [List.length_append]
                  exact Nat.le_trans (hmul _ (by show acc.length + 1 ≤ _; (first | lia | omega))) (by decide)
              case jb => exact rfl
              case jp => exact rfl
              case jn => exact rfl
              case js => exact fun _ => rfl
          case b1 =>
            intro h
            have h : ¬ st < l.length := by simpa using h
            rw [if_neg h]
            show EX _ _ _ [_] _
            refine ex_freeze1 rfl ?_
            refine ex_return ?_
            refine' ev_join (sep := []) (xs := acc) ?jo ?jl ?jz ?jb ?jp ?jn ?js
            case jo => with_reducible exact ev_l0
            case jl => ((with_reducible refine' ev_name ?wx173 ?wy173 ?wz173); (case wx173 => exact rfl); (case wy173 => decide); (case wz173 => decide))
            case jz =>
              refine Nat.le_trans (sum_le (k := l.length) fun x hx => hok2 x hx) ?_
              exact Nat.le_trans (hmul _ (by (first | lia | omega))) (by decide)
            case jb => exact rfl
            case jp => exact rfl
            case jn => exact rfl
            case js => exact fun _ => rfl
        case turn =>
          intro kA' kG' kN' i hi
          have e : ((scanF 0 false l 0).take (i + 1)).foldl (strS l) (0, none, []) = strS l (((scanF 0 false l 0).take i).foldl (strS l) (0, none, [])) (scanF 0 false l 0)[i] := by
            rw [List.take_succ_eq_append_getElem hi, List.foldl_append]; rfl
          have hok := (strS_ok l ((scanF 0 false l 0).take i) (0, none, []) (fun x hx => nomatch hx)).1
          have hlen := scanF_len l 0 false 0
          rw [if_neg Bool.false_ne_true] at hlen
          rw [e]
          have hti : ((scanF 0 false l 0).take i).length ≤ 3000 := Nat.le_trans (List.length_take_le' ..) (by (first | lia | omega))
          generalize (scanF 0 false l 0)[i] = pp
          generalize ((scanF 0 false l 0).take i).foldl (strS l) (0, none, []) = rr at hok
          obtain ⟨p, ch⟩ := pp
          obtain ⟨st, o, acc⟩ := rr
          have hok : acc.length ≤ 0 + _ := hok
          refine' ⟨_, as_pair (d₁ := .int (p : Int)) (d₂ := .str (S ch)) ?a1 ?a2 ?a3 ?a4, ?bod⟩
          case a1 => exact rfl
          case a2 => exact rfl
          case a3 => exact rfl
          case a4 => exact rfl
          case bod =>
            refine' ex_if (b := ch == [34]) ?t2 ?a2 ?b2
            case t2 => (first | ((with_reducible refine' tv_cmp ?hl_63 ?hr_63 ?h_63 ?hm_63); (case hl_63 => ((with_reducible refine' ev_name ?wx174 ?wy174 ?wz174); (case wx174 => exact rfl); (case wy174 => decide); (case wz174 => decide))); (case hr_63 => with_reducible exact ev_qu); (case h_63 => with_reducible exact op_eqS); (case hm_63 => with_unfolding_all exact rfl)) | done)
            case b2 =>
              intro h
              have hc : ch ≠ [34] := by simpa using h
              have es : strS l (st, o, acc) (p, ch) = (st, o, acc) := if_neg hc
              rw [es]
              show EX _ _ _ [] _
              exact ex_nil fun fz s F => ⟨rfl, F.weaken (by (repeat' (first | (with_reducible refine List.forall_mem_cons.mpr ⟨?_, ?_⟩) | exact rfl | (intro p hp; exact nomatch hp))))⟩
            case a2 =>
              intro h
              obtain rfl : ch = [34] := by simpa using h
              show EX _ _ _ [_] _
              cases o with
              | none =>
                have es : strS l (st, none, acc) (p, [34]) = (st, some p, acc) := if_pos rfl
                rw [es]
                dsimp only [dON]
                refine' ex_if (b := true) ?t3 ?a3 ?b3
                case t3 => (first | ((with_reducible refine' tv_cmp ?hl_65 ?hr_65 ?h_65 ?hm_65); (case hl_65 => ((with_reducible refine' ev_name ?wx175 ?wy175 ?wz175); (case wx175 => exact rfl); (case wy175 => decide); (case wz175 => decide))); (case hr_65 => with_reducible exact ev_none); (case h_65 => with_reducible exact op_is_none_none); (case hm_65 => with_unfolding_all exact rfl)) | done)
                case b3 => intro h; cases h
                case a3 =>
                  intro _
                  show EX _ _ _ [_] _
                  (((with_reducible refine' ex_assign ?he_66 ?h_66 ?hx_66 ?ho_66 ?hs_66); (case he_66 => ((with_reducible refine' ev_name ?wx176 ?wy176 ?wz176); (case wx176 => exact rfl); (case wy176 => decide); (case wz176 => decide))); (case hx_66 => exact rfl); (case ho_66 => exact rfl); (case hs_66 => exact rfl)))
                  exact ex_nil fun fz s F => ⟨rfl, F.weaken (by (repeat' (first | (with_reducible refine List.forall_mem_cons.mpr ⟨?_, ?_⟩) | exact rfl | (intro p hp; exact nomatch hp))))⟩
              | some o =>
                have es : strS l (st, some o, acc) (p, [34]) = (p + 1, none, if st = o then acc else acc ++ [(l.drop st).take (o - st)]) := if_pos rfl
                rw [es]
                dsimp only [dON]
                refine' ex_if (b := false) ?t4 ?a4 ?b4
                case t4 => (first | ((with_reducible refine' tv_cmp ?hl_68 ?hr_68 ?h_68 ?hm_68); (case hl_68 => ((with_reducible refine' ev_name ?wx177 ?wy177 ?wz177); (case wx177 => exact rfl); (case wy177 => decide); (case wz177 => decide))); (case hr_68 => with_reducible exact ev_none); (case h_68 => with_reducible exact op_is_none_int); (case hm_68 => with_unfolding_all exact rfl)) | done)
                case a4 => intro h; cases h
                case b4 =>
                  intro _
                  show EX _ _ _ [_, _, _] _
                  refine' ex_if (b := (st : Int) != (o : Int)) ?t5 ?a5 ?b5
                  case t5 => (first | ((with_reducible refine' tv_cmp ?hl_69 ?hr_69 ?h_69 ?hm_69); (case hl_69 => ((with_reducible refine' ev_name ?wx178 ?wy178 ?wz178); (case wx178 => exact rfl); (case wy178 => decide); (case wz178 => decide))); (case hr_69 => ((with_reducible refine' ev_name ?wx179 ?wy179 ?wz179); (case wx179 => exact rfl); (case wy179 => decide); (case wz179 => decide))); (case h_69 => with_reducible exact op_nei); (case hm_69 => with_unfolding_all exact rfl)) | done)
                  case b5 =>
                    intro h
                    have h : (st : Int) = (o : Int) := by simpa using h
                    have h : st = o := by (first | lia | omega)
                    rw [if_pos h]
                    show EX _ _ _ [_, _] _
                    (((with_reducible refine' ex_assign ?he_70 ?h_70 ?hx_70 ?ho_70 ?hs_70); (case he_70 => ((with_reducible refine' ev_bin ?wl180 ?wr180 ?wo180); (case wl180 => ((with_reducible refine' ev_name ?wx181 ?wy181 ?wz181); (case wx181 => exact rfl); (case wy181 => decide); (case wz181 => decide))); (case wr180 => with_reducible exact ev_int); (case wo180 => with_reducible exact op_add))); (case hx_70 => exact rfl); (case ho_70 => exact rfl); (case hs_70 => exact rfl)))
                    (((with_reducible refine' ex_assign ?he_71 ?h_71 ?hx_71 ?ho_71 ?hs_71); (case he_71 => with_reducible exact ev_none); (case hx_71 => exact rfl); (case ho_71 => exact rfl); (case hs_71 => exact rfl)))
                    exact ex_nil fun fz s F => ⟨rfl, F.weaken (by (repeat' (first | (with_reducible refine List.forall_mem_cons.mpr ⟨?_, ?_⟩) | exact rfl | (intro p hp; exact nomatch hp))))⟩
                  case a5 =>
                    intro h
                    have h : ¬ (st : Int) = (o : Int) := by simpa using h
                    have h : ¬ st = o := by (first | lia | omega)
                    rw [if_neg h]
                    show EX _ _ _ [_, _, _] _
                    refine' ex_append_pes (x := Str.ofString "result") (a := ar) (ds := acc.map fun x => .str (S x)) (es := []) (own := []) (fun q hq => nomatch hq) ?ap1 ?ap2 ?ap3 ?ap4 ?ap5 ?ap6 ?ap7
                    case ap1 => exact rfl
                    case ap2 =>
                      refine' ev_eq (ev_cut ?u1 ?u2 ?u3 ?u4) ?u5
                      case u1 => ((with_reducible refine' ev_name ?wx182 ?wy182 ?wz182); (case wx182 => exact rfl); (case wy182 => decide); (case wz182 => decide))
                      case u2 => (refine' part_some ?u8; (case u8 => ((with_reducible refine' ev_name ?wx183 ?wy183 ?wz183); (case wx183 => exact rfl); (case wy183 => decide); (case wz183 => decide))))
                      case u3 => (refine' part_some ?u9; (case u9 => ((with_reducible refine' ev_name ?wx184 ?wy184 ?wz184); (case wx184 => exact rfl); (case wy184 => decide); (case wz184 => decide))))
                      case u4 => (rw [S_len]; (first | lia | omega))
                      case u5 => exact congrArg D.str (strSlice_ss l st o)
                    case ap4 => (rw [List.length_map]; (first | lia | omega))
                    case ap5 => exact rfl
                    case ap6 => decide
                    case ap7 => exact fun _ => rfl
                    case ap3 =>
                      rw [show (acc.map fun x => D.str (S x)) ++ [.str (S ((l.drop st).take (o - st)))] = (acc ++ [(l.drop st).take (o - st)]).map fun x => .str (S x) by simp]
                      (((with_reducible refine' ex_assign ?he_73 ?h_73 ?hx_73 ?ho_73 ?hs_73); (case he_73 => ((with_reducible refine' ev_bin ?wl185 ?wr185 ?wo185); (case wl185 => ((with_reducible refine' ev_name ?wx186 ?wy186 ?wz186); (case wx186 => exact rfl); (case wy186 => decide); (case wz186 => decide))); (case wr185 => with_reducible exact ev_int); (case wo185 => with_reducible exact op_add))); (case hx_73 => exact rfl); (case ho_73 => exact rfl); (case hs_73 => exact rfl)))
                      (((with_reducible refine' ex_assign ?he_74 ?h_74 ?hx_74 ?ho_74 ?hs_74); (case he_74 => with_reducible exact ev_none); (case hx_74 => exact rfl); (case ho_74 => exact rfl); (case hs_74 => exact rfl)))
                      exact ex_nil fun fz s F => ⟨rfl, F.weaken (by (repeat' (first | (with_reducible refine List.forall_mem_cons.mpr ⟨?_, ?_⟩) | exact rfl | (intro p hp; exact nomatch hp))))⟩
end D7

section D8
noncomputable def markL (n : Nat) : List Nat := List.replicate (2 ^ n - 1) 92 ++ [34]
noncomputable def shutL (a b : Nat) : List Nat := ((List.range (a - b)).map fun i => markL (a - 1 - i)).flatten
theorem joinL_flat : ∀ xs : List (List Nat), joinL [] xs = xs.flatten
  | [] => rfl
  | [x] => by simp [joinL]
  | x :: y :: r => by rw [joinL, joinL_flat (y :: r)]; simp
theorem markL_len (n : Nat) : (markL n).length = 2 ^ n := by unfold markL; rw [List.length_append, List.length_replicate]; exact Nat.sub_add_cancel Nat.one_le_two_pow
theorem sum_const {n k : Nat} {f : Nat → List Nat} (h : ∀ i, i < n → (f i).length ≤ k) : (((List.range n).map f).map fun x => x.length + ([] : List Nat).length).sum ≤ k * n := by
  have := sum_le (xs := (List.range n).map f) (k := k) fun x hx => by
    obtain ⟨i, hi, rfl⟩ := List.mem_map.mp hx
    exact h i (List.mem_range.mp hi)
  rw [List.length_map, List.length_range] at this
  exact this
theorem filterMap_some {n : Nat} {f : Nat → D} : (List.range n).filterMap (fun i => some (f i)) = (List.range n).map f := by
  induction n with
  | zero => rfl
  | succ n ih => rw [List.range_succ, List.filterMap_append, List.map_append, ih]; rfl

theorem shut_call {c : Cx} {a b : Nat} (hk : 4 ≤ c.k) (hab : b ≤ a) (ha : a ≤ 10) : OPs c (fun vs => call (.ref 126) vs) [.int (a : Int), .int (b : Int)] (.str (S (shutL a b))) := by
  refine' call_def ⟨?k, ?g1, ?g2, ?g3, ?g4, ?g5, ?g6, ?g7, ?g8, ?g9⟩ ?hb ?hl ?hk ?h
  (case k => k_is)
  (case g3 => exact rfl)
  (case g1 => exact rfl)
  (case g2 => exact rfl)
  (case g4 => exact rfl)
  (case g5 => exact rfl)
  (case g6 => exact rfl)
  (case g7 => exact rfl)
  (case g8 => decide)
  (case g9 => k_is)
  case hb => 
    refine binds_pos (names := [Str.ofString "above", Str.ofString "depth"]) ?_ rfl
    intro vs h
    obtain ⟨a, b, rfl⟩ := len2 h
    rfl
  case hl => rfl
  case hk => (first | lia | omega)
  case h =>
    rintro ⟨w, G, A, env, fz₀, s₀, k, st', room, kind, glob, bi, big, kA, kG, kN⟩ hw hG hk' L hL
    dsimp only at hw hG hk' hL
    subst hw hG hL
    have hsz : sizeLine = 16777216 := by decide
    refine ex_return ?_
    unfold shutL
    rw [← joinL_flat]
    have hml : ∀ i, i < a - b → (markL (a - 1 - i)).length ≤ 1024 := fun i hi => by
      rw [markL_len]
      have : 2 ^ (a - 1 - i) ≤ 2 ^ 9 := Nat.pow_le_pow_right (by decide) (by (first | lia | omega))
      (first | lia | omega)
    refine' ev_join (sep := []) (xs := (List.range (a - b)).map fun i => markL (a - 1 - i)) ?jo ?jl ?jz ?jb ?jp ?jn ?js
    case jo => with_reducible exact ev_l0
    case jz => exact Nat.le_trans (sum_const hml) (by (first | lia | omega))
    case jb => exact rfl
    case jp => exact rfl
    case jn => exact rfl
    case js => exact fun _ => rfl
    case jl =>
      refine' ev_eq (ev_comp (ρc := []) (n := a - b) (item := fun i => .int ((a : Int) - 1 - i)) (fun i => some (.str (S (markL (a - 1 - i))))) ?c1 ?c2 ?c3 ?c4 ?c5 ?c6 ?c7 ?c8 ?c9) ?c10
      case c10 => rw [filterMap_some, List.map_map]; rfl
      case c1 => exact rfl
      case c2 => exact rfl
      case c3 => decide
      case c4 => decide
      case c5 =>
        refine' itern_rangeD (a := a) (b := b) rfl ?r1 ?r2 ?r3 hab (by (first | lia | omega)) ?r4
        case r1 => exact rfl
        case r2 => k_is
        case r3 => ((refine' evs_cons ?wa187 ?wb187 ?wc187); (case wa187 => ((with_reducible refine' ev_bin ?wl188 ?wr188 ?wo188); (case wl188 => ((with_reducible refine' ev_name ?wx189 ?wy189 ?wz189); (case wx189 => exact rfl); (case wy189 => decide); (case wz189 => decide))); (case wr188 => with_reducible exact ev_int); (case wo188 => with_reducible exact op_sub))); (case wb187 => ((refine' evs_cons ?wa190 ?wb190 ?wc190); (case wa190 => ((with_reducible refine' ev_bin ?wl191 ?wr191 ?wo191); (case wl191 => ((with_reducible refine' ev_name ?wx192 ?wy192 ?wz192); (case wx192 => exact rfl); (case wy192 => decide); (case wz192 => decide))); (case wr191 => with_reducible exact ev_int); (case wo191 => with_reducible exact op_sub))); (case wb190 => ((refine' evs_cons ?wa193 ?wb193 ?wc193); (case wa193 => ((with_reducible refine' ev_un ?wl194 ?wo194); (case wl194 => with_reducible exact ev_int); (case wo194 => with_reducible exact op_neg))); (case wb193 => exact evs_nil); (case wc193 => exact fun _ => rfl))); (case wc190 => exact fun _ => rfl))); (case wc187 => exact fun _ => rfl))
        case r4 => exact rfl
      case c6 => (first | lia | omega)
      case c7 => exact fun p hp => nomatch hp
      case c9 => exact fun _ => rfl
      case c8 =>
        rintro ⟨w', G', A', env', fz₀', s₀', k', st'', room', kind', glob', bi', big', kA', kG', kN'⟩ hw' hG' hA' hk'' ⟨C, hE⟩ i own' hi hes
        dsimp only at hw' hG' hA' hk'' hE
        subst hE
        have e : ((a : Int) - 1 - (i : Int)) = ((a - 1 - i : Nat) : Int) := by (first | lia | omega)
        rw [e]
        have hp1 : 1 ≤ 2 ^ (a - 1 - i) := Nat.one_le_two_pow
        have hp2 : 2 ^ (a - 1 - i) ≤ 2 ^ 9 := Nat.pow_le_pow_right (by decide) (by (first | lia | omega))
        refine ⟨_, (by refine' as_name ?h1 ?h2; (case h1 => exact rfl); (case h2 => exact List.any_eq_false.mpr fun q hq => by rw [hes q hq]; exact Bool.false_ne_true)), tst_nil, fun d hd => ?_, fun p hp => nomatch hp⟩
        cases hd
        unfold markL
        ((with_reducible refine' ev_bin ?wl195 ?wr195 ?wo195); (case wl195 => ((with_reducible refine' ev_bin ?wl196 ?wr196 ?wo196); (case wl196 => with_reducible exact ev_bs); (case wr196 => ((with_reducible refine' ev_bin ?wl197 ?wr197 ?wo197); (case wl197 => ((with_reducible refine' ev_bin ?wl198 ?wr198 ?wo198); (case wl198 => with_reducible exact ev_int); (case wr198 => ((with_reducible refine' ev_name ?wx199 ?wy199 ?wz199); (case wx199 => exact rfl); (case wy199 => decide); (case wz199 => decide))); (case wo198 => ((with_reducible refine op_pow ?_); (first | lia | omega))))); (case wr197 => with_reducible exact ev_int); (case wo197 => ((with_reducible refine op_sub1 ?_); assumption)))); (case wo196 => ((with_reducible refine op_mul1 ?_); (first | lia | omega))))); (case wr195 => with_reducible exact ev_qu); (case wo195 => ((with_reducible refine op_catS ?_); (simp only [List.length_append, List.length_replicate, List.length_cons, List.length_nil] at *; (first | lia | omega)))))
end D8

section P1
open PySem PySem.W PySem.Spec PySem.Calls PyProof.Rows

/- ## what _strip_quoted_realnames leaves, sign by sign -/
noncomputable def strip1 : Bool → Bool → List Nat → Option (List Nat)
  | inq, _, [] => if inq = true then none else some []
  | false, true, c :: r => (strip1 false false r).map (c :: ·)
  | true, true, _ :: r => strip1 true false r
  | false, false, c :: r => if c = 92 then (strip1 false true r).map (c :: ·) else if c = 34 then strip1 true false r else (strip1 false false r).map (c :: ·)
  | true, false, c :: r => if c = 92 then strip1 true true r else if c = 34 then strip1 false false r else strip1 true false r

noncomputable def finL (l : List Nat) (t : Nat × Option Nat × List (List Nat)) : List Nat := t.2.2.flatten ++ l.drop t.1

theorem take_more {l pre r : List Nat} {c st : Nat} (hl : l = pre ++ c :: r) (hst : st ≤ pre.length) : (l.drop st).take (pre.length + 1 - st) = (l.drop st).take (pre.length - st) ++ [c] := by
  subst hl
  have h : pre.length - st < ((pre ++ c :: r).drop st).length := by rw [List.length_drop, List.length_append, List.length_cons]; (first | lia | omega)
  rw [show pre.length + 1 - st = pre.length - st + 1 by (first | lia | omega), List.take_succ_eq_append_getElem h]
  congr 2
  rw [List.getElem_drop]
  have : st + (pre.length - st) = pre.length := by (first | lia | omega)
  simp [this]

theorem strip_go {l : List Nat} : ∀ (r pre : List Nat) (esc : Bool) (p st : Nat) (acc : List (List Nat)) (x : List Nat), l = pre ++ r →
    (st ≤ pre.length → strip1 false esc r = some x → finL l ((scanF pre.length esc r p).foldl (strS l) (st, none, acc)) = acc.flatten ++ (l.drop st).take (pre.length - st) ++ x) ∧
    (∀ q, st ≤ q → q < pre.length → strip1 true esc r = some x → finL l ((scanF pre.length esc r p).foldl (strS l) (st, some q, acc)) = acc.flatten ++ (l.drop st).take (q - st) ++ x)
  | [], pre, esc, p, st, acc, x, hl => by
    constructor
    · intro hst hx
      have hx : x = [] := by
        have : some [] = some x := by rw [← hx]; cases esc <;> rfl
        exact (Option.some.inj this).symm
      subst hx
      have hfold : (scanF pre.length esc [] p).foldl (strS l) (st, none, acc) = (st, none, acc) := by
        cases esc
        · rfl
        · show strS l (st, none, acc) (p, [92]) = _
          exact if_neg (show ¬ ([92] : List Nat) = [34] by decide)
      rw [hfold, List.append_nil]
      show acc.flatten ++ l.drop st = _
      rw [hl, List.append_nil, List.take_of_length_le (by rw [List.length_drop]; exact Nat.le_refl _)]
    · intro q _ _ hx
      have : (none : Option (List Nat)) = some x := by rw [← hx]; cases esc <;> rfl
      cases this
  | c :: r, pre, esc, p, st, acc, x, hl => by
    have hl' : l = (pre ++ [c]) ++ r := by rw [hl]; simp
    have hlen : (pre ++ [c]).length = pre.length + 1 := by simp
    have ih := fun esc p st acc x => strip_go (l := l) r (pre ++ [c]) esc p st acc x hl'
    rw [hlen] at ih
    constructor
    · intro hst hx
      have htm := take_more hl hst
      cases esc with
      | true =>
        have hx : (strip1 false false r).map (c :: ·) = some x := hx
        obtain ⟨y, hy, rfl⟩ := Option.map_eq_some_iff.mp hx
        have e : (scanF pre.length true (c :: r) p).foldl (strS l) (st, none, acc) = (scanF (pre.length + 1) false r pre.length).foldl (strS l) (st, none, acc) := by
          show (scanF (pre.length + 1) false r pre.length).foldl (strS l) (strS l (st, none, acc) (pre.length, [92, c])) = _
          rw [show strS l (st, none, acc) (pre.length, [92, c]) = (st, none, acc) from if_neg (by intro h; cases h)]
        rw [e, (ih false pre.length st acc y).1 (by (first | lia | omega)) hy, htm]
        simp
      | false =>
        by_cases h92 : c = 92
        · subst h92
          have hx : (strip1 false true r).map (92 :: ·) = some x := hx
          obtain ⟨y, hy, rfl⟩ := Option.map_eq_some_iff.mp hx
          have e : (scanF pre.length false (92 :: r) p).foldl (strS l) (st, none, acc) = (scanF (pre.length + 1) true r pre.length).foldl (strS l) (st, none, acc) := rfl
          rw [e, (ih true pre.length st acc y).1 (by (first | lia | omega)) hy, htm]
          simp
        · have es : scanF pre.length false (c :: r) p = (pre.length, [c]) :: scanF (pre.length + 1) false r pre.length := if_neg h92
          by_cases h34 : c = 34
          · subst h34
            have hx : strip1 true false r = some x := hx
            have e : (scanF pre.length false (34 :: r) p).foldl (strS l) (st, none, acc) = (scanF (pre.length + 1) false r pre.length).foldl (strS l) (st, some pre.length, acc) := rfl
            rw [e, (ih false pre.length st acc x).2 pre.length hst (by (first | lia | omega)) hx]
          · have hx : (strip1 false false r).map (c :: ·) = some x := by
              rw [← hx]
              show _ = if c = 92 then _ else if c = 34 then _ else _
              rw [if_neg h92, if_neg h34]
            obtain ⟨y, hy, rfl⟩ := Option.map_eq_some_iff.mp hx
            have e : (scanF pre.length false (c :: r) p).foldl (strS l) (st, none, acc) = (scanF (pre.length + 1) false r pre.length).foldl (strS l) (st, none, acc) := by
              rw [es, List.foldl_cons, show strS l (st, none, acc) (pre.length, [c]) = (st, none, acc) from if_neg (by intro h; injection h with h; exact h34 h)]
            rw [e, (ih false pre.length st acc y).1 (by (first | lia | omega)) hy, htm]
            simp
    · intro q hq1 hq2 hx
      cases esc with
      | true =>
        have hx : strip1 true false r = some x := hx
        have e : (scanF pre.length true (c :: r) p).foldl (strS l) (st, some q, acc) = (scanF (pre.length + 1) false r pre.length).foldl (strS l) (st, some q, acc) := by
          show (scanF (pre.length + 1) false r pre.length).foldl (strS l) (strS l (st, some q, acc) (pre.length, [92, c])) = _
          rw [show strS l (st, some q, acc) (pre.length, [92, c]) = (st, some q, acc) from if_neg (by intro h; cases h)]
        rw [e, (ih false pre.length st acc x).2 q hq1 (by (first | lia | omega)) hx]
      | false =>
        by_cases h92 : c = 92
        · subst h92
          have hx : strip1 true true r = some x := hx
          have e : (scanF pre.length false (92 :: r) p).foldl (strS l) (st, some q, acc) = (scanF (pre.length + 1) true r pre.length).foldl (strS l) (st, some q, acc) := rfl
          rw [e, (ih true pre.length st acc x).2 q hq1 (by (first | lia | omega)) hx]
        · have es : scanF pre.length false (c :: r) p = (pre.length, [c]) :: scanF (pre.length + 1) false r pre.length := if_neg h92
          by_cases h34 : c = 34
          · subst h34
            have hx : strip1 false false r = some x := hx
            have e : (scanF pre.length false (34 :: r) p).foldl (strS l) (st, some q, acc) = (scanF (pre.length + 1) false r pre.length).foldl (strS l) (pre.length + 1, none, if st = q then acc else acc ++ [(l.drop st).take (q - st)]) := rfl
            rw [e, (ih false pre.length (pre.length + 1) _ x).1 (Nat.le_refl _) hx, Nat.sub_self, List.take_zero, List.append_nil]
            congr 1
            by_cases hsq : st = q
            · rw [if_pos hsq, hsq, Nat.sub_self, List.take_zero, List.append_nil]
            · rw [if_neg hsq, List.flatten_append]; simp
          · have hx : strip1 true false r = some x := by
              rw [← hx]
              show _ = if c = 92 then _ else if c = 34 then _ else _
              rw [if_neg h92, if_neg h34]
            have e : (scanF pre.length false (c :: r) p).foldl (strS l) (st, some q, acc) = (scanF (pre.length + 1) false r pre.length).foldl (strS l) (st, some q, acc) := by
              rw [es, List.foldl_cons, show strS l (st, some q, acc) (pre.length, [c]) = (st, some q, acc) from if_neg (by intro h; injection h with h; exact h34 h)]
            rw [e, (ih false pre.length st acc x).2 q hq1 (by (first | lia | omega)) hx]

theorem strip1_free : ∀ (r : List Nat) (esc : Bool), 34 ∉ r → strip1 false esc r = some r
  | [], esc, _ => by cases esc <;> rfl
  | c :: r, esc, h => by
    have h1 : c ≠ 34 := fun e => h (e ▸ .head _)
    have h2 : 34 ∉ r := fun m => h (.tail _ m)
    cases esc with
    | true => show (strip1 false false r).map _ = _; rw [strip1_free r false h2]; rfl
    | false =>
      show (if c = 92 then _ else if c = 34 then _ else _) = _
      rw [if_neg h1]
      split
      · rw [strip1_free r true h2]; rfl
      · rw [strip1_free r false h2]; rfl
theorem stripL_is {l x : List Nat} (h : strip1 false false l = some x) : stripL l = x := by
  unfold stripL
  split
  · have := (strip_go (l := l) l [] false 0 0 [] x rfl).1 (Nat.le_refl _) h
    have e : finL l (strR l) = x := by unfold strR; simpa using this
    have hj : joinL [] (if (strR l).1 < l.length then (strR l).2.2 ++ [l.drop (strR l).1] else (strR l).2.2) = finL l (strR l) := by
      rw [joinL_nil]
      unfold finL
      split
      · rw [List.flatten_append]; simp
      · rename_i hn
        rw [List.drop_eq_nil_of_le (by (first | lia | omega)), List.append_nil]
    rw [hj]; exact e
  · rename_i h34
    rw [strip1_free l false h34] at h
    exact Option.some.inj h

/- ## names -/
noncomputable def letters : List Nat := [97, 98, 99, 100, 101, 102]
noncomputable def tailsL : List (List Nat) := [[], [92, 34], [92, 92], [92], [126]]
noncomputable def NmOk (n : List Nat) : Prop := ∃ x ∈ letters, ∃ t ∈ tailsL, n = x :: t
noncomputable def endsEsc (n : List Nat) : Bool := n.getLast? == some 92 && n.length == 2

theorem nm_strip {n : List Nat} (h : NmOk n) : ∃ e : Bool, ∀ r, strip1 false false (n ++ r) = (strip1 false e r).map (n ++ ·) := by
  obtain ⟨x, hx, t, ht, rfl⟩ := h
  have h1 : x ≠ 92 := by
    intro h; subst h; revert hx; decide
  have h2 : x ≠ 34 := by
    intro h; subst h; revert hx; decide
  have hh : ∀ r, strip1 false false (x :: r) = (strip1 false false r).map (x :: ·) := fun r => by
    show (if x = 92 then _ else if x = 34 then _ else _) = _
    rw [if_neg h1, if_neg h2]
  simp only [tailsL, List.mem_cons, List.not_mem_nil, or_false] at ht
  rcases ht with rfl | rfl | rfl | rfl | rfl
  · exact ⟨false, fun r => hh r⟩
  · refine ⟨false, fun r => ?_⟩
    show strip1 false false (x :: ([92, 34] ++ r)) = _
    rw [hh]
    show ((((strip1 false false r).map (34 :: ·)).map (92 :: ·)).map (x :: ·)) = _
    rw [Option.map_map, Option.map_map]; rfl
  · refine ⟨false, fun r => ?_⟩
    show strip1 false false (x :: ([92, 92] ++ r)) = _
    rw [hh]
    show ((((strip1 false false r).map (92 :: ·)).map (92 :: ·)).map (x :: ·)) = _
    rw [Option.map_map, Option.map_map]; rfl
  · refine ⟨true, fun r => ?_⟩
    show strip1 false false (x :: ([92] ++ r)) = _
    rw [hh]
    show (((strip1 false true r).map (92 :: ·)).map (x :: ·)) = _
    rw [Option.map_map]; rfl
  · refine ⟨false, fun r => ?_⟩
    show strip1 false false (x :: ([126] ++ r)) = _
    rw [hh]
    show (((strip1 false false r).map (126 :: ·)).map (x :: ·)) = _
    rw [Option.map_map]; rfl
theorem nm_ok {n : List Nat} (h : NmOk n) : NameOk n ∧ n.length ≤ 3 := by
  obtain ⟨x, hx, t, ht, rfl⟩ := h
  have key : ∀ x ∈ letters, ∀ t ∈ tailsL, (∀ c ∈ x :: t, c ∈ alpha ∧ fTok c = true) ∧ (x :: t).length ≤ 3 := by decide
  exact ⟨⟨by simp, (key x hx t ht).1⟩, (key x hx t ht).2⟩

theorem strip1_in : ∀ (w r : List Nat), strip1 true false (escL w ++ 34 :: r) = strip1 false false r
  | [], r => rfl
  | c :: w, r => by
    rw [escL_cons]
    by_cases h : fJE c = true
    · rw [if_pos h]
      show strip1 true false (92 :: c :: (escL w ++ 34 :: r)) = _
      exact strip1_in w r
    · rw [if_neg h]
      show strip1 true false (c :: (escL w ++ 34 :: r)) = _
      have h1 : c ≠ 92 := fun e => h (by subst e; rfl)
      have h2 : c ≠ 34 := fun e => h (by subst e; rfl)
      show (if c = 92 then _ else if c = 34 then _ else _) = _
      rw [if_neg h1, if_neg h2]
      exact strip1_in w r
theorem strip1_one (e : Bool) {c : Nat} (h1 : c ≠ 92) (h2 : c ≠ 34) (r : List Nat) : strip1 false e (c :: r) = (strip1 false false r).map (c :: ·) := by
  cases e with
  | true => rfl
  | false =>
    show (if c = 92 then _ else if c = 34 then _ else _) = _
    rw [if_neg h1, if_neg h2]
theorem strip1_tok : ∀ (w r : List Nat), (∀ c ∈ w, fSpec c = false) → strip1 false false (w ++ r) = (strip1 false false r).map (w ++ ·)
  | [], r, _ => by simp
  | c :: w, r, h => by
    have hc := h c (.head _)
    have h1 : c ≠ 92 := fun e => by subst e; exact absurd hc (by decide)
    have h2 : c ≠ 34 := fun e => by subst e; exact absurd hc (by decide)
    rw [List.cons_append, strip1_one false h1 h2, strip1_tok w r fun x hx => h x (.tail _ hx), Option.map_map]
    rfl

noncomputable def outerV : WV → WV
  | .quo _ => .eq
  | v => v
noncomputable def outerW (p : List Nat × WV) : List Nat × WV := (p.1, outerV p.2)
theorem strip_words : ∀ {ws : List (List Nat × WV)}, (∀ p ∈ ws, NmOk p.1 ∧ WordOk p) → strip1 false false (wordsT ws) = some (wordsT (ws.map outerW))
  | [], _ => rfl
  | (n, v) :: r, h => by
    obtain ⟨e, he⟩ := nm_strip (h (n, v) (.head _)).1
    have hw := (h (n, v) (.head _)).2
    have ih := strip_words (ws := r) fun p hp => h p (.tail _ hp)
    -- what separates
    have hsep : ∀ e, strip1 false e (sepT (wordsT r)) = some (sepT (wordsT (r.map outerW))) := fun e => by
      cases r with
      | nil => cases e <;> rfl
      | cons p r' =>
        obtain ⟨n', v'⟩ := p
        obtain ⟨x, u, hx, _⟩ := wordsT_head (v := v') (r := r') (h (n', v') (.tail _ (.head _))).2.1
        obtain ⟨x', u', hx', _⟩ := wordsT_head (v := outerV v') (r := r'.map outerW) (n := n') (h (n', v') (.tail _ (.head _))).2.1
        rw [hx] at ih ⊢
        have e2 : wordsT (((n', v') :: r').map outerW) = x' :: u' := hx'
        rw [e2] at ih ⊢
        show strip1 false e (59 :: 32 :: x :: u) = some (59 :: 32 :: x' :: u')
        rw [strip1_one e (by decide) (by decide), strip1_one false (by decide) (by decide), ih]
        rfl
    rw [wordsT_cons, he, List.map_cons, outerW, wordsT_cons]
    unfold behT
    cases v with
    | no =>
      show (strip1 false e (sepT (wordsT r))).map _ = _
      rw [hsep]; rfl
    | eq =>
      show (strip1 false e (61 :: sepT (wordsT r))).map _ = _
      rw [strip1_one e (by decide) (by decide), hsep]; rfl
    | tok w =>
      show (strip1 false e (61 :: (w ++ sepT (wordsT r)))).map _ = _
      rw [strip1_one e (by decide) (by decide), strip1_tok w _ fun c hc => ((hw.2.2 w rfl).2 c hc).2, hsep]; rfl
    | quo w =>
      have e3 : WV.text (.quo w) ++ sepT (wordsT r) = 61 :: 34 :: (escL w ++ 34 :: sepT (wordsT r)) := by
        show [61, 34] ++ escL w ++ [34] ++ _ = _
        simp
      show (strip1 false e (WV.text (.quo w) ++ sepT (wordsT r))).map _ = _
      rw [e3, strip1_one e (by decide) (by decide)]
      show ((strip1 true false (escL w ++ 34 :: sepT (wordsT r))).map _).map _ = _
      rw [strip1_in, hsep]; rfl

end P1

section D9
noncomputable def rowD (p : Nat × List Nat) : D := .tuple [.int (p.1 : Int), .str (S p.2)]
noncomputable def aboveI : Option Nat → Int
  | none => -1
  | some n => n
noncomputable def nestS (t : List Nat × Option Nat) (p : Nat × List Nat) : List Nat × Option Nat := match t.2 with
  | none => (t.1 ++ deepL p.2 p.1, some p.1)
  | some ab => if p.1 ≤ ab then (t.1 ++ shutL ab p.1 ++ [59, 32] ++ deepL p.2 p.1, some p.1) else (t.1 ++ [61] ++ List.replicate (2 ^ ab - 1) 92 ++ [34] ++ deepL p.2 p.1, some p.1)
noncomputable def nestR (rows : List (Nat × List Nat)) : List Nat × Option Nat := rows.foldl nestS ([], none)
noncomputable def nestL (rows : List (Nat × List Nat)) : List Nat := (nestR rows).1 ++ shutL ((nestR rows).2.getD 0) 0
noncomputable def RowOk (p : Nat × List Nat) : Prop := p.1 ≤ 10 ∧ p.2.length ≤ 10

theorem shutL_len {a b : Nat} (ha : a ≤ 10) : (shutL a b).length ≤ 10240 := by
  unfold shutL
  have h : ∀ x ∈ (List.range (a - b)).map fun i => markL (a - 1 - i), x.length ≤ 1024 := fun x hx => by
    obtain ⟨i, _, rfl⟩ := List.mem_map.mp hx
    rw [markL_len]
    have : 2 ^ (a - 1 - i) ≤ 2 ^ 10 := Nat.pow_le_pow_right (by decide) (by (first | lia | omega))
    have : 1 ≤ 2 ^ (a - 1 - i) := Nat.one_le_two_pow
    (first | lia | omega)
  have h2 := sum_le h
  rw [List.length_map, List.length_range] at h2
  rw [List.length_flatten]
  have e : (((List.range (a - b)).map fun i => markL (a - 1 - i)).map fun x => x.length + ([] : List Nat).length) = ((List.range (a - b)).map fun i => markL (a - 1 - i)).map List.length := by
    congr 1
  rw [e] at h2
  (first | lia | omega)
theorem nestS_ok {t : List Nat × Option Nat} {p : Nat × List Nat} (hp : RowOk p) (ht : ∀ n, t.2 = some n → n ≤ 10) : (nestS t p).1.length ≤ t.1.length + 30000 ∧ ∀ n, (nestS t p).2 = some n → n ≤ 10 := by
  obtain ⟨h1, h2⟩ := hp
  have hd := deepL_len p.2 p.1
  have hpow : 2 ^ p.1 ≤ 2 ^ 10 := Nat.pow_le_pow_right (by decide) h1
  have hd2 : (deepL p.2 p.1).length ≤ 10240 := Nat.le_trans hd (Nat.le_trans (Nat.mul_le_mul h2 hpow) (by decide))
  unfold nestS
  split
  · exact ⟨by simp only [List.length_append]; (first | lia | omega), fun n hn => by cases hn; exact h1⟩
  · rename_i ab hab
    have hab := ht ab hab
    have hs := shutL_len (a := ab) (b := p.1) hab
    have hpa : 2 ^ ab ≤ 2 ^ 10 := Nat.pow_le_pow_right (by decide) hab
    split
    · exact ⟨by simp only [List.length_append, List.length_cons, List.length_nil]; (first | lia | omega), fun n hn => by cases hn; exact h1⟩
    · exact ⟨by simp only [List.length_append, List.length_cons, List.length_nil, List.length_replicate]; (first | lia | omega), fun n hn => by cases hn; exact h1⟩
theorem nestS_fold : ∀ (rows : List (Nat × List Nat)) (t : List Nat × Option Nat), (∀ p ∈ rows, RowOk p) → (∀ n, t.2 = some n → n ≤ 10) → (rows.foldl nestS t).1.length ≤ t.1.length + 30000 * rows.length ∧ ∀ n, (rows.foldl nestS t).2 = some n → n ≤ 10
  | [], t, _, ht => ⟨Nat.le_refl _, ht⟩
  | p :: r, t, h, ht => by
    obtain ⟨h1, h2⟩ := nestS_ok (h p (.head _)) ht
    obtain ⟨h3, h4⟩ := nestS_fold r (nestS t p) (fun q hq => h q (.tail _ hq)) h2
    rw [List.foldl_cons]
    refine ⟨?_, h4⟩
    rw [List.length_cons]
    (first | lia | omega)

theorem fn121 (c : Cx) : FnAt c.w 121 := ⟨_, _, by k_is, rfl⟩
theorem fn126 (c : Cx) : FnAt c.w 126 := ⟨_, _, by k_is, rfl⟩
theorem nest_call {c : Cx} {rows : List (Nat × List Nat)} (hk : 8 ≤ c.k) (hrows : ∀ p ∈ rows, RowOk p) (hlen : rows.length ≤ 10) (hne : rows ≠ []) : OPs c (fun vs => call (.ref 133) vs) [.list (rows.map rowD)] (.str (S (nestL rows))) := by
  refine' call_def ⟨?k, ?g1, ?g2, ?g3, ?g4, ?g5, ?g6, ?g7, ?g8, ?g9⟩ ?hb ?hl ?hk ?h
  (case k => k_is)
  (case g3 => exact rfl)
  (case g1 => exact rfl)
  (case g2 => exact rfl)
  (case g4 => exact rfl)
  (case g5 => exact rfl)
  (case g6 => exact rfl)
  (case g7 => exact rfl)
  (case g8 => decide)
  (case g9 => k_is)
  case hb => 
    refine binds_pos (names := [Str.ofString "rows"]) ?_ rfl
    intro vs h
    obtain ⟨a, rfl⟩ := len1 h
    rfl
  case hl => rfl
  case hk => (first | lia | omega)
  case h =>
    rintro ⟨w, G, A, env, fz₀, s₀, k, st', room, kind, glob, bi, big, kA, kG, kN⟩ hw hG hk' L hL
    dsimp only at hw hG hk' hL
    subst hw hG hL
    have hsz : sizeLine = 16777216 := by decide
    obtain ⟨j, rfl⟩ : ∃ j, k = j + 7 := ⟨k - 7, by (first | lia | omega)⟩
    clear hk hk'
    (((with_reducible refine' ex_assign ?he_78 ?h_78 ?hx_78 ?ho_78 ?hs_78); (case he_78 => with_reducible exact ev_l0); (case hx_78 => exact rfl); (case ho_78 => exact rfl); (case hs_78 => exact rfl)))
    (((with_reducible refine' ex_assign ?he_79 ?h_79 ?hx_79 ?ho_79 ?hs_79); (case he_79 => ((with_reducible refine' ev_un ?wl200 ?wo200); (case wl200 => with_reducible exact ev_int); (case wo200 => with_reducible exact op_neg))); (case hx_79 => exact rfl); (case ho_79 => exact rfl); (case hs_79 => exact rfl)))
    refine' ex_forI (iters_list (ds := rows.map rowD) ?it1 ?it2) (fun i => [(Str.ofString "text", .str (S ((rows.take i).foldl nestS ([], none)).1)), (Str.ofString "above", .int (aboveI ((rows.take i).foldl nestS ([], none)).2))]) (fun _ => []) ?h0 ?hw0 ?turn ?fin ?hs
    case it1 => ((with_reducible refine' ev_name ?wx201 ?wy201 ?wz201); (case wx201 => exact rfl); (case wy201 => decide); (case wz201 => decide))
    case it2 => (intro d hd; obtain ⟨p, _, rfl⟩ := List.mem_map.mp hd; exact rfl)
    case h0 => (repeat' (first | (with_reducible refine List.forall_mem_cons.mpr ⟨?_, ?_⟩) | exact rfl | (intro p hp; exact nomatch hp)))
    case hw0 => exact rfl
    case hs => exact fun _ => rfl
    case fin =>
      rw [List.length_map, List.take_length]
      obtain ⟨h1, h2⟩ := nestS_fold rows ([], none) hrows (fun n hn => nomatch hn)
      unfold nestL nestR
      have hsome : ∃ n, (rows.foldl nestS ([], none)).2 = some n := by
        rcases List.eq_nil_or_concat rows with rfl | ⟨r, p, rfl⟩
        · exact absurd rfl hne
        · rw [List.concat_eq_append, List.foldl_append]
          show ∃ n, (nestS _ p).2 = some n
          unfold nestS
          split
          · exact ⟨_, rfl⟩
          · split
            · exact ⟨_, rfl⟩
            · exact ⟨_, rfl⟩
      generalize rows.foldl nestS ([], none) = rr at h1 h2 hsome
      obtain ⟨text, ab⟩ := rr
      dsimp only at h1 h2 hsome ⊢
      obtain ⟨n, rfl⟩ := hsome
      have hn := h2 n rfl
      have hsl := shutL_len (a := n) (b := 0) hn
      have htl : text.length ≤ 300000 := by
        have h1 : text.length ≤ 0 + 30000 * rows.length := h1
        (first | lia | omega)
      refine ex_return ?_
      refine' ev_bin ?p1 ?p2 ?p3
      case p1 => ((with_reducible refine' ev_name ?wx202 ?wy202 ?wz202); (case wx202 => exact rfl); (case wy202 => decide); (case wz202 => decide))
      case p2 =>
        ((refine' ev_call ?hx_81 ?hn_81 ?hf_81 ?hes_81 ?h_81 ?hs_81 ?hd_81; (case hx_81 => exact rfl); (case hn_81 => k_is); (case hes_81 => ((refine' evs_cons ?wa203 ?wb203 ?wc203); (case wa203 => ((with_reducible refine' ev_name ?wx204 ?wy204 ?wz204); (case wx204 => exact rfl); (case wy204 => decide); (case wz204 => decide))); (case wb203 => ((refine' evs_cons ?wa205 ?wb205 ?wc205); (case wa205 => with_reducible exact ev_int); (case wb205 => exact evs_nil); (case wc205 => exact fun _ => rfl))); (case wc203 => exact fun _ => rfl))); (case hs_81 => exact fun _ => rfl); (case hd_81 => decide)))
        any_goals (first | exact fn126 _ | exact shut_call (a := n) (b := 0) (Nat.le_trans (by decide : 4 ≤ 7) (Nat.le_add_left 7 j)) (Nat.zero_le _) hn)
      case p3 => exact op_catS (by show text.length + (shutL n 0).length ≤ _; (first | lia | omega))
    case turn =>
      intro i es hi hes
      rw [List.length_map] at hi
      have hpk := hrows _ (List.getElem_mem hi)
      have e1 : (rows.map rowD).getD i .none = rowD rows[i] := by rw [List.getD_eq_getElem?_getD, List.getElem?_map, List.getElem?_eq_getElem hi]; rfl
      obtain ⟨h1, h2⟩ := nestS_fold (rows.take i) ([], none) (fun p hp => hrows p (List.mem_of_mem_take hp)) (fun n hn => nomatch hn)
      have e2 : (rows.take (i + 1)).foldl nestS ([], none) = nestS ((rows.take i).foldl nestS ([], none)) rows[i] := by
        rw [List.take_succ_eq_append_getElem hi, List.foldl_append]; rfl
      rw [e1, e2]
      have hti : (rows.take i).length ≤ 10 := Nat.le_trans (List.length_take_le' ..) hlen
      generalize rows[i] = pp at hpk
      generalize (rows.take i).foldl nestS ([], none) = rr at h1 h2
      obtain ⟨p, nm⟩ := pp
      obtain ⟨text, ab⟩ := rr
      obtain ⟨hp1, hp2⟩ := hpk
      dsimp only at h1 h2 hp1 hp2
      have htl : text.length ≤ 300000 := by
        have h1 : text.length ≤ 0 + 30000 * (rows.take i).length := h1
        (first | lia | omega)
      have hdl : (deepL nm p).length ≤ 10240 := by
        have hpow : 2 ^ p ≤ 2 ^ 10 := Nat.pow_le_pow_right (by decide) hp1
        exact Nat.le_trans (deepL_len nm p) (Nat.le_trans (Nat.mul_le_mul hp2 hpow) (by decide))
      refine' ⟨_, as_pair (d₁ := .int (p : Int)) (d₂ := .str (S nm)) ?a1 ?a2 ?a3 ?a4, ?bod⟩
      case a1 => exact rfl
      case a2 => (refine any_es (by assumption) ?_; exact rfl)
      case a3 => exact rfl
      case a4 => (refine any_es (by assumption) ?_; exact rfl)
      case bod =>
        cases ab with
        | none =>
          have es : nestS (text, none) (p, nm) = (text ++ deepL nm p, some p) := rfl
          rw [es]
          dsimp only [aboveI]
          refine' ex_if (b := false) ?t2 ?a2 ?b2
          case t2 => refine' tv_eq ?t21 ?t22; (case t21 => (first | ((with_reducible refine' tv_cmp ?hl_82 ?hr_82 ?h_82 ?hm_82); (case hl_82 => ((with_reducible refine' ev_name ?wx206 ?wy206 ?wz206); (case wx206 => exact rfl); (case wy206 => decide); (case wz206 => decide))); (case hr_82 => ((with_reducible refine' ev_name ?wx207 ?wy207 ?wz207); (case wx207 => exact rfl); (case wy207 => decide); (case wz207 => decide))); (case h_82 => with_reducible exact op_le); (case hm_82 => with_unfolding_all exact rfl)) | done)); (case t22 => exact decide_eq_false (by (first | lia | omega)))
          case a2 => intro h; cases h
          case b2 =>
            intro _
            show EX _ _ _ (_ :: _) _
            refine' ex_if (b := false) ?t3 ?a3 ?b3
            case t3 => refine' tv_eq ?t31 ?t32; (case t31 => (first | ((with_reducible refine' tv_cmp ?hl_83 ?hr_83 ?h_83 ?hm_83); (case hl_83 => ((with_reducible refine' ev_name ?wx208 ?wy208 ?wz208); (case wx208 => exact rfl); (case wy208 => decide); (case wz208 => decide))); (case hr_83 => with_reducible exact ev_int); (case h_83 => with_reducible exact op_ge); (case hm_83 => with_unfolding_all exact rfl)) | done)); (case t32 => exact decide_eq_false (by (first | lia | omega)))
            case a3 => intro h; cases h
            case b3 =>
              intro _
              show EX _ _ _ [_, _] _
              refine' ex_assign ?m6 ?m7 ?m8 ?m9 ?m10
              case m6 =>
                refine' ev_bin ?p1 ?p2 ?p3
                case p1 => ((with_reducible refine' ev_name ?wx209 ?wy209 ?wz209); (case wx209 => exact rfl); (case wy209 => decide); (case wz209 => decide))
                case p2 => (((refine' ev_call ?hx_84 ?hn_84 ?hf_84 ?hes_84 ?h_84 ?hs_84 ?hd_84; (case hx_84 => exact rfl); (case hn_84 => k_is); (case hes_84 => ((refine' evs_cons ?wa210 ?wb210 ?wc210); (case wa210 => ((with_reducible refine' ev_name ?wx211 ?wy211 ?wz211); (case wx211 => exact rfl); (case wy211 => decide); (case wz211 => decide))); (case wb210 => ((refine' evs_cons ?wa212 ?wb212 ?wc212); (case wa212 => ((with_reducible refine' ev_name ?wx213 ?wy213 ?wz213); (case wx213 => exact rfl); (case wy213 => decide); (case wz213 => decide))); (case wb212 => exact evs_nil); (case wc212 => exact fun _ => rfl))); (case wc210 => exact fun _ => rfl))); (case hs_84 => exact fun _ => rfl); (case hd_84 => decide))); any_goals (first | exact fn121 _ | exact deep_call (l := nm) (n := p) (Nat.le_trans (by decide : 1 ≤ 7) (Nat.le_add_left 7 j)) hp2 hp1))
                case p3 => exact op_catS (by (first | lia | omega))
              case m8 => exact rfl
              case m9 => (refine any_es (by assumption) ?_; exact rfl)
              case m10 => exact rfl
              case m7 =>
                (((with_reducible refine' ex_assign ?he_85 ?h_85 ?hx_85 ?ho_85 ?hs_85); (case he_85 => ((with_reducible refine' ev_name ?wx214 ?wy214 ?wz214); (case wx214 => exact rfl); (case wy214 => decide); (case wz214 => decide))); (case hx_85 => exact rfl); (case ho_85 => (refine any_es (by assumption) ?_; exact rfl)); (case hs_85 => exact rfl)))
                exact ex_nil fun fz s F => ⟨rfl, F.weaken (by (repeat' (first | (with_reducible refine List.forall_mem_cons.mpr ⟨?_, ?_⟩) | exact rfl | (intro p hp; exact nomatch hp))))⟩
        | some ab =>
          have hab := h2 ab rfl
          have hpa : 2 ^ ab ≤ 2 ^ 10 := Nat.pow_le_pow_right (by decide) hab
          have hpa1 : 1 ≤ 2 ^ ab := Nat.one_le_two_pow
          have hsl := shutL_len (a := ab) (b := p) hab
          dsimp only [aboveI]
          refine' ex_if (b := decide ((p : Int) ≤ (ab : Int))) ?t2 ?a2 ?b2
          case t2 => (first | ((with_reducible refine' tv_cmp ?hl_87 ?hr_87 ?h_87 ?hm_87); (case hl_87 => ((with_reducible refine' ev_name ?wx215 ?wy215 ?wz215); (case wx215 => exact rfl); (case wy215 => decide); (case wz215 => decide))); (case hr_87 => ((with_reducible refine' ev_name ?wx216 ?wy216 ?wz216); (case wx216 => exact rfl); (case wy216 => decide); (case wz216 => decide))); (case h_87 => with_reducible exact op_le); (case hm_87 => with_unfolding_all exact rfl)) | done)
          case a2 =>
            intro h
            have h : (p : Int) ≤ (ab : Int) := by simpa using h
            have h : p ≤ ab := by (first | lia | omega)
            have es : nestS (text, some ab) (p, nm) = (text ++ shutL ab p ++ [59, 32] ++ deepL nm p, some p) := if_pos h
            rw [es]
            show EX _ _ _ [_, _, _] _
            refine' ex_assign ?m6 ?m7 ?m8 ?m9 ?m10
            case m6 =>
              refine' ev_bin ?p1 ?p2 ?p3
              case p1 =>
                refine' ev_bin ?p4 ?p5 ?p6
                case p4 => ((with_reducible refine' ev_name ?wx217 ?wy217 ?wz217); (case wx217 => exact rfl); (case wy217 => decide); (case wz217 => decide))
                case p5 => (((refine' ev_call ?hx_88 ?hn_88 ?hf_88 ?hes_88 ?h_88 ?hs_88 ?hd_88; (case hx_88 => exact rfl); (case hn_88 => k_is); (case hes_88 => ((refine' evs_cons ?wa218 ?wb218 ?wc218); (case wa218 => ((with_reducible refine' ev_name ?wx219 ?wy219 ?wz219); (case wx219 => exact rfl); (case wy219 => decide); (case wz219 => decide))); (case wb218 => ((refine' evs_cons ?wa220 ?wb220 ?wc220); (case wa220 => ((with_reducible refine' ev_name ?wx221 ?wy221 ?wz221); (case wx221 => exact rfl); (case wy221 => decide); (case wz221 => decide))); (case wb220 => exact evs_nil); (case wc220 => exact fun _ => rfl))); (case wc218 => exact fun _ => rfl))); (case hs_88 => exact fun _ => rfl); (case hd_88 => decide))); any_goals (first | exact fn126 _ | exact shut_call (a := ab) (b := p) (Nat.le_trans (by decide : 4 ≤ 7) (Nat.le_add_left 7 j)) h hab))
                case p6 => exact op_catS (by (first | lia | omega))
              case p2 => with_reducible exact ev_semi
              case p3 => exact op_catS (by simp only [List.length_append, List.length_cons, List.length_nil]; (first | lia | omega))
            case m8 => exact rfl
            case m9 => (refine any_es (by assumption) ?_; exact rfl)
            case m10 => exact rfl
            case m7 =>
              refine' ex_assign ?m11 ?m12 ?m13 ?m14 ?m15
              case m11 =>
                refine' ev_bin ?p1 ?p2 ?p3
                case p1 => ((with_reducible refine' ev_name ?wx222 ?wy222 ?wz222); (case wx222 => exact rfl); (case wy222 => decide); (case wz222 => decide))
                case p2 => (((refine' ev_call ?hx_89 ?hn_89 ?hf_89 ?hes_89 ?h_89 ?hs_89 ?hd_89; (case hx_89 => exact rfl); (case hn_89 => k_is); (case hes_89 => ((refine' evs_cons ?wa223 ?wb223 ?wc223); (case wa223 => ((with_reducible refine' ev_name ?wx224 ?wy224 ?wz224); (case wx224 => exact rfl); (case wy224 => decide); (case wz224 => decide))); (case wb223 => ((refine' evs_cons ?wa225 ?wb225 ?wc225); (case wa225 => ((with_reducible refine' ev_name ?wx226 ?wy226 ?wz226); (case wx226 => exact rfl); (case wy226 => decide); (case wz226 => decide))); (case wb225 => exact evs_nil); (case wc225 => exact fun _ => rfl))); (case wc223 => exact fun _ => rfl))); (case hs_89 => exact fun _ => rfl); (case hd_89 => decide))); any_goals (first | exact fn121 _ | exact deep_call (l := nm) (n := p) (Nat.le_trans (by decide : 1 ≤ 7) (Nat.le_add_left 7 j)) hp2 hp1))
                case p3 => exact op_catS (by simp only [List.length_append, List.length_cons, List.length_nil]; (first | lia | omega))
              case m13 => exact rfl
              case m14 => (refine any_es (by assumption) ?_; exact rfl)
              case m15 => exact rfl
              case m12 =>
                (((with_reducible refine' ex_assign ?he_90 ?h_90 ?hx_90 ?ho_90 ?hs_90); (case he_90 => ((with_reducible refine' ev_name ?wx227 ?wy227 ?wz227); (case wx227 => exact rfl); (case wy227 => decide); (case wz227 => decide))); (case hx_90 => exact rfl); (case ho_90 => (refine any_es (by assumption) ?_; exact rfl)); (case hs_90 => exact rfl)))
                exact ex_nil fun fz s F => ⟨rfl, F.weaken (by (repeat' (first | (with_reducible refine List.forall_mem_cons.mpr ⟨?_, ?_⟩) | exact rfl | (intro p hp; exact nomatch hp))))⟩
          case b2 =>
            intro h
            have h : ¬ (p : Int) ≤ (ab : Int) := by simpa using h
            have h : ¬ p ≤ ab := by (first | lia | omega)
            have es : nestS (text, some ab) (p, nm) = (text ++ [61] ++ List.replicate (2 ^ ab - 1) 92 ++ [34] ++ deepL nm p, some p) := if_neg h
            rw [es]
            show EX _ _ _ (_ :: _) _
            refine' ex_if (b := true) ?t3 ?a3 ?b3
            case t3 => refine' tv_eq ?t31 ?t32; (case t31 => (first | ((with_reducible refine' tv_cmp ?hl_92 ?hr_92 ?h_92 ?hm_92); (case hl_92 => ((with_reducible refine' ev_name ?wx228 ?wy228 ?wz228); (case wx228 => exact rfl); (case wy228 => decide); (case wz228 => decide))); (case hr_92 => with_reducible exact ev_int); (case h_92 => with_reducible exact op_ge); (case hm_92 => with_unfolding_all exact rfl)) | done)); (case t32 => exact decide_eq_true (by (first | lia | omega)))
            case b3 => intro h; cases h
            case a3 =>
              intro _
              show EX _ _ _ [_, _, _] _
              refine' ex_assign ?m6 ?m7 ?m8 ?m9 ?m10
              case m6 => ((with_reducible refine' ev_bin ?wl229 ?wr229 ?wo229); (case wl229 => ((with_reducible refine' ev_bin ?wl230 ?wr230 ?wo230); (case wl230 => ((with_reducible refine' ev_bin ?wl231 ?wr231 ?wo231); (case wl231 => ((with_reducible refine' ev_name ?wx232 ?wy232 ?wz232); (case wx232 => exact rfl); (case wy232 => decide); (case wz232 => decide))); (case wr231 => with_reducible exact ev_eqs); (case wo231 => ((with_reducible refine op_catS ?_); (simp only [List.length_append, List.length_replicate, List.length_cons, List.length_nil] at *; (first | lia | omega)))))); (case wr230 => ((with_reducible refine' ev_bin ?wl233 ?wr233 ?wo233); (case wl233 => with_reducible exact ev_bs); (case wr233 => ((with_reducible refine' ev_bin ?wl234 ?wr234 ?wo234); (case wl234 => ((with_reducible refine' ev_bin ?wl235 ?wr235 ?wo235); (case wl235 => with_reducible exact ev_int); (case wr235 => ((with_reducible refine' ev_name ?wx236 ?wy236 ?wz236); (case wx236 => exact rfl); (case wy236 => decide); (case wz236 => decide))); (case wo235 => ((with_reducible refine op_pow ?_); (first | lia | omega))))); (case wr234 => with_reducible exact ev_int); (case wo234 => ((with_reducible refine op_sub1 ?_); assumption)))); (case wo233 => ((with_reducible refine op_mul1 ?_); (first | lia | omega))))); (case wo230 => ((with_reducible refine op_catS ?_); (simp only [List.length_append, List.length_replicate, List.length_cons, List.length_nil] at *; (first | lia | omega)))))); (case wr229 => with_reducible exact ev_qu); (case wo229 => ((with_reducible refine op_catS ?_); (simp only [List.length_append, List.length_replicate, List.length_cons, List.length_nil] at *; (first | lia | omega)))))
              case m8 => exact rfl
              case m9 => (refine any_es (by assumption) ?_; exact rfl)
              case m10 => exact rfl
              case m7 =>
                refine' ex_assign ?m11 ?m12 ?m13 ?m14 ?m15
                case m11 =>
                  refine' ev_bin ?p1 ?p2 ?p3
                  case p1 => ((with_reducible refine' ev_name ?wx237 ?wy237 ?wz237); (case wx237 => exact rfl); (case wy237 => decide); (case wz237 => decide))
                  case p2 => (((refine' ev_call ?hx_93 ?hn_93 ?hf_93 ?hes_93 ?h_93 ?hs_93 ?hd_93; (case hx_93 => exact rfl); (case hn_93 => k_is); (case hes_93 => ((refine' evs_cons ?wa238 ?wb238 ?wc238); (case wa238 => ((with_reducible refine' ev_name ?wx239 ?wy239 ?wz239); (case wx239 => exact rfl); (case wy239 => decide); (case wz239 => decide))); (case wb238 => ((refine' evs_cons ?wa240 ?wb240 ?wc240); (case wa240 => ((with_reducible refine' ev_name ?wx241 ?wy241 ?wz241); (case wx241 => exact rfl); (case wy241 => decide); (case wz241 => decide))); (case wb240 => exact evs_nil); (case wc240 => exact fun _ => rfl))); (case wc238 => exact fun _ => rfl))); (case hs_93 => exact fun _ => rfl); (case hd_93 => decide))); any_goals (first | exact fn121 _ | exact deep_call (l := nm) (n := p) (Nat.le_trans (by decide : 1 ≤ 7) (Nat.le_add_left 7 j)) hp2 hp1))
                  case p3 => exact op_catS (by simp only [List.length_append, List.length_cons, List.length_nil, List.length_replicate]; (first | lia | omega))
                case m13 => exact rfl
                case m14 => (refine any_es (by assumption) ?_; exact rfl)
                case m15 => exact rfl
                case m12 =>
                  (((with_reducible refine' ex_assign ?he_94 ?h_94 ?hx_94 ?ho_94 ?hs_94); (case he_94 => ((with_reducible refine' ev_name ?wx242 ?wy242 ?wz242); (case wx242 => exact rfl); (case wy242 => decide); (case wz242 => decide))); (case hx_94 => exact rfl); (case ho_94 => (refine any_es (by assumption) ?_; exact rfl)); (case hs_94 => exact rfl)))
                  exact ex_nil fun fz s F => ⟨rfl, F.weaken (by (repeat' (first | (with_reducible refine List.forall_mem_cons.mpr ⟨?_, ?_⟩) | exact rfl | (intro p hp; exact nomatch hp))))⟩
end D9

section D10
noncomputable def natD (x : Nat) : D := .int (x : Int)
noncomputable def wayD (w : List Nat) : D := .list (w.map natD)
noncomputable def wayNew (last : List (List Nat)) (d : Nat) : List Nat := if d < last.length then last.getD d [] ++ [0] else if d > 0 then last.getD (d - 1) [] ++ [1] else []
noncomputable def waysS (t : List (List Nat) × List (List Nat)) (d : Nat) : List (List Nat) × List (List Nat) := (t.1.take d ++ [wayNew t.1 d], t.2 ++ [wayNew t.1 d])
noncomputable def waysL (ds : List Nat) : List (List Nat) := (ds.foldl waysS ([], [])).2
noncomputable def chainOk : Nat → List Nat → Prop
  | _, [] => True
  | k, d :: r => d ≤ k ∧ chainOk (d + 1) r
theorem chain_take : ∀ (ds : List Nat) (t : List (List Nat) × List (List Nat)) (i : Nat) (h : i < ds.length), chainOk t.1.length ds → ds[i] ≤ ((ds.take i).foldl waysS t).1.length
  | d :: r, t, 0, _, h => h.1
  | d :: r, t, i + 1, hi, h => by
    rw [List.take_succ_cons, List.foldl_cons, List.getElem_cons_succ]
    refine chain_take r (waysS t d) i (by simpa using hi) ?_
    have : (waysS t d).1.length = d + 1 := by
      show (t.1.take d ++ [_]).length = _
      rw [List.length_append, List.length_take, Nat.min_eq_left h.1]; rfl
    rw [this]
    exact h.2
theorem ways_len : ∀ (ds : List Nat) (t : List (List Nat) × List (List Nat)), (ds.foldl waysS t).1.length ≤ t.1.length + ds.length ∧ (ds.foldl waysS t).2.length = t.2.length + ds.length
  | [], t => ⟨Nat.le_refl _, rfl⟩
  | d :: r, t => by
    obtain ⟨h1, h2⟩ := ways_len r (waysS t d)
    rw [List.foldl_cons]
    have e1 : (waysS t d).1.length ≤ t.1.length + 1 := by
      show (t.1.take d ++ [_]).length ≤ _
      rw [List.length_append, List.length_take]
      show min d t.1.length + 1 ≤ _
      (first | lia | omega)
    have e2 : (waysS t d).2.length = t.2.length + 1 := by
      show (t.2 ++ [_]).length = _
      rw [List.length_append]; rfl
    rw [List.length_cons]
    (first | lia | omega)
/- every way is at most as long as the words ahead -/
theorem ways_sz : ∀ (ds : List Nat) (t : List (List Nat) × List (List Nat)) (k : Nat), (∀ w ∈ t.1, w.length ≤ k) → ∀ w ∈ (ds.foldl waysS t).1, w.length ≤ k + ds.length
  | [], t, k, h, w, hw => h w hw
  | d :: r, t, k, h, w, hw => by
    rw [List.foldl_cons] at hw
    have := ways_sz r (waysS t d) (k + 1) (fun x hx => by
      rcases List.mem_append.mp (show x ∈ t.1.take d ++ [wayNew t.1 d] from hx) with hx | hx
      · exact Nat.le_succ_of_le (h x (List.mem_of_mem_take hx))
      · rw [List.mem_singleton.mp hx]
        have hg : ∀ j, (t.1.getD j []).length ≤ k := fun j => by
          rw [List.getD_eq_getElem?_getD]
          cases hj : t.1[j]? with
          | none => exact Nat.zero_le _
          | some y => exact h y (List.mem_of_getElem? hj)
        unfold wayNew
        split
        · rw [List.length_append]; exact Nat.add_le_add_right (hg _) _
        · split
          · rw [List.length_append]; exact Nat.add_le_add_right (hg _) _
          · exact Nat.zero_le _) w hw
    rw [List.length_cons]
    (first | lia | omega)

theorem ways_call {c : Cx} {ds : List Nat} (hk : 3 ≤ c.k) (hds : chainOk 0 ds) (hlen : ds.length ≤ 10) : OPs c (fun vs => call (.ref 140) vs) [.list (ds.map natD)] (.list ((waysL ds).map wayD)) := by
  refine' call_def ⟨?k, ?g1, ?g2, ?g3, ?g4, ?g5, ?g6, ?g7, ?g8, ?g9⟩ ?hb ?hl ?hk ?h
  (case k => k_is)
  (case g3 => exact rfl)
  (case g1 => exact rfl)
  (case g2 => exact rfl)
  (case g4 => exact rfl)
  (case g5 => exact rfl)
  (case g6 => exact rfl)
  (case g7 => exact rfl)
  (case g8 => decide)
  (case g9 => k_is)
  case hb => 
    refine binds_pos (names := [Str.ofString "depths"]) ?_ rfl
    intro vs h
    obtain ⟨a, rfl⟩ := len1 h
    rfl
  case hl => rfl
  case hk => (first | lia | omega)
  case h =>
    rintro ⟨w, G, A, env, fz₀, s₀, k, st', room, kind, glob, bi, big, kA, kG, kN⟩ hw hG hk' L hL
    dsimp only at hw hG hk' hL
    subst hw hG hL
    have hsz : sizeLine = 16777216 := by decide
    obtain ⟨j, rfl⟩ : ∃ j, k = j + 2 := ⟨k - 2, by (first | lia | omega)⟩
    clear hk hk'
    refine' ex_new (ds := []) ?n1 ?n2 ?n3 ?n4 ?n5 ?n6
    case n1 => exact evs_nil
    case n3 => exact rfl
    case n4 => exact rfl
    case n5 => exact rfl
    case n6 => decide
    case n2 =>
      intro aw
      refine' ex_assign ?m1 ?m2 ?m3 ?m4 ?m5
      case m1 => exact ev_list evs_nil (by decide)
      case m3 => exact rfl
      case m4 => exact rfl
      case m5 => exact rfl
      case m2 =>
        refine' ex_forI (iters_list (ds := ds.map natD) ?it1 ?it2) (fun i => [(Str.ofString "last", .list (((ds.take i).foldl waysS ([], [])).1.map wayD))]) (fun i => [⟨some (Str.ofString "ways"), aw, .list (((ds.take i).foldl waysS ([], [])).2.map wayD)⟩]) ?h0 ?hw0 ?turn ?fin ?hs
        case it1 => ((with_reducible refine' ev_name ?wx243 ?wy243 ?wz243); (case wx243 => exact rfl); (case wy243 => decide); (case wz243 => decide))
        case it2 => (intro d hd; obtain ⟨p, _, rfl⟩ := List.mem_map.mp hd; exact rfl)
        case h0 => (repeat' (first | (with_reducible refine List.forall_mem_cons.mpr ⟨?_, ?_⟩) | exact rfl | (intro p hp; exact nomatch hp)))
        case hw0 => exact rfl
        case hs => exact fun _ => rfl
        case fin =>
          rw [List.length_map, List.take_length]
          refine ex_freeze1 rfl ?_
          refine ex_return ?_
          ((with_reducible refine' ev_name ?wx244 ?wy244 ?wz244); (case wx244 => exact rfl); (case wy244 => decide); (case wz244 => decide))
        case turn =>
          intro i es hi hes
          rw [List.length_map] at hi
          have e1 : (ds.map natD).getD i .none = .int (ds[i] : Int) := by rw [List.getD_eq_getElem?_getD, List.getElem?_map, List.getElem?_eq_getElem hi]; rfl
          have e2 : (ds.take (i + 1)).foldl waysS ([], []) = waysS ((ds.take i).foldl waysS ([], [])) ds[i] := by
            rw [List.take_succ_eq_append_getElem hi, List.foldl_append]; rfl
          have hch := chain_take ds ([], []) i hi hds
          obtain ⟨hl1, hl2⟩ := ways_len (ds.take i) ([], [])
          have hwsz := ways_sz (ds.take i) ([], []) 0 (fun w hw => nomatch hw)
          rw [e1, e2]
          have hti : (ds.take i).length ≤ 10 := Nat.le_trans (List.length_take_le' ..) hlen
          generalize ds[i] = dep at hch
          generalize (ds.take i).foldl waysS ([], []) = rr at hch hl1 hl2 hwsz
          obtain ⟨last, ways⟩ := rr
          dsimp only at hch hl1 hl2 hwsz
          have hlast : last.length ≤ 10 := by (have : last.length ≤ 0 + _ := hl1; (first | lia | omega))
          have hways : ways.length ≤ 10 := by (have : ways.length = 0 + _ := hl2; (first | lia | omega))
          have hitem : ∀ k, k < last.length → (last.map wayD)[k]? = some (wayD (last.getD k [])) := fun k hk => by
            rw [List.getElem?_map, List.getD_eq_getElem?_getD, List.getElem?_eq_getElem hk]; rfl
          have hwl : ∀ k, (last.getD k []).length ≤ 20 := fun k => by
            rw [List.getD_eq_getElem?_getD]
            cases hj : last[k]? with
            | none => exact Nat.zero_le _
            | some y => (have := hwsz y (List.mem_of_getElem? hj); show y.length ≤ 20; (first | lia | omega))
          refine ⟨_, (by ((refine' as_name ?h1_98 ?h2_98; (case h1_98 => exact rfl); (case h2_98 => (refine any_es (by assumption) ?_; exact rfl))))), ?_⟩
          have happ : ∀ (v : List Nat) (x : Nat), D.list (v.map natD ++ [natD x]) = wayD (v ++ [x]) := fun v x => by unfold wayD; rw [List.map_append]; rfl
          have hR1 : ∀ w : List Nat, (last.take dep ++ [w]).map wayD = (last.map wayD).take dep ++ [wayD w] := fun w => by rw [List.map_append, List.map_take]; rfl
          have hR2 : ∀ w : List Nat, (ways ++ [w]).map wayD = ways.map wayD ++ [wayD w] := fun w => List.map_append
          refine' ex_if (b := decide ((dep : Int) < (last.length : Int))) ?t1 ?a1 ?b1
          case t1 =>
            refine' tv_eq (tv_cmp ?hl ?hr op_lt ?hm) ?heq
            case hl => ((with_reducible refine' ev_name ?wx245 ?wy245 ?wz245); (case wx245 => exact rfl); (case wy245 => decide); (case wz245 => decide))
            case hr => (refine' ev_builtin1 (id := "len") (ds := [.list (last.map wayD)]) ?l1 ?l2 ?l3 ?l4 ?l5 ?l6 ?l7 ?l8; (case l1 => exact rfl); (case l2 => k_is); (case l3 => exact rfl); (case l4 => ((refine' evs_cons ?wa246 ?wb246 ?wc246); (case wa246 => ((with_reducible refine' ev_name ?wx247 ?wy247 ?wz247); (case wx247 => exact rfl); (case wy247 => decide); (case wz247 => decide))); (case wb246 => exact evs_nil); (case wc246 => exact fun _ => rfl))); (case l5 => exact op_len_list (by rw [List.length_map]; (first | lia | omega))); (case l6 => exact rfl); (case l7 => decide); (case l8 => decide))
            case hm => with_unfolding_all exact rfl
            case heq => rw [List.length_map]
          case a1 =>
            intro h
            have h : (dep : Int) < (last.length : Int) := by simpa using h
            have h : dep < last.length := by (first | lia | omega)
            have ew : wayNew last dep = last.getD dep [] ++ [0] := if_pos h
            unfold waysS
            rw [ew, hR1, hR2]
            show EX _ _ _ [_, _, _] _
            refine' ex_assign ?m6x ?m7x ?m8x ?m9x ?m10x
            case m6x =>
              refine' ev_eq (ev_bin (d₁ := wayD (last.getD (dep) [])) ?p1x ?p2x (op_addl ?p3x)) (happ _ 0)
              case p1x =>
                refine' ev_sub ?q1x ?q2x (op_item (ds := last.map wayD) (k := dep) (hitem _ h) (by (first | lia | omega)) (fun _ _ => rfl))
                case q1x => ((with_reducible refine' ev_name ?wx248 ?wy248 ?wz248); (case wx248 => exact rfl); (case wy248 => decide); (case wz248 => decide))
                case q2x => ((with_reducible refine' ev_name ?wx249 ?wy249 ?wz249); (case wx249 => exact rfl); (case wy249 => decide); (case wz249 => decide))
              case p2x => exact ev_list (evs_cons ev_int evs_nil (fun _ => rfl)) (by show 1 ≤ sizeLine; decide)
              case p3x => (have := hwl (dep); rw [List.length_map]; show _ + 1 ≤ _; (first | lia | omega))
            case m8x => exact rfl
            case m9x => (refine any_es (by assumption) ?_; exact rfl)
            case m10x => exact rfl
            case m7x =>
              refine' ex_assign ?m11x ?m12x ?m13x ?m14x ?m15x
              case m11x =>
                refine' ev_bin (d₁ := .list ((last.map wayD).take dep)) (d₂ := .list [wayD (last.getD dep [] ++ [0])]) ?p4x ?p5x (op_addl ?p6x)
                case p4x =>
                  refine' ev_eq (ev_cutL (sw := true) (l := none) (u := some (dep : Int)) (t := none) ?v1x part_none ?v2x part_none (by simp) ?v3x (fun _ _ => rfl)) ?v4x
                  case v1x => ((with_reducible refine' ev_name ?wx250 ?wy250 ?wz250); (case wx250 => exact rfl); (case wy250 => decide); (case wz250 => decide))
                  case v2x => (refine' part_some ?v8x; (case v8x => ((with_reducible refine' ev_name ?wx251 ?wy251 ?wz251); (case wx251 => exact rfl); (case wy251 => decide); (case wz251 => decide))))
                  case v3x => (rw [List.length_map]; show last.length ≤ _; (first | lia | omega))
                  case v4x => exact congrArg D.list (pick_ns _ _)
                case p5x => exact ev_list (evs_cons (by ((with_reducible refine' ev_name ?wx252 ?wy252 ?wz252); (case wx252 => exact rfl); (case wy252 => decide); (case wz252 => decide))) evs_nil (fun _ => rfl)) (by show 1 ≤ sizeLine; decide)
                case p6x => (simp only [List.length_take, List.length_map, List.length_cons, List.length_nil]; (first | lia | omega))
              case m13x => exact rfl
              case m14x => (refine any_es (by assumption) ?_; exact rfl)
              case m15x => exact rfl
              case m12x =>
                refine' ex_append_es (x := Str.ofString "ways") (a := aw) (ds := ways.map wayD) hes ?k1x ?k2x ?k3x ?k4x ?k5x ?k6x ?k7x ?k8x
                case k1x => ((with_reducible refine' ev_name ?wx253 ?wy253 ?wz253); (case wx253 => exact rfl); (case wy253 => decide); (case wz253 => decide))
                case k2x => exact rfl
                case k3x => exact (by simp)
                case k5x => (rw [List.length_map, hsz]; (first | lia | omega))
                case k6x => exact rfl
                case k7x => decide
                case k8x => exact fun _ => rfl
                case k4x => exact ex_nil fun fz s F => ⟨rfl, F.weaken (by (repeat' (first | (with_reducible refine List.forall_mem_cons.mpr ⟨?_, ?_⟩) | exact rfl | (intro p hp; exact nomatch hp))))⟩
          case b1 =>
            intro h
            have h : ¬ (dep : Int) < (last.length : Int) := by simpa using h
            have h : ¬ dep < last.length := by (first | lia | omega)
            show EX _ _ _ (_ :: _) _
            refine' ex_if (b := decide ((dep : Int) > 0)) ?t2 ?a2 ?b2
            case t2 => (first | ((with_reducible refine' tv_cmp ?hl_100 ?hr_100 ?h_100 ?hm_100); (case hl_100 => ((with_reducible refine' ev_name ?wx254 ?wy254 ?wz254); (case wx254 => exact rfl); (case wy254 => decide); (case wz254 => decide))); (case hr_100 => with_reducible exact ev_int); (case h_100 => with_reducible exact op_gt); (case hm_100 => with_unfolding_all exact rfl)) | done)
            case a2 =>
              intro h2
              have h2 : (dep : Int) > 0 := by simpa using h2
              have h2 : dep > 0 := by (first | lia | omega)
              have ew : wayNew last dep = last.getD (dep - 1) [] ++ [1] := (if_neg h).trans (if_pos h2)
              unfold waysS
              rw [ew, hR1, hR2]
              show EX _ _ _ [_, _, _] _
              refine' ex_assign ?m6y ?m7y ?m8y ?m9y ?m10y
              case m6y =>
                refine' ev_eq (ev_bin (d₁ := wayD (last.getD (dep - 1) [])) ?p1y ?p2y (op_addl ?p3y)) (happ _ 1)
                case p1y =>
                  refine' ev_sub ?q1y ?q2y (op_item (ds := last.map wayD) (k := dep - 1) (hitem _ (by (first | lia | omega))) (by (first | lia | omega)) (fun _ _ => rfl))
                  case q1y => ((with_reducible refine' ev_name ?wx255 ?wy255 ?wz255); (case wx255 => exact rfl); (case wy255 => decide); (case wz255 => decide))
                  case q2y => ((with_reducible refine' ev_bin ?wl256 ?wr256 ?wo256); (case wl256 => ((with_reducible refine' ev_name ?wx257 ?wy257 ?wz257); (case wx257 => exact rfl); (case wy257 => decide); (case wz257 => decide))); (case wr256 => with_reducible exact ev_int); (case wo256 => ((with_reducible refine op_sub1 ?_); assumption)))
                case p2y => exact ev_list (evs_cons ev_int evs_nil (fun _ => rfl)) (by show 1 ≤ sizeLine; decide)
                case p3y => (have := hwl (dep - 1); rw [List.length_map]; show _ + 1 ≤ _; (first | lia | omega))
              case m8y => exact rfl
              case m9y => (refine any_es (by assumption) ?_; exact rfl)
              case m10y => exact rfl
              case m7y =>
                refine' ex_assign ?m11y ?m12y ?m13y ?m14y ?m15y
                case m11y =>
                  refine' ev_bin (d₁ := .list ((last.map wayD).take dep)) (d₂ := .list [wayD (last.getD (dep - 1) [] ++ [1])]) ?p4y ?p5y (op_addl ?p6y)
                  case p4y =>
                    refine' ev_eq (ev_cutL (sw := true) (l := none) (u := some (dep : Int)) (t := none) ?v1y part_none ?v2y part_none (by simp) ?v3y (fun _ _ => rfl)) ?v4y
                    case v1y => ((with_reducible refine' ev_name ?wx258 ?wy258 ?wz258); (case wx258 => exact rfl); (case wy258 => decide); (case wz258 => decide))
                    case v2y => (refine' part_some ?v8y; (case v8y => ((with_reducible refine' ev_name ?wx259 ?wy259 ?wz259); (case wx259 => exact rfl); (case wy259 => decide); (case wz259 => decide))))
                    case v3y => (rw [List.length_map]; show last.length ≤ _; (first | lia | omega))
                    case v4y => exact congrArg D.list (pick_ns _ _)
                  case p5y => exact ev_list (evs_cons (by ((with_reducible refine' ev_name ?wx260 ?wy260 ?wz260); (case wx260 => exact rfl); (case wy260 => decide); (case wz260 => decide))) evs_nil (fun _ => rfl)) (by show 1 ≤ sizeLine; decide)
                  case p6y => (simp only [List.length_take, List.length_map, List.length_cons, List.length_nil]; (first | lia | omega))
                case m13y => exact rfl
                case m14y => (refine any_es (by assumption) ?_; exact rfl)
                case m15y => exact rfl
                case m12y =>
                  refine' ex_append_es (x := Str.ofString "ways") (a := aw) (ds := ways.map wayD) hes ?k1y ?k2y ?k3y ?k4y ?k5y ?k6y ?k7y ?k8y
                  case k1y => ((with_reducible refine' ev_name ?wx261 ?wy261 ?wz261); (case wx261 => exact rfl); (case wy261 => decide); (case wz261 => decide))
                  case k2y => exact rfl
                  case k3y => exact (by simp)
                  case k5y => (rw [List.length_map, hsz]; (first | lia | omega))
                  case k6y => exact rfl
                  case k7y => decide
                  case k8y => exact fun _ => rfl
                  case k4y => exact ex_nil fun fz s F => ⟨rfl, F.weaken (by (repeat' (first | (with_reducible refine List.forall_mem_cons.mpr ⟨?_, ?_⟩) | exact rfl | (intro p hp; exact nomatch hp))))⟩
            case b2 =>
              intro h2
              have h2 : ¬ (dep : Int) > 0 := by simpa using h2
              have h2 : ¬ dep > 0 := by (first | lia | omega)
              have ew : wayNew last dep = [] := (if_neg h).trans (if_neg h2)
              unfold waysS
              rw [ew, hR1, hR2]
              show EX _ _ _ [_, _, _] _
              refine' ex_assign ?m6z ?m7z ?m8z ?m9z ?m10z
              case m6z => exact ev_eq (ev_list evs_nil (by decide)) (show D.list [] = wayD [] from rfl)
              case m8z => exact rfl
              case m9z => (refine any_es (by assumption) ?_; exact rfl)
              case m10z => exact rfl
              case m7z =>
                refine' ex_assign ?m11z ?m12z ?m13z ?m14z ?m15z
                case m11z =>
                  refine' ev_bin (d₁ := .list ((last.map wayD).take dep)) (d₂ := .list [wayD ([])]) ?p4z ?p5z (op_addl ?p6z)
                  case p4z =>
                    refine' ev_eq (ev_cutL (sw := true) (l := none) (u := some (dep : Int)) (t := none) ?v1z part_none ?v2z part_none (by simp) ?v3z (fun _ _ => rfl)) ?v4z
                    case v1z => ((with_reducible refine' ev_name ?wx262 ?wy262 ?wz262); (case wx262 => exact rfl); (case wy262 => decide); (case wz262 => decide))
                    case v2z => (refine' part_some ?v8z; (case v8z => ((with_reducible refine' ev_name ?wx263 ?wy263 ?wz263); (case wx263 => exact rfl); (case wy263 => decide); (case wz263 => decide))))
                    case v3z => (rw [List.length_map]; show last.length ≤ _; (first | lia | omega))
                    case v4z => exact congrArg D.list (pick_ns _ _)
                  case p5z => exact ev_list (evs_cons (by ((with_reducible refine' ev_name ?wx264 ?wy264 ?wz264); (case wx264 => exact rfl); (case wy264 => decide); (case wz264 => decide))) evs_nil (fun _ => rfl)) (by show 1 ≤ sizeLine; decide)
                  case p6z => (simp only [List.length_take, List.length_map, List.length_cons, List.length_nil]; (first | lia | omega))
                case m13z => exact rfl
                case m14z => (refine any_es (by assumption) ?_; exact rfl)
                case m15z => exact rfl
                case m12z =>
                  refine' ex_append_es (x := Str.ofString "ways") (a := aw) (ds := ways.map wayD) hes ?k1z ?k2z ?k3z ?k4z ?k5z ?k6z ?k7z ?k8z
                  case k1z => ((with_reducible refine' ev_name ?wx265 ?wy265 ?wz265); (case wx265 => exact rfl); (case wy265 => decide); (case wz265 => decide))
                  case k2z => exact rfl
                  case k3z => exact (by simp)
                  case k5z => (rw [List.length_map, hsz]; (first | lia | omega))
                  case k6z => exact rfl
                  case k7z => decide
                  case k8z => exact fun _ => rfl
                  case k4z => exact ex_nil fun fz s F => ⟨rfl, F.weaken (by (repeat' (first | (with_reducible refine List.forall_mem_cons.mpr ⟨?_, ?_⟩) | exact rfl | (intro p hp; exact nomatch hp))))⟩
end D10

section P2
open PySem PySem.W PySem.Spec PySem.Calls PyProof.Rows

/- ## nests: a word, what lies in it, its younger siblings -/
inductive Fo where
  | nil
  | cons (nm : List Nat) (ch sib : Fo)
noncomputable def Fo.isNil : Fo → Bool
  | .nil => true
  | _ => false
noncomputable def Fo.T : Fo → List Nat
  | .nil => []
  | .cons n ch sib => n ++ (if ch.isNil then [] else [61, 34] ++ escL ch.T ++ [34]) ++ sepT sib.T
noncomputable def Fo.size : Fo → Nat
  | .nil => 0
  | .cons _ ch sib => 1 + ch.size + sib.size
noncomputable def Fo.turn : Fo → Fo
  | .nil => .nil
  | .cons n ch sib => .cons n sib.turn ch.turn
noncomputable def Fo.Good : Fo → Prop
  | .nil => True
  | .cons n ch sib => NmOk n ∧ ch.Good ∧ sib.Good

theorem Fo.turn_turn : ∀ f : Fo, f.turn.turn = f
  | .nil => rfl
  | .cons n ch sib => by simp only [Fo.turn, Fo.turn_turn ch, Fo.turn_turn sib]
theorem Fo.turn_nil : ∀ f : Fo, f.turn.isNil = f.isNil
  | .nil => rfl
  | .cons _ _ _ => rfl
theorem Fo.turn_size : ∀ f : Fo, f.turn.size = f.size
  | .nil => rfl
  | .cons n ch sib => by simp only [Fo.turn, Fo.size, Fo.turn_size ch, Fo.turn_size sib]; (first | lia | omega)
theorem Fo.turn_good : ∀ {f : Fo}, f.Good → f.turn.Good
  | .nil, _ => trivial
  | .cons n ch sib, h => ⟨h.1, Fo.turn_good h.2.2, Fo.turn_good h.2.1⟩
theorem Fo.nil_of {f : Fo} (h : f.isNil = true) : f = .nil := by cases f with
  | nil => rfl
  | cons _ _ _ => cases h
theorem Fo.T_ne : ∀ {f : Fo}, f.Good → f.isNil = false → f.T ≠ []
  | .cons n ch sib, h, _ => by
    obtain ⟨⟨hn, _⟩, _⟩ := nm_ok h.1
    cases n with
    | nil => exact absurd rfl hn
    | cons x r => intro e; cases e
theorem sepT_alpha {l : List Nat} (h : ∀ c ∈ l, c ∈ alpha) : ∀ c ∈ sepT l, c ∈ alpha := by
  cases l with
  | nil => intro c hc; cases hc
  | cons x r =>
    intro c hc
    rcases List.mem_cons.mp (show c ∈ 59 :: 32 :: x :: r from hc) with rfl | hc
    · decide
    · rcases List.mem_cons.mp hc with rfl | hc
      · decide
      · exact h c hc
theorem Fo.T_alpha : ∀ {f : Fo}, f.Good → ∀ c ∈ f.T, c ∈ alpha
  | .nil, _, c, hc => nomatch hc
  | .cons n ch sib, h, c, hc => by
    obtain ⟨⟨_, hn⟩, _⟩ := nm_ok h.1
    rcases List.mem_append.mp (show c ∈ n ++ (if ch.isNil then [] else [61, 34] ++ escL ch.T ++ [34]) ++ sepT sib.T from hc) with hc | hc
    · rcases List.mem_append.mp hc with hc | hc
      · exact (hn c hc).1
      · split at hc
        · cases hc
        · rcases List.mem_append.mp hc with hc | hc
          · rcases List.mem_append.mp hc with hc | hc
            · have key : ∀ c ∈ [61, 34], c ∈ alpha := by decide
              exact key c hc
            · exact escL_alpha (Fo.T_alpha h.2.1) c hc
          · rw [List.mem_singleton.mp hc]; decide
    · exact sepT_alpha (Fo.T_alpha h.2.2) c hc
theorem Fo.T_len : ∀ {f : Fo}, f.Good → f.T.length + 8 ≤ 8 * 2 ^ f.size
  | .nil, _ => Nat.le_refl _
  | .cons n ch sib, h => by
    obtain ⟨_, hn⟩ := nm_ok h.1
    have h1 := Fo.T_len h.2.1
    have h2 := Fo.T_len h.2.2
    have h3 := (escL_len ch.T).2
    have h4 := sepT_le sib.T
    have h5 : (n ++ (if ch.isNil then [] else [61, 34] ++ escL ch.T ++ [34]) ++ sepT sib.T).length ≤ 3 + (3 + 2 * ch.T.length) + (sib.T.length + 2) := by
      rw [List.length_append, List.length_append]
      have : (if ch.isNil then [] else [61, 34] ++ escL ch.T ++ [34] : List Nat).length ≤ 3 + 2 * ch.T.length := by
        split
        · exact Nat.zero_le _
        · simp only [List.length_append, List.length_cons, List.length_nil]; (first | lia | omega)
      (first | lia | omega)
    show (n ++ (if ch.isNil then [] else [61, 34] ++ escL ch.T ++ [34]) ++ sepT sib.T).length + 8 ≤ 8 * 2 ^ (1 + ch.size + sib.size)
    have e : 2 ^ (1 + ch.size + sib.size) = 2 * (2 ^ ch.size * 2 ^ sib.size) := by rw [Nat.pow_add, Nat.pow_add]; simp [Nat.mul_assoc]
    rw [e]
    have hx : 1 ≤ 2 ^ ch.size := Nat.one_le_two_pow
    have hy : 1 ≤ 2 ^ sib.size := Nat.one_le_two_pow
    generalize 2 ^ ch.size = x at *
    generalize 2 ^ sib.size = y at *
    obtain ⟨a, rfl⟩ : ∃ a, x = a + 1 := ⟨x - 1, by (first | lia | omega)⟩
    obtain ⟨b, rfl⟩ : ∃ b, y = b + 1 := ⟨y - 1, by (first | lia | omega)⟩
    have e2 : (a + 1) * (b + 1) = a * b + a + b + 1 := by rw [Nat.add_mul, Nat.mul_add]; (first | lia | omega)
    rw [e2]
    (first | lia | omega)

/- ## words that stand for a nest -/
inductive VRep : WV → Fo → Prop
  | no : VRep .no .nil
  | quo {f : Fo} (h : f.isNil = false) : VRep (.quo f.T) f
  | tok {f : Fo} (h : f.isNil = false) (ht : TokOk f.T) : VRep (.tok f.T) f
inductive RepF : List (List Nat × WV) → Fo → Prop
  | nil : RepF [] .nil
  | cons {n : List Nat} {v : WV} {ch sib : Fo} {ws : List (List Nat × WV)} : VRep v ch → RepF ws sib → RepF ((n, v) :: ws) (.cons n ch sib)

noncomputable def Fo.ws : Fo → List (List Nat × WV)
  | .nil => []
  | .cons n ch sib => (n, if ch.isNil then .no else .quo ch.T) :: sib.ws
theorem Fo.ws_rep : ∀ f : Fo, RepF f.ws f
  | .nil => .nil
  | .cons n ch sib => by
    refine .cons ?_ (Fo.ws_rep sib)
    cases h : ch.isNil with
    | true => rw [Fo.nil_of h]; exact .no
    | false => exact .quo h
theorem Fo.ws_T : ∀ f : Fo, wordsT f.ws = f.T
  | .nil => rfl
  | .cons n ch sib => by
    show n ++ WV.text (if ch.isNil then .no else .quo ch.T) ++ sepT (wordsT sib.ws) = n ++ (if ch.isNil then [] else [61, 34] ++ escL ch.T ++ [34]) ++ sepT sib.T
    rw [Fo.ws_T sib]
    cases ch.isNil <;> rfl

theorem VRep.ok {v : WV} {f : Fo} (h : VRep v f) (hg : f.Good) : (∀ w, v = .quo w → ∀ c ∈ w, c ∈ alpha) ∧ (∀ w, v = .tok w → TokOk w) ∧ (v.text.length ≤ 3 + 2 * f.T.length) := by
  cases h with
  | no => exact ⟨fun w h => (nomatch h), fun w h => (nomatch h), Nat.zero_le _⟩
  | quo h =>
    refine ⟨fun w e => by cases e; exact Fo.T_alpha hg, fun w h => (nomatch h), ?_⟩
    have := (escL_len f.T).2
    show ([61, 34] ++ escL f.T ++ [34]).length ≤ _
    simp only [List.length_append, List.length_cons, List.length_nil]; (first | lia | omega)
  | tok h ht =>
    refine ⟨fun w h => (nomatch h), fun w e => by cases e; exact ht, ?_⟩
    show (61 :: f.T).length ≤ _
    rw [List.length_cons]; (first | lia | omega)
theorem RepF.ok : ∀ {ws : List (List Nat × WV)} {f : Fo}, RepF ws f → f.Good → ∀ p ∈ ws, NmOk p.1 ∧ WordOk p
  | _, _, .nil, _, p, hp => nomatch hp
  | _, _, .cons hv hr, hg, p, hp => by
    rcases List.mem_cons.mp hp with rfl | hp
    · obtain ⟨h1, h2, _⟩ := hv.ok hg.2.1
      exact ⟨hg.1, (nm_ok hg.1).1, h1, h2⟩
    · exact hr.ok hg.2.2 p hp
theorem RepF.len : ∀ {ws : List (List Nat × WV)} {f : Fo}, RepF ws f → f.Good → (wordsT ws).length + 8 ≤ 8 * 2 ^ f.size
  | _, _, .nil, _ => Nat.le_refl _
  | _, _, .cons (n := n) (v := v) (ch := ch) (sib := sib) (ws := ws) hv hr, hg => by
    obtain ⟨_, hn⟩ := nm_ok hg.1
    have h1 := Fo.T_len hg.2.1
    have h2 := hr.len hg.2.2
    have h3 := (hv.ok hg.2.1).2.2
    have h4 := sepT_le (wordsT ws)
    show (n ++ v.text ++ sepT (wordsT ws)).length + 8 ≤ 8 * 2 ^ (1 + ch.size + sib.size)
    rw [List.length_append, List.length_append]
    have e : 2 ^ (1 + ch.size + sib.size) = 2 * (2 ^ ch.size * 2 ^ sib.size) := by rw [Nat.pow_add, Nat.pow_add]; simp [Nat.mul_assoc]
    rw [e]
    have hx : 1 ≤ 2 ^ ch.size := Nat.one_le_two_pow
    have hy : 1 ≤ 2 ^ sib.size := Nat.one_le_two_pow
    generalize 2 ^ ch.size = x at *
    generalize 2 ^ sib.size = y at *
    obtain ⟨a, rfl⟩ : ∃ a, x = a + 1 := ⟨x - 1, by (first | lia | omega)⟩
    obtain ⟨b, rfl⟩ : ∃ b, y = b + 1 := ⟨y - 1, by (first | lia | omega)⟩
    have e2 : (a + 1) * (b + 1) = a * b + a + b + 1 := by rw [Nat.add_mul, Nat.mul_add]; (first | lia | omega)
    rw [e2]
    (first | lia | omega)
theorem RepF.count : ∀ {ws : List (List Nat × WV)} {f : Fo}, RepF ws f → ws.length ≤ f.size
  | _, _, .nil => Nat.le_refl _
  | _, _, .cons (ch := ch) (sib := sib) hv hr => by
    have := hr.count
    rw [List.length_cons]
    show _ ≤ 1 + ch.size + sib.size
    (first | lia | omega)

/- a word that is handed on -/
noncomputable def handV (f : Fo) : WV := if f.isNil then .no else if f.T.any fSpec then .quo f.T else .tok f.T
theorem handV_rep {f : Fo} (hg : f.Good) : VRep (handV f) f := by
  unfold handV
  cases h : f.isNil with
  | true => rw [Fo.nil_of h]; exact .no
  | false =>
    cases ha : f.T.any fSpec with
    | true => exact .quo h
    | false => exact .tok h ⟨Fo.T_ne hg h, fun c hc => ⟨Fo.T_alpha hg c hc, by simpa using List.any_eq_false.mp ha c hc⟩⟩
theorem VRep.val {v : WV} {f : Fo} (h : VRep v f) : v.val = if f.isNil then none else some f.T := by
  cases h with
  | no => rfl
  | quo h => rw [h]; rfl
  | tok h _ => rw [h]; rfl
theorem VRep.fmt {v : WV} {f : Fo} (h : VRep v f) (hg : f.Good) (n : List Nat) : fmtL n v.val false = n ++ (handV f).text := by
  rw [h.val]
  unfold handV
  cases hn : f.isNil with
  | true => show n = n ++ []; rw [List.append_nil]
  | false =>
    have hne := Fo.T_ne hg hn
    show fmtL n (some f.T) false = _
    cases ht : f.T with
    | nil => exact absurd ht hne
    | cons x r =>
      show (if (false || (x :: r).any fSpec) = true then n ++ [61, 34] ++ escL (x :: r) ++ [34] else n ++ [61] ++ (x :: r)) = n ++ WV.text (if (x :: r).any fSpec = true then .quo (x :: r) else .tok (x :: r))
      rw [Bool.false_or]
      split
      · show _ = n ++ ([61, 34] ++ escL (x :: r) ++ [34]); simp
      · show _ = n ++ (61 :: (x :: r)); simp
noncomputable def Fo.hand : Fo → List (List Nat × WV)
  | .nil => []
  | .cons n ch sib => (n, handV ch) :: sib.hand
theorem Fo.hand_rep : ∀ {f : Fo}, f.Good → RepF f.hand f
  | .nil, _ => .nil
  | .cons _ _ _, h => .cons (handV_rep h.2.1) (Fo.hand_rep h.2.2)
noncomputable def pairOf (p : List Nat × WV) : List Nat × Option (List Nat) := (p.1, p.2.val)
theorem hand_join {ws : List (List Nat × WV)} {f : Fo} (h : RepF ws f) : f.Good → joinL [59, 32] ((ws.map pairOf).map fun p => fmtL p.1 p.2 false) = wordsT f.hand := by
  induction h with
  | nil => exact fun _ => rfl
  | @cons n v ch sib ws hv hr ih =>
    intro hg
    cases hr with
    | nil =>
      show fmtL n v.val false = n ++ (handV ch).text ++ []
      rw [hv.fmt hg.2.1, List.append_nil]
    | @cons n' v' ch' sib' ws' hv' hr' =>
      have ih := ih hg.2.2
      show fmtL n v.val false ++ [59, 32] ++ joinL [59, 32] ((((n', v') :: ws').map pairOf).map fun p => fmtL p.1 p.2 false) = n ++ (handV ch).text ++ sepT (wordsT (Fo.hand (.cons n' ch' sib')))
      rw [ih, hv.fmt hg.2.1]
      obtain ⟨x, u, e, _⟩ := wordsT_head (v := handV ch') (r := sib'.hand) (nm_ok hg.2.2.1).1
      have e' : wordsT (Fo.hand (.cons n' ch' sib')) = x :: u := e
      rw [e', List.append_assoc]
      rfl

theorem fmt1_T (n : List Nat) (f : Fo) (hg : f.Good) : fmtL n (some f.T) true = n ++ (if f.isNil then [] else [61, 34] ++ escL f.T ++ [34]) := by
  cases hn : f.isNil with
  | true => rw [Fo.nil_of hn]; show n = n ++ []; rw [List.append_nil]
  | false =>
    have hne := Fo.T_ne hg hn
    cases ht : f.T with
    | nil => exact absurd ht hne
    | cons x r => show n ++ [61, 34] ++ escL (x :: r) ++ [34] = n ++ ([61, 34] ++ escL (x :: r) ++ [34]); simp
theorem turn_T (n : List Nat) (ch sib : Fo) (hg : sib.Good) : (Fo.cons n ch sib).turn.T = fmtL n (some sib.turn.T) true ++ sepT ch.turn.T := by
  rw [fmt1_T n sib.turn (Fo.turn_good hg)]; rfl

end P2

section D11
theorem split_empty {c : Cx} (hk : 6 ≤ c.k) : OPs c (fun vs => call (.ref 83) vs) [.list [.str (S [])]] (.list []) := by
  refine' call_def ⟨?k, ?g1, ?g2, ?g3, ?g4, ?g5, ?g6, ?g7, ?g8, ?g9⟩ ?hb ?hl ?hk ?h
  (case k => k_is)
  (case g3 => exact rfl)
  (case g1 => exact rfl)
  (case g2 => exact rfl)
  (case g4 => exact rfl)
  (case g5 => exact rfl)
  (case g6 => exact rfl)
  (case g7 => exact rfl)
  (case g8 => decide)
  (case g9 => k_is)
  case hb => 
    refine binds_pos (names := [Str.ofString "header_values"]) ?_ rfl
    intro vs h
    obtain ⟨a, rfl⟩ := len1 h
    rfl
  case hl => rfl
  case hk => (first | lia | omega)
  case h =>
    rintro ⟨w, G, A, env, fz₀, s₀, k, st', room, kind, glob, bi, big, kA, kG, kN⟩ hw hG hk' L hL
    dsimp only at hw hG hk' hL
    subst hw hG hL
    have hsz : sizeLine = 16777216 := by decide
    obtain ⟨j, rfl⟩ : ∃ j, k = j + 5 := ⟨k - 5, by (first | lia | omega)⟩
    clear hk hk'
    refine' ex_assert ?as1 ?as2
    case as1 =>
      refine' tv_not (b := false) (tv_val ?t1 opt_bool ?t2)
      case t1 => 
        refine' ev_isi rfl ?i1 ?i2 ?i3 ?i4 ?i5 ?i6
        case i1 => 
          refine' ev_name ?q1 ?q2 ?q3
          case q1 => exact rfl
          case q2 => decide
          case q3 => decide
        case i2 => exact rfl
        case i3 => k_is
        case i4 => exact rfl
        case i5 => k_is
        case i6 => exact fun _ => rfl
      case t2 => exact fun _ _ => rfl
    case as2 =>
      refine' ex_new (ds := []) ?n1 ?n2 ?n3 ?n4 ?n5 ?n6
      case n1 => exact evs_nil
      case n3 => exact rfl
      case n4 => exact rfl
      case n5 => exact rfl
      case n6 => decide
      case n2 =>
        intro ar
        refine' ex_forI (iters_list (ds := [.str (S [])]) ?it1 ?it2) (fun _ => []) (fun i => [⟨some (Str.ofString "result"), ar, .list []⟩]) ?h0 ?hw0 ?turn ?fin ?hs
        case it1 => ((with_reducible refine' ev_name ?wx266 ?wy266 ?wz266); (case wx266 => exact rfl); (case wy266 => decide); (case wz266 => decide))
        case it2 => (intro d hd; rw [List.mem_singleton.mp hd]; exact rfl)
        case h0 => (intro p hp; exact nomatch hp)
        case hw0 => exact rfl
        case hs => exact fun _ => rfl
        case fin => 
          refine ex_freeze1 rfl ?_
          refine ex_return ?_
          ((with_reducible refine' ev_name ?wx267 ?wy267 ?wz267); (case wx267 => exact rfl); (case wy267 => decide); (case wz267 => decide))
        case turn => 
          intro i es hi hes
          obtain rfl : i = 0 := by (have : i < 1 := hi); (first | lia | omega)
          refine ⟨_, (by ((refine' as_name ?h1_104 ?h2_104; (case h1_104 => exact rfl); (case h2_104 => (refine any_es (by assumption) ?_; exact rfl))))), ?_⟩
          (((with_reducible refine' ex_assign ?he_105 ?h_105 ?hx_105 ?ho_105 ?hs_105); (case he_105 => ((with_reducible refine' ev_name ?wx268 ?wy268 ?wz268); (case wx268 => exact rfl); (case wy268 => decide); (case wz268 => decide))); (case hx_105 => exact rfl); (case ho_105 => (refine any_es (by assumption) ?_; exact rfl)); (case hs_105 => exact rfl)))
          refine' ex_new (ds := []) ?n1 ?n2 ?n3 ?n4 ?n5 ?n6
          case n1 => exact evs_nil
          case n3 => exact rfl
          case n4 => (refine any_es (by assumption) ?_; exact rfl)
          case n5 => exact rfl
          case n6 => decide
          case n2 =>
            intro ap
            refine' ex_while 0 (fun j => [(Str.ofString "text", .str (S []))]) (fun j => ⟨some (Str.ofString "pairs"), ap, .list []⟩ :: (es ++ [⟨some (Str.ofString "result"), ar, .list []⟩])) ?h0 ?hw0 ?tests ?turn2 ?fin2
            case h0 => (repeat' (first | (with_reducible refine List.forall_mem_cons.mpr ⟨?_, ?_⟩) | exact rfl | (intro p hp; exact nomatch hp)))
            case hw0 => exact rfl
            case tests =>
              intro j hj
              obtain rfl : j = 0 := by (first | lia | omega)
              refine' tv_val ?tt1 (opt_strT (l := []) (by decide)) ?tt2
              case tt1 => ((with_reducible refine' ev_name ?wx269 ?wy269 ?wz269); (case wx269 => exact rfl); (case wy269 => decide); (case wz269 => decide))
              case tt2 => exact fun _ _ => rfl
            case turn2 =>
              intro jj hjj
              exact absurd hjj (Nat.not_lt_zero _)
            case fin2 => 
              refine ex_freeze1 rfl ?_
              refine' ex_if (b := false) ?t3 ?a3 ?b3
              case t3 =>
                refine' tv_val ?tt3 (opt_list (ds := []) (by decide)) ?tt5
                case tt3 => ((with_reducible refine' ev_name ?wx270 ?wy270 ?wz270); (case wx270 => exact rfl); (case wy270 => decide); (case wz270 => decide))
                case tt5 => exact fun _ _ => rfl
              case a3 => intro h; cases h
              case b3 =>
                intro _
                exact ex_nil fun fz s F => ⟨rfl, F.weaken fun p hp => nomatch hp⟩
end D11

section D12
theorem prD_pD (p : List Nat × WV) : prD p = pD (pairOf p) := by
  unfold prD pD pairOf
  cases p.2.val <;> rfl
theorem pD_dOpt (p : List Nat × Option (List Nat)) : pD p = .tuple [.str (S p.1), dOpt p.2] := by
  unfold pD dOpt
  cases p.2 <;> rfl
theorem range_get {α β : Type} (g : α → β) : ∀ l : List α, (List.range l.length).filterMap (fun i => (l[i]?).map g) = l.map g
  | [] => rfl
  | x :: l => by
    rw [List.length_cons, List.range_succ_eq_map, List.filterMap_cons]
    show g x :: List.filterMap _ (List.map Nat.succ (List.range l.length)) = _
    rw [List.filterMap_map, List.map_cons, ← range_get g l]
    rfl
theorem sepT_ne {l : List Nat} (h : l ≠ []) : sepT l = [59, 32] ++ l := by cases l with
  | nil => exact absurd rfl h
  | cons x r => rfl
theorem VRep.pair {n : List Nat} {v : WV} {f : Fo} (h : VRep v f) (hg : f.Good) (hs : f.size ≤ 8) (hn : NmOk n) : PairOk (pairOf (n, v)) := by
  refine ⟨Nat.le_trans (nm_ok hn).2 (by decide), fun x hx => ?_⟩
  have hx : v.val = some x := hx
  rw [h.val] at hx
  cases hnil : f.isNil with
  | true => rw [hnil] at hx; cases hx
  | false =>
    rw [hnil] at hx
    cases hx
    have := Fo.T_len hg
    have hp : 2 ^ f.size ≤ 2 ^ 8 := Nat.pow_le_pow_right (by decide) hs
    exact ⟨Fo.T_ne hg hnil, by (first | lia | omega), Fo.T_alpha hg⟩
theorem RepF.pairs : ∀ {ws : List (List Nat × WV)} {f : Fo}, RepF ws f → f.Good → f.size ≤ 8 → ∀ p ∈ ws.map pairOf, PairOk p
  | _, _, .nil, _, _, p, hp => nomatch hp
  | _, _, .cons (ch := ch) (sib := sib) hv hr, hg, hs, p, hp => by
    have hs : 1 + ch.size + sib.size ≤ 8 := hs
    rcases List.mem_cons.mp (show p ∈ pairOf _ :: List.map pairOf _ from hp) with rfl | hp
    · exact hv.pair hg.2.1 (by (first | lia | omega)) hg.1
    · exact hr.pairs hg.2.2 (by (first | lia | omega)) p hp

theorem sepT_mono {a b : List Nat} (h : a.length ≤ b.length) : (sepT a).length ≤ (sepT b).length := by
  cases a with
  | nil => exact Nat.zero_le _
  | cons x r => cases b with
    | nil => exact absurd h (by simp)
    | cons y u => simp only [sepT, List.length_cons] at h ⊢; (first | lia | omega)
theorem outer_len : ∀ ws : List (List Nat × WV), (wordsT (ws.map outerW)).length ≤ (wordsT ws).length
  | [] => Nat.le_refl _
  | (n, v) :: r => by
    have h1 := sepT_mono (outer_len r)
    have h2 : (outerV v).text.length ≤ v.text.length := by
      cases v with
      | quo w => show 1 ≤ ([61, 34] ++ escL w ++ [34]).length; simp
      | _ => exact Nat.le_refl _
    show (n ++ (outerV v).text ++ sepT (wordsT (r.map outerW))).length ≤ (n ++ v.text ++ sepT (wordsT r)).length
    simp only [List.length_append]
    (first | lia | omega)

theorem itern_listN {c : Cx} {ρ : List (Str × D)} {own : List Ow} {t iter : PySem.Expr} {ds : List D} {n : Nat} (hi : EV c ρ own iter (.list ds)) (ht : ∀ d ∈ ds, tgtFor t d = true) (hn : ds.length = n) : ITERN c ρ own t iter n (fun i => ds.getD i .none) := by
  subst hn
  exact itern_list hi ht
theorem fn83 (c : Cx) : FnAt c.w 83 := ⟨_, _, by k_is, rfl⟩
theorem fn100 (c : Cx) : FnAt c.w 100 := ⟨_, _, by k_is, rfl⟩
theorem fn114 (c : Cx) : FnAt c.w 114 := ⟨_, _, by k_is, rfl⟩
theorem fn44 (c : Cx) : FnAt c.w 44 := ⟨_, _, by k_is, rfl⟩
theorem fn145 (c : Cx) : FnAt c.w 145 := ⟨_, _, by k_is, rfl⟩
theorem ev_i0 {c : Cx} {ρ : List (Str × D)} {own : List Ow} {k pos} : EV c ρ own (.Constant (.int 0) k pos) (.int ((0 : Nat) : Int)) := ev_int
theorem ev_i1 {c : Cx} {ρ : List (Str × D)} {own : List Ow} {k pos} : EV c ρ own (.Constant (.int 1) k pos) (.int ((1 : Nat) : Int)) := ev_int

theorem turned_nil {c : Cx} {room : Nat} (hk : 8 ≤ c.k) : OPs c (fun vs => call (.ref 145) vs) [.str (S []), .int (room : Int)] (.str (S [])) := by
  refine' call_def ⟨?k, ?g1, ?g2, ?g3, ?g4, ?g5, ?g6, ?g7, ?g8, ?g9⟩ ?hb ?hl ?hk ?h
  (case k => k_is)
  (case g3 => exact rfl)
  (case g1 => exact rfl)
  (case g2 => exact rfl)
  (case g4 => exact rfl)
  (case g5 => exact rfl)
  (case g6 => exact rfl)
  (case g7 => exact rfl)
  (case g8 => decide)
  (case g9 => k_is)
  case hb => 
    refine binds_pos (names := [Str.ofString "text", Str.ofString "room"]) ?_ rfl
    intro vs h
    obtain ⟨a, b, rfl⟩ := len2 h
    rfl
  case hl => rfl
  case hk => (first | lia | omega)
  case h =>
    rintro ⟨w, G, A, env, fz₀, s₀, k, st', room', kind, glob, bi, big, kA, kG, kN⟩ hw hG hk' L hL
    dsimp only at hw hG hk' hL
    subst hw hG hL
    have hsz : sizeLine = 16777216 := by decide
    obtain ⟨j, rfl⟩ : ∃ j, k = j + 7 := ⟨k - 7, by (first | lia | omega)⟩
    clear hk hk'
    refine' ex_assign ?m1 ?m2 ?m3 ?m4 ?m5
    case m3 => exact rfl
    case m4 => exact rfl
    case m5 => exact rfl
    case m1 =>
      refine' ev_call ?hx ?hn (fn83 _) (evs_cons (d := .list [.str (S [])]) ?hes evs_nil (fun _ => rfl)) (split_empty (Nat.le_trans (by decide : 6 ≤ 7) (Nat.le_add_left 7 j))) (fun _ => rfl) (by decide)
      case hx => exact rfl
      case hn => k_is
      case hes =>
        refine ev_list (evs_cons ?_ evs_nil (fun _ => rfl)) (by show 1 ≤ sizeLine; decide)
        refine' ev_eq (ev_call ?hx ?hn (fn114 _) (evs_cons (d := .str (S [])) ?hes evs_nil (fun _ => rfl)) (strip_call (l := []) (Nat.le_trans (by decide : 4 ≤ 7) (Nat.le_add_left 7 j)) (by decide)) (fun _ => rfl) (by decide)) ?he
        case hx => exact rfl
        case hn => k_is
        case hes => ((with_reducible refine' ev_name ?wx271 ?wy271 ?wz271); (case wx271 => exact rfl); (case wy271 => decide); (case wz271 => decide))
        case he => exact congrArg (fun x => D.str (S x)) (stripL_is rfl)
    case m2 =>
      refine' ex_if (b := true) ?t1 ?a1 ?b1
      case b1 => intro h; cases h
      case t1 =>
        refine tv_bool (tvs_stop (op := .Or) ?_)
        show TV _ _ _ _ true
        refine' tv_eq (tv_cmp (d₁ := .list []) (d₂ := .list []) ?hl ?hr (op_eqD (n := 0) (KI.list fun x hx => nomatch hx) (by decide)) ?hm) rfl
        case hl => ((with_reducible refine' ev_name ?wx272 ?wy272 ?wz272); (case wx272 => exact rfl); (case wy272 => decide); (case wz272 => decide))
        case hr => exact ev_list evs_nil (by decide)
        case hm => with_unfolding_all exact rfl
      case a1 =>
        intro _
        refine ex_return ?_
        with_reducible exact ev_l0

theorem turned_call : ∀ (m : Nat) {c : Cx} {ws : List (List Nat × WV)} {f : Fo} {room : Nat}, f.size ≤ m → m ≤ 8 → 12 + m ≤ c.k → RepF ws f → f.Good → f.size ≤ room →
    OPs c (fun vs => call (.ref 145) vs) [.str (S (wordsT ws)), .int (room : Int)] (.str (S f.turn.T)) := by
  intro m
  induction m with
  | zero =>
    intro c ws f room hm _ hk hr hg hroom
    cases hr with
    | nil => exact turned_nil (by (first | lia | omega))
    | cons hv hr => exact absurd hm (by show ¬ (1 + _ + _ ≤ 0); (first | lia | omega))
  | succ m ih =>
    intro c ws f room hm hm8 hk hr hg hroom
    cases hr with
    | nil => exact turned_nil (by (first | lia | omega))
    | @cons n v ch sib ws hv hr =>
      have hsize : 1 + ch.size + sib.size ≤ m + 1 := hm
      have hroom : 1 + ch.size + sib.size ≤ room := hroom
      have hrep : RepF ((n, v) :: ws) (.cons n ch sib) := .cons hv hr
      have hok := hrep.ok hg
      have hlen := hrep.len hg
      have hp8 : 2 ^ (Fo.cons n ch sib).size ≤ 2 ^ 8 := Nat.pow_le_pow_right (by decide) (by show 1 + ch.size + sib.size ≤ 8; (first | lia | omega))
      have hlen2 : (wordsT ((n, v) :: ws)).length ≤ 3000 := by (first | lia | omega)
      have hcnt := hr.count
      have hcnt8 : ws.length ≤ 8 := by (first | lia | omega)
      have hgood := hg
      obtain ⟨hnm, hgc, hgs⟩ := hg
      have hstrip : stripL (wordsT ((n, v) :: ws)) = wordsT (((n, v) :: ws).map outerW) := stripL_is (strip_words hok)
      have hok2 : ∀ p ∈ ((n, v) :: ws).map outerW, WordOk p := fun p hp => by
        obtain ⟨q, hq, rfl⟩ := List.mem_map.mp hp
        obtain ⟨_, h1, h2, h3⟩ := hok q hq
        refine ⟨h1, fun w hw => ?_, fun w hw => ?_⟩
        · have hw : outerV q.2 = .quo w := hw
          cases hq2 : q.2 <;> rw [hq2] at hw <;> cases hw
        · have hw : outerV q.2 = .tok w := hw
          refine h3 w ?_
          cases hq2 : q.2 <;> rw [hq2] at hw <;> first | exact hw | cases hw
      have hlen3 : (wordsT (((n, v) :: ws).map outerW)).length ≤ 10000 := by
        have := outer_len ((n, v) :: ws)
        (first | lia | omega)
      have hps := hr.pairs hgs (by (first | lia | omega))
      have hjoin := hand_join hr hgs
      refine' call_def ⟨?k, ?g1, ?g2, ?g3, ?g4, ?g5, ?g6, ?g7, ?g8, ?g9⟩ ?hb ?hl ?hk ?h
      (case k => k_is)
      (case g3 => exact rfl)
      (case g1 => exact rfl)
      (case g2 => exact rfl)
      (case g4 => exact rfl)
      (case g5 => exact rfl)
      (case g6 => exact rfl)
      (case g7 => exact rfl)
      (case g8 => decide)
      (case g9 => k_is)
      case hb => 
        refine binds_pos (names := [Str.ofString "text", Str.ofString "room"]) ?_ rfl
        intro vs h
        obtain ⟨a, b, rfl⟩ := len2 h
        rfl
      case hl => rfl
      case hk => (first | lia | omega)
      case h =>
        rintro ⟨w, G, A, env, fz₀, s₀, k, st', room', kind, glob, bi, big, kA, kG, kN⟩ hw hG hk' L hL
        dsimp only at hw hG hk' hL
        subst hw hG hL
        have hsz : sizeLine = 16777216 := by decide
        have hkk : 12 + m ≤ k := by (first | lia | omega)
        clear hk hk'
        refine' ex_assign ?m1 ?m2 ?m3 ?m4 ?m5
        case m3 => exact rfl
        case m4 => exact rfl
        case m5 => exact rfl
        case m1 =>
          refine' ev_call ?hx ?hn (fn83 _) (evs_cons (d := .list [.str (S (wordsT (((n, v) :: ws).map outerW)))]) ?hes evs_nil (fun _ => rfl)) (split_call (ws := ((n, v) :: ws).map outerW) (Nat.le_trans (Nat.le_trans (by decide : 6 ≤ 12) (Nat.le_add_right 12 m)) hkk) (by simp) hok2 hlen3) (fun _ => rfl) (by decide)
          case hx => exact rfl
          case hn => k_is
          case hes =>
            refine ev_list (evs_cons ?_ evs_nil (fun _ => rfl)) (by show 1 ≤ sizeLine; decide)
            refine' ev_eq (ev_call ?hx ?hn (fn114 _) (evs_cons (d := .str (S (wordsT ((n, v) :: ws)))) ?hes evs_nil (fun _ => rfl)) (strip_call (l := wordsT ((n, v) :: ws)) (Nat.le_trans (Nat.le_trans (by decide : 4 ≤ 12) (Nat.le_add_right 12 m)) hkk) hlen2) (fun _ => rfl) (by decide)) ?he
            case hx => exact rfl
            case hn => k_is
            case hes => ((with_reducible refine' ev_name ?wx273 ?wy273 ?wz273); (case wx273 => exact rfl); (case wy273 => decide); (case wz273 => decide))
            case he => exact congrArg (fun x => D.str (S x)) hstrip
        case m2 =>
          refine' ex_if (b := false) ?t1 ?a1 ?b1
          case a1 => intro h; cases h
          case t1 =>
            refine tv_bool (tvs_on (op := .Or) ?_ (tvs_on (op := .Or) ?_ tvs_nil))
            · show TV _ _ _ _ false
              refine' tv_eq (tv_cmp (d₁ := .list [.list ((((n, v) :: ws).map outerW).map prD)]) (d₂ := .list []) ?hl ?hr (op_eqD (n := 0) (KI.list fun x hx y hy => nomatch hy) (by decide)) ?hm) rfl
              case hl => ((with_reducible refine' ev_name ?wx274 ?wy274 ?wz274); (case wx274 => exact rfl); (case wy274 => decide); (case wz274 => decide))
              case hr => exact ev_list evs_nil (by decide)
              case hm => with_unfolding_all exact rfl
            · show TV _ _ _ _ false
              refine' tv_eq (tv_cmp (d₁ := .int (room : Int)) (d₂ := .int 0) ?hl ?hr op_eqi ?hm) ?hq
              case hl => ((with_reducible refine' ev_name ?wx275 ?wy275 ?wz275); (case wx275 => exact rfl); (case wy275 => decide); (case wz275 => decide))
              case hr => with_reducible exact ev_int
              case hm => with_unfolding_all exact rfl
              case hq =>
                rw [beq_eq_false_iff_ne]
                (first | lia | omega)
          case b1 =>
            intro _
            have eo : prD (outerW (n, v)) = .tuple [.str (S n), dOpt (outerV v).val] := by
              rw [prD_pD, pD_dOpt]; rfl
            have ew : prD (n, v) = .tuple [.str (S n), dOpt v.val] := by
              rw [prD_pD, pD_dOpt]; rfl
            show EX _ _ _ (_ :: _) _
            refine' ex_unpack (d := .tuple [.str (S n), dOpt (outerV v).val]) ?u1 ?u2 ?u3 ?u4 ?u5
            case u4 => exact rfl
            case u5 => exact rfl
            case u2 =>
              refine' as_pair ?x1 ?x2 ?x3 ?x4
              case x1 => exact rfl
              case x2 => exact rfl
              case x3 => exact rfl
              case x4 => exact rfl
            case u1 =>
              refine ev_sub (ev_sub (d₁ := .list [.list ((((n, v) :: ws).map outerW).map prD)]) (d₂ := .int ((0 : Nat) : Int)) ?_ ev_i0 (op_item (k := 0) rfl (by decide) (fun _ _ => rfl))) ev_i0 (op_item (k := 0) (congrArg some eo) (by decide) (fun _ _ => rfl))
              ((with_reducible refine' ev_name ?wx276 ?wy276 ?wz276); (case wx276 => exact rfl); (case wy276 => decide); (case wz276 => decide))
            case u3 =>
              refine' ex_assign ?m1 ?m2 ?m3 ?m4 ?m5
              case m3 => exact rfl
              case m4 => exact rfl
              case m5 => exact rfl
              case m1 =>
                refine ev_sub (d₁ := .list [.list (((n, v) :: ws).map prD)]) (d₂ := .int ((0 : Nat) : Int)) ?_ ev_i0 (op_item (k := 0) rfl (by decide) (fun _ _ => rfl))
                refine' ev_call ?hx ?hn (fn83 _) (evs_cons (d := .list [.str (S (wordsT ((n, v) :: ws)))]) ?hes evs_nil (fun _ => rfl)) (split_call (ws := (n, v) :: ws) (Nat.le_trans (Nat.le_trans (by decide : 6 ≤ 12) (Nat.le_add_right 12 m)) hkk) (by simp) (fun p hp => (hok p hp).2) (by (first | lia | omega))) (fun _ => rfl) (by decide)
                case hx => exact rfl
                case hn => k_is
                case hes => exact ev_list (evs_cons (by ((with_reducible refine' ev_name ?wx277 ?wy277 ?wz277); (case wx277 => exact rfl); (case wy277 => decide); (case wz277 => decide))) evs_nil (fun _ => rfl)) (by show 1 ≤ sizeLine; decide)
              case m2 =>
                have hdrop : ∀ {ρ : List (Str × D)} {own : List Ow}, True := trivial
                have hmp : (ws.map prD) = (ws.map pairOf).map pD := by
                  rw [List.map_map]
                  exact List.map_congr_left fun p _ => prD_pD p
                refine' ex_assign ?m6 ?m7 ?m8 ?m9 ?m10
                case m8 => exact rfl
                case m9 => exact rfl
                case m10 => exact rfl
                case m6 =>
                  refine' ev_call ?hx ?hn (fn100 _) (evs_cons (d := .list [.list ((ws.map pairOf).map pD)]) ?hes evs_nil (fun _ => rfl)) (ops_eq (join_call (ps := ws.map pairOf) (Nat.le_trans (Nat.le_trans (by decide : 6 ≤ 12) (Nat.le_add_right 12 m)) hkk) hps (by rw [List.length_map]; (first | lia | omega))) (by rw [hjoin])) (fun _ => rfl) (by decide)
                  case hx => exact rfl
                  case hn => k_is
                  case hes =>
                    refine ev_list (evs_cons ?_ evs_nil (fun _ => rfl)) (by show 1 ≤ sizeLine; decide)
                    refine' ev_eq (ev_cutL (sw := true) (l := some ((1 : Nat) : Int)) (u := none) (t := none) (ds := ((n, v) :: ws).map prD) ?v1 (part_some ev_i1) part_none part_none (by simp) ?v3 (fun _ _ => rfl)) ?v4
                    case v1 => ((with_reducible refine' ev_name ?wx278 ?wy278 ?wz278); (case wx278 => exact rfl); (case wy278 => decide); (case wz278 => decide))
                    case v3 => (rw [List.length_map, List.length_cons]; (first | lia | omega))
                    case v4 => rw [pick_sn, ← hmp]; rfl
                case m7 =>
                  refine' ex_if (b := false) ?t2 ?a2 ?b2
                  case a2 => intro h; cases h
                  case t2 =>
                    refine' tv_eq (tv_cmp (d₁ := .str (S (wordsT sib.hand))) (d₂ := .str (S (wordsT sib.hand))) ?hl ?hr op_neS ?hm) (bne_self_eq_false _)
                    case hl => ((with_reducible refine' ev_name ?wx279 ?wy279 ?wz279); (case wx279 => exact rfl); (case wy279 => decide); (case wz279 => decide))
                    case hm => with_unfolding_all exact rfl
                    case hr =>
                      rw [← hjoin]
                      refine' ev_join (sep := [59, 32]) (xs := (ws.map pairOf).map fun p => fmtL p.1 p.2 false) ?jo ?jl ?jz ?jb ?jp ?jn ?js
                      case jo => with_reducible exact ev_semi
                      case jz =>
                        have := fmtL_sum hps
                        rw [List.length_map] at this
                        exact Nat.le_trans this (by (first | lia | omega))
                      case jb => exact rfl
                      case jp => exact rfl
                      case jn => exact rfl
                      case js => exact fun _ => rfl
                      case jl =>
                        refine' ev_eq (ev_comp (ρc := []) (n := ws.length) (item := fun i => (ws.map prD).getD i .none) (fun i => (ws[i]?).map fun p => .str (S (fmtL p.1 p.2.val false))) ?c1 ?c2 ?c3 ?c4 ?c5 ?c6 ?c7 ?c8 ?c9) ?c10
                        case c10 => rw [range_get, List.map_map, List.map_map]; rfl
                        case c1 => exact rfl
                        case c2 => exact rfl
                        case c3 => decide
                        case c4 => decide
                        case c5 =>
                          refine' itern_listN (ds := ws.map prD) ?e1 ?e2 (List.length_map ..)
                          case e2 => (intro d hd; obtain ⟨p, _, rfl⟩ := List.mem_map.mp hd; exact rfl)
                          case e1 =>
                            refine' ev_eq (ev_cutL (sw := true) (l := some ((1 : Nat) : Int)) (u := none) (t := none) (ds := ((n, v) :: ws).map prD) ?v1 (part_some ev_i1) part_none part_none (by simp) ?v3 (fun _ _ => rfl)) ?v4
                            case v1 => ((with_reducible refine' ev_name ?wx280 ?wy280 ?wz280); (case wx280 => exact rfl); (case wy280 => decide); (case wz280 => decide))
                            case v3 => (rw [List.length_map, List.length_cons]; (first | lia | omega))
                            case v4 => rw [pick_sn]; rfl
                        case c6 => (first | lia | omega)
                        case c7 => exact fun p hp => nomatch hp
                        case c9 => exact fun _ => rfl
                        case c8 =>
                          rintro ⟨w', G', A', env', fz₀', s₀', k', st'', room'', kind', glob', bi', big', kA', kG', kN'⟩ hw' hG' hA' hk'' ⟨C, hE⟩ i own' hi hes
                          dsimp only at hw' hG' hA' hk'' hE
                          subst hE
                          have hg1 : ws[i]? = some ws[i] := List.getElem?_eq_getElem hi
                          have hpk := hps _ (List.mem_map_of_mem (List.getElem_mem hi))
                          have e1 : (ws.map prD).getD i .none = .tuple [.str (S ws[i].1), dOpt ws[i].2.val] := by
                            rw [List.getD_eq_getElem?_getD, List.getElem?_map, hg1]
                            show prD ws[i] = _
                            rw [prD_pD, pD_dOpt]; rfl
                          rw [e1, hg1]
                          generalize ws[i] = p at hpk
                          obtain ⟨pn, pv⟩ := p
                          have hno : ∀ x : Str, (own'.any fun q => q.name == some x) = false := fun x => List.any_eq_false.mpr fun q hq => by rw [hes q hq]; exact Bool.false_ne_true
                          refine ⟨_, as_pair rfl (hno _) rfl (hno _), tst_nil, fun d hd => ?_, fun p hp => nomatch hp⟩
                          cases hd
                          refine' ev_call ?hx ?hn (fn44 _) (evs_cons (d := .str (S pn)) ?q1 (evs_cons (d := dOpt pv.val) ?q2 (evs_cons (d := .int 0) ev_int evs_nil (fun _ => rfl)) (fun _ => rfl)) (fun _ => rfl)) (fmt0_call (p := pn) (v := pv.val) (by show 2 ≤ k'; (first | lia | omega)) ?q3 ?q4) (fun _ => rfl) (by decide)
                          case hx => exact rfl
                          case hn => k_is
                          case q1 => ((with_reducible refine' ev_name ?wx281 ?wy281 ?wz281); (case wx281 => exact rfl); (case wy281 => decide); (case wz281 => decide))
                          case q2 => ((with_reducible refine' ev_name ?wx282 ?wy282 ?wz282); (case wx282 => exact rfl); (case wy282 => decide); (case wz282 => decide))
                          case q3 => exact Nat.le_trans hpk.1 (by decide)
                          case q4 => exact fun x hx => ⟨Nat.le_trans (hpk.2 x hx).2.1 (by decide), (hpk.2 x hx).2.2⟩
                  case b2 =>
                    intro _
                    have hgst := Fo.turn_good hgs
                    have hlst := Fo.T_len hgst
                    rw [Fo.turn_size] at hlst
                    have hp9 : 2 ^ sib.size ≤ 2 ^ 8 := Nat.pow_le_pow_right (by decide) (by (first | lia | omega))
                    have hgct := Fo.turn_good hgc
                    have hlct := Fo.T_len hgct
                    rw [Fo.turn_size] at hlct
                    have hp10 : 2 ^ ch.size ≤ 2 ^ 8 := Nat.pow_le_pow_right (by decide) (by (first | lia | omega))
                    have hturn := turn_T n ch sib hgs
                    have hlturn := Fo.T_len (Fo.turn_good hgood)
                    rw [Fo.turn_size] at hlturn
                    rw [hturn] at hlturn ⊢
                    rw [List.length_append] at hlturn
                    show EX _ _ _ (_ :: _) _
                    refine' ex_assign ?m11 ?m12 ?m13 ?m14 ?m15
                    case m13 => exact rfl
                    case m14 => exact rfl
                    case m15 => exact rfl
                    case m11 =>
                      refine' ev_call ?hx ?hn (fn44 _) (evs_cons (d := .str (S n)) ?q1 (evs_cons (d := .str (S sib.turn.T)) ?q2 evs_nil (fun _ => rfl)) (fun _ => rfl)) (fmt1_call (p := n) (v := sib.turn.T) (Nat.le_trans (Nat.le_trans (by decide : 2 ≤ 12) (Nat.le_add_right 12 m)) hkk) (Nat.le_trans (nm_ok hnm).2 (by decide)) ⟨by (first | lia | omega), Fo.T_alpha hgst⟩) (fun _ => rfl) (by decide)
                      case hx => exact rfl
                      case hn => k_is
                      case q1 => ((with_reducible refine' ev_name ?wx283 ?wy283 ?wz283); (case wx283 => exact rfl); (case wy283 => decide); (case wz283 => decide))
                      case q2 =>
                        refine' ev_call ?hx ?hn (fn145 _) (evs_cons (d := .str (S (wordsT sib.hand))) ?q3 (evs_cons (d := .int ((room - 1 : Nat) : Int)) ?q4 evs_nil (fun _ => rfl)) (fun _ => rfl)) (ih (f := sib) (room := room - 1) (by (first | lia | omega)) (by (first | lia | omega)) (by show 12 + m ≤ k; (first | lia | omega)) (Fo.hand_rep hgs) hgs (by (first | lia | omega))) (fun _ => rfl) (by decide)
                        case hx => exact rfl
                        case hn => k_is
                        case q3 => ((with_reducible refine' ev_name ?wx284 ?wy284 ?wz284); (case wx284 => exact rfl); (case wy284 => decide); (case wz284 => decide))
                        case q4 =>
                          refine ev_bin (d₁ := .int (room : Int)) (d₂ := .int 1) ?_ ev_int (op_sub1 (by (first | lia | omega)))
                          ((with_reducible refine' ev_name ?wx285 ?wy285 ?wz285); (case wx285 => exact rfl); (case wy285 => decide); (case wz285 => decide))
                    case m12 =>
                      cases hnil : ch.isNil with
                      | true =>
                        have hcn := Fo.nil_of hnil
                        subst hcn
                        cases hv with
                        | no =>
                          refine' ex_if (b := true) ?t3 ?a3 ?b3
                          case b3 => intro h; cases h
                          case t3 =>
                            refine' tv_cmp (d₁ := .none) (d₂ := .none) ?hl ev_none op_is_none_none ?hm
                            case hl => ((with_reducible refine' ev_name ?wx286 ?wy286 ?wz286); (case wx286 => exact rfl); (case wy286 => decide); (case wz286 => decide))
                            case hm => with_unfolding_all exact rfl
                          case a3 =>
                            intro _
                            rw [show sepT Fo.nil.turn.T = [] from rfl, List.append_nil]
                            refine ex_return ?_
                            ((with_reducible refine' ev_name ?wx287 ?wy287 ?wz287); (case wx287 => exact rfl); (case wy287 => decide); (case wz287 => decide))
                        | quo h => cases h
                        | tok h _ => cases h
                      | false =>
                        obtain ⟨hint, hhint⟩ : ∃ x, (outerV v).val = some x := by
                          cases hv with
                          | no => cases hnil
                          | quo _ => exact ⟨_, rfl⟩
                          | tok _ _ => exact ⟨_, rfl⟩
                        have hvv : v.val = some ch.T := by rw [hv.val, hnil]; rfl
                        have hne : ch.turn.T ≠ [] := Fo.T_ne hgct (by rw [Fo.turn_nil]; exact hnil)
                        rw [sepT_ne hne, ← List.append_assoc]
                        rw [sepT_ne hne, List.length_append] at hlturn
                        simp only [List.length_cons, List.length_nil] at hlturn
                        rw [hhint]
                        refine' ex_if (b := false) ?t3 ?a3 ?b3
                        case a3 => intro h; cases h
                        case t3 =>
                          refine' tv_cmp (d₁ := .str (S hint)) (d₂ := .none) ?hl ev_none op_is_none_str ?hm
                          case hl => ((with_reducible refine' ev_name ?wx288 ?wy288 ?wz288); (case wx288 => exact rfl); (case wy288 => decide); (case wz288 => decide))
                          case hm => with_unfolding_all exact rfl
                        case b3 =>
                          intro _
                          refine ex_return ?_
                          refine' ev_bin ?y1 ?y2 ?y3
                          case y1 =>
                            refine' ev_bin ?y4 ?y5 ?y6
                            case y4 => ((with_reducible refine' ev_name ?wx289 ?wy289 ?wz289); (case wx289 => exact rfl); (case wy289 => decide); (case wz289 => decide))
                            case y5 => with_reducible exact ev_semi
                            case y6 => exact op_catS (by simp only [List.length_cons, List.length_nil]; (first | lia | omega))
                          case y3 => exact op_catS (by simp only [List.length_append, List.length_cons, List.length_nil]; (first | lia | omega))
                          case y2 =>
                            refine' ev_call ?hx ?hn (fn145 _) (evs_cons (d := .str (S (wordsT ch.ws))) ?q3 (evs_cons (d := .int ((room - 1 : Nat) : Int)) ?q4 evs_nil (fun _ => rfl)) (fun _ => rfl)) (ih (f := ch) (room := room - 1) (by (first | lia | omega)) (by (first | lia | omega)) (by show 12 + m ≤ k; (first | lia | omega)) (Fo.ws_rep ch) hgc (by (first | lia | omega))) (fun _ => rfl) (by decide)
                            case hx => exact rfl
                            case hn => k_is
                            case q4 =>
                              refine ev_bin (d₁ := .int (room : Int)) (d₂ := .int 1) ?_ ev_int (op_sub1 (by (first | lia | omega)))
                              ((with_reducible refine' ev_name ?wx290 ?wy290 ?wz290); (case wx290 => exact rfl); (case wy290 => decide); (case wz290 => decide))
                            case q3 =>
                              rw [Fo.ws_T]
                              refine ev_sub (d₁ := .tuple [.str (S n), dOpt v.val]) (d₂ := .int ((1 : Nat) : Int)) (ev_sub (d₁ := .list (((n, v) :: ws).map prD)) (d₂ := .int ((0 : Nat) : Int)) ?_ ev_i0 (op_item (k := 0) (congrArg some ew) (by decide) (fun _ _ => rfl))) ev_i1 (op_itemT (k := 1) (by rw [hvv]; rfl) (by decide) (fun _ _ => rfl))
                              ((with_reducible refine' ev_name ?wx291 ?wy291 ?wz291); (case wx291 => exact rfl); (case wy291 => decide); (case wz291 => decide))
end D12

section Z5
open PySem PySem.W PySem.Spec PySem.Calls PyProof.Rows
theorem eqbs_nat : ∀ w w' : List Nat, D.eqbs (w.map natD) (w'.map natD) = decide (w = w')
  | [], [] => rfl
  | [], _ :: _ => rfl
  | _ :: _, [] => rfl
  | x :: w, y :: w' => by
    show (((x : Int) == (y : Int)) && D.eqbs (w.map natD) (w'.map natD)) = _
    rw [eqbs_nat w w']
    by_cases h : x = y
    · subst h; by_cases h' : w = w' <;> simp [h']
    · have : ((x : Int) == (y : Int)) = false := by rw [beq_eq_false_iff_ne]; (first | lia | omega)
      rw [this]; simp [h]
theorem ki_way (w w' : List Nat) : KI 1 (wayD w) (wayD w') := .list fun x hx y hy => by
  obtain ⟨a, _, rfl⟩ := List.mem_map.mp hx
  obtain ⟨b, _, rfl⟩ := List.mem_map.mp hy
  exact .int _ _
theorem eqb_way (w w' : List Nat) : D.eqb (wayD w) (wayD w') = decide (w = w') := eqbs_nat w w'

theorem ints_of {G : Heap} {fz : FZ} {s : Shared} {l : Addr} {w : List Nat} (I : Inv G fz s) (r : Rep fz (.ref l) (wayD w)) : IntsAt s.heap l w := by
  unfold wayD at r
  cases r with
  | @list _ vs n _ e rs =>
    refine ⟨vs, n, I.le _ _ e, by rw [rs.length, List.length_map], fun j x hx => ?_⟩
    obtain ⟨v, hv, r⟩ := rs.get j (natD x) (by rw [List.getElem?_map, hx]; rfl)
    unfold natD at r
    cases r with
    | int _ t => exact ⟨t, hv⟩

noncomputable def pairsW (ws : List (List Nat)) (ds : List D) : List D := zipD (ws.map wayD) ds

section
variable {c : Cx} {fz : FZ} {s : Shared} {A : Around} {ws : List (List Nat)} {ds : List D} {ps : List Value}

theorem pairs_at (I : Inv c.G fz s) (r : Reps fz ps (pairsW ws ds)) (hl : ws.length = ds.length) {i : Nat} {w : List Nat} (hi : ws[i]? = some w) :
    ∃ a p q n, ps[i]? = some (.ref a) ∧ s.heap.get? a = some (tupO [.ref p, q] n) ∧ Rep fz (.ref p) (wayD w) := by
  have hlt := (List.getElem?_eq_some_iff.mp hi).1
  obtain ⟨d, hd⟩ : ∃ d, ds[i]? = some d := ⟨_, List.getElem?_eq_getElem (hl ▸ hlt)⟩
  obtain ⟨v, hv, r⟩ := r.get i (.tuple [wayD w, d]) (by unfold pairsW zipD; rw [List.getElem?_zipWith, List.getElem?_map, hi, hd]; rfl)
  obtain ⟨a, us, n, rfl, e, rs⟩ := r.inv
  · obtain ⟨_, _, rfl, r₁, rs⟩ := rs.inv
    · obtain ⟨_, _, rfl, r₂, rs⟩ := rs.inv
      · obtain rfl := rs.inv
        ·
          have r₁' := r₁
          unfold wayD at r₁
          obtain ⟨p, _, _, rfl, _, _⟩ := r₁.inv
          · exact ⟨a, p, _, n, hv, I.le _ _ e, r₁'⟩

/- the question that the sort asks -/
theorem ask_lt (hu : A.units + 2 < cLine) (I : Inv c.G fz s) (r : Reps fz ps (pairsW ws ds)) (hl : ws.length = ds.length) {i j : Nat} {w w' : List Nat} (hi : ws[i]? = some w) (hj : ws[j]? = some w') (hne : w ≠ w') {C : Bool → Shared → Prop} (h : C (ltL w w') s) :
    kas_ask prog c.w A (tuples' true) ps i j C s := by
  obtain ⟨a, p, q, n, ha, hoa, hp⟩ := pairs_at I r hl hi
  obtain ⟨a', p', q', n', ha', hoa', hp'⟩ := pairs_at I r hl hj
  unfold kas_ask
  rw [List.getD_eq_getElem?_getD, ha, List.getD_eq_getElem?_getD, ha']
  refine kat_lt hoa rfl hoa' rfl (kat_cons ?_)
  refine eqAt_D (ki_way w w') I A _ _ (by (first | lia | omega)) hp hp' prog c.w _ _ ?_
  rw [eqb_way, decide_eq_false hne]
  exact kat_no (oneLt_list (by (first | lia | omega)) (ints_of I hp) (ints_of I hp') h)
end

/- the tree of questions, answered -/
noncomputable def goT {α : Type} (lt : Nat → Nat → Option Bool) : KasT α → Option α
  | .ret a => some a
  | .ask i j k => match lt i j with
    | some b => goT lt (k b)
    | none => none
theorem goT_wp {α : Type} {lt : Nat → Nat → Option Bool} {cmp : Nat → Nat → (Bool → Shared → Prop) → Shared → Prop} {s : Shared} (hc : ∀ i j b C, lt i j = some b → C b s → cmp i j C s) :
    ∀ (t : KasT α) (a : α) (Q : α → Shared → Prop), goT lt t = some a → Q a s → t.kasWp cmp Q s
  | .ret a, _, Q, h, hq => by cases h; exact hq
  | .ask i j k, a, Q, h, hq => by
    unfold goT at h
    cases hb : lt i j with
    | none => rw [hb] at h; cases h
    | some b =>
      rw [hb] at h
      exact hc i j b _ hb (goT_wp hc (k b) a Q h hq)
noncomputable def ltW (ws : List (List Nat)) (i j : Nat) : Option Bool := match ws[i]?, ws[j]? with
  | some w, some w' => if w = w' then none else some (ltL w w')
  | _, _ => none
noncomputable def sortW (ws : List (List Nat)) : Option (Array Nat) := goT (ltW ws) (kas_sort ws.length)

section
variable {w : World} {A : Around} {s : Shared} {E : Value → Shared → Prop}
theorem list_sort_at {vs : List Value} {n : Nat} {a : Addr} {P : PySem.Fin → Shared → Prop} {p : Array Nat} (ho : s.heap.get? a = some (listO vs n)) (h2 : 2 ≤ vs.length) (h64 : vs.length < 64) (hp : p.size = vs.length)
    (hrun : ∀ h' G, (∀ b o, b ≠ a → s.heap.get? b = some o → h'.get? b = some o) → s.heap.objs.size ≤ h'.objs.size → G p { s with heap := h' } →
      wpAny (model prog w) A (keyKind' vs.toArray) (fun κ s' => (kas_sort vs.length).kasWp (kas_ask prog w A κ vs) G s') (fun _ _ => False) { s with heap := h' })
    (hQ : ∀ h' e, h'.get? a = some (listO (p.toList.map fun i => vs.getD i Value.none) e) → (∀ b o, b ≠ a → s.heap.get? b = some o → h'.get? b = some o) → s.heap.objs.size ≤ h'.objs.size → P (.done (.ret .none)) { s with heap := h' }) :
    wpAny (model prog w) A (Builtin.«list.sort» ⟨[.ref a], []⟩) P E s := by
  have ho : s.heap.get? a = some (seqObj "list" vs.toArray n) := ho
  have ha : a < s.heap.objs.size := Heap.lt_size ho
  have s1 := Heap.SameBut.update s.heap a (Obj.mapSeq fun _ => (#[] : Array Value))
  obtain ⟨e1, ho1⟩ : ∃ e1, (s.heap.update a (Obj.mapSeq fun _ => (#[] : Array Value))).get? a = some (seqObj "list" #[] e1) := ⟨_, get?_update_seq ho fun _ => #[]⟩
  rw [list_sort_plain]
  refine wpAny_bind (listItems_at ho rfl ?_)
  refine wpAny_bind (listUpdate_at ho rfl ?_ (by rw [List.size_toArray]; exact Nat.le_trans (Nat.le_of_lt h64) (by decide)) (Nat.zero_le _))
  refine wpAny_bind (seqEpoch_at ho1 rfl ?_)
  refine wpAny_bind (wpAny_newTuple ?_ (by show vs.length ≤ _; exact Nat.le_trans (Nat.le_of_lt h64) (by decide)))
  refine wpAny_bind (wpAny_newList ?_ (Nat.zero_le _))
  refine wpAny_holding ?_
  show wpAny (model prog w) A _ P E { s with heap := ((s.heap.update a (Obj.mapSeq fun _ => (#[] : Array Value))).push (seqObj "tuple" vs.toArray 0)).push (seqObj "list" #[] 0) }
  dsimp only
  have keep : ∀ b o, b ≠ a → s.heap.get? b = some o → (((s.heap.update a (Obj.mapSeq fun _ => (#[] : Array Value))).push (seqObj "tuple" vs.toArray 0)).push (seqObj "list" #[] 0)).get? b = some o :=
    fun b o hb e => Heap.get?_push_of_some _ (Heap.get?_push_of_some _ (s1.extBut _ _ hb e))
  have ho3 : (((s.heap.update a (Obj.mapSeq fun _ => (#[] : Array Value))).push (seqObj "tuple" vs.toArray 0)).push (seqObj "list" #[] 0)).get? a = some (seqObj "list" #[] e1) := Heap.get?_push_of_some _ (Heap.get?_push_of_some _ ho1)
  have hsz : s.heap.objs.size ≤ (((s.heap.update a (Obj.mapSeq fun _ => (#[] : Array Value))).push (seqObj "tuple" vs.toArray 0)).push (seqObj "list" #[] 0)).objs.size := by rw [Heap.size_push, Heap.size_push, s1.1]; (first | lia | omega)
  generalize (((s.heap.update a (Obj.mapSeq fun _ => (#[] : Array Value))).push (seqObj "tuple" vs.toArray 0)).push (seqObj "list" #[] 0)) = h₃ at keep ho3 hsz ⊢
  have hn2 : ¬ vs.toArray.size < 2 := by rw [List.size_toArray]; (first | lia | omega)
  rw [if_neg hn2, if_neg hn2]
  refine wpAny_bind (wpAny_mono (hrun h₃ (fun p' s' => p' = p ∧ s' = { s with heap := h₃ }) keep hsz ⟨rfl, rfl⟩) (fun κ s0 hk => ?_) fun _ _ x => x.elim)
  refine wpAny_bind (wpAny_mono (kat_run (Q := fun st' s' => arrOf st' = p.map (kas_item (vs.toArray.zip vs.toArray)) ∧ failedOf st' = none ∧ s' = { s with heap := h₃ })
    rfl h2 h64 (fun p' st' s' a1 a2 a3 a4 => by obtain ⟨rfl, rfl⟩ := a4; exact ⟨a2, a3, rfl⟩) hk) ?_ fun _ _ e => e)
  rintro ⟨⟨⟩, st'⟩ s' ⟨har, hf, rfl⟩
  dsimp only
  have hout := kat_snds rfl har
  have hsz2 : (List.toArray (p.toList.map fun i => vs.getD i Value.none)).size = vs.length := by rw [List.size_toArray, List.length_map, Array.length_toList, hp]
  rw [hout]
  have s2 := Heap.SameBut.update h₃ a (Obj.mapSeq fun _ => List.toArray (p.toList.map fun i => vs.getD i Value.none))
  obtain ⟨c2, hc2⟩ : ∃ c2, (h₃.update a (Obj.mapSeq fun _ => List.toArray (p.toList.map fun i => vs.getD i Value.none))).get? a = some (seqObj "list" (List.toArray (p.toList.map fun i => vs.getD i Value.none)) c2) := ⟨_, get?_update_seq ho3 fun _ => List.toArray (p.toList.map fun i => vs.getD i Value.none)⟩
  refine wpAny_bind (seqEpoch_at ho3 rfl ?_)
  refine wpAny_bind (listUpdate_at ho3 rfl ?_ (Nat.zero_le _) (Nat.le_trans (Nat.le_of_eq hsz2) (Nat.le_trans (Nat.le_of_lt h64) (by decide))))
  rw [hf]
  simp only [bne_self_eq_false, Bool.false_eq_true, if_false]
  exact wpAny_pure (hQ _ c2 hc2 (fun b o hb e => s2.extBut _ _ hb (keep b o hb e)) (by rw [s2.1]; exact hsz))
end

end Z5

section Z6
open PySem PySem.W PySem.Spec PySem.Calls PyProof.Rows
section
variable {c : Cx} {ρ ρ' : List (Str × D)} {own own' : List Ow} {fz fz' : FZ} {s s' : Shared} {d : D}

/- an own list stands still -/
theorem Frm.still {n : Option Str} {a : Addr} {ds : List D} (F : Frm c ρ (⟨n, a, .list ds⟩ :: own) fz s) : fz a = none ∧ ∃ o, Frm c ρ own (fz.put a o) s ∧ Rep (fz.put a o) (.ref a) (.list ds) := by
  obtain ⟨ha, hf, vs, k, hg, r⟩ := F.ow _ (.head _)
  obtain ⟨m, hn, _⟩ := F.ns
  refine ⟨hf, listO vs k, F.drop.freeze hg hf ha (fun q hq e => ?_) (Ne.symm (Ns_ne hn hg (by intro es n h; cases h))) fun b e => (F.kp.loose b e).2.1 _ (.head _), .list (FZ.put_self _ _ _) (r.mono (FZ.put_le hf))⟩
  exact (List.nodup_cons.mp F.nodup).1 (List.mem_map.mpr ⟨q, hq, e⟩)

theorem ev_listzip {f g : Str} {p p' pos pos' : Pos} {e₁ e₂ : PySem.Expr} {xs ys : List D} {m : Nat} (hg : g = Str.ofString "list") (hgx : c.env.kindOf g = some .globalImplicit) (hgn : nsIn (hd.heap_39 c.w.params) mainGlobals g = some none)
    (hf : f = Str.ofString "zip") (hx : c.env.kindOf f = some .globalImplicit) (hn : nsIn (hd.heap_39 c.w.params) mainGlobals f = some none) (he : EVs c ρ own [e₁, e₂] [.list xs, .list ys])
    (hxs : xs.length = m) (hys : ys.length = m) (hm : m ≤ 1000) (hpl : ([e₁, e₂].all fun e => match e with | .Starred .. => false | _ => true) = true) :
    EV c ρ own (.Call (.Name g p') [.Call (.Name f p) [e₁, e₂] [] pos] [] pos') (.list (zipD xs ys)) := fun fz s F Q E hQ => by
  subst hg
  refine Call_name1 rfl (name_builtin F (v := .type "list") ?_ hgx hgn rfl (by decide) (by decide))
  refine callWith_type1 (zip_made hf hx hn he hpl F fun z TI TO i1 i2 l1 l2 vs us n k fz₁ s₁ N₁ hge ok F₁ => ?_)
  refine zip_listed hxs hys hm c.room.handled F₁ ok fun S fz₂ s₂ hS rn hl F₂ => ?_
  obtain ⟨hfS, o, F₃, r⟩ := F₂.still
  refine hQ (.ref S) _ s₂ ?_ F₃ r
  refine Next.freeze (rn fz s N₁ fun a ha => ?_) hfS (Nat.le_trans N₁.size hS)
  simp only [zipW, List.forall_mem_cons] at hge
  simp only [List.mem_cons, List.not_mem_nil, or_false] at ha
  rcases ha with rfl | rfl | rfl | rfl
  · exact hge.1
  · exact hge.2.1
  · exact hge.2.2.1
  · exact hge.2.2.2.1

theorem firsts_at {fz : FZ} {s : Shared} (I : Inv c.G fz s) : ∀ {ws : List (List Nat)} {ds : List D} {ps : List Value}, Reps fz ps (pairsW ws ds) → ws.length = ds.length →
    ∃ fs : List Value, fs.length = ws.length ∧ KatTups s.heap ps fs ∧ ∀ v ∈ fs, Looks c.M s.heap (typeOf v) (.type "list")
  | [], [], _, r, _ => by cases r; exact ⟨[], rfl, .nil, fun v h => nomatch h⟩
  | w :: ws, d :: ds, _, r, hl => by
    cases r with
    | cons r₀ r => 
      obtain ⟨fs, h1, h2, h3⟩ := firsts_at I (ws := ws) (ds := ds) r (by simpa using hl)
      cases r₀ with
      | @tuple a us n _ e rs => cases rs with
        | cons r₁ rs => cases rs with
          | cons r₂ rs => cases rs with
            | nil => cases r₁ with
              | @list b _ _ _ e' _ =>
                refine ⟨.ref b :: fs, by rw [List.length_cons, List.length_cons, h1], .cons (I.le _ _ e) rfl rfl rfl h2, fun v hv => ?_⟩
                rcases List.mem_cons.mp hv with rfl | hv
                · exact (Looks.ld (I.le _ _ e')).andThen .now
                · exact h3 v hv
  | [], _ :: _, _, _, hl => by cases hl
  | _ :: _, [], _, _, hl => by cases hl

theorem Reps.getD {fz : FZ} {vs : List Value} {ds : List D} (r : Reps fz vs ds) (i : Nat) : Rep fz (vs.getD i .none) (ds.getD i .none) := by
  rw [List.getD_eq_getElem?_getD, List.getD_eq_getElem?_getD]
  cases h : ds[i]? with
  | none => rw [List.getElem?_eq_none (by rw [r.length]; exact List.getElem?_eq_none_iff.mp h)]; exact .none
  | some d => obtain ⟨v, hv, q⟩ := r.get i d h; rw [hv]; exact q
theorem Reps.perm {fz : FZ} {vs : List Value} {ds : List D} (r : Reps fz vs ds) : ∀ p : List Nat, Reps fz (p.map fun i => vs.getD i .none) (p.map fun i => ds.getD i .none)
  | [] => .nil
  | i :: p => .cons (r.getD i) (r.perm p)

theorem ev_sortedzip {f g : Str} {p p' pos pos' : Pos} {e₁ e₂ : PySem.Expr} {ws : List (List Nat)} {ys : List D} {m : Nat} {q : Array Nat} (hg : g = Str.ofString "sorted") (hgx : c.env.kindOf g = some .globalImplicit) (hgn : nsIn (hd.heap_39 c.w.params) mainGlobals g = some none)
    (hf : f = Str.ofString "zip") (hx : c.env.kindOf f = some .globalImplicit) (hn : nsIn (hd.heap_39 c.w.params) mainGlobals f = some none) (he : EVs c ρ own [e₁, e₂] [.list (ws.map wayD), .list ys])
    (hxs : ws.length = m) (hys : ys.length = m) (h2 : 2 ≤ m) (h64 : m < 64) (hq : sortW ws = some q) (hqs : q.size = m) (hpl : ([e₁, e₂].all fun e => match e with | .Starred .. => false | _ => true) = true) :
    EV c ρ own (.Call (.Name g p') [.Call (.Name f p) [e₁, e₂] [] pos] [] pos') (.list (q.toList.map fun i => (pairsW ws ys).getD i .none)) := fun fz s F Q E hQ => by
  subst hg
  refine Call_name1 rfl (name_builtin F (v := .builtin "sorted") ?_ hgx hgn rfl (by decide) (by decide))
  refine callWith_builtin1 (zip_made hf hx hn he hpl F fun z TI TO i1 i2 l1 l2 vs us n k fz₁ s₁ N₁ hge ok F₁ => ?_)
  refine Calls.call_function_entry kind_sorted plain_sorted entry_sorted (args_sorted1 _) ?_
  unfold Builtin.«sorted»
  refine wpAny_bind (m := checkCount "sorted" 1 1 _) (wpAny_pure ?_)
  refine wpAny_bind (zip_collected (A := c.A.in1) (by rw [List.length_map]; exact hxs) hys (by (first | lia | omega)) c.room.handled F₁ ok fun ps fz₂ s₂ rn hl F₂ r => ?_)
  have hps : ps.length = m := by rw [r.length]; unfold zipD; rw [List.length_zipWith, List.length_map, hxs, hys, Nat.min_self]
  refine wpAny_bind (wpAny_newList ?_ (by rw [hps]; exact Nat.le_trans (Nat.le_of_lt h64) (by decide)))
  have F₃ : Frm c ρ (⟨none, s₂.heap.objs.size, .list (zipD (ws.map wayD) ys)⟩ :: own) fz₂ { s₂ with heap := s₂.heap.push (listO ps 0), toks := s₂.toks } := F₂.alloc (v := .list _) ⟨ps, 0, Heap.get?_push_size _ rfl, r⟩ F₂.tk
  have hoL : (s₂.heap.push (listO ps 0)).get? s₂.heap.objs.size = some (listO ps 0) := Heap.get?_push_size _ rfl
  have N₂ : Next fz s fz₂ s₂ := rn fz s N₁ fun a ha => by
    simp only [zipW, List.forall_mem_cons] at hge
    simp only [List.mem_cons, List.not_mem_nil, or_false] at ha
    rcases ha with rfl | rfl | rfl | rfl
    · exact hge.1
    · exact hge.2.1
    · exact hge.2.2.1
    · exact hge.2.2.2.1
  refine wpAny_bind (wpAny_holding (wpAny_call_entry slot_list_sort ⟨_, hoL, rfl⟩ entry_list_sort ?body (args_list_sort _)))
  case body =>
    refine list_sort_at (p := q) hoL (by (first | lia | omega)) (by (first | lia | omega)) (by (first | lia | omega)) (fun h' G hk hz hG => ?_) (fun h' e hg' hk hz => ⟨_, rfl, wpAny_pure ⟨_, rfl, ?_⟩⟩)
    · have I' : Inv c.G fz₂ { s₂ with heap := h' } := F₃.I.but (tk := s₂.toks) (fun b o hb e => hk b o hb e) (F₂.I.fresh (Nat.le_refl _)) (F₂.ne78 F₂.nx.size) (F₂.ne95 F₂.nx.size)
      obtain ⟨fs, k1, k2, k3⟩ := firsts_at I' (ws := ws) (ds := ys) (ps := ps) r (by (first | lia | omega))
      refine kat_kind (T := .type "list") k2 (by (first | lia | omega)) k3 rfl ?_
      have hk' : kas_sort ps.length = kas_sort ws.length := by rw [hps, hxs]
      rw [hk']
      refine goT_wp (lt := ltW ws) (fun i j b C hb hC => ?_) _ q G hq hG
      unfold ltW at hb
      split at hb
      · rename_i w w' hi hj
        split at hb
        · cases hb
        · rename_i hne
          cases hb
          refine ask_lt ?_ I' r (by (first | lia | omega)) hi hj hne hC
          have := c.room.units
          show c.A.units + 1 + 1 + 2 < 9900
          (first | lia | omega)
      · cases hb
    · have F₄ : Frm c ρ (⟨none, s₂.heap.objs.size, .list (q.toList.map fun i => (pairsW ws ys).getD i .none)⟩ :: own) fz₂ { s₂ with heap := h', toks := s₂.toks } :=
        F₃.upd (v' := .list _) (fun b o hb e => hk b o hb e) ⟨_, e, hg', r.perm q.toList⟩ F₂.tk
      obtain ⟨hfS, o, F₅, rr⟩ := F₄.still
      refine hQ _ _ _ ?_ F₅ rr
      refine Next.freeze ?_ hfS N₂.size
      have := (N₂.trans (Next.push (listO ps 0) s₂.toks))
      refine RN.but (as := [s₂.heap.objs.size]) (s := { s₂ with heap := s₂.heap.push (listO ps 0), toks := s₂.toks }) (tk := s₂.toks) (fun b o hb e => hk b o (fun x => hb (x ▸ .head _)) e) hz fz s this fun a ha => ?_
      rw [List.mem_singleton.mp ha]
      exact N₂.size
end

end Z6

section V1
open PySem PySem.W PySem.Spec PySem.Calls PyProof.Rows
/- a cell that is empty yet -/
noncomputable def cellU : OPred where
  P := fun h a => h.IsCell a none
  stab := fun h h' a hk x => let ⟨o, ho, r⟩ := x; ⟨o, hk o ho, r⟩
  get := fun h a x => let ⟨o, ho, hd⟩ := x; ⟨o, ho, (by rw [hd]; intro es n h; cases h), (by rw [hd]; intro v h; cases h)⟩

section
variable {c : Cx} {ρ ρ' : List (Str × D)} {own own' : List Ow} {fz fz' : FZ} {s s' : Shared} {d : D}

theorem Frm.setCell {x : Str} {q : Addr} {v : Value} {h' : Heap} {tk : Nat} (F : Frm c ρ (⟨none, q, .pr cellU⟩ :: own) fz s) (hx : c.env.kindOf x = some .cell) (hc : c.env.cells.lookup x = some q)
    (hs : Heap.ExtBut q s.heap h') (hc' : h'.IsCell q (some v)) (r : Rep fz v d) (htk : 1 ≤ tk) : Frm c ((x, d) :: ρ) own fz { s with heap := h', toks := tk } := by
  have F₁ := F.dropBut hs htk
  obtain ⟨m, hn, hr, hw⟩ := F₁.ns
  refine ⟨F₁.nx, F₁.I, ⟨m, hn, fun y e hy => ?_, hw⟩, F₁.lo, F₁.ow, F₁.nodup, F₁.tk, F₁.kp⟩
  rw [List.lookup_cons] at hy
  split at hy
  · rename_i hq
    cases hy
    rw [beq_iff_eq.mp hq]
    exact ⟨v, .inr ⟨q, .inl hx, hc, hc'⟩, r⟩
  · exact hr y e hy

theorem ex_assign_cell {x : Str} {q : Addr} {e : PySem.Expr} {rest : List Stmt} {p pos} {R : Flow → FZ → Shared → Prop} (hp : own.Perm (⟨none, q, .pr cellU⟩ :: own')) (he : EV c ρ own e d) (h : EX c ((x, d) :: ρ) own' rest R)
    (hx : c.env.kindOf x = some .cell) (hc : c.env.cells.lookup x = some q) (hs : swapsWith e (some (.Name x p)) pos.line c.env = pure false) :
    EX c ρ own (.Assign [.Name x p] e pos :: rest) R := fun fz s F Q E hQ =>
  wpAny_execs_cons (wpAny_Assign_Name (he fz s F _ _ fun v fz₁ s₁ N₁ F₁ r₁ => by
    have F₂ := F₁.perm hp
    have hcell : s₁.heap.IsCell q none := (F₂.ow _ (.head _)).2.2
    exact wpAny_storeName_cell c.kind hx hc hcell fun h' hc' hs' => h fz₁ _ (F₂.setCell (tk := s₁.toks) hx hc hs'.extBut hc' r₁ F₂.tk) Q E fun f fz' s' hl r => hQ f fz' s' (fun a o e => hl a o (N₁.mono a o e)) r) hs)

/- an object that nobody looks at changes -/
theorem Frm.off {C : Addr} {h' : Heap} {tk : Nat} (F : Frm c ρ own fz s) (hs : Heap.ExtBut C s.heap h') (hz : s.heap.objs.size ≤ h'.objs.size) (hlo : c.s₀.heap.objs.size ≤ C) (hf : fz C = none) (hL : c.env.locals ≠ C) (ho : ∀ q ∈ own, q.addr ≠ C)
    (hcell : ∀ q v, s.heap.IsCell q (some v) → q ≠ C) (hkA : c.kA = fun _ => none) (htk : 1 ≤ tk) : Frm c ρ own fz { s with heap := h', toks := tk } := by
  obtain ⟨m, hn, hr, hw⟩ := F.ns
  refine ⟨F.nxBut hs hlo (Nat.le_trans F.nx.size hz), F.I.but hs hf (F.ne78 hlo) (F.ne95 hlo), ⟨m, hn.extBut hs hL, fun y e hy => ?_, hw⟩, F.lo, fun q hq => ?_, F.nodup, htk, F.kp.but hs fun b o e => by rw [hkA] at e; cases e⟩
  · obtain ⟨u, hb, ru⟩ := hr y e hy
    refine ⟨u, ?_, ru⟩
    rcases hb with hb | ⟨q, hk, hl, hc⟩
    · exact .inl hb
    · obtain ⟨o', ho', hd'⟩ := id hc
      exact .inr ⟨q, hk, hl, o', hs _ _ (hcell q u hc) ho', hd'⟩
  · obtain ⟨h1, h2, h3⟩ := F.ow q hq
    exact ⟨h1, h2, h3.keep (fun _ _ e => e) fun o' e => hs _ _ (ho q hq) e⟩

noncomputable def Cx.pin (c : Cx) (C : Addr) (o : Obj) : Cx := { c with kA := fun b => if b = C then some o else none }
theorem Frm.pin {C : Addr} {o : Obj} (F : Frm c ρ own fz s) (hC : s.heap.get? C = some o) (h1 : C ≠ 78) (h2 : C ≠ 95) (hL : C ≠ c.env.locals) (ho : ∀ q ∈ own, q.addr ≠ C) : Frm (c.pin C o) ρ own fz s :=
  ⟨F.nx, F.I, F.ns, F.lo, F.ow, F.nodup, F.tk, ⟨fun b o' e => (by
      have e : (if b = C then some o else none) = some o' := e
      split at e
      · rename_i hb; cases e; subst hb; exact ⟨hC, h1, h2, hL⟩
      · cases e), fun b o' e q hq => (by
      have e : (if b = C then some o else none) = some o' := e
      split at e
      · rename_i hb; subst hb; exact ho q hq
      · cases e), F.kp.gens, F.kp.loose⟩⟩
theorem Frm.unpin {C : Addr} {o : Obj} (F : Frm (c.pin C o) ρ own fz s) (hkA : c.kA = fun _ => none) : Frm c ρ own fz s ∧ s.heap.get? C = some o :=
  ⟨⟨F.nx, F.I, F.ns, F.lo, F.ow, F.nodup, F.tk, ⟨fun b o' e => by (rw [hkA] at e; cases e), fun b o' e => by (rw [hkA] at e; cases e), F.kp.gens, F.kp.loose⟩⟩, (F.kp.obj C o (if_pos rfl)).1⟩

/- a name is bound to the list of a comprehension: it is stored ere the comprehension's frame goes -/
theorem ex_assign_comp {x : Str} {p pos : Pos} {rest : List Stmt} {R : Flow → FZ → Shared → Prop} {ρc : List (Str × D)} {target iter elt : PySem.Expr} {ifs : List PySem.Expr} {scope : Scope} {cl : List (Str × Addr)} {cpos : Pos} {n : Nat} {item : Nat → D} (outs : Nat → Option D)
    (hx : c.env.kindOf x = some .local) (ho : (own.any fun q => q.name == some x) = false) (hkA : c.kA = fun _ => none) (hsw : swapsWith (.ListComp elt [⟨target, iter, ifs, 0⟩] scope cpos) (some (.Name x p)) pos.line c.env = pure true)
    (hcl : closureFor scope c.env = pure cl) (hkind : scope.kind = .function) (hnames : ∀ x ∈ scope.names, x.2 = .local → scope.names.lookup x.1 = some .local) (hcell : ∀ x ∈ scope.names, x.2 ≠ .cell)
    (hi : ITERN c ρ own target iter n item) (hn : n ≤ sizeLine) (hρ : ∀ p ∈ ρc, FreeOk c scope cl ρ p)
    (turn : ∀ c' : Cx, c'.w = c.w → c'.G = c.G → c'.A = c.A → c'.k = c.k → (∃ C, c'.env = compEnvC scope cl C c.env) → ∀ i own', i < n → (∀ q ∈ own', q.name = none) →
      ∃ ρ', AS c' ρc own' target (item i) ρ' ∧ TST c' ρ' own' ifs (outs i).isSome ∧ (∀ d, outs i = some d → EV c' ρ' own' elt d) ∧ ∀ p ∈ ρc, ρ'.lookup p.1 = some p.2)
    (hs : ∀ x, foldedSetIterable iter c.env x = pure x)
    (h : EX c ((x, .list ((List.range n).filterMap outs)) :: ρ) own rest R) : EX c ρ own (.Assign [.Name x p] (.ListComp elt [⟨target, iter, ifs, 0⟩] scope cpos) pos :: rest) R := fun fz s F Q E hQ => by
  refine wpAny_execs_cons ?_
  rw [exec_Assign_Name_used _ _ _ _ hsw]
  refine wpAny_bind (wpAny_standAt (wpAny_bind ?_))
  show wpAny _ c.A (do let _ ← comprehension (.ListComp elt [⟨target, iter, ifs, 0⟩] scope cpos) scope c.env _ (newList []) false (eval iter c.env) (some (assign (.Name x p) c.env))) _ _ s
  refine wpAny_bind (wpAny_mono (comp_run (use := some (assign (.Name x p) c.env)) (outs := outs) (Q := fun _ s' => wpAny c.M c.A (execs rest c.env) Q E s') (E := E) hcl hkind hnames hcell hi hn hρ turn F (fun c' acc fz' s' e1 e2 e3 e4 F' => ?_) hs) (fun _ s' hq => wpAny_pure (wpAny_pure hq)) fun _ _ e => e)
  obtain ⟨m, fz₂, hn', hf, h78, h95, hlo, N, I, r, tk⟩ := comp_out (c := c) e1 e2 e3 F'
  have F₂ := F.next N I tk
  obtain ⟨mL, hnL, _⟩ := F.ns
  have hLC : c.env.locals ≠ c'.env.locals := Nat.ne_of_lt (Nat.lt_of_lt_of_le hnL.lt hlo)
  have hoC : ∀ q ∈ own, q.addr ≠ c'.env.locals := fun q hq => by
    obtain ⟨o, hg, _⟩ := (F.ow q hq).2.2.get
    exact Nat.ne_of_lt (Nat.lt_of_lt_of_le (Heap.lt_size hg) hlo)
  obtain ⟨oC, es, ep, eC, dC, rC⟩ := hn'
  show wpAny c.M c.A (assign (.Name x p) c.env (.ref acc)) _ _ _
  refine wpAny_assign_Name (store_local (c := c.pin c'.env.locals oC) (F₂.pin eC h78 h95 (Ne.symm hLC) hoC) hx ho r fun s₃ F₃ => ?_)
  obtain ⟨F₄, e₄⟩ := F₃.unpin hkA
  refine ⟨m, ⟨oC, es, ep, e₄, dC, rC⟩, fun h' hs' => ?_⟩
  have hlo' : c.s₀.heap.objs.size ≤ c'.env.locals := Nat.le_trans F.nx.size hlo
  have F₅ : Frm c ((x, .list ((List.range n).filterMap outs)) :: ρ) own fz₂ { s₃ with heap := h', toks := s₃.toks } :=
    F₄.off hs'.extBut (by rw [hs'.1]; exact Nat.le_refl _) hlo' hf hLC hoC (fun q v hc => IsCell_ne hc e₄ (by rw [dC]; intro v h; cases h)) hkA F₄.tk
  exact h fz₂ _ F₅ Q E fun f fz' s' hl r => hQ f fz' s' (fun a o e => hl a o (N.mono a o e)) r
end

end V1

section V2
open PySem PySem.W PySem.Spec PySem.Calls PyProof.Rows
section
variable {c : Cx} {ρ ρ' : List (Str × D)} {own own' : List Ow} {fz fz' : FZ} {s s' : Shared} {d : D}

theorem op_fdiv7 {a : Int} : OP2 c (binaryOp .FloorDiv) (.int a) (.int 7) (.int (a.fdiv 7)) := fun fz s v₁ v₂ I tk r₁ r₂ Q E hQ => by
  obtain ⟨_, rfl⟩ := r₁.inv; obtain ⟨_, rfl⟩ := r₂.inv
  exact floordiv_int (by decide) (fin0 I hQ (.int _ _) _) (Or.inl (PyProof.noPylong_of_log2 (by decide +kernel)))

theorem ints_are {fz : FZ} : ∀ {vs : List Value} {ns : List Int}, Reps fz vs (ns.map .int) → IntsAre vs ns
  | [], [], _ => .nil
  | v :: vs, n :: ns, r => by
    cases r with
    | cons a r => cases a with
      | int _ t => exact .cons n t (ints_are r)
  | [], _ :: _, r => by cases r
  | _ :: _, [], r => by cases r
theorem reps_ints {fz : FZ} : ∀ {vs : List Value} {ns : List Int}, IntsAre vs ns → Reps fz vs (ns.map .int)
  | _, _, .nil => .nil
  | _, _, .cons n t h => .cons (.int n t) (reps_ints h)

theorem op_sum {ns : List Int} : OPs c (fun vs => call (.builtin "sum") vs) [.list (ns.map .int)] (.int ns.sum) := fun fz s vs I tk r Q E hQ => by
  obtain ⟨_, _, rfl, a, r⟩ := r.inv
  · obtain rfl := r.inv
    · obtain ⟨l, us, n, rfl, e, rs⟩ := a.inv
      ·
        have hi := ints_are rs
        obtain ⟨xs, hx⟩ := hi.allInts.items
        have hn : numsOf us.toArray.toList = ns := by rw [show us.toArray.toList = us from rfl, hi.numsOf]
        have hl := IsList_of I e
        rw [hx] at hl hn
        rw [nums_intItems] at hn
        refine with_size (sum_intListG c.room.handled hl fun h' tk' t' hk hsz => ?_)
        obtain ⟨N, I'⟩ := ext_next (c := c) (tk := tk') I (fun b o _ e => hk b o e) hsz
        rw [preSum_eq, List.take_of_length_le (by simp), hn]
        exact hQ _ fz _ N I' (.int _ _)

noncomputable def isZero : Value → Bool
  | .int i _ => i == 0
  | _ => false
theorem countP_zero {fz : FZ} : ∀ {vs : List Value} {w : List Nat}, Reps fz vs (w.map natD) → vs.countP isZero = w.count 0 ∧ ∀ y ∈ vs, ∃ i t, y = .int i t
  | [], [], _ => ⟨rfl, fun y h => nomatch h⟩
  | v :: vs, n :: ns, r => by
    cases r with
    | cons a r =>
      unfold natD at a
      cases a with
      | int _ t =>
        obtain ⟨h1, h2⟩ := countP_zero r
        refine ⟨?_, fun y hy => ?_⟩
        · rw [List.countP_cons, List.count_cons, h1]
          have : isZero (.int (n : Int) t) = (n == 0) := by
            show ((n : Int) == 0) = (n == 0)
            cases n <;> rfl
          rw [this]
        · rcases List.mem_cons.mp hy with rfl | hy
          · exact ⟨_, _, rfl⟩
          · exact h2 y hy
  | [], _ :: _, r => by cases r
  | _ :: _, [], r => by cases r
theorem op_count0 {w : List Nat} : OPs c (fun vs => call (.builtin "list.count") vs) [wayD w, .int 0] (.int ((w.count 0 : Nat) : Int)) := fun fz s vs I tk r Q E hQ => by
  obtain ⟨_, _, rfl, a, r⟩ := r.inv
  · obtain ⟨_, _, rfl, b, r⟩ := r.inv
    · obtain rfl := r.inv
      ·
        unfold wayD at a
        obtain ⟨u, rfl⟩ := b.inv
        · obtain ⟨l, us, n, rfl, e, rs⟩ := a.inv
          ·
            obtain ⟨h1, h2⟩ := countP_zero rs
            refine call_meets PySem.F.slot_list_count ⟨_, I.le _ _ e, rfl⟩ PySem.F.entry_list_count (PySem.F.args_list_count_2 _ _) (SeqAt.list_countAt l us.toArray n none #[] (.int 0 u) isZero) ⟨I.le _ _ e, fun y hy => ?_, ?_⟩
            · obtain ⟨i, t, rfl⟩ := h2 y (by simpa using hy)
              exact SeqAt.EqAt.int_int _ _ _ _
            · show Q (.int (us.countP isZero : Nat) s.toks) _
              rw [h1]
              exact fin0 I hQ (.int _ _) _

theorem last_idx {n : Nat} (h : 0 < n) : ((-1 : Int) + (n : Int)).toNat = n - 1 := by
  cases n with
  | zero => cases h
  | succ m =>
    have e : (-1 : Int) + ((m + 1 : Nat) : Int) = (m : Int) := by (first | lia | omega)
    rw [e]
    exact Int.toNat_natCast m
/- the last of a list that grows -/
theorem ev_last {x : Str} {a : Addr} {ds : List D} {np cp up pos : Pos} {k : Nat} (hg : ownGet own x = some (a, ds)) (hd : ds.getLast? = some d) (hl : ds.length ≤ 1000) (hdb : (x == ("__debug__" : Str)) = false) :
    EV c ρ own (.Subscript (.Name x np) (.UnaryOp .USub (.Constant (.int 1) k cp) up) pos) d := EV.mk fun fz s F Q E hQ => by
  have hm := ownGet_mem hg
  obtain ⟨m, hn, hr, hw⟩ := F.ns
  obtain ⟨hk, hv⟩ := hw _ hm x rfl
  refine Subscript_ (wpAny_Name (wpAny_loadName_local c.kind hk hn hv ?_) hdb)
  refine ev_un (d := .int (-1)) ev_int op_neg fz s F _ _ fun v fz₁ s₁ N₁ F₁ r₁ => ?_
  obtain ⟨t, rfl⟩ := r₁.inv
  ·
    obtain ⟨ha, hf, vs, n, hg₁, rs⟩ := F₁.ow _ hm
    have hlen := rs.length
    have hne : ds ≠ [] := fun e => by rw [e] at hd; cases hd
    have hpos : 0 < ds.length := List.length_pos_iff.mpr hne
    obtain ⟨u, hu, r⟩ := rs.get (ds.length - 1) d (by rw [← List.getLast?_eq_getElem?]; exact hd)
    refine tail_any (T := "list") ⟨_, hg₁, rfl⟩ PySem.F.slot_list_getitem.lookup (wpAny_getItem_list_neg (x := u) ⟨_, hg₁, rfl, n, rfl⟩ (by decide) ?_ (by decide) ?_ (hQ u fz₁ s₁ N₁ F₁.I r)) rfl
    · rw [List.size_toArray]; (first | lia | omega)
    · rw [List.size_toArray, List.getElem?_toArray]
      have : ((-1 : Int) + (vs.length : Int)).toNat = ds.length - 1 := by rw [hlen]; exact last_idx hpos
      rw [this]
      exact hu
end

end V2

section V3
open PySem PySem.W PySem.Spec PySem.Calls PyProof.Rows
inductive IntsLit : List PySem.Expr → List Int → Prop
  | nil : IntsLit [] []
  | cons {i : Int} {k : Nat} {p : Pos} {es : List PySem.Expr} {is : List Int} : IntsLit es is → IntsLit (.Constant (.int i) k p :: es) (i :: is)

theorem lits_spliced {M : Model} {A : Around} {env : Env} {pos : Pos} : ∀ {es : List PySem.Expr} {is : List Int}, IntsLit es is → ∀ (s : Shared) (Q : List Value → Shared → Prop) (E : Value → Shared → Prop),
    (∀ vs tk, s.toks + is.length ≤ tk → IntsAre vs is → Q vs { s with toks := tk }) → wpAny M A (spliced (backTo pos (starEach es env))) Q E s
  | _, _, .nil, s, Q, E, h => Calls.spliced_nil (h [] s.toks (Nat.le_refl _) .nil)
  | _, _, .cons (i := i) (k := k) (p := p) (es := es) (is := is) hr, s, Q, E, h => by
    show wpAny M A (spliced ((false, eval (.Constant (.int i) k p) env) :: backTo pos (starEach es env))) Q E s
    refine Calls.spliced_cons (wpAny_Constant_int (lits_spliced hr _ _ E fun vs tk htk hv => h _ tk ?_ (.cons _ _ hv)))
    show s.toks + (is.length + 1) ≤ tk
    have : s.toks + 1 + is.length ≤ tk := htk
    (first | lia | omega)

structure CellFn (w : World) (a : Addr) (oc : Value) (od : Option Addr) (sl : Array (Option Value)) (fd : FuncData) (body : List Stmt) : Prop where
  at_ : (hd.heap_39 w.params).lookup a = some ⟨oc, od, .func fd, sl⟩
  co : fd.scope.isCoroutine = false
  gen : fd.scope.isGenerator = false
  body : fd.body = .stmts body
  kind : fd.scope.kind = .function
  glob : fd.globals = mainGlobals
  bi : fd.builtins = builtinsNs
  clos : fd.closure = []
  code : codeIn (hd.heap_39 w.params) fd.code fd.qualname = true

/- a def whose one parameter is a cell, and that binds a cell to a list of numbers first -/
theorem call_given {c : Cx} {a : Addr} {oc : Value} {od : Option Addr} {sl : Array (Option Value)} {fd : FuncData} {x g y : Str} {es : List PySem.Expr} {is : List Int} {lp p pos : Pos} {rest : List Stmt} {d d' : D} {fz : FZ} {s : Shared} {l : Addr} {Q E : Value → Shared → Prop}
    (f : CellFn c.w a oc od sl fd (.Assign [.Name g p] (.List es lp) pos :: rest)) (hbind : ∀ v, bindArgs fd ⟨[v], []⟩ = pure [(x, v)])
    (hx : fd.scope.names.lookup x = some .cell) (hg : fd.scope.names.lookup g = some .cell) (hxy : x ≠ y) (hxg : x ≠ g) (hgy : g ≠ y) (hk : 1 ≤ c.k) (hes : IntsLit es is) (his : is.length ≤ 100) (his1 : 1 ≤ is.length)
    (qx qg qy : Addr → Addr) (cx : ∀ L, (cellsFrom (L + 1) fd.scope.names []).lookup x = some (qx L)) (cg : ∀ L, (cellsFrom (L + 1) fd.scope.names []).lookup g = some (qg L)) (cy : ∀ L, (cellsFrom (L + 1) fd.scope.names []).lookup y = some (qy L))
    (I : Inv c.G fz s) (r : Rep fz (.ref l) d)
    (h : ∀ c' : Cx, c'.w = c.w → c'.G = c.G → c'.k + 1 = c.k → c'.kA = (fun _ => none) → ∀ L, c'.env = callEnvC fd L a → EX c' [(g, .list (is.map .int)), (x, d)] [⟨none, qy L, .pr cellU⟩] rest (RetR c' d'))
    (hQ : ∀ v fz' s', Next fz s fz' s' → Inv c.G fz' s' → Rep fz' v d' → Q v s') : wpAny c.M c.A (call (.ref a) [.ref l]) Q E s := by
  obtain ⟨mg, mb, T⟩ := c.st.top
  refine wpAny_call (codeAny_call_cells c.room.dlt (I.ge (c.st.k a _ f.at_)) rfl (T.nolimit.keeps fun b o e => I.ge e) ((codeRec_of c.st.k f.code).keeps fun b o e => I.ge e) f.body (hbind _) f.clos (fun z hz => ?_) (fun s₁ X => ?_) f.co f.gen f.kind)
  · rw [List.mem_singleton.mp hz]
    exact .inr ⟨hx, by rw [cx]; rfl⟩
  generalize hL : s.heap.objs.size = L at X ⊢
  have hkx : (callEnvC fd L a).kindOf x = some .cell := hx
  have hkg : (callEnvC fd L a).kindOf g = some .cell := hg
  have hm : bindL (callEnvC fd L a).kindOf [(x, .ref l)] (fun _ => none) = fun _ => none := by
    show (if (callEnvC fd L a).kindOf x = some .local then _ else _) = _
    rw [if_neg (by rw [hkx]; decide)]
  have hcm : bindC (callEnvC fd L a).kindOf [(x, .ref l)] (fun _ => none) = fun z => if z = x then some (.ref l) else none := by
    show (if (callEnvC fd L a).kindOf x = some .local then _ else _) = _
    rw [if_neg (by rw [hkx]; decide)]
  rw [hm, hcm] at X
  have hns := X.toInCall.ns
  have kp := X.toInCall.keep
  have hcX : s₁.heap.IsCell (qx L) (some (.ref l)) := by have := X.cell x _ (cx L); simpa using this
  have hcG : s₁.heap.IsCell (qg L) none := by have := X.cell g _ (cg L); simpa [Ne.symm hxg] using this
  have hcY : s₁.heap.IsCell (qy L) none := by have := X.cell y _ (cy L); simpa [Ne.symm hxy] using this
  have hLx := X.above x _ (mem_of_lookup (cx L))
  have hLg := X.above g _ (mem_of_lookup (cg L))
  have hLy := X.above y _ (mem_of_lookup (cy L))
  have nxg : qx L ≠ qg L := fun e => hxg (name_of_addr X.apart (mem_of_lookup (cx L)) (e ▸ mem_of_lookup (cg L)))
  have nyg : qy L ≠ qg L := fun e => hgy (name_of_addr X.apart (mem_of_lookup (cg L)) (e ▸ mem_of_lookup (cy L)))
  have hLe : (callEnvC fd L a).locals = L := rfl
  rw [hLe] at hns hLx hLg hLy
  obtain ⟨h₁, tk₁, e₁⟩ := X.toInCall.same
  have hgens : s₁.gens = s.gens := by rw [e₁]
  have hos : s₁.os = s.os := by rw [e₁]
  obtain ⟨j, hj⟩ : ∃ j, c.k = j + 1 := ⟨c.k - 1, by (first | lia | omega)⟩
  let c' : Cx := { w := c.w, G := c.G, A := c.A.deeper (callEnvC fd L a), env := callEnvC fd L a, fz₀ := fz, s₀ := s, k := j, st := c.st, room := Room.deeper (by rw [← hj]; exact c.room), kind := f.kind, glob := f.glob, bi := f.bi, big := I.lt95 }
  refine wpAny_execs_cons (wpAny_Assign_Name (List_ (lits_spliced hes s₁ _ _ fun vs tk htk hv => wpAny_newList ?_ ?_)) rfl)
  · refine wpAny_storeName_cell f.kind hkg (cg L) (v₀ := none) (let ⟨o, ho, hd⟩ := hcG; ⟨o, Heap.get?_push_of_some _ ho, hd⟩) fun h' hc' hs' => ?_
    dsimp only at hc' hs' ⊢
    have hlen : vs.length = is.length := by have := (reps_ints (fz := fz) hv).length; rw [List.length_map] at this; exact this
    have keep : ∀ b o, b ≠ qg L → s₁.heap.get? b = some o → h'.get? b = some o := fun b o hb e => hs'.extBut b o hb (Heap.get?_push_of_some _ e)
    have hltG : qg L < s₁.heap.objs.size := by obtain ⟨o, ho, _⟩ := hcG; exact Heap.lt_size ho
    have hltY : qy L < s₁.heap.objs.size := by obtain ⟨o, ho, _⟩ := hcY; exact Heap.lt_size ho
    have hD : h'.get? s₁.heap.objs.size = some (listO vs 0) := hs'.extBut _ _ (Nat.ne_of_gt hltG) (Heap.get?_push_size _ rfl)
    have kp' : ∀ b o, s.heap.get? b = some o → h'.get? b = some o := fun b o e => keep b o (Nat.ne_of_lt (Nat.lt_trans (Nat.lt_of_lt_of_le (Heap.lt_size e) (Nat.le_of_eq hL)) hLg)) (kp b o e)
    have hz : s.heap.objs.size ≤ h'.objs.size := by
      rw [hL]
      exact Nat.le_of_lt (Nat.lt_trans hLg (Nat.lt_trans hltG (Heap.lt_size hD)))
    have N₀ : Next fz s fz { s₁ with heap := h', toks := tk } := ⟨fun _ _ e => e, fun _ _ e => e, hz, fun b o _ _ e => kp' b o e, fun gi z e => by show s₁.gens[gi]? = some z; rw [hgens]; exact e, hos⟩
    have I₀ : Inv c.G fz { s₁ with heap := h', toks := tk } := ⟨I.base, fun b o e => kp' b o (I.le b o e), I.t78.mono (fun _ _ e => e) (let ⟨o, e⟩ := I.t78.get; by show s.heap.get? _ = h'.get? _; rw [e, kp' _ _ e]),
      I.t95.mono (fun _ _ e => e) (let ⟨o, e⟩ := I.t95.get; by show s.heap.get? _ = h'.get? _; rw [e, kp' _ _ e]), I.f78, I.f95, by show AllBare s₁.gens; rw [hgens]; exact I.gens⟩
    have hsL : s.heap.objs.size ≤ L := Nat.le_of_eq hL
    have hfD : fz s₁.heap.objs.size = none := I.fresh (Nat.le_trans hsL (Nat.le_of_lt (Nat.lt_trans hLg hltG)))
    have hloD : s.heap.objs.size ≤ s₁.heap.objs.size := Nat.le_trans hsL (Nat.le_of_lt (Nat.lt_trans hLg hltG))
    have n78 : ∀ b, s.heap.objs.size ≤ b → b ≠ 78 := fun b hb => Nat.ne_of_gt (Nat.lt_of_lt_of_le (Nat.lt_trans (by decide) I.lt95) hb)
    have n95 : ∀ b, s.heap.objs.size ≤ b → b ≠ 95 := fun b hb => Nat.ne_of_gt (Nat.lt_of_lt_of_le I.lt95 hb)
    have hle := FZ.put_le (o := listO vs 0) hfD
    have F : Frm c' [(g, .list (is.map .int)), (x, d)] [⟨none, qy L, .pr cellU⟩] (fz.put s₁.heap.objs.size (listO vs 0)) { s₁ with heap := h', toks := tk } := by
      refine ⟨N₀.freeze hfD hloD, I₀.freeze hD hfD (n78 _ hloD) (n95 _ hloD), ⟨fun _ => none, ?_, fun z e he => ?_, fun q hq z hz => ?_⟩, ⟨hsL, ?_⟩, fun q hq => ?_, by simp, by show 1 ≤ tk; (first | lia | omega), Kept.none rfl rfl rfl⟩
      · exact let ⟨o, es, ep, ho, rr⟩ := hns; ⟨o, es, ep, keep _ _ (Nat.ne_of_lt hLg) ho, rr⟩
      · rw [List.lookup_cons] at he
        split at he
        · rename_i hq
          cases he
          rw [beq_iff_eq.mp hq]
          exact ⟨.ref s₁.heap.objs.size, .inr ⟨qg L, .inl hkg, cg L, hc'⟩, .list (FZ.put_self _ _ _) (reps_ints hv)⟩
        · rw [List.lookup_cons] at he
          split at he
          · rename_i hq
            cases he
            rw [beq_iff_eq.mp hq]
            obtain ⟨o, ho, hd⟩ := hcX
            exact ⟨.ref l, .inr ⟨qx L, .inl hkx, cx L, o, keep _ _ nxg ho, hd⟩, r.mono hle⟩
          · cases he
      · rw [List.mem_singleton.mp hq] at hz; cases hz
      · show fz.put s₁.heap.objs.size (listO vs 0) L = none
        rw [FZ.put_ne _ _ (Nat.ne_of_lt (Nat.lt_trans hLg hltG))]
        exact I.fresh hsL
      · rw [List.mem_singleton.mp hq]
        obtain ⟨o, ho, hd⟩ := hcY
        exact ⟨Nat.le_trans hsL (Nat.le_of_lt hLy), by rw [FZ.put_ne _ _ (Nat.ne_of_lt hltY)]; exact I.fresh (Nat.le_trans hsL (Nat.le_of_lt hLy)), o, keep _ _ nyg ho, hd⟩
    refine h c' rfl rfl hj.symm rfl L rfl _ _ F _ _ ?_
    rintro fl fz' s' hle ⟨v, rfl, N, I', r'⟩
    exact hQ v fz' s' N I' r'
  · have hlen : vs.length = is.length := by have := (reps_ints (fz := fz) hv).length; rw [List.length_map] at this; exact this
    rw [hlen]; exact Nat.le_trans his (by decide)

end V3

section P3
open PySem PySem.W PySem.Spec PySem.Calls PyProof.Rows

/- ## a nest told by depths and names -/
noncomputable def Fo.rows : Nat → Fo → List (Nat × List Nat)
  | _, .nil => []
  | d, .cons n ch sib => (d, n) :: (ch.rows (d + 1) ++ sib.rows d)
noncomputable def Fo.ways : List Nat → Fo → List (List Nat)
  | _, .nil => []
  | p, .cons n ch sib => p :: (ch.ways (p ++ [1]) ++ sib.ways (p ++ [0]))
noncomputable def Fo.names : Fo → List (List Nat)
  | .nil => []
  | .cons n ch sib => n :: (ch.names ++ sib.names)

theorem Fo.rows_len : ∀ (f : Fo) (d : Nat), (f.rows d).length = f.size
  | .nil, _ => rfl
  | .cons n ch sib, d => by
    show (ch.rows (d + 1) ++ sib.rows d).length + 1 = 1 + ch.size + sib.size
    rw [List.length_append, Fo.rows_len ch, Fo.rows_len sib]; (first | lia | omega)
theorem Fo.ways_len : ∀ (f : Fo) (p : List Nat), (f.ways p).length = f.size
  | .nil, _ => rfl
  | .cons n ch sib, p => by
    show (ch.ways _ ++ sib.ways _).length + 1 = 1 + ch.size + sib.size
    rw [List.length_append, Fo.ways_len ch, Fo.ways_len sib]; (first | lia | omega)
theorem Fo.names_len : ∀ (f : Fo), f.names.length = f.size
  | .nil => rfl
  | .cons n ch sib => by
    show (ch.names ++ sib.names).length + 1 = 1 + ch.size + sib.size
    rw [List.length_append, Fo.names_len ch, Fo.names_len sib]; (first | lia | omega)
theorem Fo.rows_names : ∀ (f : Fo) (d : Nat), (f.rows d).map (·.2) = f.names
  | .nil, _ => rfl
  | .cons n ch sib, d => by
    show n :: (ch.rows (d + 1) ++ sib.rows d).map (·.2) = n :: (ch.names ++ sib.names)
    rw [List.map_append, Fo.rows_names ch, Fo.rows_names sib]

theorem chain_suffix : ∀ (a b : List Nat) (k h : Nat), chainOk h (a ++ b) → (∀ x r, b = x :: r → x ≤ k) → chainOk k b
  | [], [], _, _, _, _ => trivial
  | [], x :: r, k, h, hc, hk => ⟨hk x r rfl, hc.2⟩
  | y :: a, b, k, h, hc, hk => chain_suffix a b k (y + 1) hc.2 hk
theorem Fo.parse : ∀ (n d : Nat) (rs : List (Nat × List Nat)), rs.length ≤ n → chainOk d (rs.map (·.1)) → (∀ p ∈ rs, NmOk p.2) → ∃ f rest, rs = Fo.rows d f ++ rest ∧ f.Good ∧ ∀ p r, rest = p :: r → p.1 < d
  | _, d, [], _, _, _ => ⟨.nil, [], rfl, trivial, fun p r h => nomatch h⟩
  | 0, d, p :: tl, h, _, _ => absurd h (Nat.not_succ_le_zero _)
  | n + 1, d, (e, nm) :: tl, h, hc, hg => by
    rcases Nat.lt_or_ge e d with hlt | hge
    · exact ⟨.nil, (e, nm) :: tl, rfl, trivial, fun p r hp => by cases hp; exact hlt⟩
    · have he : e = d := Nat.le_antisymm hc.1 hge
      subst he
      have hlen : tl.length ≤ n := Nat.le_of_succ_le_succ h
      obtain ⟨f₁, r₁, e₁, g₁, h₁⟩ := Fo.parse n (e + 1) tl hlen hc.2 fun p hp => hg p (.tail _ hp)
      have hl₁ : r₁.length ≤ n := by
        have := congrArg List.length e₁
        rw [List.length_append] at this; (first | lia | omega)
      obtain ⟨f₂, r₂, e₂, g₂, h₂⟩ := Fo.parse n e r₁ hl₁ (by
        have hc2 : chainOk (e + 1) (tl.map (·.1)) := hc.2
        rw [e₁, List.map_append] at hc2
        refine chain_suffix _ _ _ _ hc2 fun x r hx => ?_
        cases r₁ with
        | nil => cases hx
        | cons p r' =>
          have hx : p.1 :: r'.map (·.1) = x :: r := hx
          cases hx
          exact Nat.le_of_lt_succ (h₁ p r' rfl)) fun p hp => hg p (.tail _ (by rw [e₁]; exact List.mem_append_right _ hp))
      refine ⟨.cons nm f₁ f₂, r₂, ?_, ⟨hg (e, nm) (.head _), g₁, g₂⟩, h₂⟩
      show (e, nm) :: tl = (e, nm) :: (f₁.rows (e + 1) ++ f₂.rows e) ++ r₂
      rw [e₁, e₂, List.cons_append, List.append_assoc]
theorem Fo.parsed {rs : List (Nat × List Nat)} (hc : chainOk 0 (rs.map (·.1))) (hg : ∀ p ∈ rs, NmOk p.2) : ∃ f : Fo, rs = f.rows 0 ∧ f.Good ∧ f.size = rs.length := by
  obtain ⟨f, rest, e, g, h⟩ := Fo.parse _ 0 rs (Nat.le_refl _) hc hg
  have : rest = [] := by
    cases rest with
    | nil => rfl
    | cons p r => exact absurd (h p r rfl) (Nat.not_lt_zero _)
  subst this
  rw [List.append_nil] at e
  exact ⟨f, e, g, by rw [e, Fo.rows_len]⟩

/- the ways -/
theorem take_getD {last last' : List (List Nat)} {n j : Nat} (h : last'.take n = last.take n) (hj : j < n) : last'.getD j [] = last.getD j [] := by
  have := congrArg (fun l => l[j]?) h
  simp only [List.getElem?_take, hj, if_true] at this
  rw [List.getD_eq_getElem?_getD, List.getD_eq_getElem?_getD, this]
theorem wayNew_lt {l : List (List Nat)} {d : Nat} (h : d < l.length) : wayNew l d = l.getD d [] ++ [0] := by unfold wayNew; rw [if_pos h]
theorem wayNew_top {l : List (List Nat)} {d : Nat} (h : l.length = d + 1) : wayNew l (d + 1) = l.getD d [] ++ [1] := by
  unfold wayNew
  rw [h, if_neg (Nat.lt_irrefl _), if_pos (Nat.succ_pos d), Nat.add_sub_cancel]
theorem Fo.ways_fold : ∀ (f : Fo) (d : Nat) (last acc : List (List Nat)), d ≤ last.length → ∃ last', ((f.rows d).map (·.1)).foldl waysS (last, acc) = (last', acc ++ f.ways (wayNew last d)) ∧ last'.take d = last.take d ∧ d ≤ last'.length
  | .nil, d, last, acc, h => ⟨last, by show (last, acc) = (last, acc ++ []); rw [List.append_nil], rfl, h⟩
  | .cons n ch sib, d, last, acc, h => by
    have hl : (last.take d ++ [wayNew last d]).length = d + 1 := by rw [List.length_append, List.length_take, Nat.min_eq_left h]; rfl
    have hget : (last.take d ++ [wayNew last d]).getD d [] = wayNew last d := by
      rw [List.getD_eq_getElem?_getD, List.getElem?_append_right (by rw [List.length_take]; exact Nat.min_le_left _ _), List.length_take, Nat.min_eq_left h, Nat.sub_self]; rfl
    obtain ⟨l₁, e₁, t₁, h₁⟩ := Fo.ways_fold ch (d + 1) (last.take d ++ [wayNew last d]) (acc ++ [wayNew last d]) (Nat.le_of_eq hl.symm)
    have hw₁ : wayNew (last.take d ++ [wayNew last d]) (d + 1) = wayNew last d ++ [1] := by rw [wayNew_top hl, hget]
    obtain ⟨l₂, e₂, t₂, h₂⟩ := Fo.ways_fold sib d l₁ (acc ++ [wayNew last d] ++ ch.ways (wayNew last d ++ [1])) (Nat.le_of_succ_le h₁)
    have hw₂ : wayNew l₁ d = wayNew last d ++ [0] := by rw [wayNew_lt (show d < l₁.length from h₁), take_getD t₁ (Nat.lt_succ_self d), hget]
    refine ⟨l₂, ?_, ?_, h₂⟩
    · show ((ch.rows (d + 1) ++ sib.rows d).map (·.1)).foldl waysS (waysS (last, acc) d) = _
      rw [List.map_append, List.foldl_append]
      show ((sib.rows d).map (·.1)).foldl waysS (((ch.rows (d + 1)).map (·.1)).foldl waysS (last.take d ++ [wayNew last d], acc ++ [wayNew last d])) = _
      rw [e₁, hw₁, e₂, hw₂]
      show (l₂, _) = (l₂, acc ++ (wayNew last d :: (ch.ways (wayNew last d ++ [1]) ++ sib.ways (wayNew last d ++ [0]))))
      simp only [List.append_assoc, List.cons_append, List.nil_append]
    · rw [t₂]
      have := congrArg (List.take d) t₁
      rw [List.take_take, List.take_take, Nat.min_eq_left (Nat.le_succ d), List.take_append_of_le_length (by rw [List.length_take, Nat.min_eq_left h]; exact Nat.le_refl _), List.take_take, Nat.min_self] at this
      exact this
theorem Fo.ways_is (f : Fo) : waysL ((f.rows 0).map (·.1)) = f.ways [] := by
  obtain ⟨l, e, _⟩ := Fo.ways_fold f 0 [] [] (Nat.zero_le _)
  unfold waysL
  rw [e]
  rfl

/- the text -/
theorem deepL_app (a b : List Nat) (d : Nat) : deepL (a ++ b) d = deepL a d ++ deepL b d := by unfold deepL; rw [List.flatMap_append]
theorem rep_more (d : Nat) : List.replicate (2 ^ d) 92 ++ List.replicate (2 ^ d) 92 = List.replicate (2 ^ (d + 1)) (92 : Nat) := by
  rw [List.replicate_append_replicate]; congr 1; rw [Nat.pow_succ]; (first | lia | omega)
theorem deepL_esc (d : Nat) : ∀ x : List Nat, deepL (escL x) d = deepL x (d + 1)
  | [] => rfl
  | c :: r => by
    have h1 : 1 ≤ 2 ^ d := Nat.one_le_two_pow
    rw [escL_cons, deepL_app, deepL_esc d r]
    show _ = deepL ([c] ++ r) (d + 1)
    rw [deepL_app]
    congr 1
    by_cases h92 : c = 92
    · subst h92
      show List.replicate (2 ^ d) 92 ++ (List.replicate (2 ^ d) 92 ++ []) = List.replicate (2 ^ (d + 1)) 92 ++ []
      rw [List.append_nil, List.append_nil, rep_more]
    · by_cases h34 : c = 34
      · subst h34
        show List.replicate (2 ^ d) 92 ++ ((List.replicate (2 ^ d - 1) 92 ++ [34]) ++ []) = (List.replicate (2 ^ (d + 1) - 1) 92 ++ [34]) ++ []
        rw [List.append_nil, List.append_nil, ← List.append_assoc, List.replicate_append_replicate]
        congr 2
        rw [Nat.pow_succ]; (first | lia | omega)
      · have : fJE c = false := by unfold fJE; simp [h92, h34]
        rw [this]
        unfold deepL
        simp [h92, h34]
theorem deepL_0 : ∀ x : List Nat, deepL x 0 = x
  | [] => rfl
  | c :: r => by
    show deepL ([c] ++ r) 0 = [c] ++ r
    rw [deepL_app, deepL_0 r]
    congr 1
    unfold deepL
    by_cases h92 : c = 92
    · subst h92; rfl
    · by_cases h34 : c = 34
      · subst h34; rfl
      · simp [h92, h34]
theorem deepL_qu (d : Nat) : deepL [34] d = markL d := by unfold deepL markL; simp
theorem deepL_free (d : Nat) (x : List Nat) (h : ∀ c ∈ x, c ≠ 92 ∧ c ≠ 34) : deepL x d = x := by
  induction x with
  | nil => rfl
  | cons c r ih =>
    have hc := h c (.head _)
    show deepL ([c] ++ r) d = [c] ++ r
    rw [deepL_app, ih fun y hy => h y (.tail _ hy)]
    congr 1
    unfold deepL
    simp [hc.1, hc.2]
theorem shutL_self (a : Nat) : shutL a a = [] := by unfold shutL; rw [Nat.sub_self]; rfl
theorem shutL_last {e d : Nat} (h : d < e) : shutL e d = shutL e (d + 1) ++ markL d := by
  unfold shutL
  have : e - d = (e - (d + 1)) + 1 := by omega
  rw [this, List.range_succ, List.map_append, List.flatten_append]
  congr 1
  show markL (e - 1 - (e - (d + 1))) ++ [] = markL d
  rw [List.append_nil]
  congr 1
  omega
noncomputable def preL : Option Nat → Nat → List Nat
  | none, _ => []
  | some ab, d => if d ≤ ab then shutL ab d ++ [59, 32] else [61] ++ markL ab
theorem nestS_eq (t : List Nat) (ab : Option Nat) (d : Nat) (n : List Nat) : nestS (t, ab) (d, n) = (t ++ preL ab d ++ deepL n d, some d) := by
  cases ab with
  | none => show (t ++ deepL n d, some d) = (t ++ [] ++ deepL n d, some d); rw [List.append_nil]
  | some a =>
    show (if d ≤ a then (t ++ shutL a d ++ [59, 32] ++ deepL n d, some d) else (t ++ [61] ++ List.replicate (2 ^ a - 1) 92 ++ [34] ++ deepL n d, some d)) = (t ++ (if d ≤ a then shutL a d ++ [59, 32] else [61] ++ (List.replicate (2 ^ a - 1) 92 ++ [34])) ++ deepL n d, some d)
    split <;> simp only [List.append_assoc]
theorem Fo.nest_fold : ∀ (f : Fo) (d : Nat) (t : List Nat) (ab : Option Nat), f.Good → f.isNil = false → ∃ t' e, d ≤ e ∧ (f.rows d).foldl nestS (t, ab) = (t', some e) ∧ t' ++ shutL e d = t ++ preL ab d ++ deepL f.T d
  | .cons n ch sib, d, t, ab, hg, _ => by
    -- what lies in the word
    have step : ∃ t' e, d ≤ e ∧ (ch.rows (d + 1)).foldl nestS (t ++ preL ab d ++ deepL n d, some d) = (t', some e) ∧ t' ++ shutL e d = t ++ preL ab d ++ deepL (n ++ (if ch.isNil then [] else [61, 34] ++ escL ch.T ++ [34])) d := by
      cases hn : ch.isNil with
      | true =>
        rw [Fo.nil_of hn]
        refine ⟨_, d, Nat.le_refl _, rfl, ?_⟩
        rw [shutL_self, List.append_nil, if_pos rfl, List.append_nil]
      | false =>
        obtain ⟨t₁, e₁, h₁, q₁, s₁⟩ := Fo.nest_fold ch (d + 1) (t ++ preL ab d ++ deepL n d) (some d) hg.2.1 hn
        refine ⟨t₁, e₁, Nat.le_of_succ_le h₁, q₁, ?_⟩
        rw [shutL_last h₁, ← List.append_assoc, s₁]
        have hp : preL (some d) (d + 1) = [61] ++ markL d := if_neg (Nat.not_succ_le_self d)
        have h61 : deepL [61] d = [61] := deepL_free d _ (by decide)
        rw [hp, if_neg Bool.false_ne_true, deepL_app n, deepL_app, deepL_app, show ([61, 34] : List Nat) = [61] ++ [34] from rfl, deepL_app [61], deepL_qu, h61, deepL_esc]
        simp only [List.append_assoc]
    obtain ⟨t₁, e₁, h₁, q₁, s₁⟩ := step
    have hT : (Fo.cons n ch sib).T = n ++ (if ch.isNil then [] else [61, 34] ++ escL ch.T ++ [34]) ++ sepT sib.T := rfl
    have hf : ((Fo.cons n ch sib).rows d).foldl nestS (t, ab) = (sib.rows d).foldl nestS (t₁, some e₁) := by
      show (ch.rows (d + 1) ++ sib.rows d).foldl nestS (nestS (t, ab) (d, n)) = _
      rw [List.foldl_append, nestS_eq, q₁]
    rw [hf, hT]
    cases hs : sib.isNil with
    | true =>
      rw [Fo.nil_of hs]
      refine ⟨t₁, e₁, h₁, rfl, ?_⟩
      rw [s₁]
      show _ = t ++ preL ab d ++ deepL (n ++ _ ++ []) d
      rw [List.append_nil]
    | false =>
      obtain ⟨t₂, e₂, h₂, q₂, s₂⟩ := Fo.nest_fold sib d t₁ (some e₁) hg.2.2 hs
      refine ⟨t₂, e₂, h₂, q₂, ?_⟩
      have hp : preL (some e₁) d = shutL e₁ d ++ [59, 32] := if_pos h₁
      have hsep : sepT sib.T = [59, 32] ++ sib.T := by
        have := Fo.T_ne hg.2.2 hs
        cases hq : sib.T with
        | nil => exact absurd hq this
        | cons x r => rfl
      have h59 : deepL [59, 32] d = [59, 32] := deepL_free d _ (by decide)
      rw [s₂, hp, hsep, deepL_app (n ++ _), deepL_app [59, 32], h59, ← List.append_assoc t₁, s₁]
      simp only [List.append_assoc]
theorem Fo.nest_is {f : Fo} (hg : f.Good) (hn : f.isNil = false) : nestL (f.rows 0) = f.T := by
  obtain ⟨t, e, _, q, s⟩ := Fo.nest_fold f 0 [] none hg hn
  unfold nestL nestR
  rw [q]
  show t ++ shutL e 0 = _
  rw [s, deepL_0]
  rfl

end P3

section P4
open PySem PySem.W PySem.Spec PySem.Calls PyProof.Rows

/- ## sorted by their ways, the words are those of the nest turned about -/
noncomputable def Fo.tw : List Nat → Fo → List (List Nat × List Nat)
  | _, .nil => []
  | p, .cons n ch sib => (p, n) :: (sib.tw (p ++ [0]) ++ ch.tw (p ++ [1]))

theorem zip_two {α β : Type} (a b : List α) (c d : List β) (h : a.length = c.length) : (a ++ b).zip (c ++ d) = a.zip c ++ b.zip d := List.zip_append h
theorem Fo.tw_perm : ∀ (f : Fo) (p : List Nat), (f.tw p).Perm ((f.ways p).zip f.names)
  | .nil, _ => .nil
  | .cons n ch sib, p => by
    show ((p, n) :: (sib.tw (p ++ [0]) ++ ch.tw (p ++ [1]))).Perm ((p, n) :: (ch.ways (p ++ [1]) ++ sib.ways (p ++ [0])).zip (ch.names ++ sib.names))
    rw [zip_two _ _ _ _ (by rw [Fo.ways_len, Fo.names_len])]
    exact .cons _ (List.perm_append_comm.trans ((Fo.tw_perm ch _).append (Fo.tw_perm sib _)))
theorem Fo.tw_rows : ∀ (f : Fo) (p : List Nat), (f.tw p).map (fun q => (q.1.count 0, q.2)) = f.turn.rows (p.count 0)
  | .nil, _ => rfl
  | .cons n ch sib, p => by
    have h0 : (p ++ [0]).count 0 = p.count 0 + 1 := by rw [List.count_append]; rfl
    have h1 : (p ++ [1]).count 0 = p.count 0 := by rw [List.count_append]; rfl
    show (p.count 0, n) :: (sib.tw (p ++ [0]) ++ ch.tw (p ++ [1])).map _ = (p.count 0, n) :: (sib.turn.rows (p.count 0 + 1) ++ ch.turn.rows (p.count 0))
    rw [List.map_append, Fo.tw_rows sib, Fo.tw_rows ch, h0, h1]

theorem ltL_pre : ∀ p a b : List Nat, ltL (p ++ a) (p ++ b) = ltL a b
  | [], _, _ => rfl
  | x :: p, a, b => by
    show (if x = x then ltL (p ++ a) (p ++ b) else _) = _
    rw [if_pos rfl, ltL_pre p]
theorem ltL_asymm : ∀ a b : List Nat, ltL a b = true → ltL b a = true → False
  | [], [], h, _ => by cases h
  | [], _ :: _, _, h => by cases h
  | _ :: _, [], h, _ => by cases h
  | x :: a, y :: b, h, h' => by
    have h : (if x = y then ltL a b else decide (x < y)) = true := h
    have h' : (if y = x then ltL b a else decide (y < x)) = true := h'
    by_cases e : x = y
    · subst e
      rw [if_pos rfl] at h h'
      exact ltL_asymm a b h h'
    · rw [if_neg e] at h
      rw [if_neg (Ne.symm e)] at h'
      have := of_decide_eq_true h
      have := of_decide_eq_true h'
      (first | lia | omega)
theorem Fo.tw_pre : ∀ (f : Fo) (p : List Nat), ∀ q ∈ f.tw p, ∃ t, q.1 = p ++ t
  | .nil, _, q, h => nomatch h
  | .cons n ch sib, p, q, h => by
    rcases List.mem_cons.mp (show q ∈ (p, n) :: (sib.tw (p ++ [0]) ++ ch.tw (p ++ [1])) from h) with rfl | h
    · exact ⟨[], (List.append_nil p).symm⟩
    · rcases List.mem_append.mp h with h | h
      · obtain ⟨t, e⟩ := Fo.tw_pre sib _ q h
        exact ⟨0 :: t, by rw [e, List.append_assoc]; rfl⟩
      · obtain ⟨t, e⟩ := Fo.tw_pre ch _ q h
        exact ⟨1 :: t, by rw [e, List.append_assoc]; rfl⟩
noncomputable def ltP (a b : List Nat × List Nat) : Prop := ltL a.1 b.1 = true
theorem Fo.tw_sorted : ∀ (f : Fo) (p : List Nat), (f.tw p).Pairwise ltP
  | .nil, _ => .nil
  | .cons n ch sib, p => by
    refine .cons (fun q hq => ?_) (List.pairwise_append.mpr ⟨Fo.tw_sorted sib _, Fo.tw_sorted ch _, fun a ha b hb => ?_⟩)
    · have key : ∀ x t, q.1 = p ++ [x] ++ t → ltL p q.1 = true := fun x t e => by
        rw [e, List.append_assoc]
        conv => lhs; arg 1; rw [← List.append_nil p]
        rw [ltL_pre]; rfl
      rcases List.mem_append.mp hq with h | h
      · obtain ⟨t, e⟩ := Fo.tw_pre sib _ q h
        exact key 0 t e
      · obtain ⟨t, e⟩ := Fo.tw_pre ch _ q h
        exact key 1 t e
    · obtain ⟨t, e⟩ := Fo.tw_pre sib _ a ha
      obtain ⟨u, e'⟩ := Fo.tw_pre ch _ b hb
      show ltL a.1 b.1 = true
      rw [e, e', List.append_assoc, List.append_assoc, ltL_pre]
      rfl

/- the sort itself, shape by shape -/
noncomputable def sortedB : List (List Nat) → Bool
  | [] => true
  | x :: r => r.all (ltL x) && sortedB r
noncomputable def sortOk (ds : List Nat) : Bool := match sortW (waysL ds) with
  | some q => q.size == ds.length && q.toList.isPerm (List.range ds.length) && sortedB (q.toList.map fun i => (waysL ds).getD i [])
  | none => false
theorem sort5 : ∀ b, b < 2 → ∀ c, c < b + 2 → ∀ d, d < c + 2 → ∀ e, e < d + 2 → sortOk [0, b, c, d, e] = true := by decide +kernel
theorem sort6 : ∀ b, b < 2 → ∀ c, c < b + 2 → ∀ d, d < c + 2 → ∀ e, e < d + 2 → ∀ f, f < e + 2 → sortOk [0, b, c, d, e, f] = true := by decide +kernel
theorem sort_ok {ds : List Nat} (hc : chainOk 0 ds) (hl : ds.length = 5 ∨ ds.length = 6) : sortOk ds = true := by
  rcases hl with hl | hl
  · match ds, hl, hc with
    | [a, b, c, d, e], _, ⟨h0, h1, h2, h3, h4, _⟩ =>
      obtain rfl : a = 0 := Nat.le_zero.mp h0
      exact sort5 b (by (first | lia | omega)) c (by (first | lia | omega)) d (by (first | lia | omega)) e (by (first | lia | omega))
  · match ds, hl, hc with
    | [a, b, c, d, e, f], _, ⟨h0, h1, h2, h3, h4, h5, _⟩ =>
      obtain rfl : a = 0 := Nat.le_zero.mp h0
      exact sort6 b (by (first | lia | omega)) c (by (first | lia | omega)) d (by (first | lia | omega)) e (by (first | lia | omega)) f (by (first | lia | omega))

theorem sortedB_pair : ∀ {l : List (List Nat)}, sortedB l = true → l.Pairwise fun a b => ltL a b = true
  | [], _ => .nil
  | x :: r, h => by
    have h : (r.all (ltL x) && sortedB r) = true := h
    rw [Bool.and_eq_true] at h
    exact .cons (fun y hy => List.all_eq_true.mp h.1 y hy) (sortedB_pair h.2)
theorem range_getD {α : Type} (l : List α) (d : α) : (List.range l.length).map (fun i => l.getD i d) = l := by
  apply List.ext_getElem?
  intro i
  rw [List.getElem?_map]
  by_cases h : i < l.length
  · rw [List.getElem?_range h, List.getElem?_eq_getElem h, Option.map_some, List.getD_eq_getElem?_getD, List.getElem?_eq_getElem h]; rfl
  · rw [List.getElem?_eq_none (by rw [List.length_range]; exact Nat.le_of_not_lt h), List.getElem?_eq_none (Nat.le_of_not_lt h)]; rfl
/- what sorted() gives -/
theorem Fo.sort_is {f : Fo} (hc : chainOk 0 ((f.rows 0).map (·.1))) (hl : f.size = 5 ∨ f.size = 6) :
    ∃ q, sortW (f.ways []) = some q ∧ q.size = f.size ∧ (∀ i ∈ q.toList, i < f.size) ∧ q.toList.map (fun i => ((f.ways []).zip f.names).getD i ([], [])) = f.tw [] := by
  have h := sort_ok hc (by rw [List.length_map, Fo.rows_len]; exact hl)
  unfold sortOk at h
  rw [Fo.ways_is] at h
  rw [List.length_map, Fo.rows_len] at h
  cases hq : sortW (f.ways []) with
  | none => rw [hq] at h; cases h
  | some q =>
    rw [hq] at h
    have h : (q.size == f.size && q.toList.isPerm (List.range f.size) && sortedB (q.toList.map fun i => (f.ways []).getD i [])) = true := h
    rw [Bool.and_eq_true, Bool.and_eq_true] at h
    obtain ⟨⟨h1, h2⟩, h3⟩ := h
    have h1 := beq_iff_eq.mp h1
    have h2 := List.isPerm_iff.mp h2
    have h3 := sortedB_pair h3
    refine ⟨q, rfl, h1, fun i hi => List.mem_range.mp (h2.mem_iff.mp hi), ?_⟩
    have hzl : ((f.ways []).zip f.names).length = f.size := by rw [List.length_zip, Fo.ways_len, Fo.names_len, Nat.min_self]
    have hperm : (q.toList.map fun i => ((f.ways []).zip f.names).getD i ([], [])).Perm (f.tw []) := by
      refine (h2.map _).trans ?_
      rw [← hzl, range_getD]
      exact (Fo.tw_perm f []).symm
    refine List.Perm.eq_of_pairwise (le := ltP) (fun a b _ _ h h' => (ltL_asymm _ _ h h').elim) ?_ (Fo.tw_sorted f []) hperm
    rw [List.pairwise_map] at h3 ⊢
    refine h3.imp fun {i j} hij => ?_
    have hg : ∀ i, (((f.ways []).zip f.names).getD i ([], [])).1 = (f.ways []).getD i [] := fun i => by
      rw [List.getD_eq_getElem?_getD, List.getD_eq_getElem?_getD]
      by_cases hi : i < f.size
      · have hw : i < (f.ways []).length := by rw [Fo.ways_len]; exact hi
        have hn : i < f.names.length := by rw [Fo.names_len]; exact hi
        rw [List.getElem?_eq_getElem (show i < ((f.ways []).zip f.names).length by rw [hzl]; exact hi), List.getElem?_eq_getElem hw, List.getElem_zip]
        rfl
      · rw [List.getElem?_eq_none (by rw [hzl]; exact Nat.le_of_not_lt hi), List.getElem?_eq_none (by rw [Fo.ways_len]; exact Nat.le_of_not_lt hi)]
        rfl
    show ltL _ _ = true
    rw [hg, hg]
    exact hij

/- ## the words outside -/
noncomputable def Fo.outer : Fo → List (List Nat)
  | .nil => []
  | .cons n ch sib => (n ++ if ch.isNil then [] else [61]) :: sib.outer
theorem Fo.outer_ne : ∀ {f : Fo}, f.Good → ∀ x ∈ f.outer, x ≠ []
  | .nil, _, x, h => nomatch h
  | .cons n ch sib, hg, x, h => by
    rcases List.mem_cons.mp (show x ∈ (n ++ if ch.isNil then [] else [61]) :: sib.outer from h) with rfl | h
    · obtain ⟨⟨hn, _⟩, _⟩ := nm_ok hg.1
      intro e
      exact hn (List.append_eq_nil_iff.mp e).1
    · exact Fo.outer_ne hg.2.2 x h
theorem Fo.outer_words : ∀ {f : Fo}, f.Good → joinL [59, 32] f.outer = wordsT (f.ws.map outerW)
  | .nil, _ => rfl
  | .cons n ch sib, hg => by
    have ih := Fo.outer_words hg.2.2
    have hv : (outerW (n, if ch.isNil then WV.no else .quo ch.T)).2.text = if ch.isNil then [] else [61] := by
      cases ch.isNil <;> rfl
    show joinL [59, 32] ((n ++ if ch.isNil then [] else [61]) :: sib.outer) = n ++ (outerW (n, if ch.isNil then WV.no else .quo ch.T)).2.text ++ sepT (wordsT (sib.ws.map outerW))
    rw [hv, ← ih]
    cases hs : sib.outer with
    | nil => show _ = _ ++ []; rw [List.append_nil]; rfl
    | cons x r =>
      have hx : x ≠ [] := Fo.outer_ne hg.2.2 x (by rw [hs]; exact .head _)
      have hj : joinL [59, 32] (x :: r) ≠ [] := by
        cases r with
        | nil => exact hx
        | cons y r => intro e; exact hx (List.append_eq_nil_iff.mp (List.append_eq_nil_iff.mp e).1).1
      show (n ++ _) ++ [59, 32] ++ joinL [59, 32] (x :: r) = n ++ _ ++ sepT (joinL [59, 32] (x :: r))
      cases hq : joinL [59, 32] (x :: r) with
      | nil => exact absurd hq hj
      | cons y t => rw [List.append_assoc]; rfl

noncomputable def nearG (b : Nat) (W : List (List Nat)) (q : List Nat × List Nat) : Option (List Nat) := if b ∈ q.1 then none else some (q.2 ++ if q.1 ++ [b] ∈ W then [61] else [])
theorem Fo.ways_pre : ∀ (f : Fo) (p : List Nat), ∀ w ∈ f.ways p, ∃ t, w = p ++ t
  | .nil, _, w, h => nomatch h
  | .cons n ch sib, p, w, h => by
    rcases List.mem_cons.mp (show w ∈ p :: (ch.ways (p ++ [1]) ++ sib.ways (p ++ [0])) from h) with rfl | h
    · exact ⟨[], (List.append_nil w).symm⟩
    · rcases List.mem_append.mp h with h | h
      · obtain ⟨t, e⟩ := Fo.ways_pre ch _ w h
        exact ⟨1 :: t, by rw [e, List.append_assoc]; rfl⟩
      · obtain ⟨t, e⟩ := Fo.ways_pre sib _ w h
        exact ⟨0 :: t, by rw [e, List.append_assoc]; rfl⟩
theorem Fo.ways_self (f : Fo) (p : List Nat) : p ∈ f.ways p ↔ f.isNil = false := by
  cases f with
  | nil => exact ⟨fun h => (nomatch h), fun h => by cases h⟩
  | cons n ch sib => exact ⟨fun _ => rfl, fun _ => .head _⟩
theorem not_pre {p t u : List Nat} {x y : Nat} (h : x ≠ y) : p ++ x :: t ≠ p ++ y :: u := fun e => h (List.cons.inj (List.append_cancel_left e)).1
theorem ways_in {n : List Nat} {ch sib : Fo} {p t : List Nat} : (p ++ 1 :: t ∈ (Fo.cons n ch sib).ways p ↔ p ++ 1 :: t ∈ ch.ways (p ++ [1])) ∧ (p ++ 0 :: t ∈ (Fo.cons n ch sib).ways p ↔ p ++ 0 :: t ∈ sib.ways (p ++ [0])) := by
  have hne : ∀ x : Nat, p ++ x :: t ≠ p := fun x e => by
    have := congrArg List.length e
    rw [List.length_append, List.length_cons] at this
    (first | lia | omega)
  constructor
  · constructor
    · intro h
      rcases List.mem_cons.mp (show _ ∈ p :: (ch.ways (p ++ [1]) ++ sib.ways (p ++ [0])) from h) with h | h
      · exact absurd h (hne 1)
      · rcases List.mem_append.mp h with h | h
        · exact h
        · obtain ⟨u, e⟩ := Fo.ways_pre sib _ _ h
          rw [List.append_assoc] at e
          exact absurd e (not_pre (by decide))
    · intro h
      exact .tail _ (List.mem_append_left _ h)
  · constructor
    · intro h
      rcases List.mem_cons.mp (show _ ∈ p :: (ch.ways (p ++ [1]) ++ sib.ways (p ++ [0])) from h) with h | h
      · exact absurd h (hne 0)
      · rcases List.mem_append.mp h with h | h
        · obtain ⟨u, e⟩ := Fo.ways_pre ch _ _ h
          rw [List.append_assoc] at e
          exact absurd e (not_pre (by decide))
        · exact h
    · intro h
      exact .tail _ (List.mem_append_right _ h)
theorem near_none {b : Nat} {W : List (List Nat)} {f : Fo} {p : List Nat} {ns : List (List Nat)} (h : b ∈ p) : ((f.ways p).zip ns).filterMap (nearG b W) = [] := by
  rw [List.filterMap_eq_nil_iff]
  intro q hq
  obtain ⟨t, e⟩ := Fo.ways_pre f p q.1 (List.of_mem_zip hq).1
  unfold nearG
  rw [if_pos (by rw [e]; exact List.mem_append_left _ h)]
theorem near_head {b : Nat} {W : List (List Nat)} {p n : List Nat} {g : Fo} (hp : b ∉ p) (h : p ++ [b] ∈ W ↔ g.isNil = false) : nearG b W (p, n) = some (n ++ if g.isNil then [] else [61]) := by
  unfold nearG
  rw [if_neg hp]
  congr 2
  cases hg : g.isNil with
  | true => rw [if_neg (fun x => by rw [hg] at h; cases h.mp x), if_pos rfl]
  | false => rw [if_pos (h.mpr hg), if_neg Bool.false_ne_true]
theorem Fo.near1 : ∀ (f : Fo) (p : List Nat) (W : List (List Nat)), 1 ∉ p → (∀ t, p ++ t ∈ W ↔ p ++ t ∈ f.ways p) → ((f.ways p).zip f.names).filterMap (nearG 1 W) = f.outer
  | .nil, _, _, _, _ => rfl
  | .cons n ch sib, p, W, hp, hW => by
    show ((p, n) :: (ch.ways (p ++ [1]) ++ sib.ways (p ++ [0])).zip (ch.names ++ sib.names)).filterMap (nearG 1 W) = _
    rw [zip_two _ _ _ _ (by rw [Fo.ways_len, Fo.names_len]), List.filterMap_cons, near_head (g := ch) hp (by rw [hW, ways_in.1]; exact Fo.ways_self _ _)]
    show _ :: List.filterMap _ _ = _
    rw [List.filterMap_append, near_none (List.mem_append_right _ (.head _)), List.nil_append, Fo.near1 sib (p ++ [0]) W (fun h => by
      rcases List.mem_append.mp h with h | h
      · exact hp h
      · exact absurd (List.mem_singleton.mp h) (by decide)) (fun t => by
      rw [List.append_assoc]
      show p ++ 0 :: t ∈ W ↔ p ++ 0 :: t ∈ _
      rw [hW, ways_in.2])]
    rfl
theorem Fo.near0 : ∀ (f : Fo) (p : List Nat) (W : List (List Nat)), 0 ∉ p → (∀ t, p ++ t ∈ W ↔ p ++ t ∈ f.ways p) → ((f.ways p).zip f.names).filterMap (nearG 0 W) = f.turn.outer
  | .nil, _, _, _, _ => rfl
  | .cons n ch sib, p, W, hp, hW => by
    show ((p, n) :: (ch.ways (p ++ [1]) ++ sib.ways (p ++ [0])).zip (ch.names ++ sib.names)).filterMap (nearG 0 W) = _
    rw [zip_two _ _ _ _ (by rw [Fo.ways_len, Fo.names_len]), List.filterMap_cons, near_head (g := sib) hp (by rw [hW, ways_in.2]; exact Fo.ways_self _ _)]
    show _ :: List.filterMap _ _ = _
    rw [List.filterMap_append, near_none (f := sib) (List.mem_append_right _ (.head _)), List.append_nil, Fo.near0 ch (p ++ [1]) W (fun h => by
      rcases List.mem_append.mp h with h | h
      · exact hp h
      · exact absurd (List.mem_singleton.mp h) (by decide)) (fun t => by
      rw [List.append_assoc]
      show p ++ 1 :: t ∈ W ↔ p ++ 1 :: t ∈ _
      rw [hW, ways_in.1])]
    show _ = (n ++ if sib.turn.isNil then [] else [61]) :: ch.turn.outer
    rw [Fo.turn_nil]

end P4

section V4
open PySem PySem.W PySem.Spec PySem.Calls PyProof.Rows
theorem zipD_map {α β : Type} (f : α → D) (g : β → D) : ∀ (xs : List α) (ys : List β), zipD (xs.map f) (ys.map g) = (xs.zip ys).map fun p => .tuple [f p.1, g p.2]
  | [], _ => rfl
  | _ :: _, [] => rfl
  | x :: xs, y :: ys => by
    show D.tuple [f x, g y] :: zipD (xs.map f) (ys.map g) = _
    rw [zipD_map f g xs ys]; rfl
theorem getD_map {α : Type} (f : α → D) (l : List α) (d : α) {i : Nat} (h : i < l.length) : (l.map f).getD i .none = f (l.getD i d) := by
  rw [List.getD_eq_getElem?_getD, List.getElem?_map, List.getD_eq_getElem?_getD, List.getElem?_eq_getElem h]; rfl

theorem zip_back {α β : Type} : ∀ l : List (α × β), (l.map (·.1)).zip (l.map (·.2)) = l
  | [] => rfl
  | (a, b) :: l => by
    show (a, b) :: (l.map (·.1)).zip (l.map (·.2)) = _
    rw [zip_back l]
theorem Fo.rows_ok : ∀ (f : Fo) (d : Nat), f.Good → ∀ p ∈ f.rows d, p.1 < d + f.size ∧ NmOk p.2
  | .nil, _, _, p, h => nomatch h
  | .cons n ch sib, d, hg, p, h => by
    have e : (Fo.cons n ch sib).size = 1 + ch.size + sib.size := rfl
    rcases List.mem_cons.mp (show p ∈ (d, n) :: (ch.rows (d + 1) ++ sib.rows d) from h) with rfl | h
    · exact ⟨by show d < _; (first | lia | omega), hg.1⟩
    · rcases List.mem_append.mp h with h | h
      · have := Fo.rows_ok ch (d + 1) hg.2.1 p h
        exact ⟨by (first | lia | omega), this.2⟩
      · have := Fo.rows_ok sib d hg.2.2 p h
        exact ⟨by (first | lia | omega), this.2⟩
theorem Fo.ways_sz : ∀ (f : Fo) (p : List Nat), ∀ w ∈ f.ways p, w.length ≤ p.length + f.size
  | .nil, _, w, h => nomatch h
  | .cons n ch sib, p, w, h => by
    have e : (Fo.cons n ch sib).size = 1 + ch.size + sib.size := rfl
    rcases List.mem_cons.mp (show w ∈ p :: (ch.ways (p ++ [1]) ++ sib.ways (p ++ [0])) from h) with rfl | h
    · (first | lia | omega)
    · rcases List.mem_append.mp h with h | h
      · have := Fo.ways_sz ch _ w h
        rw [List.length_append] at this
        have h1 : ([1] : List Nat).length = 1 := rfl
        (first | lia | omega)
      · have := Fo.ways_sz sib _ w h
        rw [List.length_append] at this
        have h1 : ([0] : List Nat).length = 1 := rfl
        (first | lia | omega)
theorem Fo.names_ok : ∀ (f : Fo), f.Good → ∀ n ∈ f.names, NmOk n
  | .nil, _, n, h => nomatch h
  | .cons n ch sib, hg, x, h => by
    rcases List.mem_cons.mp (show x ∈ n :: (ch.names ++ sib.names) from h) with rfl | h
    · exact hg.1
    · rcases List.mem_append.mp h with h | h
      · exact Fo.names_ok ch hg.2.1 x h
      · exact Fo.names_ok sib hg.2.2 x h
theorem Fo.rowOk {f : Fo} (hg : f.Good) (hs : f.size ≤ 6) : ∀ p ∈ f.rows 0, RowOk p := fun p hp => by
  obtain ⟨h1, h2⟩ := Fo.rows_ok f 0 hg p hp
  have := (nm_ok h2).2
  exact ⟨by (first | lia | omega), by (first | lia | omega)⟩
theorem Fo.rows_ne {f : Fo} (h : f.isNil = false) (d : Nat) : f.rows d ≠ [] := by
  cases f with
  | nil => cases h
  | cons _ _ _ => exact fun e => nomatch e
theorem sort_pairs {f : Fo} {q : Array Nat} (g : List Nat → D) (hq : ∀ i ∈ q.toList, i < f.size) (h : q.toList.map (fun i => ((f.ways []).zip f.names).getD i ([], [])) = f.tw []) :
    (q.toList.map fun i => (pairsW (f.ways []) (f.names.map g)).getD i .none) = (f.tw []).map fun p => .tuple [wayD p.1, g p.2] := by
  rw [← h, List.map_map]
  refine List.map_congr_left fun i hi => ?_
  unfold pairsW
  rw [zipD_map]
  exact getD_map _ _ ([], []) (by rw [List.length_zip, Fo.ways_len, Fo.names_len, Nat.min_self]; exact hq i hi)
theorem Fo.tw_len (f : Fo) (p : List Nat) : (f.tw p).length = f.size := by
  rw [(Fo.tw_perm f p).length_eq, List.length_zip, Fo.ways_len, Fo.names_len, Nat.min_self]
theorem range_bind {α β : Type} (g : α → Option β) : ∀ l : List α, (List.range l.length).filterMap (fun i => (l[i]?).bind g) = l.filterMap g
  | [] => rfl
  | x :: l => by
    rw [List.length_cons, List.range_succ_eq_map, List.filterMap_cons]
    have h : (fun i => ((x :: l)[i]?).bind g) ∘ Nat.succ = fun i => (l[i]?).bind g := rfl
    rw [List.filterMap_map, h, range_bind g l, List.filterMap_cons]
    rfl
theorem sum_sep {k : Nat} : ∀ {xs : List (List Nat)}, (∀ x ∈ xs, x.length ≤ k) → (xs.map fun x => x.length + ([59, 32] : List Nat).length).sum ≤ (k + 2) * xs.length
  | [], _ => Nat.zero_le _
  | x :: xs, h => by
    have := sum_sep (xs := xs) fun y hy => h y (.tail _ hy)
    have hx := h x (.head _)
    have this : (xs.map fun x => x.length + 2).sum ≤ (k + 2) * xs.length := this
    have e1 : (k + 2) * (x :: xs).length = (k + 2) * xs.length + (k + 2) := Nat.mul_succ _ _
    rw [e1]
    show (x.length + 2) + (xs.map fun x => x.length + 2).sum ≤ _
    (first | lia | omega)
theorem Fo.outer_len : ∀ (f : Fo), f.Good → f.outer.length ≤ f.size ∧ ∀ x ∈ f.outer, x.length ≤ 4
  | .nil, _ => ⟨Nat.le_refl _, fun x h => nomatch h⟩
  | .cons n ch sib, hg => by
    obtain ⟨h1, h2⟩ := Fo.outer_len sib hg.2.2
    have e : (Fo.cons n ch sib).size = 1 + ch.size + sib.size := rfl
    have e2 : (Fo.cons n ch sib).outer = (n ++ if ch.isNil then [] else [61]) :: sib.outer := rfl
    rw [e2]
    refine ⟨by rw [List.length_cons]; (first | lia | omega), fun x hx => ?_⟩
    rcases List.mem_cons.mp hx with rfl | hx
    · have := (nm_ok hg.1).2
      have h3 : (if ch.isNil then [] else [61] : List Nat).length ≤ 1 := by split <;> simp
      rw [List.length_append]; (first | lia | omega)
    · exact h2 x hx
theorem Fo.join_ok {f : Fo} (hg : f.Good) (hs : f.size ≤ 6) : (f.outer.map fun x => x.length + ([59, 32] : List Nat).length).sum ≤ 16777216 := by
  obtain ⟨h1, h2⟩ := Fo.outer_len f hg
  have := sum_sep h2
  have : (4 + 2) * f.outer.length ≤ 6 * 6 := Nat.mul_le_mul (Nat.le_refl _) (by (first | lia | omega))
  (first | lia | omega)
theorem Fo.strip_is {f : Fo} (hg : f.Good) : stripL f.T = joinL [59, 32] f.outer := by
  rw [← Fo.ws_T f, Fo.outer_words hg]
  exact stripL_is (strip_words ((Fo.ws_rep f).ok hg))
theorem near_get {f : Fo} {b : Nat} {g : List (List Nat)} (h : ((f.ways []).zip f.names).filterMap (nearG b (f.ways [])) = g) (k : List Nat → D) :
    (List.range f.size).filterMap (fun i => (((f.ways []).zip f.names)[i]?).bind fun p => (nearG b (f.ways []) p).map k) = g.map k := by
  have e : ((f.ways []).zip f.names).length = f.size := by rw [List.length_zip, Fo.ways_len, Fo.names_len, Nat.min_self]
  rw [← e, range_bind, ← h, List.map_filterMap]
theorem any_way (w : List Nat) : ∀ ws : List (List Nat), ((ws.map wayD).any fun y => D.eqb y (wayD w)) = decide (w ∈ ws)
  | [] => rfl
  | x :: ws => by
    rw [List.map_cons, List.any_cons, any_way w ws, eqb_way]
    by_cases h : x = w
    · subst h; simp
    · have h' : ¬ w = x := fun e => h e.symm
      simp [h, h']
theorem any_nat (b : Nat) : ∀ w : List Nat, ((w.map natD).any fun y => D.eqb y (natD b)) = decide (b ∈ w)
  | [] => rfl
  | x :: w => by
    rw [List.map_cons, List.any_cons, any_nat b w]
    have : D.eqb (natD x) (natD b) = decide (x = b) := by
      show ((x : Int) == (b : Int)) = _
      by_cases h : x = b
      · subst h; simp
      · have : ((x : Int) == (b : Int)) = false := by rw [beq_eq_false_iff_ne]; (first | lia | omega)
        rw [this, decide_eq_false h]
    rw [this]
    by_cases h : x = b
    · subst h; simp
    · have h' : ¬ b = x := fun e => h e.symm
      simp [h, h']

section
variable {c : Cx} {ρ : List (Str × D)} {own : List Ow} {w n : List Nat} {ws : List (List Nat)} {wayE nameE waysE : PySem.Expr} {b : Nat}
/- if b not in way -/
theorem tst_near {k : Nat} {cp pos : Pos} (hw : EV c ρ own wayE (wayD w)) (hm : behindInMarks .NotIn wayE = false) : TST c ρ own [.Compare (.Constant (.int (b : Int)) k cp) [.NotIn] [wayE] pos] (!decide (b ∈ w)) := by
  refine tst_one (tv_eq (tv_cmp (d₁ := natD b) (d₂ := .list (w.map natD)) ev_int hw (op_notinD (n := 0) (fun y hy => ?_) (fun y hy z hz => ?_) (by decide)) hm) (by rw [any_nat]))
  · obtain ⟨x, _, rfl⟩ := List.mem_map.mp hy
    exact .int _ _
  · obtain ⟨x, _, rfl⟩ := List.mem_map.mp hy
    obtain ⟨x', _, rfl⟩ := List.mem_map.mp hz
    exact .int _ _
/- name + ('=' if way + [b] in ways else '') -/
theorem ev_near {k k₁ k₂ : Nat} {p₁ p₂ p₃ p₄ p₅ p₆ p₇ p₈ : Pos} (hn : EV c ρ own nameE (.str (S n))) (hw : EV c ρ own wayE (wayD w)) (hws : EV c ρ own waysE (.list (ws.map wayD))) (hlw : w.length ≤ 100) (hln : n.length ≤ 100) (hm : behindInMarks .In waysE = false) :
    EV c ρ own (.BinOp nameE .Add (.IfExp (.Compare (.BinOp wayE .Add (.List [.Constant (.int (b : Int)) k p₁] p₂) p₃) [.In] [waysE] p₄) (.Constant (.str (Str.ofString "=")) k₁ p₅) (.Constant (.str (Str.ofString "")) k₂ p₆) p₇) p₈) (.str (S (n ++ if w ++ [b] ∈ ws then [61] else []))) := by
  have happ : D.list (w.map natD ++ [natD b]) = wayD (w ++ [b]) := by unfold wayD; rw [List.map_append]; rfl
  have hadd : EV c ρ own (.BinOp wayE .Add (.List [.Constant (.int (b : Int)) k p₁] p₂) p₃) (wayD (w ++ [b])) :=
    ev_eq (ev_bin (d₁ := wayD w) hw (ev_list (evs_cons ev_int evs_nil (fun _ => rfl)) (by show 1 ≤ sizeLine; decide)) (op_addl (by rw [List.length_map]; show _ + 1 ≤ _; (first | lia | omega)))) happ
  have ht : TV c ρ own (.Compare (.BinOp wayE .Add (.List [.Constant (.int (b : Int)) k p₁] p₂) p₃) [.In] [waysE] p₄) (decide (w ++ [b] ∈ ws)) := by
    refine tv_eq (tv_cmp (d₁ := wayD (w ++ [b])) (d₂ := .list (ws.map wayD)) hadd hws (op_inD (n := 1) (fun y hy => ?_) (fun y hy z hz => ?_) (by decide)) hm) (any_way _ _)
    · obtain ⟨x, _, rfl⟩ := List.mem_map.mp hy
      exact ki_way _ _
    · obtain ⟨x, _, rfl⟩ := List.mem_map.mp hy
      obtain ⟨x', _, rfl⟩ := List.mem_map.mp hz
      exact ki_way _ _
  refine ev_bin hn (ev_ifexp (d := .str (S (if w ++ [b] ∈ ws then [61] else []))) ht (fun h => ?_) (fun h => ?_)) (op_catS ?_)
  · rw [if_pos (of_decide_eq_true h)]; exact ev_eqs
  · rw [if_neg (of_decide_eq_false h)]; exact ev_l0
  · have : (if w ++ [b] ∈ ws then [61] else [] : List Nat).length ≤ 1 := by split <;> simp
    (first | lia | omega)
theorem near_some {b : Nat} {W : List (List Nat)} {q : List Nat × List Nat} : (nearG b W q).isSome = !decide (b ∈ q.1) := by
  unfold nearG
  by_cases h : b ∈ q.1
  · rw [if_pos h, decide_eq_true h]; rfl
  · rw [if_neg h, decide_eq_false h]; rfl
end

end V4

section P5
open PySem PySem.W PySem.Spec PySem.Calls PyProof.Rows
/- ## the nest that a script tells -/
noncomputable def givenL : List Int := [7, 3, 8, 17, 21, 29]
noncomputable def cellV (ns : List Int) (k : Nat) : Int := givenL.getD k 0 + (pickD ns (some (k : Int)) none (some 6)).sum
noncomputable def idxV (ns : List Int) (k : Nat) : Nat := (((cellV ns k).fdiv 7).fmod 5).toNat
noncomputable def nameV (ns : List Int) (k : Nat) : List Nat := (97 + k) :: tailsL.getD (idxV ns k) []
noncomputable def depthV (ns : List Int) (ds : List Nat) (k : Nat) : Nat := ((cellV ns k).fmod (((ds.getLastD 0 : Nat) : Int) + 2)).toNat
noncomputable def depthsV (ns : List Int) : Nat → List Nat
  | 0 => [0]
  | i + 1 => depthsV ns i ++ [depthV ns (depthsV ns i) (i + 1)]
noncomputable def namesV (ns : List Int) (i : Nat) : List (List Nat) := (List.range (i + 1)).map (nameV ns)

theorem fmod_nat (a : Int) (n : Nat) : ∃ m : Nat, a.fmod ((n : Int) + 1) = (m : Int) ∧ m < n + 1 := by
  have h0 := Int.fmod_nonneg_of_pos a (show (0 : Int) < (n : Int) + 1 by omega)
  have h1 := Int.fmod_lt_of_pos a (show (0 : Int) < (n : Int) + 1 by omega)
  exact ⟨(a.fmod ((n : Int) + 1)).toNat, (Int.toNat_of_nonneg h0).symm, by omega⟩
theorem idxV_is (ns : List Int) (k : Nat) : ((cellV ns k).fdiv 7).fmod 5 = ((idxV ns k : Nat) : Int) ∧ idxV ns k < 5 := by
  obtain ⟨m, h1, h2⟩ := fmod_nat ((cellV ns k).fdiv 7) 4
  have h1 : ((cellV ns k).fdiv 7).fmod 5 = (m : Int) := h1
  unfold idxV
  rw [h1, Int.toNat_natCast]
  exact ⟨rfl, h2⟩
theorem depthV_is (ns : List Int) (ds : List Nat) (k : Nat) : (cellV ns k).fmod (((ds.getLastD 0 : Nat) : Int) + 2) = ((depthV ns ds k : Nat) : Int) ∧ depthV ns ds k ≤ ds.getLastD 0 + 1 := by
  obtain ⟨m, h1, h2⟩ := fmod_nat (cellV ns k) (ds.getLastD 0 + 1)
  have e : (((ds.getLastD 0 + 1 : Nat) : Int) + 1) = ((ds.getLastD 0 : Nat) : Int) + 2 := by (first | lia | omega)
  rw [e] at h1
  unfold depthV
  rw [h1, Int.toNat_natCast]
  exact ⟨rfl, by (first | lia | omega)⟩
theorem depthsV_len (ns : List Int) : ∀ i, (depthsV ns i).length = i + 1
  | 0 => rfl
  | i + 1 => by show (depthsV ns i ++ [_]).length = _; rw [List.length_append, depthsV_len ns i]; rfl
theorem chain_snoc : ∀ (ds : List Nat) (k x : Nat), chainOk k ds → (∀ y, ds.getLast? = some y → x ≤ y + 1) → (ds = [] → x ≤ k) → chainOk k (ds ++ [x])
  | [], k, x, _, _, h => ⟨h rfl, trivial⟩
  | [d], k, x, hc, h, _ => ⟨hc.1, h d rfl, trivial⟩
  | d :: e :: r, k, x, hc, h, _ => ⟨hc.1, chain_snoc (e :: r) (d + 1) x hc.2 (fun y hy => h y (by rw [List.getLast?_cons_cons]; exact hy)) fun he => nomatch he⟩
theorem depthsV_last (ns : List Int) (i : Nat) : (depthsV ns i).getLast? = some ((depthsV ns i).getLastD 0) := by
  rw [List.getLastD_eq_getLast?]
  cases h : (depthsV ns i).getLast? with
  | none => rw [List.getLast?_eq_none_iff] at h; have := depthsV_len ns i; rw [h] at this; cases this
  | some y => rfl
theorem depthsV_ok (ns : List Int) : ∀ i, chainOk 0 (depthsV ns i)
  | 0 => ⟨Nat.le_refl _, trivial⟩
  | i + 1 => chain_snoc _ _ _ (depthsV_ok ns i) (fun y hy => by rw [depthsV_last] at hy; cases hy; exact (depthV_is ns _ _).2) fun h => by
    have := depthsV_len ns i; rw [h] at this; cases this
theorem namesV_succ (ns : List Int) (i : Nat) : namesV ns (i + 1) = namesV ns i ++ [nameV ns (i + 1)] := by
  unfold namesV; rw [List.range_succ, List.map_append]; rfl
theorem namesV_len (ns : List Int) (i : Nat) : (namesV ns i).length = i + 1 := by unfold namesV; rw [List.length_map, List.length_range]
theorem nameV_ok (ns : List Int) {k : Nat} (hk : k < 6) : NmOk (nameV ns k) := by
  refine ⟨97 + k, ?_, tailsL.getD (idxV ns k) [], ?_, rfl⟩
  · have : ∀ k, k < 6 → 97 + k ∈ letters := by decide
    exact this k hk
  · have h : ∀ i, i < 5 → tailsL.getD i [] ∈ tailsL := by decide
    exact h _ (idxV_is ns k).2
theorem depth_le : ∀ (ds : List Nat) (k : Nat), chainOk k ds → ∀ d ∈ ds, d ≤ k + ds.length
  | [], _, _, d, h => nomatch h
  | x :: r, k, hc, d, h => by
    rcases List.mem_cons.mp h with rfl | h
    · exact Nat.le_add_right_of_le hc.1
    · have := depth_le r (x + 1) hc.2 d h
      have := hc.1
      rw [List.length_cons]; (first | lia | omega)

/- the words with their depths, and the nest that they are -/
noncomputable def rowsV (ns : List Int) (i : Nat) : List (Nat × List Nat) := (depthsV ns i).zip (namesV ns i)
theorem rowsV_fst (ns : List Int) (i : Nat) : (rowsV ns i).map (·.1) = depthsV ns i := List.map_fst_zip (by rw [depthsV_len, namesV_len]; exact Nat.le_refl _)
theorem rowsV_snd (ns : List Int) (i : Nat) : (rowsV ns i).map (·.2) = namesV ns i := List.map_snd_zip (by rw [depthsV_len, namesV_len]; exact Nat.le_refl _)
theorem nestV (ns : List Int) {i : Nat} (hi : i < 6) : ∃ f : Fo, rowsV ns i = f.rows 0 ∧ f.Good ∧ f.size = i + 1 ∧ depthsV ns i = (f.rows 0).map (·.1) ∧ namesV ns i = f.names := by
  obtain ⟨f, e, g, h⟩ := Fo.parsed (rs := rowsV ns i) (by rw [rowsV_fst]; exact depthsV_ok ns i) fun p hp => by
    have := List.mem_map_of_mem (f := (·.2)) hp
    rw [rowsV_snd] at this
    obtain ⟨k, hk, e⟩ := List.mem_map.mp this
    have hk := List.mem_range.mp hk
    rw [← e]
    exact nameV_ok ns (by (first | lia | omega))
  refine ⟨f, e, g, ?_, ?_, ?_⟩
  · rw [h]
    unfold rowsV
    rw [List.length_zip, depthsV_len, namesV_len, Nat.min_self]
  · rw [← e, rowsV_fst]
  · rw [← Fo.rows_names f 0, ← e, rowsV_snd]

end P5

section L1
theorem fn133 (c : Cx) : FnAt c.w 133 := ⟨_, _, by k_is, rfl⟩
theorem fn140 (c : Cx) : FnAt c.w 140 := ⟨_, _, by k_is, rfl⟩
theorem pickD_map {α β : Type} (f : α → β) (l : List α) (lo hi st : Option Int) : pickD (l.map f) lo hi st = (pickD l lo hi st).map f := by
  unfold pickD
  have : (fun i : Nat => (l.map f)[i]?) = fun i => (l[i]?).map f := funext fun i => List.getElem?_map
  rw [List.length_map, List.map_filterMap, this]
noncomputable def strD (x : List Nat) : D := .str (S x)
theorem cell_at (ns : List Int) {k : Nat} (hk : k < 6) : ((List.range 6).map fun i => D.int (cellV ns i))[k]? = some (.int (cellV ns k)) := by
  rw [List.getElem?_map, List.getElem?_range hk]; rfl
theorem tail_at {k : Nat} (hk : k < 5) : (tailsL.map strD)[k]? = some (.str (S (tailsL.getD k []))) := by
  have hl : k < tailsL.length := hk
  rw [List.getElem?_map, List.getElem?_eq_getElem hl, List.getD_eq_getElem?_getD, List.getElem?_eq_getElem hl]; rfl
theorem tail_len (k : Nat) : (tailsL.getD k []).length ≤ 2 := by
  rw [List.getD_eq_getElem?_getD]
  cases h : tailsL[k]? with
  | none => exact Nat.zero_le _
  | some t =>
    have key : ∀ t ∈ tailsL, t.length ≤ 2 := by decide
    exact key t (List.mem_of_getElem? h)
/- tails[cells[..] // 7 % 5] -/
theorem ev_tail {c : Cx} {ρ : List (Str × D)} {own : List Ow} {ns : List Int} {k : Nat} {t cl e : PySem.Expr} {p₁ p₂ p₃ p₄ p₅ p₆ : Pos} {k₁ k₂ : Nat} (hk : k < 6) (ht : EV c ρ own t (.list (tailsL.map strD))) (hc : EV c ρ own cl (.list ((List.range 6).map fun i => D.int (cellV ns i)))) (he : EV c ρ own e (.int (k : Int)))
    (hs : ∀ o i, subscripted e false o i = operate [o, i] (getItem o i)) :
    EV c ρ own (.Subscript t (.BinOp (.BinOp (.Subscript cl e p₁) .FloorDiv (.Constant (.int 7) k₁ p₂) p₃) .Mod (.Constant (.int 5) k₂ p₄) p₅) p₆) (.str (S (tailsL.getD (idxV ns k) []))) := by
  obtain ⟨h1, h2⟩ := idxV_is ns k
  refine ev_sub (d₂ := .int ((idxV ns k : Nat) : Int)) ht ?_ (op_item (tail_at h2) (by (first | lia | omega)) (fun _ _ => rfl))
  exact ev_eq (ev_bin (ev_bin (ev_sub hc he (op_item (cell_at ns hk) (by (first | lia | omega)) hs)) ev_int op_fdiv7) ev_int (op_mod (by decide))) (congrArg D.int h1)
theorem all3 {x a b : Str} {ad an aw q : Addr} {v v' v'' : OwV} (hab : (a == x) = false ∨ an = aw) (hb : (b == x) = false ∨ ad = aw) : ([⟨some a, an, v⟩, ⟨some b, ad, v'⟩, ⟨none, q, v''⟩].all fun q : Ow => q.name != some x || q.addr == aw) = true := by
  have h : ∀ (y : Str) (t : Addr), (y == x) = false ∨ t = aw → ((some y : Option Str) != some x || t == aw) = true := fun y t h => by
    rcases h with h | h
    · have : ((some y : Option Str) == some x) = false := h
      unfold bne
      rw [this]; rfl
    · rw [h, beq_self_eq_true, Bool.or_true]
  rw [List.all_cons, List.all_cons, List.all_cons, List.all_nil]
  show ((_ || _) && ((_ || _) && (true && true))) = true
  rw [h a an hab, h b ad hb]
  rfl
theorem turned_is {c : Cx} {f : Fo} (hg : f.Good) (hs : f.size ≤ 6) (hk : 18 ≤ c.k) : OPs c (fun vs => call (.ref 145) vs) [.str (S f.T), .int 9] (.str (S f.turn.T)) := by
  rw [← Fo.ws_T f]
  exact turned_call 6 (room := 9) hs (by decide) hk (Fo.ws_rep f) hg (by (first | lia | omega))
theorem turned_back {c : Cx} {f : Fo} (hg : f.Good) (hs : f.size ≤ 6) (hk : 18 ≤ c.k) : OPs c (fun vs => call (.ref 145) vs) [.str (S f.turn.T), .int 9] (.str (S f.T)) := by
  have := turned_is (c := c) (Fo.turn_good hg) (by rw [Fo.turn_size]; exact hs) hk
  rw [Fo.turn_turn] at this
  exact this
theorem strip_f {c : Cx} {f : Fo} (hg : f.Good) (hs : f.size ≤ 6) (hk : 4 ≤ c.k) : OPs c (fun vs => call (.ref 114) vs) [.str (S f.T)] (.str (S (joinL [59, 32] f.outer))) := by
  rw [← Fo.strip_is hg]
  refine strip_call hk ?_
  have h6 : 2 ^ f.size ≤ 2 ^ 6 := Nat.pow_le_pow_right (by decide) hs
  have := Fo.T_len hg
  (first | lia | omega)
theorem law_go {c : Cx} {ns : List Int} {fz : FZ} {s : Shared} {l : Addr} {Q E : Value → Shared → Prop} (hk : 60 ≤ c.k) (hlen : ns.length ≤ 63) (I : Inv c.G fz s) (r : Rep fz (.ref l) (.list (ns.map .int)))
    (hQ : ∀ v fz' s', Next fz s fz' s' → Inv c.G fz' s' → Rep fz' v (.bool true) → Q v s') : wpAny c.M c.A (call (.ref 150) [.ref l]) Q E s := by
  refine' call_given (x := Str.ofString "script") (g := Str.ofString "given") (y := Str.ofString "ways") (is := givenL) ⟨?k, ?g1, ?g2, ?g3, ?g4, ?g5, ?g6, ?g7, ?g9⟩ ?hbind ?hx ?hg (by decide) (by decide) (by decide) (by (first | lia | omega)) ?hes (by decide) (by decide) (fun L => L + 1) (fun L => L + 1 + 1) (fun L => L + 1 + 1 + 1) ?cx ?cg ?cy I r ?h hQ
  case k => k_is
  case g1 => exact rfl
  case g2 => exact rfl
  case g3 => exact rfl
  case g4 => exact rfl
  case g5 => exact rfl
  case g6 => exact rfl
  case g7 => exact rfl
  case g9 => k_is
  case hbind => exact fun _ => rfl
  case hx => exact rfl
  case hg => exact rfl
  case hes => repeat constructor
  case cx => exact fun _ => rfl
  case cg => exact fun _ => rfl
  case cy => exact fun _ => rfl
  case h =>
    rintro ⟨w, G, A, env, fz₀, s₀, k, st', room, kind, glob, bi, big, kA, kG, kN⟩ hw hG hk' hkA L hL
    dsimp only at hw hG hk' hL hkA
    subst hw hG hL hkA
    have hsz : sizeLine = 16777216 := by decide
    have hk59 : 59 ≤ k := Nat.le_of_succ_le_succ (Nat.le_trans hk (Nat.le_of_eq hk'.symm))
    refine' ex_assign_comp (ρc := [(Str.ofString "given", .list (givenL.map .int)), (Str.ofString "script", .list (ns.map .int))]) (n := 6) (item := fun i => .int (i : Int)) (fun i => some (.int (cellV ns i))) ?x1 ?x2 ?x3 ?x4 ?c1 ?c2 ?c3 ?c4 ?c5 ?c6 ?c7 ?c8 ?c9 ?x5
    case x1 => exact rfl
    case x2 => exact rfl
    case x3 => exact rfl
    case x4 => exact rfl
    case c1 => exact rfl
    case c2 => exact rfl
    case c3 => decide
    case c4 => decide
    case c5 =>
      refine' itern_range1 (n := 6) rfl ?r1 ?r2 ?r3 (by decide) ?r4
      case r1 => exact rfl
      case r2 => k_is
      case r3 => exact evs_cons (ev_int (i := 6)) evs_nil (fun _ => rfl)
      case r4 => exact rfl
    case c6 => decide
    case c7 =>
      intro p hp
      rcases List.mem_cons.mp hp with rfl | hp
      · exact ⟨rfl, .inl rfl, rfl, .inl rfl⟩
      · rw [List.mem_singleton.mp hp]
        exact ⟨rfl, .inl rfl, rfl, .inl rfl⟩
    case c9 => exact fun _ => rfl
    case c8 =>
      rintro ⟨w', G', A', env', fz₀', s₀', k', st'', room', kind', glob', bi', big', kA', kG', kN'⟩ hw' hG' hA' hk'' ⟨C, hE⟩ i own' hi hes
      dsimp only at hw' hG' hA' hk'' hE
      subst hE
      refine ⟨_, (by refine' as_name ?h1 ?h2; (case h1 => exact rfl); (case h2 => exact List.any_eq_false.mpr fun q hq => by rw [hes q hq]; exact Bool.false_ne_true)), tst_nil, fun d hd => ?_, ?_⟩
      · cases hd
        have hgi : (givenL.map D.int)[i]? = some (.int (givenL.getD i 0)) := by
          have h6 : i < givenL.length := hi
          rw [List.getElem?_map, List.getElem?_eq_getElem h6, List.getD_eq_getElem?_getD, List.getElem?_eq_getElem h6]; rfl
        unfold cellV
        refine' ev_bin ?y1 ?y2 op_add
        case y1 =>
          refine' ev_sub (d₁ := .list (givenL.map .int)) (d₂ := .int (i : Int)) ?z1 ?z2 (op_item hgi (by (first | lia | omega)) (fun _ _ => rfl))
          case z1 => ((with_reducible refine' ev_name ?wx292 ?wy292 ?wz292); (case wx292 => exact rfl); (case wy292 => decide); (case wz292 => decide))
          case z2 => ((with_reducible refine' ev_name ?wx293 ?wy293 ?wz293); (case wx293 => exact rfl); (case wy293 => decide); (case wz293 => decide))
        case y2 =>
          refine' ev_builtin1 (id := "sum") (ds := [.list ((pickD ns (some (i : Int)) none (some 6)).map .int)]) ?l1 ?l2 ?l3 ?l4 op_sum ?l6 ?l7 ?l8
          case l1 => exact rfl
          case l2 => k_is
          case l3 => exact rfl
          case l6 => exact rfl
          case l7 => decide
          case l8 => decide
          case l4 =>
            refine evs_cons ?_ evs_nil (fun _ => rfl)
            refine' ev_eq (ev_cutL (sw := false) (l := some (i : Int)) (u := none) (t := some 6) (ds := ns.map .int) ?v1 (part_some ?v2) part_none (part_some ?v3) (by simp) (by rw [List.length_map]; (first | lia | omega)) (fun _ _ => rfl)) (by rw [pickD_map])
            case v1 => ((with_reducible refine' ev_name ?wx294 ?wy294 ?wz294); (case wx294 => exact rfl); (case wy294 => decide); (case wz294 => decide))
            case v2 => ((with_reducible refine' ev_name ?wx295 ?wy295 ?wz295); (case wx295 => exact rfl); (case wy295 => decide); (case wz295 => decide))
            case v3 => with_reducible exact ev_int
      · intro p hp
        rcases List.mem_cons.mp hp with rfl | hp
        · exact rfl
        · rw [List.mem_singleton.mp hp]; exact rfl
    case x5 =>
      rw [filterMap_some]
      refine' ex_assign (d := .list (tailsL.map strD)) ?m1 ?m2 ?m3 ?m4 ?m5
      case m1 => exact ev_list (ds := tailsL.map strD) (evs_cons ev_l0 (evs_cons ev_bsq (evs_cons ev_bs2 (evs_cons ev_bs (evs_cons ev_til evs_nil (fun _ => rfl)) (fun _ => rfl)) (fun _ => rfl)) (fun _ => rfl)) (fun _ => rfl)) (by decide)
      case m3 => exact rfl
      case m4 => exact rfl
      case m5 => exact rfl
      case m2 =>
        refine' ex_new (ds := (depthsV ns 0).map natD) ?n1 ?n2 ?n3 ?n4 ?n5 ?n6
        case n1 => exact evs_cons ev_i0 evs_nil (fun _ => rfl)
        case n3 => exact rfl
        case n4 => exact rfl
        case n5 => exact rfl
        case n6 => (show 1 ≤ sizeLine; decide)
        case n2 =>
          intro ad
          refine' ex_new (ds := (namesV ns 0).map strD) ?n1 ?n2 ?n3 ?n4 ?n5 ?n6
          case n1 =>
            refine' evs_cons (d := .str (S ([97] ++ tailsL.getD (idxV ns 0) []))) ?na1 evs_nil ?na3
            case na3 => exact fun _ => rfl
            refine ev_bin (d₁ := .str (S [97])) (d₂ := .str (S (tailsL.getD (idxV ns 0) []))) (ev_lit rfl) (ev_tail (k := 0) (by decide) ?_ ?_ ev_i0 (fun _ _ => rfl)) (op_catS (by have := tail_len (idxV ns 0); show 1 + _ ≤ _; (first | lia | omega)))
            · ((with_reducible refine' ev_name ?wx296 ?wy296 ?wz296); (case wx296 => exact rfl); (case wy296 => decide); (case wz296 => decide))
            · ((with_reducible refine' ev_name ?wx297 ?wy297 ?wz297); (case wx297 => exact rfl); (case wy297 => decide); (case wz297 => decide))
          case n3 => exact rfl
          case n4 => exact rfl
          case n5 => exact rfl
          case n6 => (show 1 ≤ sizeLine; decide)
          case n2 =>
            intro an
            obtain ⟨b, hb, hbv⟩ : ∃ b, (b = 4 ∨ b = 5) ∧ b = if ns.length > 2 then 5 else 4 := ⟨_, by split <;> simp, rfl⟩
            refine' ex_forI (n := b) (item := fun i => .int ((1 + i : Nat) : Int)) (ITERN.iters ?it) (fun i => [(Str.ofString "tails", .list (tailsL.map strD)), (Str.ofString "cells", .list ((List.range 6).map fun i => D.int (cellV ns i))), (Str.ofString "given", .list (givenL.map .int)), (Str.ofString "script", .list (ns.map .int))])
              (fun i => [⟨some (Str.ofString "names"), an, .list ((namesV ns i).map strD)⟩, ⟨some (Str.ofString "depths"), ad, .list ((depthsV ns i).map natD)⟩, ⟨none, L + 1 + 1 + 1, .pr cellU⟩]) ?h0 ?hw0 ?turn ?fin ?hs
            case h0 => (repeat' (first | (with_reducible refine List.forall_mem_cons.mpr ⟨?_, ?_⟩) | exact rfl | (intro p hp; exact nomatch hp)))
            case hw0 => exact rfl
            case hs => exact fun _ => rfl
            case it =>
              have e : b = (b + 1) - 1 := by (first | lia | omega)
              rw [e]
              refine' itern_range2 (a := 1) (b := b + 1) rfl ?r1 ?r2 ?r3 (by (first | lia | omega)) (by (first | lia | omega)) ?r4
              case r1 => exact rfl
              case r2 => k_is
              case r4 => exact rfl
              case r3 =>
                refine' evs_cons (ev_int (i := 1)) (evs_cons ?f1 evs_nil ?f2) ?f3
                case f2 => exact fun _ => rfl
                case f3 => exact fun _ => rfl
                case f1 =>
                  refine' ev_ifexp (x := decide ((ns.length : Int) > 2)) ?t1 ?t2 ?t3
                  case t1 =>
                    refine' tv_eq (tv_cmp (d₁ := .int ((ns.map D.int).length : Int)) (d₂ := .int 2) ?hl ?hr op_gt ?hm) (by rw [List.length_map])
                    case hl =>
                      refine' ev_builtin1 (id := "len") (ds := [.list (ns.map .int)]) ?l1 ?l2 ?l3 ?l4 ?l5 ?l6 ?l7 ?l8
                      case l1 => exact rfl
                      case l2 => k_is
                      case l3 => exact rfl
                      case l4 => ((refine' evs_cons ?wa298 ?wb298 ?wc298); (case wa298 => ((with_reducible refine' ev_name ?wx299 ?wy299 ?wz299); (case wx299 => exact rfl); (case wy299 => decide); (case wz299 => decide))); (case wb298 => exact evs_nil); (case wc298 => exact fun _ => rfl))
                      case l5 => exact op_len_list (by rw [List.length_map]; (first | lia | omega))
                      case l6 => exact rfl
                      case l7 => decide
                      case l8 => decide
                    case hr => with_reducible exact ev_int
                    case hm => with_unfolding_all exact rfl
                  case t2 =>
                    intro h
                    have h := of_decide_eq_true h
                    rw [if_pos (by (first | lia | omega))] at hbv
                    rw [hbv]
                    exact ev_int (i := 6)
                  case t3 =>
                    intro h
                    have h := of_decide_eq_false h
                    rw [if_neg (by (first | lia | omega))] at hbv
                    rw [hbv]
                    exact ev_int (i := 5)
            case turn =>
              intro i es hi hes
              have e1i : 1 + i = i + 1 := Nat.add_comm 1 i
              rw [e1i]
              have hk6 : i + 1 < 6 := by (first | lia | omega)
              have hdl := depthsV_len ns i
              have hnl := namesV_len ns i
              refine ⟨_, (by ((refine' as_name ?h1_110 ?h2_110; (case h1_110 => exact rfl); (case h2_110 => (refine any_es (by assumption) ?_; exact rfl))))), ?_⟩
              refine' ex_append_es (x := Str.ofString "depths") (a := ad) (ds := (depthsV ns i).map natD) (d := natD (depthV ns (depthsV ns i) (i + 1))) hes ?e1 ?e2 ?e3 ?e4 ?e5 ?e6 ?e7 ?e8
              case e2 => exact rfl
              case e3 => exact all3 (.inl (by decide)) (.inr rfl)
              case e5 => (rw [List.length_map, hdl, hsz]; (first | lia | omega))
              case e6 => exact rfl
              case e7 => decide
              case e8 => exact fun _ => rfl
              case e1 =>
                refine' ev_eq (ev_bin (d₁ := .int (cellV ns (i + 1))) (d₂ := .int ((((depthsV ns i).getLastD 0 : Nat) : Int) + 2)) ?y1 (ev_bin (d₁ := natD ((depthsV ns i).getLastD 0)) ?y2 ev_int op_add) (op_mod (by (first | lia | omega)))) (congrArg D.int (depthV_is ns (depthsV ns i) (i + 1)).1)
                case y1 =>
                  refine' ev_sub (d₁ := .list ((List.range 6).map fun i => D.int (cellV ns i))) (d₂ := .int ((i + 1 : Nat) : Int)) ?z1 ?z2 (op_item (cell_at ns hk6) (by (first | lia | omega)) (fun _ _ => rfl))
                  case z1 => ((with_reducible refine' ev_name ?wx300 ?wy300 ?wz300); (case wx300 => exact rfl); (case wy300 => decide); (case wz300 => decide))
                  case z2 => ((with_reducible refine' ev_name ?wx301 ?wy301 ?wz301); (case wx301 => exact rfl); (case wy301 => decide); (case wz301 => decide))
                case y2 =>
                  refine ev_last (hdb := by decide) (a := ad) (ds := (depthsV ns i).map natD) (by rw [ownGet_es hes]; rfl) ?_ (by rw [List.length_map, hdl]; (first | lia | omega))
                  rw [List.getLast?_map, depthsV_last]
                  rfl
              case e4 =>
                show EX _ _ (es ++ [⟨some (Str.ofString "names"), an, .list ((namesV ns i).map strD)⟩, ⟨some (Str.ofString "depths"), ad, .list ((depthsV ns i).map natD ++ [natD (depthV ns (depthsV ns i) (i + 1))])⟩, ⟨none, L + 1 + 1 + 1, .pr cellU⟩]) _ _
                refine' ex_append_es (x := Str.ofString "names") (a := an) (ds := (namesV ns i).map strD) (d := strD (nameV ns (i + 1))) hes ?e1 ?e2 ?e3 ?e4 ?e5 ?e6 ?e7 ?e8
                case e2 => exact rfl
                case e3 => exact all3 (.inr rfl) (.inl (by decide))
                case e5 => (rw [List.length_map, hnl, hsz]; (first | lia | omega))
                case e6 => exact rfl
                case e7 => decide
                case e8 => exact fun _ => rfl
                case e1 =>
                  have hsg : ∀ k, k < 6 → ∀ h : k < [97, 98, 99, 100, 101, 102].length, ([97, 98, 99, 100, 101, 102] : List Nat)[k] = 97 + k := by decide
                  refine' ev_eq (ev_bin (d₁ := .str (S [97 + (i + 1)])) (d₂ := .str (S (tailsL.getD (idxV ns (i + 1)) []))) ?y1 ?y2 (op_catS (by have := tail_len (idxV ns (i + 1)); show 1 + _ ≤ _; (first | lia | omega)))) rfl
                  case y1 =>
                    refine' ev_eq (ev_sub (d₁ := .str (S [97, 98, 99, 100, 101, 102])) (d₂ := .int ((i + 1 : Nat) : Int)) (ev_lit rfl) ?z2 (op_sign (l := [97, 98, 99, 100, 101, 102]) (k := i + 1) hk6 (by decide) (fun _ _ => rfl))) (by rw [hsg _ hk6])
                    case z2 => ((with_reducible refine' ev_name ?wx302 ?wy302 ?wz302); (case wx302 => exact rfl); (case wy302 => decide); (case wz302 => decide))
                  case y2 =>
                    refine ev_tail (k := i + 1) hk6 ?_ ?_ ?_ (fun _ _ => rfl)
                    · ((with_reducible refine' ev_name ?wx303 ?wy303 ?wz303); (case wx303 => exact rfl); (case wy303 => decide); (case wz303 => decide))
                    · ((with_reducible refine' ev_name ?wx304 ?wy304 ?wz304); (case wx304 => exact rfl); (case wy304 => decide); (case wz304 => decide))
                    · ((with_reducible refine' ev_name ?wx305 ?wy305 ?wz305); (case wx305 => exact rfl); (case wy305 => decide); (case wz305 => decide))
                case e4 =>
                  have eN : (namesV ns (i + 1)).map strD = (namesV ns i).map strD ++ [strD (nameV ns (i + 1))] := by rw [namesV_succ, List.map_append]; rfl
                  have eD : (depthsV ns (i + 1)).map natD = (depthsV ns i).map natD ++ [natD (depthV ns (depthsV ns i) (i + 1))] := List.map_append
                  refine ex_nil fun fz s F => next_own (by rw [eN, eD]; rfl) ⟨rfl, F.weaken ?_⟩
                  (repeat' (first | (with_reducible refine List.forall_mem_cons.mpr ⟨?_, ?_⟩) | exact rfl | (intro p hp; exact nomatch hp)))
            case fin =>
              obtain ⟨f, hrows, hg, hfs, hds, hnm⟩ := nestV ns (i := b) (by (first | lia | omega))
              have hfs' : f.size = 5 ∨ f.size = 6 := by rw [hfs]; rcases hb with h | h <;> rw [h]; exact .inl rfl; exact .inr rfl
              have hs6 : f.size ≤ 6 := by rcases hfs' with h | h <;> rw [h] <;> decide
              have hs2 : 2 ≤ f.size := by rcases hfs' with h | h <;> rw [h] <;> decide
              have hs10 : f.size ≤ 10 := Nat.le_trans hs6 (by decide)
              have hne : f.isNil = false := by
                cases f with
                | nil => cases hfs
                | cons _ _ _ => rfl
              have hdc := depthsV_ok ns b
              have hdl := depthsV_len ns b
              rw [hds] at hdc hdl
              rw [hnm, hds]
              refine ex_freeze1 rfl (ex_freeze1 rfl ?_)
              refine' ex_assign_cell (q := L + 1 + 1 + 1) (own' := []) (d := .list ((f.ways []).map wayD)) (List.Perm.refl _) ?w1 ?w2 ?w3 ?w4 ?w5
              case w3 => exact rfl
              case w4 => exact rfl
              case w5 => exact rfl
              case w1 =>
                refine' ev_call ?hx ?hn (fn140 _) (evs_cons (d := .list (((f.rows 0).map (·.1)).map natD)) ?hes evs_nil (fun _ => rfl)) (ops_eq (ways_call (Nat.le_trans (by decide : 3 ≤ 59) hk59) hdc (by (first | lia | omega))) (by rw [Fo.ways_is])) (fun _ => rfl) (by decide)
                case hx => exact rfl
                case hn => k_is
                case hes => ((with_reducible refine' ev_name ?wx306 ?wy306 ?wz306); (case wx306 => exact rfl); (case wy306 => decide); (case wz306 => decide))
              case w2 =>
                have hgt := Fo.turn_good hg
                have hts : f.turn.size = f.size := Fo.turn_size f
                have htn : f.turn.isNil = false := by rw [Fo.turn_nil]; exact hne
                refine' ex_assign (d := .str (S f.T)) ?t1 ?t2 ?t3 ?t4 ?t5
                case t3 => exact rfl
                case t4 => exact rfl
                case t5 => exact rfl
                case t1 =>
                  refine' ev_call ?hx ?hn (fn133 _) (evs_cons (d := .list ((f.rows 0).map rowD)) ?hes evs_nil (fun _ => rfl)) (ops_eq (nest_call (Nat.le_trans (by decide : 8 ≤ 59) hk59) (Fo.rowOk hg hs6) (by rw [Fo.rows_len]; exact hs10) (Fo.rows_ne hne 0)) (by rw [Fo.nest_is hg hne])) (fun _ => rfl) (by decide)
                  case hx => exact rfl
                  case hn => k_is
                  case hes =>
                    refine' ev_eq (ev_listzip (xs := ((f.rows 0).map (·.1)).map natD) (ys := f.names.map strD) (m := f.size) rfl ?a1 ?a2 rfl ?a3 ?a4 ?a5 ?a6 ?a7 (Nat.le_trans hs6 (by decide)) ?a8) ?a9
                    case a1 => exact rfl
                    case a2 => k_is
                    case a3 => exact rfl
                    case a4 => k_is
                    case a5 => ((refine' evs_cons ?wa307 ?wb307 ?wc307); (case wa307 => ((with_reducible refine' ev_name ?wx308 ?wy308 ?wz308); (case wx308 => exact rfl); (case wy308 => decide); (case wz308 => decide))); (case wb307 => ((refine' evs_cons ?wa309 ?wb309 ?wc309); (case wa309 => ((with_reducible refine' ev_name ?wx310 ?wy310 ?wz310); (case wx310 => exact rfl); (case wy310 => decide); (case wz310 => decide))); (case wb309 => exact evs_nil); (case wc309 => exact fun _ => rfl))); (case wc307 => exact fun _ => rfl))
                    case a6 => rw [List.length_map, List.length_map, Fo.rows_len]
                    case a7 => rw [List.length_map, Fo.names_len]
                    case a8 => exact rfl
                    case a9 =>
                      rw [zipD_map, ← Fo.rows_names f 0, zip_back]
                      rfl
                case t2 =>
                  obtain ⟨q, hq, hqs, hqi, hqt⟩ := Fo.sort_is hdc hfs'
                  refine' ex_assign (d := .str (S f.turn.T)) ?o1 ?o2 ?o3 ?o4 ?o5
                  case o3 => exact rfl
                  case o4 => exact rfl
                  case o5 => exact rfl
                  case o1 =>
                    refine' ev_call ?hx ?hn (fn133 _) (evs_cons (d := .list ((f.turn.rows 0).map rowD)) ?hes evs_nil (fun _ => rfl)) (ops_eq (nest_call (Nat.le_trans (by decide : 8 ≤ 59) hk59) (Fo.rowOk hgt (Nat.le_trans (Nat.le_of_eq hts) hs6)) (by rw [Fo.rows_len, hts]; exact hs10) (Fo.rows_ne htn 0)) (by rw [Fo.nest_is hgt htn])) (fun _ => rfl) (by decide)
                    case hx => exact rfl
                    case hn => k_is
                    case hes =>
                      refine' ev_eq (ev_comp (ρc := []) (n := f.size) (item := fun i => ((f.tw []).map fun p => D.tuple [wayD p.1, strD p.2]).getD i .none) (fun i => ((f.tw [])[i]?).map fun p => rowD (p.1.count 0, p.2)) ?c1 ?c2 ?c3 ?c4 ?c5 ?c6 ?c7 ?c8 ?c9) ?c10
                      case c10 =>
                        have e : (f.turn.rows 0).map rowD = (f.tw []).map fun p => rowD (p.1.count 0, p.2) := by
                          rw [show f.turn.rows 0 = (f.tw []).map (fun q => (q.1.count 0, q.2)) from (Fo.tw_rows f []).symm, List.map_map]
                          rfl
                        rw [e, ← Fo.tw_len f [], range_get]
                      case c1 => exact rfl
                      case c2 => exact rfl
                      case c3 => decide
                      case c4 => decide
                      case c5 =>
                        refine' itern_listN (ds := (f.tw []).map fun p => D.tuple [wayD p.1, strD p.2]) ?i1 ?i2 ?i3
                        case i2 => exact fun d hd => by obtain ⟨p, _, rfl⟩ := List.mem_map.mp hd; exact rfl
                        case i3 => rw [List.length_map, Fo.tw_len]
                        refine' ev_eq (ev_sortedzip (ws := f.ways []) (ys := f.names.map strD) (m := f.size) rfl ?a1 ?a2 rfl ?a3 ?a4 ?a5 ?a6 ?a7 hs2 (Nat.lt_of_le_of_lt hs6 (by decide)) hq hqs ?a8) (congrArg D.list (sort_pairs strD hqi hqt))
                        case a1 => exact rfl
                        case a2 => k_is
                        case a3 => exact rfl
                        case a4 => k_is
                        case a5 => ((refine' evs_cons ?wa311 ?wb311 ?wc311); (case wa311 => ((with_reducible refine' ev_name ?wx312 ?wy312 ?wz312); (case wx312 => exact rfl); (case wy312 => decide); (case wz312 => decide))); (case wb311 => ((refine' evs_cons ?wa313 ?wb313 ?wc313); (case wa313 => ((with_reducible refine' ev_name ?wx314 ?wy314 ?wz314); (case wx314 => exact rfl); (case wy314 => decide); (case wz314 => decide))); (case wb313 => exact evs_nil); (case wc313 => exact fun _ => rfl))); (case wc311 => exact fun _ => rfl))
                        case a6 => rw [Fo.ways_len]
                        case a7 => rw [List.length_map, Fo.names_len]
                        case a8 => exact rfl
                      case c6 => exact Nat.le_trans hs6 (by rw [hsz]; decide)
                      case c7 => exact fun p hp => nomatch hp
                      case c9 => exact fun _ => rfl
                      case c8 =>
                        rintro ⟨w', G', A', env', fz₀', s₀', k', st'', room', kind', glob', bi', big', kA', kG', kN'⟩ hw' hG' hA' hk'' ⟨C, hE⟩ i own' hi hes
                        dsimp only at hw' hG' hA' hk'' hE
                        subst hE
                        have hil : i < (f.tw []).length := by rw [Fo.tw_len]; exact hi
                        obtain ⟨p, hp⟩ : ∃ p, (f.tw [])[i]? = some p := ⟨_, List.getElem?_eq_getElem hil⟩
                        have hitem : ((f.tw []).map fun p => D.tuple [wayD p.1, strD p.2]).getD i .none = .tuple [wayD p.1, strD p.2] := by
                          rw [List.getD_eq_getElem?_getD, List.getElem?_map, hp]; rfl
                        have hout : (((f.tw [])[i]?).map fun p => rowD (p.1.count 0, p.2)) = some (rowD (p.1.count 0, p.2)) := by rw [hp]; rfl
                        rw [hitem, hout]
                        have hox : ∀ x : Str, (own'.any fun q => q.name == some x) = false := fun x => List.any_eq_false.mpr fun q hq => by rw [hes q hq]; exact Bool.false_ne_true
                        refine ⟨_, as_pair rfl (hox _) rfl (hox _), tst_nil, fun d hd => ?_, fun p hp => nomatch hp⟩
                        cases hd
                        refine' ev_tuple (ds := [.int ((p.1.count 0 : Nat) : Int), .str (S p.2)]) (evs_cons ?q1 (evs_cons ?q2 evs_nil ?q3) ?q4) (by show 2 ≤ sizeLine; decide)
                        case q3 => exact fun _ => rfl
                        case q4 => exact fun _ => rfl
                        case q2 => ((with_reducible refine' ev_name ?wx315 ?wy315 ?wz315); (case wx315 => exact rfl); (case wy315 => decide); (case wz315 => decide))
                        case q1 =>
                          refine' ev_method (d₀ := wayD p.1) (ds := [.int 0]) ?ho ?hes ty_list PySem.F.plainAttrs_list PySem.F.slot_list_count PySem.F.type_list_count op_count0 ?hb ?hpl ?hln ?hline
                          case ho => ((with_reducible refine' ev_name ?wx316 ?wy316 ?wz316); (case wx316 => exact rfl); (case wy316 => decide); (case wz316 => decide))
                          case hes => ((refine' evs_cons ?wa317 ?wb317 ?wc317); (case wa317 => with_reducible exact ev_int); (case wb317 => exact evs_nil); (case wc317 => exact fun _ => rfl))
                          case hb => exact rfl
                          case hpl => exact rfl
                          case hln => decide
                          case hline => exact rfl
                  case o2 =>
                    have hts6 : f.turn.size ≤ 6 := Nat.le_trans (Nat.le_of_eq hts) hs6
                    refine' ex_if (b := false) ?v1 ?v2 ?v3
                    case v2 => intro h; cases h
                    case v1 =>
                      refine tv_bool (tvs_on (op := .Or) ?_ (tvs_on (op := .Or) ?_ tvs_nil))
                      · show TV _ _ _ _ false
                        refine' tv_eq (tv_cmp (d₁ := .str (S f.turn.T)) (d₂ := .str (S f.turn.T)) ?hl ?hr op_neS ?hm) (bne_self_eq_false _)
                        case hr => ((with_reducible refine' ev_name ?wx318 ?wy318 ?wz318); (case wx318 => exact rfl); (case wy318 => decide); (case wz318 => decide))
                        case hm => with_unfolding_all exact rfl
                        case hl =>
                          refine' ev_call ?hx ?hn (fn145 _) (evs_cons (d := .str (S f.T)) ?hes (evs_cons (ev_int (i := 9)) evs_nil ?he1) ?he2) (turned_is hg hs6 (Nat.le_trans (by decide : 18 ≤ 59) hk59)) ?he3 (by decide)
                          case hx => exact rfl
                          case hn => k_is
                          case hes => ((with_reducible refine' ev_name ?wx319 ?wy319 ?wz319); (case wx319 => exact rfl); (case wy319 => decide); (case wz319 => decide))
                          case he1 => exact fun _ => rfl
                          case he2 => exact fun _ => rfl
                          case he3 => exact fun _ => rfl
                      · show TV _ _ _ _ false
                        refine' tv_eq (tv_cmp (d₁ := .str (S f.T)) (d₂ := .str (S f.T)) ?hl ?hr op_neS ?hm) (bne_self_eq_false _)
                        case hr => ((with_reducible refine' ev_name ?wx320 ?wy320 ?wz320); (case wx320 => exact rfl); (case wy320 => decide); (case wz320 => decide))
                        case hm => with_unfolding_all exact rfl
                        case hl =>
                          refine' ev_call ?hx ?hn (fn145 _) (evs_cons (d := .str (S f.turn.T)) ?hes (evs_cons (ev_int (i := 9)) evs_nil ?he1) ?he2) (turned_back hg hs6 (Nat.le_trans (by decide : 18 ≤ 59) hk59)) ?he3 (by decide)
                          case hx => exact rfl
                          case hn => k_is
                          case hes => ((with_reducible refine' ev_name ?wx321 ?wy321 ?wz321); (case wx321 => exact rfl); (case wy321 => decide); (case wz321 => decide))
                          case he1 => exact fun _ => rfl
                          case he2 => exact fun _ => rfl
                          case he3 => exact fun _ => rfl
                    case v3 =>
                      intro _
                      refine' ex_assign (d := .str (S (joinL [59, 32] f.outer))) ?g1 ?g2 ?g3 ?g4 ?g5
                      case g3 => exact rfl
                      case g4 => exact rfl
                      case g5 => exact rfl
                      case g1 =>
                        refine' ev_join (sep := [59, 32]) (xs := f.outer) ?jo ?jl (Fo.join_ok hg hs6) ?jb ?jp ?jn ?js
                        case jo => with_reducible exact ev_semi
                        case jb => exact rfl
                        case jp => exact rfl
                        case jn => exact rfl
                        case js => exact fun _ => rfl
                        case jl =>
                          refine' ev_eq (ev_comp (ρc := [(Str.ofString "ways", .list ((f.ways []).map wayD))]) (n := f.size) (item := fun i => .tuple [((f.ways []).map wayD).getD i .none, (f.names.map strD).getD i .none]) (fun i => (((f.ways []).zip f.names)[i]?).bind fun p => (nearG 1 (f.ways []) p).map strD) ?c1 ?c2 ?c3 ?c4 ?c5 ?c6 ?c7 ?c8 ?c9) ?c10
                          case c10 => exact congrArg D.list (near_get (Fo.near1 f [] (f.ways []) (fun h => nomatch h) (fun t => Iff.rfl)) strD)
                          case c1 => exact rfl
                          case c2 => exact rfl
                          case c3 => decide
                          case c4 => decide
                          case c5 =>
                            refine' itern_zip (xs := (f.ways []).map wayD) (ys := f.names.map strD) (m := f.size) rfl ?a3 ?a4 ?a5 ?a6 ?a7 ?a8
                            case a3 => exact rfl
                            case a4 => k_is
                            case a5 => ((refine' evs_cons ?wa322 ?wb322 ?wc322); (case wa322 => ((with_reducible refine' ev_name ?wx323 ?wy323 ?wz323); (case wx323 => exact rfl); (case wy323 => decide); (case wz323 => decide))); (case wb322 => ((refine' evs_cons ?wa324 ?wb324 ?wc324); (case wa324 => ((with_reducible refine' ev_name ?wx325 ?wy325 ?wz325); (case wx325 => exact rfl); (case wy325 => decide); (case wz325 => decide))); (case wb324 => exact evs_nil); (case wc324 => exact fun _ => rfl))); (case wc322 => exact fun _ => rfl))
                            case a6 => rw [List.length_map, Fo.ways_len]
                            case a7 => rw [List.length_map, Fo.names_len]
                            case a8 => exact rfl
                          case c6 => exact Nat.le_trans hs6 (by rw [hsz]; decide)
                          case c7 =>
                            intro p hp
                            rw [List.mem_singleton.mp hp]
                            exact ⟨rfl, .inl rfl, rfl, .inl rfl⟩
                          case c9 => exact fun _ => rfl
                          case c8 =>
                            rintro ⟨w', G', A', env', fz₀', s₀', k', st'', room', kind', glob', bi', big', kA', kG', kN'⟩ hw' hG' hA' hk'' ⟨C, hE⟩ i own' hi hes
                            dsimp only at hw' hG' hA' hk'' hE
                            subst hE
                            have hzl : i < ((f.ways []).zip f.names).length := by rw [List.length_zip, Fo.ways_len, Fo.names_len, Nat.min_self]; exact hi
                            obtain ⟨p, hp⟩ : ∃ p, ((f.ways []).zip f.names)[i]? = some p := ⟨_, List.getElem?_eq_getElem hzl⟩
                            obtain ⟨hp1, hp2⟩ := List.getElem?_zip_eq_some.mp hp
                            have hi1 : ((f.ways []).map wayD).getD i .none = wayD p.1 := by rw [List.getD_eq_getElem?_getD, List.getElem?_map, hp1]; rfl
                            have hi2 : (f.names.map strD).getD i .none = strD p.2 := by rw [List.getD_eq_getElem?_getD, List.getElem?_map, hp2]; rfl
                            have hlw := Fo.ways_sz f [] p.1 (List.mem_of_getElem? hp1)
                            have hln := (nm_ok (Fo.names_ok f hg p.2 (List.mem_of_getElem? hp2))).2
                            have hlw : p.1.length ≤ 100 := Nat.le_trans hlw (Nat.le_trans (Nat.le_of_eq (Nat.zero_add _)) (Nat.le_trans hs6 (by decide)))
                            have hln : p.2.length ≤ 100 := Nat.le_trans hln (by decide)
                            have hout : ((((f.ways []).zip f.names)[i]?).bind fun p => (nearG 1 (f.ways []) p).map strD) = (nearG 1 (f.ways []) p).map strD := by rw [hp]; rfl
                            rw [hi1, hi2, hout]
                            have hox : ∀ x : Str, (own'.any fun q => q.name == some x) = false := fun x => List.any_eq_false.mpr fun q hq => by rw [hes q hq]; exact Bool.false_ne_true
                            refine ⟨_, as_pair rfl (hox _) rfl (hox _), ?_, fun d hd => ?_, ?_⟩
                            · have e : ((nearG 1 (f.ways []) p).map strD).isSome = !decide (1 ∈ p.1) := by rw [Option.isSome_map]; exact near_some
                              rw [e]
                              refine' tst_near (b := 1) (w := p.1) ?u1 ?u2
                              case u1 => ((with_reducible refine' ev_name ?wx326 ?wy326 ?wz326); (case wx326 => exact rfl); (case wy326 => decide); (case wz326 => decide))
                              case u2 => with_unfolding_all exact rfl
                            · have hd : strD (p.2 ++ if p.1 ++ [1] ∈ f.ways [] then [61] else []) = d := by
                                unfold nearG at hd
                                by_cases hb : 1 ∈ p.1
                                · rw [if_pos hb] at hd; cases hd
                                · rw [if_neg hb] at hd
                                  exact Option.some.inj hd
                              rw [← hd]
                              refine' ev_near (b := 1) (w := p.1) (n := p.2) (ws := f.ways []) ?u1 ?u2 ?u3 hlw hln ?u4
                              case u1 => ((with_reducible refine' ev_name ?wx327 ?wy327 ?wz327); (case wx327 => exact rfl); (case wy327 => decide); (case wz327 => decide))
                              case u2 => ((with_reducible refine' ev_name ?wx328 ?wy328 ?wz328); (case wx328 => exact rfl); (case wy328 => decide); (case wz328 => decide))
                              case u3 => ((with_reducible refine' ev_name ?wx329 ?wy329 ?wz329); (case wx329 => exact rfl); (case wy329 => decide); (case wz329 => decide))
                              case u4 => with_unfolding_all exact rfl
                            · intro q hq
                              rw [List.mem_singleton.mp hq]
                              exact rfl
                      case g2 =>
                        refine' ex_assign (d := .str (S (joinL [59, 32] f.turn.outer))) ?h1 ?h2 ?h3 ?h4 ?h5
                        case h3 => exact rfl
                        case h4 => exact rfl
                        case h5 => exact rfl
                        case h1 =>
                          refine' ev_join (sep := [59, 32]) (xs := f.turn.outer) ?jo ?jl (Fo.join_ok hgt hts6) ?jb ?jp ?jn ?js
                          case jo => with_reducible exact ev_semi
                          case jb => exact rfl
                          case jp => exact rfl
                          case jn => exact rfl
                          case js => exact fun _ => rfl
                          case jl =>
                            refine' ev_eq (ev_comp (ρc := [(Str.ofString "ways", .list ((f.ways []).map wayD))]) (n := f.size) (item := fun i => .tuple [((f.ways []).map wayD).getD i .none, (f.names.map strD).getD i .none]) (fun i => (((f.ways []).zip f.names)[i]?).bind fun p => (nearG 0 (f.ways []) p).map strD) ?c1 ?c2 ?c3 ?c4 ?c5 ?c6 ?c7 ?c8 ?c9) ?c10
                            case c10 => exact congrArg D.list (near_get (Fo.near0 f [] (f.ways []) (fun h => nomatch h) (fun t => Iff.rfl)) strD)
                            case c1 => exact rfl
                            case c2 => exact rfl
                            case c3 => decide
                            case c4 => decide
                            case c5 =>
                              refine' itern_zip (xs := (f.ways []).map wayD) (ys := f.names.map strD) (m := f.size) rfl ?a3 ?a4 ?a5 ?a6 ?a7 ?a8
                              case a3 => exact rfl
                              case a4 => k_is
                              case a5 => ((refine' evs_cons ?wa330 ?wb330 ?wc330); (case wa330 => ((with_reducible refine' ev_name ?wx331 ?wy331 ?wz331); (case wx331 => exact rfl); (case wy331 => decide); (case wz331 => decide))); (case wb330 => ((refine' evs_cons ?wa332 ?wb332 ?wc332); (case wa332 => ((with_reducible refine' ev_name ?wx333 ?wy333 ?wz333); (case wx333 => exact rfl); (case wy333 => decide); (case wz333 => decide))); (case wb332 => exact evs_nil); (case wc332 => exact fun _ => rfl))); (case wc330 => exact fun _ => rfl))
                              case a6 => rw [List.length_map, Fo.ways_len]
                              case a7 => rw [List.length_map, Fo.names_len]
                              case a8 => exact rfl
                            case c6 => exact Nat.le_trans hs6 (by rw [hsz]; decide)
                            case c7 =>
                              intro p hp
                              rw [List.mem_singleton.mp hp]
                              exact ⟨rfl, .inl rfl, rfl, .inl rfl⟩
                            case c9 => exact fun _ => rfl
                            case c8 =>
                              rintro ⟨w', G', A', env', fz₀', s₀', k', st'', room', kind', glob', bi', big', kA', kG', kN'⟩ hw' hG' hA' hk'' ⟨C, hE⟩ i own' hi hes
                              dsimp only at hw' hG' hA' hk'' hE
                              subst hE
                              have hzl : i < ((f.ways []).zip f.names).length := by rw [List.length_zip, Fo.ways_len, Fo.names_len, Nat.min_self]; exact hi
                              obtain ⟨p, hp⟩ : ∃ p, ((f.ways []).zip f.names)[i]? = some p := ⟨_, List.getElem?_eq_getElem hzl⟩
                              obtain ⟨hp1, hp2⟩ := List.getElem?_zip_eq_some.mp hp
                              have hi1 : ((f.ways []).map wayD).getD i .none = wayD p.1 := by rw [List.getD_eq_getElem?_getD, List.getElem?_map, hp1]; rfl
                              have hi2 : (f.names.map strD).getD i .none = strD p.2 := by rw [List.getD_eq_getElem?_getD, List.getElem?_map, hp2]; rfl
                              have hlw := Fo.ways_sz f [] p.1 (List.mem_of_getElem? hp1)
                              have hln := (nm_ok (Fo.names_ok f hg p.2 (List.mem_of_getElem? hp2))).2
                              have hlw : p.1.length ≤ 100 := Nat.le_trans hlw (Nat.le_trans (Nat.le_of_eq (Nat.zero_add _)) (Nat.le_trans hs6 (by decide)))
                              have hln : p.2.length ≤ 100 := Nat.le_trans hln (by decide)
                              have hout : ((((f.ways []).zip f.names)[i]?).bind fun p => (nearG 0 (f.ways []) p).map strD) = (nearG 0 (f.ways []) p).map strD := by rw [hp]; rfl
                              rw [hi1, hi2, hout]
                              have hox : ∀ x : Str, (own'.any fun q => q.name == some x) = false := fun x => List.any_eq_false.mpr fun q hq => by rw [hes q hq]; exact Bool.false_ne_true
                              refine ⟨_, as_pair rfl (hox _) rfl (hox _), ?_, fun d hd => ?_, ?_⟩
                              · have e : ((nearG 0 (f.ways []) p).map strD).isSome = !decide (0 ∈ p.1) := by rw [Option.isSome_map]; exact near_some
                                rw [e]
                                refine' tst_near (b := 0) (w := p.1) ?u1 ?u2
                                case u1 => ((with_reducible refine' ev_name ?wx334 ?wy334 ?wz334); (case wx334 => exact rfl); (case wy334 => decide); (case wz334 => decide))
                                case u2 => with_unfolding_all exact rfl
                              · have hd : strD (p.2 ++ if p.1 ++ [0] ∈ f.ways [] then [61] else []) = d := by
                                  unfold nearG at hd
                                  by_cases hb : 0 ∈ p.1
                                  · rw [if_pos hb] at hd; cases hd
                                  · rw [if_neg hb] at hd
                                    exact Option.some.inj hd
                                rw [← hd]
                                refine' ev_near (b := 0) (w := p.1) (n := p.2) (ws := f.ways []) ?u1 ?u2 ?u3 hlw hln ?u4
                                case u1 => ((with_reducible refine' ev_name ?wx335 ?wy335 ?wz335); (case wx335 => exact rfl); (case wy335 => decide); (case wz335 => decide))
                                case u2 => ((with_reducible refine' ev_name ?wx336 ?wy336 ?wz336); (case wx336 => exact rfl); (case wy336 => decide); (case wz336 => decide))
                                case u3 => ((with_reducible refine' ev_name ?wx337 ?wy337 ?wz337); (case wx337 => exact rfl); (case wy337 => decide); (case wz337 => decide))
                                case u4 => with_unfolding_all exact rfl
                              · intro q hq
                                rw [List.mem_singleton.mp hq]
                                exact rfl
                        case h2 =>
                          refine ex_return ?_
                          refine' ev_eq (ev_cmp (d₁ := .list [.str (S (joinL [59, 32] f.outer)), .str (S (joinL [59, 32] f.turn.outer))]) (d₂ := .list [.str (S (joinL [59, 32] f.outer)), .str (S (joinL [59, 32] f.turn.outer))]) ?hl ?hr (op_eqD (n := 0) (KI.list fun x hx y hy => ?hki) (by decide)) ?hm) ?hq
                          case hm => with_unfolding_all exact rfl
                          case hki =>
                            simp only [List.mem_cons, List.not_mem_nil, or_false] at hx hy
                            rcases hx with rfl | rfl <;> rcases hy with rfl | rfl <;> exact .str _ _
                          case hq =>
                            congr 1
                            show ((S _ == S _) && ((S _ == S _) && true)) = true
                            rw [beq_self_eq_true, beq_self_eq_true]
                            rfl
                          case hr =>
                            refine' ev_list (evs_cons ?q1 (evs_cons ?q2 evs_nil ?q3) ?q4) (by show 2 ≤ sizeLine; decide)
                            case q1 => ((with_reducible refine' ev_name ?wx338 ?wy338 ?wz338); (case wx338 => exact rfl); (case wy338 => decide); (case wz338 => decide))
                            case q2 => ((with_reducible refine' ev_name ?wx339 ?wy339 ?wz339); (case wx339 => exact rfl); (case wy339 => decide); (case wz339 => decide))
                            case q3 => exact fun _ => rfl
                            case q4 => exact fun _ => rfl
                          case hl =>
                            refine' ev_list (evs_cons ?q1 (evs_cons ?q2 evs_nil ?q3) ?q4) (by show 2 ≤ sizeLine; decide)
                            case q3 => exact fun _ => rfl
                            case q4 => exact fun _ => rfl
                            case q1 =>
                              refine' ev_call ?hx ?hn (fn114 _) (evs_cons (d := .str (S f.T)) ?hes evs_nil ?he2) (strip_f hg hs6 (Nat.le_trans (by decide : 4 ≤ 59) hk59)) ?he3 (by decide)
                              case hx => exact rfl
                              case hn => k_is
                              case hes => ((with_reducible refine' ev_name ?wx340 ?wy340 ?wz340); (case wx340 => exact rfl); (case wy340 => decide); (case wz340 => decide))
                              case he2 => exact fun _ => rfl
                              case he3 => exact fun _ => rfl
                            case q2 =>
                              refine' ev_call ?hx ?hn (fn114 _) (evs_cons (d := .str (S f.turn.T)) ?hes evs_nil ?he2) (strip_f hgt hts6 (Nat.le_trans (by decide : 4 ≤ 59) hk59)) ?he3 (by decide)
                              case hx => exact rfl
                              case hn => k_is
                              case hes => ((with_reducible refine' ev_name ?wx341 ?wy341 ?wz341); (case wx341 => exact rfl); (case wy341 => decide); (case wz341 => decide))
                              case he2 => exact fun _ => rfl
                              case he3 => exact fun _ => rfl
end L1

section L2
theorem TabOK.was {fz' : FZ} {h h' : Heap} {x : Lam} {c : Addr} (C : CodeHd h c x.tab) (hP : h.get? x.tab = some (tabObj #[])) (t : TabOK fz' h' x) : asItWas h h' x.tab (tabObj #[]) := by
  rcases t with e | ⟨cc, oc, vs, tt, e, _⟩
  · exact .inl e
  · exact .inr (.inl ⟨(C.tab hP).isCodeTable, rfl, #[], #[rawInt x.line, rawInt x.col, .ref cc], rfl, e⟩)

/- where the law is called: the heap without the two tables that grow -/
theorem stat_of {w : World} {loose : List Str} {mean : ExcName → Option Value} {mg mb : Str → Option Value} {h : Heap} (KX : (hd.heap_39 w.params).In h) (KT : ∀ P ∈ [95, 78], h.get? P = some (tabObj #[])) (T : Top hd.view_39 loose mean mg mb h) : Stat w (hideAll h [78, 95]) := by
  have hk : ∀ b o, b ≠ 78 → b ≠ 95 → h.get? b = some o → (hideAll h [78, 95]).get? b = some o := fun b o h1 h2 e => hideAll_get _ e (by simp [h1, h2])
  have n78 : (hd.heap_39 w.params).lookup 78 = none := by kernel_rfl
  have n95 : (hd.heap_39 w.params).lookup 95 = none := by kernel_rfl
  have KG : (hd.heap_39 w.params).In (hideAll h [78, 95]) := fun b o e => hk b o (fun q => by rw [q, n78] at e; cases e) (fun q => by rw [q, n95] at e; cases e) (KX b o e)
  refine ⟨KG, ⟨mg, mb, Ns_keep T.g (by decide) (by decide) hk, Ns_keep T.b (by decide) (by decide) hk, ?_, T.builtins, ?_⟩, codeHd_of_K KG (by kernel_rfl), codeHd_of_K KG (by kernel_rfl)⟩
  · obtain ⟨mc, h1, h2⟩ := T.nolimit
    exact ⟨mc, Ns_keep h1 (by decide) (by decide) hk, h2⟩
  · obtain ⟨bm, ob, b1, b2, b3, b4, b5, b6⟩ := T.bmain
    refine ⟨bm, ob, b1, b2, hk _ _ (fun q => ?_) (fun q => ?_) b3, b4, b5, b6⟩
    · rw [q, KT 78 (by decide)] at b3; cases b3; cases b4
    · rw [q, KT 95 (by decide)] at b3; cases b3; cases b4

theorem law_ints {w : World} {loose : List Str} {mean : ExcName → Option Value} {mg mb : Str → Option Value} {s₁ : Shared} (KX : (hd.heap_39 w.params).In s₁.heap) (KT : ∀ P ∈ [95, 78], s₁.heap.get? P = some (tabObj #[])) (T : Top hd.view_39 loose mean mg mb s₁.heap)
    (hgens : s₁.gens = #[]) {fa : Addr} (hmg : mg (Str.ofString "law") = some (.ref fa)) {l : Addr} {vs : List Value} {ns : List Int} (hl : s₁.heap.get? l = some (listO vs 0)) (hI : IntsAre vs ns) (hlen : ns.length ≤ 63) {Q E : Value → Shared → Prop}
    (hQ : ∀ s', OldK s₁.heap s'.heap → s'.os = s₁.os → AllBare s'.gens → Q (.bool true) s') : wpAny (model prog w) callerA (call (.ref fa) [.ref l]) Q E s₁ := by
  have S := stat_of KX KT T
  have ha : mg (Str.ofString "law") = some (.ref 150) := mg_of KX T.g (by k_is)
  obtain rfl : fa = 150 := by rw [hmg] at ha; cases ha; rfl
  have I : Inv (hideAll s₁.heap [78, 95]) (fun b => (hideAll s₁.heap [78, 95]).get? b) s₁ :=
    ⟨fun a o e => e, fun a o e => of_hideAll _ e, .inl (KT 78 (by decide)), .inl (KT 95 (by decide)), hideAll_none _ (by decide), hideAll_none _ (by decide), .of_eq hgens⟩
  let c : Cx := { w := w, G := hideAll s₁.heap [78, 95], A := callerA, env := defEnv { kind := .function, names := [], isGenerator := false, isCoroutine := false } (Str.ofString "") .none 0 0, fz₀ := fun b => (hideAll s₁.heap [78, 95]).get? b, s₀ := s₁, k := 60, st := S, room := ⟨rfl, by decide, by decide⟩, kind := rfl, glob := rfl, bi := rfl, big := Heap.lt_size (KT 95 (by decide)) }
  have r : Rep (fun b => (hideAll s₁.heap [78, 95]).get? b) (.ref l) (.list (ns.map .int)) := by
    refine .list (n := 0) (hideAll_get _ hl ?_) (reps_ints hI)
    intro hm
    rcases List.mem_cons.mp hm with q | hm
    · rw [q, KT 78 (by decide)] at hl; cases hl
    · rw [List.mem_singleton.mp hm, KT 95 (by decide)] at hl; cases hl
  refine law_go (c := c) (Nat.le_refl 60) hlen I r fun v fz' s' N I' r' => ?_
  obtain rfl := r'.inv
  have C78 : CodeHd s₁.heap 82 78 := codeHd_of_K KX (by kernel_rfl)
  have C95 : CodeHd s₁.heap 99 95 := codeHd_of_K KX (by kernel_rfl)
  refine hQ s' ⟨fun b o e => ?_, fun b o e => ?_⟩ N.os I'.gens
  · by_cases h1 : b = 78
    · rw [h1] at e ⊢
      rw [KT 78 (by decide)] at e
      cases e
      exact I'.t78.was C78 (KT 78 (by decide))
    · by_cases h2 : b = 95
      · rw [h2] at e ⊢
        rw [KT 95 (by decide)] at e
        cases e
        exact I'.t95.was C95 (KT 95 (by decide))
      · exact .inl (N.keep b o h1 h2 e)
  · by_cases h1 : b = 78
    · obtain ⟨o', ho'⟩ := I'.t78.get
      exact ⟨o', h1 ▸ ho'⟩
    · by_cases h2 : b = 95
      · obtain ⟨o', ho'⟩ := I'.t95.get
        exact ⟨o', h2 ▸ ho'⟩
      · exact ⟨o, N.keep b o h1 h2 e⟩
end L2

section L3
set_option maxHeartbeats 8000000 in
theorem law_holds : PySem.Challenge.rw_wn0086_01.Holds := by
  refine hd ?_
  k_fill
  intro w s₀ s₁ mg mb G Y fa o pm cd doc dV kV ho hod hcd hD hmg hgens args vals as hpre hlay hrd hwl hlo
  have KX := km_in_of Y
  have KT := km_tabs_of Y
  have T := G.T
  clear hod hcd hD ho
  wrow_args hpre hlay hrd hwl hlo
  rename_i ns hs hlay0 hL1 hr1 hl2 as1 as2 l vs as3 hL ra w1 r0 hI hr hc1 hc2
  have hl : s₁.heap.get? l = some (listO vs 0) := by
    have w2 : Well w.params s₁.heap (.ref l) (.list (ofPys (ns.map PyData.int))) := w1
    cases w2 with
    | list e wl =>
      obtain ⟨o', ho', hc', n, hd'⟩ := hL
      rw [e] at ho'
      cases ho'
      have e1 := congrArg Array.toList (Data.seq.inj hd').1
      simp only at e1
      rw [e, e1]
  have hlen : ns.length ≤ 63 := by (first | lia | omega)
  refine law_ints KX KT T hgens hmg hl hI hlen fun s' hold hos hb => ?_
  refine' ⟨.inl ⟨_, .bool true, [], rfl, fun _ => rfl, .bool true, ?post, fun _ => ⟨List.nodup_nil, fun a h => nomatch h⟩⟩, hold, hos, hb⟩
  first | rfl | with_unfolding_all rfl | kernel_rfl
end L3

end Mine
end Ds

theorem PySem.Challenge.cw_wn0086_01_holds : PySem.Challenge.rw_wn0086_01.Holds :=
  Mine.law_holds
