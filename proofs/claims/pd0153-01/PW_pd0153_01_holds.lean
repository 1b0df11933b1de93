import PyProof.Rows.All
import Wide.All
import Open.Line
import KE.BitLaws
import PySem.Challenge.RW_pd0153_01
set_option Elab.async false
set_option maxRecDepth 100000
set_option linter.unusedVariables false
section
open PySem PySem.Calls PyProof.Rows
namespace Mine

/-! frozen heaps: the heap without the places X -/
section
open Classical in
noncomputable def fz (h : Heap) (X : Addr → Prop) : Heap :=
  ⟨h.objs.mapIdx fun i o => if X i then { o with data := .freed } else o, h.life⟩

theorem fz_size (h : Heap) (X : Addr → Prop) : (fz h X).objs.size = h.objs.size := by simp [fz]

theorem fz_some {h : Heap} {X : Addr → Prop} {a : Addr} {o : Obj} : (fz h X).get? a = some o ↔ ¬ X a ∧ h.get? a = some o := by
  rw [Heap.get?_some_iff, Heap.get?_some_iff]
  simp only [fz, Array.getElem?_mapIdx]
  constructor
  · rintro ⟨h1, h2⟩
    cases hq : h.objs[a]? with
    | none => rw [hq] at h1; simp at h1
    | some x =>
      rw [hq] at h1
      simp only [Option.map_some, Option.some.injEq] at h1
      by_cases hx : X a
      · rw [if_pos hx] at h1
        subst h1
        simp [Obj.isFreed] at h2
      · rw [if_neg hx] at h1
        subst h1
        exact ⟨hx, rfl, h2⟩
  · rintro ⟨hx, h1, h2⟩
    refine ⟨?_, h2⟩
    rw [h1]
    simp [hx]
end

/-- everything of g stands in h -/
noncomputable def Sub (g h : Heap) : Prop := ∀ b o, g.get? b = some o → h.get? b = some o
theorem Sub.refl (g : Heap) : Sub g g := fun _ _ e => e
theorem Sub.trans {g h k : Heap} (x : Sub g h) (y : Sub h k) : Sub g k := fun b o e => y b o (x b o e)
theorem Sub.size {g h : Heap} (x : Sub g h) {a : Addr} {o : Obj} (e : g.get? a = some o) : a < h.objs.size := Heap.lt_size (x a o e)
theorem fz_sub (h : Heap) (X : Addr → Prop) : Sub (fz h X) h := fun _ _ e => (fz_some.mp e).2
theorem fz_mono {h h' : Heap} {X Y : Addr → Prop} (hk : ∀ b o, ¬ X b → h.get? b = some o → ¬ Y b ∧ h'.get? b = some o) : Sub (fz h X) (fz h' Y) :=
  fun b o e => let ⟨h1, h2⟩ := fz_some.mp e; fz_some.mpr (hk b o h1 h2)
theorem fz_keep {h h' : Heap} {X : Addr → Prop} (hk : Sub h h') : Sub (fz h X) (fz h' X) := fz_mono fun b o hx e => ⟨hx, hk b o e⟩

/-! readings: plain lists and tuples -/
noncomputable abbrev plainL (vs : Array Value) (n : Nat) : Obj := { cls := .type "list", dict := none, data := .seq vs n, slots := #[] }
noncomputable abbrev plainT (vs : Array Value) (n : Nat) : Obj := { cls := .type "tuple", dict := none, data := .seq vs n, slots := #[] }
mutual
inductive Rd (h : Heap) : Value → PyData → Prop
  | none : Rd h .none .none
  | bool (b) : Rd h (.bool b) (.bool b)
  | int (i t) : Rd h (.int i t) (.int i)
  | str (x t) : Rd h (.str x t) (.str x)
  | list {a vs n ds} : h.get? a = some (plainL vs n) → RdL h vs.toList ds → Rd h (.ref a) (.list ds)
  | tuple {a vs n ds} : h.get? a = some (plainT vs n) → RdL h vs.toList ds → Rd h (.ref a) (.tuple ds)
inductive RdL (h : Heap) : List Value → List PyData → Prop
  | nil : RdL h [] []
  | cons {v vs d ds} : Rd h v d → RdL h vs ds → RdL h (v :: vs) (d :: ds)
end
mutual
theorem Rd.mono {g g' : Heap} (hs : Sub g g') : ∀ {v : Value} {d : PyData}, Rd g v d → Rd g' v d
  | _, _, .none => .none
  | _, _, .bool b => .bool b
  | _, _, .int i t => .int i t
  | _, _, .str x t => .str x t
  | _, _, .list h r => .list (hs _ _ h) (RdL.mono hs r)
  | _, _, .tuple h r => .tuple (hs _ _ h) (RdL.mono hs r)
theorem RdL.mono {g g' : Heap} (hs : Sub g g') : ∀ {v : List Value} {d : List PyData}, RdL g v d → RdL g' v d
  | _, _, .nil => .nil
  | _, _, .cons h r => .cons (Rd.mono hs h) (RdL.mono hs r)
end
mutual
theorem Rd.reads {g : Heap} : ∀ {v : Value} {d : PyData}, Rd g v d → ∃ as, Reads g v d as
  | _, _, .none => ⟨_, .none⟩
  | _, _, .bool b => ⟨_, .bool b⟩
  | _, _, .int i t => ⟨_, .int i t⟩
  | _, _, .str x t => ⟨_, .str x t⟩
  | _, _, .list h r => let ⟨_, q⟩ := RdL.reads r; ⟨_, .list h rfl rfl q⟩
  | _, _, .tuple h r => let ⟨_, q⟩ := RdL.reads r; ⟨_, .tuple h rfl rfl q⟩
theorem RdL.reads {g : Heap} : ∀ {v : List Value} {d : List PyData}, RdL g v d → ∃ as, ReadsAll g v d as
  | _, _, .nil => ⟨_, .nil⟩
  | _, _, .cons h r => let ⟨_, q⟩ := Rd.reads h; let ⟨_, p⟩ := RdL.reads r; ⟨_, .cons q p⟩
end
theorem RdL.cons_inv {g : Heap} {v : Value} {vs : List Value} {ds : List PyData} (x : RdL g (v :: vs) ds) : ∃ d ds', ds = d :: ds' ∧ Rd g v d ∧ RdL g vs ds' := by
  cases x with
  | cons h1 h2 => exact ⟨_, _, rfl, h1, h2⟩
theorem RdL.cons_inv' {g : Heap} {d : PyData} {vs : List Value} {ds : List PyData} (x : RdL g vs (d :: ds)) : ∃ v vs', vs = v :: vs' ∧ Rd g v d ∧ RdL g vs' ds := by
  cases x with
  | cons h1 h2 => exact ⟨_, _, rfl, h1, h2⟩
theorem RdL.nil_inv {g : Heap} {vs : List Value} (x : RdL g vs []) : vs = [] := by cases x; rfl
theorem RdL.length {g : Heap} : ∀ {vs : List Value} {ds : List PyData}, RdL g vs ds → vs.length = ds.length
  | _, _, .nil => rfl
  | _, _, .cons _ r => by simp [RdL.length r]
theorem RdL.get {g : Heap} : ∀ {vs : List Value} {ds : List PyData}, RdL g vs ds → ∀ (i : Nat) (d : PyData), ds[i]? = some d → ∃ v, vs[i]? = some v ∧ Rd g v d
  | _, _, .nil, i, d, hd => by simp at hd
  | v :: _, _, .cons h1 r, i, d, hd => by
    cases i with
    | zero => simp at hd; subst hd; exact ⟨v, rfl, h1⟩
    | succ j => simpa using RdL.get r j d (by simpa using hd)
theorem RdL.get' {g : Heap} {vs : List Value} {ds : List PyData} (x : RdL g vs ds) {i : Nat} {v : Value} (hv : vs[i]? = some v) : ∃ d, ds[i]? = some d ∧ Rd g v d := by
  have hl := x.length
  have hi : i < ds.length := by
    rw [← hl]
    exact (List.getElem?_eq_some_iff.mp hv).1
  obtain ⟨v', e, r⟩ := x.get i ds[i] (List.getElem?_eq_getElem hi)
  rw [hv] at e
  cases e
  exact ⟨_, List.getElem?_eq_getElem hi, r⟩
theorem RdL.append {g : Heap} : ∀ {vs vs' : List Value} {ds ds' : List PyData}, RdL g vs ds → RdL g vs' ds' → RdL g (vs ++ vs') (ds ++ ds')
  | _, _, _, _, .nil, y => y
  | _, _, _, _, .cons h1 r, y => .cons h1 (RdL.append r y)
theorem RdL.one {g : Heap} {v : Value} {d : PyData} (x : Rd g v d) : RdL g [v] [d] := .cons x .nil
theorem RdL.take {g : Heap} : ∀ {vs : List Value} {ds : List PyData} (n : Nat), RdL g vs ds → RdL g (vs.take n) (ds.take n)
  | _, _, 0, _ => by simpa using RdL.nil
  | _, _, n + 1, .nil => by simpa using RdL.nil
  | _, _, n + 1, .cons h1 r => by simpa using RdL.cons h1 (RdL.take n r)
theorem RdL.drop {g : Heap} : ∀ {vs : List Value} {ds : List PyData} (n : Nat), RdL g vs ds → RdL g (vs.drop n) (ds.drop n)
  | _, _, 0, x => by simpa using x
  | _, _, n + 1, .nil => by simpa using RdL.nil
  | _, _, n + 1, .cons h1 r => by simpa using RdL.drop n r
theorem RdL.set {g : Heap} {v : Value} {d : PyData} (hv : Rd g v d) : ∀ {vs : List Value} {ds : List PyData} (n : Nat), RdL g vs ds → RdL g (vs.set n v) (ds.set n d)
  | _, _, n, .nil => by simpa using RdL.nil
  | _, _, 0, .cons h1 r => by simpa using RdL.cons hv r
  | _, _, n + 1, .cons h1 r => by simpa using RdL.cons h1 (RdL.set hv n r)
theorem RdL.eraseIdx {g : Heap} : ∀ {vs : List Value} {ds : List PyData} (n : Nat), RdL g vs ds → RdL g (vs.eraseIdx n) (ds.eraseIdx n)
  | _, _, n, .nil => by simpa using RdL.nil
  | _, _, 0, .cons h1 r => by simpa using r
  | _, _, n + 1, .cons h1 r => by simpa using RdL.cons h1 (RdL.eraseIdx n r)
theorem Rd.int_inv {g : Heap} {v : Value} {i : Int} (x : Rd g v (.int i)) : ∃ t, v = .int i t := by cases x; exact ⟨_, rfl⟩
theorem Rd.str_inv {g : Heap} {v : Value} {i : Str} (x : Rd g v (.str i)) : ∃ t, v = .str i t := by cases x; exact ⟨_, rfl⟩
theorem Rd.bool_inv {g : Heap} {v : Value} {i : Bool} (x : Rd g v (.bool i)) : v = .bool i := by cases x; rfl
theorem Rd.none_inv {g : Heap} {v : Value} (x : Rd g v .none) : v = .none := by cases x; rfl
theorem Rd.list_inv {g : Heap} {v : Value} {ds : List PyData} (x : Rd g v (.list ds)) : ∃ a vs n, v = .ref a ∧ g.get? a = some (plainL vs n) ∧ RdL g vs.toList ds := by
  cases x with
  | list h r => exact ⟨_, _, _, rfl, h, r⟩
theorem Rd.tuple_inv {g : Heap} {v : Value} {ds : List PyData} (x : Rd g v (.tuple ds)) : ∃ a vs n, v = .ref a ∧ g.get? a = some (plainT vs n) ∧ RdL g vs.toList ds := by
  cases x with
  | tuple h r => exact ⟨_, _, _, rfl, h, r⟩
theorem plainL_isList {h : Heap} {a : Addr} {vs : Array Value} {n : Nat} (e : h.get? a = some (plainL vs n)) : h.IsList a vs := ⟨_, e, rfl, n, rfl⟩
theorem plainT_isTup {h : Heap} {a : Addr} {vs : Array Value} {n : Nat} (e : h.get? a = some (plainT vs n)) : IsTup h a vs := ⟨_, e, rfl, n, rfl⟩

/-- data without places -/
noncomputable def flat : PyData → Bool
  | .none | .bool _ | .int _ | .str _ => true
  | _ => false
theorem Rd.flat_any {g : Heap} {v : Value} {d : PyData} (x : Rd g v d) (hf : flat d = true) (g' : Heap) : Rd g' v d := by
  cases x with
  | none => exact .none
  | bool b => exact .bool b
  | int i t => exact .int i t
  | str x t => exact .str x t
  | list => cases hf
  | tuple => cases hf
theorem RdL.flat_any {g : Heap} : ∀ {vs : List Value} {ds : List PyData}, RdL g vs ds → (∀ d ∈ ds, flat d = true) → ∀ g', RdL g' vs ds
  | _, _, .nil, _, g' => .nil
  | _, _, .cons h1 r, hf, g' => .cons (h1.flat_any (hf _ (.head _)) g') (RdL.flat_any r (fun d hd => hf d (.tail _ hd)) g')

/-- what a name may hold: data that stands still, a dict by texts, a list of the frame's own -/
inductive AV where
  | D (d : PyData)
  | K (kvs : List (Str × PyData))
  | M (a : Addr) (ds : List PyData)
  | T (n : String)
  | TT (ns : List String)
  | Rg (a b c : Int)
  | V (a : Addr) (ds : List PyData)

/-- the pairs of a dict read -/
inductive RdK (g : Heap) : List (Str × Value) → List (Str × PyData) → Prop
  | nil : RdK g [] []
  | cons {k : Str} {v : Value} {d : PyData} {kvs : List (Str × Value)} {kds : List (Str × PyData)} : Rd g v d → RdK g kvs kds → RdK g ((k, v) :: kvs) ((k, d) :: kds)
theorem RdK.mono {g g' : Heap} (hs : Sub g g') : ∀ {kvs : List (Str × Value)} {kds : List (Str × PyData)}, RdK g kvs kds → RdK g' kvs kds
  | _, _, .nil => .nil
  | _, _, .cons h t => .cons (Rd.mono hs h) (RdK.mono hs t)

/-- what stands around a proof: the text, the world, the globals and the built-ins -/
structure Gx where
  prog : Program
  w : World
  mg : Str → Option Value
  mb : Str → Option Value
noncomputable abbrev mo (Γ : Gx) := model Γ.prog Γ.w
noncomputable abbrev sk (Γ : Gx) := strKind Γ.prog Γ.w
section
variable (Γ : Gx)
noncomputable def VR (g h : Heap) : AV → Value → Prop
  | .D d, v => Rd g v d
  | .K kvs, v => ∃ a vals, v = .ref a ∧ g.DictOf (sk Γ) a vals ∧ RdK g vals kvs
  | .M a ds, v => v = .ref a ∧ ∃ vs n, h.get? a = some (plainL vs n) ∧ RdL g vs.toList ds
  | .T n, v => v = .type n
  | .TT ns, v => ∃ a k, v = .ref a ∧ g.get? a = some (plainT (ns.map Value.type).toArray k)
  | .Rg a b c, v => ∃ r t u x, v = .ref r ∧ IsRange g r a b c t u x
  | .V a ds, v => v = .ref a ∧ ∃ vs n, h.get? a = some (plainL vs n) ∧ RdL g vs.toList ds
end
theorem DictOf_mono {Γ : Gx} {g g' : Heap} {a : Addr} {vals : List (Str × Value)} (x : g.DictOf (sk Γ) a vals) (hs : Sub g g') : g'.DictOf (sk Γ) a vals :=
  let ⟨o, es, ep, h1, r⟩ := x; ⟨o, es, ep, hs _ _ h1, r⟩
theorem IsList_mono {g g' : Heap} {a : Addr} {vs : Array Value} (x : g.IsList a vs) (hs : Sub g g') : g'.IsList a vs := let ⟨o, h1, r⟩ := x; ⟨o, hs _ _ h1, r⟩
theorem IsTup_mono {g g' : Heap} {a : Addr} {vs : Array Value} (x : IsTup g a vs) (hs : Sub g g') : IsTup g' a vs := let ⟨o, h1, r⟩ := x; ⟨o, hs _ _ h1, r⟩
theorem IsCell_mono {g g' : Heap} {a : Addr} {v : Option Value} (x : g.IsCell a v) (hs : Sub g g') : g'.IsCell a v := x.keeps hs
theorem VR.step {Γ : Gx} {g h g' h' : Heap} {av : AV} {v : Value} (x : VR Γ g h av v) (hg : Sub g g') (hl : ∀ a ds, av = .M a ds ∨ av = .V a ds → ∀ o, h.get? a = some o → h'.get? a = some o) : VR Γ g' h' av v := by
  cases av with
  | D d => exact Rd.mono hg x
  | K kvs => obtain ⟨a, vals, e, h1, h2⟩ := x; exact ⟨a, vals, e, DictOf_mono h1 hg, h2.mono hg⟩
  | M a ds => obtain ⟨e, vs, n, h1, h2⟩ := x; exact ⟨e, vs, n, hl a ds (.inl rfl) _ h1, RdL.mono hg h2⟩
  | T n => exact x
  | TT ns => obtain ⟨a, k, e, h1⟩ := x; exact ⟨a, k, e, hg _ _ h1⟩
  | Rg a b c => obtain ⟨r, t, u, y, e, h1⟩ := x; exact ⟨r, t, u, y, e, hg _ _ h1⟩
  | V a ds => obtain ⟨e, vs, n, h1, h2⟩ := x; exact ⟨e, vs, n, hl a ds (.inr rfl) _ h1, RdL.mono hg h2⟩
theorem VR.mono {Γ : Gx} {g h g' h' : Heap} {av : AV} {v : Value} (x : VR Γ g h av v) (hg : Sub g g') (hh : Sub h h') : VR Γ g' h' av v := x.step hg fun a _ _ o e => hh a o e

/-! the frame -/
noncomputable abbrev St := List (Str × AV)

structure Cx where
  env : Env
  hid : Addr → Prop
  base : Heap
  A : Around
  n : Nat
  os : OsState
  out : Option (List Env)

/-- the places that a frame keeps for itself -/
noncomputable def Hd (c : Cx) (st : St) (a : Addr) : Prop := c.hid a ∨ ∃ x ds, (x, AV.M a ds) ∈ st
noncomputable def own (env : Env) (a : Addr) : Prop := a = env.locals ∨ ∃ x, env.cells.lookup x = some a

/-- the places of the frames further out -/
noncomputable def fr (c : Cx) (b : Addr) : Prop := ∃ l, c.out = some l ∧ b ∈ l.filterMap (·.frame)
/-- the frames further out, where they are told -/
noncomputable def Fo (c : Cx) (h : Heap) : Prop := ∀ outer, c.out = some outer → c.A.frames = some (c.env :: outer) ∧ c.env.frame = some c.env.locals ∧ h.FunFrames c.base outer ∧ ∀ b ∈ outer.filterMap (·.frame), c.hid b ∧ ¬ own c.env b
/-- an object kept, or kept but for its slots -/
noncomputable def Sl (P : Prop) (o : Obj) (h' : Heap) (b : Addr) : Prop := ∃ sl, h'.get? b = some { o with slots := sl } ∧ (¬ P → sl = o.slots)
theorem Sl.exact {P : Prop} {o : Obj} {h' : Heap} {b : Addr} (e : h'.get? b = some o) : Sl P o h' b := ⟨o.slots, e, fun _ => rfl⟩
theorem Sl.get {P : Prop} {o : Obj} {h' : Heap} {b : Addr} (x : Sl P o h' b) (hp : ¬ P) : h'.get? b = some o := by
  obtain ⟨sl, e, h⟩ := x
  rw [h hp] at e; exact e
theorem Sl.live {P : Prop} {o : Obj} {h' : Heap} {b : Addr} (x : Sl P o h' b) : ∃ o', h'.get? b = some o' ∧ o'.data = o.data := let ⟨_, e, _⟩ := x; ⟨_, e, rfl⟩
theorem Sl.trans {P : Prop} {o : Obj} {h h' : Heap} {b : Addr} (x : Sl P o h b) (y : ∀ o', h.get? b = some o' → Sl P o' h' b) : Sl P o h' b := by
  obtain ⟨sl, e, h1⟩ := x
  obtain ⟨sl', e', h2⟩ := y _ e
  exact ⟨sl', e', fun hp => (h2 hp).trans (h1 hp)⟩
theorem funFrames_keeps {h h' base : Heap} {l : List Env} (k : ∀ b ∈ l.filterMap (·.frame), ∀ o, h.get? b = some o → ∃ o', h'.get? b = some o' ∧ o'.data = o.data) (hl : h.FunFrames base l) : h'.FunFrames base l := by
  induction l with
  | nil => trivial
  | cons env rest ih =>
    obtain ⟨hk, ⟨L, o, hf, hn, ho, hd⟩, hr⟩ := hl
    rw [List.filterMap_cons, hf] at k
    obtain ⟨o', ho', hd'⟩ := k L (.head _) o ho
    exact ⟨hk, ⟨L, o', hf, hn, ho', fun vs => hd' ▸ hd vs⟩, ih (fun b hb => k b (.tail _ hb)) hr⟩
theorem Fo.keeps {c : Cx} {h h' : Heap} (x : Fo c h) (k : ∀ b o, fr c b → h.get? b = some o → ∃ o', h'.get? b = some o' ∧ o'.data = o.data) : Fo c h' := fun outer e =>
  let ⟨h1, h2, h3, h4⟩ := x outer e
  ⟨h1, h2, funFrames_keeps (fun b hb o ho => k b o ⟨outer, e, hb⟩ ho) h3, h4⟩
theorem Fo.sub {c : Cx} {h h' : Heap} (x : Fo c h) (k : Sub h h') : Fo c h' := x.keeps fun b o _ e => ⟨o, k b o e, rfl⟩
theorem Fo.fr {c : Cx} {h : Heap} (x : Fo c h) {b : Addr} (hb : Mine.fr c b) : c.hid b ∧ ¬ own c.env b ∧ c.base.get? b = none ∧ ∃ o, h.get? b = some o ∧ ∀ vs, o.data ≠ .fields vs := by
  obtain ⟨l, e, hb⟩ := hb
  obtain ⟨_, _, h3, h4⟩ := x l e
  exact ⟨(h4 b hb).1, (h4 b hb).2, h3.mem hb⟩

/-- what a name is bound to -/
noncomputable def Bd (env : Env) (h : Heap) (x : Str) (v : Value) : Prop :=
  (env.kindOf x = some .local ∧ ∃ m, h.Ns env.locals m ∧ m x = some v) ∨
  ((env.kindOf x = some .cell ∨ env.kindOf x = some .free) ∧ ∃ a, env.cells.lookup x = some a ∧ h.IsCell a (some v))
theorem Bd.mono {env : Env} {h h' : Heap} {x : Str} {v : Value} (b : Bd env h x v) (hs : Sub h h') : Bd env h' x v := by
  rcases b with ⟨k, m, hn, e⟩ | ⟨k, a, e, hc⟩
  · exact .inl ⟨k, m, hn.keeps hs, e⟩
  · exact .inr ⟨k, a, e, hc.keeps hs⟩

/-- built-in names that the text uses and does not bind -/
noncomputable def frees : List Str := ["type", "issubclass", "isinstance", "str", "bytes", "len", "tuple", "map", "min", "max", "enumerate", "range", "sorted", "list", "sum", "abs", "all", "ValueError", "IndexError", "TypeError", "AttributeError", "BytesWarning"]
/-- the table that filemode reads -/
noncomputable def fmRows : List (List (Int × Str)) := [[(40960, "l"), (49152, "s"), (32768, "-"), (24576, "b"), (16384, "d"), (8192, "c"), (4096, "p")], [(256, "r")], [(128, "w")], [(2112, "s"), (2048, "S"), (64, "x")],
  [(32, "r")], [(16, "w")], [(1032, "s"), (1024, "S"), (8, "x")], [(4, "r")], [(2, "w")], [(513, "t"), (512, "T"), (1, "x")]]
noncomputable def fmPair (p : Int × Str) : PyData := .tuple [.int p.1, .str p.2]
noncomputable def fmRow (l : List (Int × Str)) : PyData := .tuple (l.map fmPair)
noncomputable def fmTab : PyData := .tuple (fmRows.map fmRow)
/-- the ground: globals, built-ins, the text's defs -/
structure Gd (Γ : Gx) (h : Heap) : Prop where
  g : h.Ns mainGlobals Γ.mg
  b : h.Ns builtinsNs Γ.mb
  nolimit : h.NoLimit
  bs : ∀ x : Str, x ≠ "__name__" → Γ.mb x = bootBuiltins x
  fn : ∀ d ∈ recsOf PySem.Challenge.pw_pd0153_01, ∃ a o pm code doc, Γ.mg d.name = some (.ref a) ∧ h.get? a = some o ∧ o.data = .func (docDef d.name d.params d.body d.scope pm code doc) ∧ h.CodeRec code d.name
  free : ∀ x ∈ frees, Γ.mg x = none
theorem Gd.mono {Γ : Gx} {h h' : Heap} (G : Gd Γ h) (hs : Sub h h') : Gd Γ h' where
  g := G.g.keeps hs
  b := G.b.keeps hs
  nolimit := G.nolimit.keeps hs
  bs := G.bs
  fn := fun d hd => let ⟨a, o, pm, code, doc, h1, h2, h3, h4⟩ := G.fn d hd; ⟨a, o, pm, code, doc, h1, hs _ _ h2, h3, h4.keeps hs⟩
  free := G.free

/-- room on the stack for n more frames -/
structure Rm (n : Nat) (A : Around) : Prop where
  handled : A.handled = none
  depth : A.depth + n ≤ 900
  units : A.units + 4 * n ≤ 4000

noncomputable def Tab (Γ : Gx) (g : Heap) : Prop := ∃ v, Γ.mg "_filemode_table" = some v ∧ Rd g v fmTab
theorem Tab.mono {Γ : Gx} {g g' : Heap} (x : Tab Γ g) (hs : Sub g g') : Tab Γ g' := let ⟨v, h1, h2⟩ := x; ⟨v, h1, h2.mono hs⟩
structure R (Γ : Gx) (c : Cx) (st : St) (s : Shared) : Prop where
  gd : Gd Γ c.base
  keep : Sub c.base s.heap
  rm : Rm c.n c.A
  gens : s.gens = #[]
  os : s.os = c.os
  hk : c.env.scope.kind = .function
  glob : c.env.globals = mainGlobals
  bns : c.env.builtins = builtinsNs
  frame : ∃ m, s.heap.Ns c.env.locals m
  cells : ∀ x a, c.env.cells.lookup x = some a → ∃ v, s.heap.IsCell a v
  ownH : ∀ a, own c.env a → c.hid a
  ownB : ∀ a, own c.env a → c.base.get? a = none
  apart : c.env.cells.Pairwise fun x y => x.2 ≠ y.2
  apartL : ∀ x a, (x, a) ∈ c.env.cells → a ≠ c.env.locals
  low : ∀ a, c.hid a → ∃ o, s.heap.get? a = some o
  bound : ∀ x av, st.lookup x = some av → ∃ v, Bd c.env s.heap x v ∧ VR Γ (fz s.heap (Hd c st)) s.heap av v
  keys : (st.map (·.1)).Nodup
  tab : Tab Γ (fz s.heap (Hd c st))
  fo : Fo c s.heap
  mHid : ∀ x a ds, (x, AV.M a ds) ∈ st → ¬ c.hid a
  vOwn : ∀ x a ds, (x, AV.V a ds) ∈ st → ¬ own c.env a
  mBase : ∀ x a ds, (x, AV.M a ds) ∈ st → c.base.get? a = none
  mApart : ∀ x y a ds es, (x, AV.M a ds) ∈ st → (y, AV.M a es) ∈ st → x = y

/-- a step that keeps all -/
structure Kp (s s' : Shared) : Prop where
  gens : s'.gens = s.gens
  os : s'.os = s.os
  heap : Sub s.heap s'.heap
theorem Kp.refl (s : Shared) : Kp s s := ⟨rfl, rfl, .refl _⟩
theorem Kp.trans {s s' s'' : Shared} (x : Kp s s') (y : Kp s' s'') : Kp s s'' := ⟨y.gens.trans x.gens, y.os.trans x.os, x.heap.trans y.heap⟩
theorem Kp.toks (s : Shared) (t : Nat) : Kp s { s with toks := t } := ⟨rfl, rfl, .refl _⟩
theorem Kp.push (s : Shared) (o : Obj) (t : Nat) : Kp s { s with heap := s.heap.push o, toks := t } :=
  ⟨rfl, rfl, fun _ _ e => Heap.get?_push_of_some _ e⟩

theorem lookup_of_mem {α : Type} : ∀ {l : List (Str × α)} {x : Str} {a : α}, (l.map (·.1)).Nodup → (x, a) ∈ l → l.lookup x = some a
  | [], _, _, _, h => by cases h
  | (y, b) :: r, x, a, hn, h => by
    simp only [List.map_cons, List.nodup_cons] at hn
    rcases List.mem_cons.mp h with e | h'
    · cases e; simp
    · have : (x == y) = false := by
        rw [beq_eq_false_iff_ne]
        rintro rfl
        exact hn.1 (List.mem_map_of_mem (f := (·.1)) h')
      rw [List.lookup_cons, this]
      exact lookup_of_mem hn.2 h'

section
variable {Γ : Gx} {c : Cx} {st : St} {s s' : Shared}

theorem R.kp (r : R Γ c st s) (k : Kp s s') : R Γ c st s' where
  gd := r.gd
  keep := r.keep.trans k.heap
  rm := r.rm
  gens := k.gens.trans r.gens
  os := k.os.trans r.os
  hk := r.hk
  glob := r.glob
  bns := r.bns
  frame := let ⟨m, h⟩ := r.frame; ⟨m, h.keeps k.heap⟩
  cells := fun x a e => let ⟨v, h⟩ := r.cells x a e; ⟨v, h.keeps k.heap⟩
  ownH := r.ownH
  ownB := r.ownB
  apart := r.apart
  apartL := r.apartL
  low := fun a h => let ⟨o, e⟩ := r.low a h; ⟨o, k.heap _ _ e⟩
  bound := fun x av e => let ⟨v, h1, h2⟩ := r.bound x av e; ⟨v, h1.mono k.heap, h2.mono (fz_keep k.heap) k.heap⟩
  tab := r.tab.mono (fz_keep k.heap)
  fo := r.fo.sub k.heap
  keys := r.keys
  mHid := r.mHid
  vOwn := r.vOwn
  mBase := r.mBase
  mApart := r.mApart

theorem R.mOwn (r : R Γ c st s) (x : Str) (a : Addr) (ds : List PyData) (h : (x, AV.M a ds) ∈ st) : ¬ own c.env a := fun ho => r.mHid x a ds h (r.ownH a ho)
theorem R.gdH (r : R Γ c st s) : Gd Γ s.heap := r.gd.mono r.keep
theorem R.mlist (r : R Γ c st s) {x : Str} {a : Addr} {ds : List PyData} (h : (x, AV.M a ds) ∈ st) : ∃ vs n, s.heap.get? a = some (plainL vs n) ∧ RdL (fz s.heap (Hd c st)) vs.toList ds := by
  obtain ⟨v, _, h2⟩ := r.bound x _ (lookup_of_mem r.keys h)
  exact h2.2
theorem R.low' (r : R Γ c st s) (a : Addr) (h : Hd c st a) : a < s.heap.objs.size := by
  rcases h with h | ⟨x, ds, h⟩
  · obtain ⟨o, e⟩ := r.low a h
    exact Heap.lt_size e
  · obtain ⟨vs, n, h1, _⟩ := r.mlist h
    exact Heap.lt_size h1
theorem R.low2 (r : R Γ c st s) (a : Addr) (h : Hd c st a) : ∃ o, s.heap.get? a = some o := by
  rcases h with h | ⟨x, ds, h⟩
  · exact r.low a h
  · obtain ⟨vs, n, h1, _⟩ := r.mlist h
    exact ⟨_, h1⟩

/-- what an expression leaves behind -/
inductive WEp (Γ : Gx) (c : Cx) (st : St) (Q : AV → Prop) (s : Shared) (v : Value) (s' : Shared) : Prop
  | mk (k : Kp s s') (av : AV) (hv : VR Γ (fz s'.heap (Hd c st)) s'.heap av v) (q : Q av)
/-- what a test leaves behind -/
inductive WBp (Q : Bool → Prop) (s : Shared) (b : Bool) (s' : Shared) : Prop
  | mk (k : Kp s s') (q : Q b)
/-- an expression's judgement: it keeps all, and its value is told by Q -/
noncomputable def WE (Γ : Gx) (c : Cx) (st : St) (t : Sem Value) (Q : AV → Prop) : Prop :=
  ∀ s, R Γ c st s → wpAny (mo Γ) c.A t (WEp Γ c st Q s) (fun _ _ => False) s
/-- a test's -/
noncomputable def WB (Γ : Gx) (c : Cx) (st : St) (t : Sem Bool) (Q : Bool → Prop) : Prop :=
  ∀ s, R Γ c st s → wpAny (mo Γ) c.A t (WBp Q s) (fun _ _ => False) s
/-- several arguments' -/
inductive VRL (Γ : Gx) (g h : Heap) : List AV → List Value → Prop
  | nil : VRL Γ g h [] []
  | cons {a : AV} {v : Value} {as : List AV} {vs : List Value} : VR Γ g h a v → VRL Γ g h as vs → VRL Γ g h (a :: as) (v :: vs)
theorem VRL.mono {g h g' h' : Heap} (hg : Sub g g') (hh : Sub h h') : ∀ {as : List AV} {vs : List Value}, VRL Γ g h as vs → VRL Γ g' h' as vs
  | _, _, .nil => .nil
  | _, _, .cons x t => .cons (x.mono hg hh) (VRL.mono hg hh t)
/-- what arguments leave behind -/
inductive WAp (Γ : Gx) (c : Cx) (st : St) (Q : List AV → Prop) (s : Shared) (vs : List Value) (s' : Shared) : Prop
  | mk (k : Kp s s') (avs : List AV) (hv : VRL Γ (fz s'.heap (Hd c st)) s'.heap avs vs) (q : Q avs)
noncomputable def WA (Γ : Gx) (c : Cx) (st : St) (t : Sem (List Value)) (Q : List AV → Prop) : Prop :=
  ∀ s, R Γ c st s → wpAny (mo Γ) c.A t (WAp Γ c st Q s) (fun _ _ => False) s

theorem WEp.pre {Q : AV → Prop} {s0 : Shared} {v : Value} (k : Kp s0 s) (x : WEp Γ c st Q s v s') : WEp Γ c st Q s0 v s' := by cases x with | mk k' av hv q => exact ⟨k.trans k', av, hv, q⟩
theorem WBp.pre {Q : Bool → Prop} {s0 : Shared} {b : Bool} (k : Kp s0 s) (x : WBp Q s b s') : WBp Q s0 b s' := by cases x with | mk k' q => exact ⟨k.trans k', q⟩
theorem WAp.pre {Q : List AV → Prop} {s0 : Shared} {v : List Value} (k : Kp s0 s) (x : WAp Γ c st Q s v s') : WAp Γ c st Q s0 v s' := by cases x with | mk k' av hv q => exact ⟨k.trans k', av, hv, q⟩
theorem WE.mono {t : Sem Value} {Q Q' : AV → Prop} (h : WE Γ c st t Q) (hq : ∀ a, Q a → Q' a) : WE Γ c st t Q' :=
  fun s r => wpAny_mono (h s r) (fun _ _ ⟨k, av, h1, h2⟩ => ⟨k, av, h1, hq _ h2⟩) fun _ _ x => x
theorem WB.mono {t : Sem Bool} {Q Q' : Bool → Prop} (h : WB Γ c st t Q) (hq : ∀ a, Q a → Q' a) : WB Γ c st t Q' :=
  fun s r => wpAny_mono (h s r) (fun _ _ ⟨k, h2⟩ => ⟨k, hq _ h2⟩) fun _ _ x => x
end

end Mine
end
section
open PySem PySem.Calls PyProof.Rows
namespace Mine
section
variable {Γ : Gx} {c : Cx} {st : St} {s : Shared}

/-- new objects -/
theorem Rd.new_list {h : Heap} {X : Addr → Prop} (hX : ∀ a, X a → a < h.objs.size) {vs : List Value} {ds : List PyData} {n : Nat} (r : RdL (fz h X) vs ds) :
    Rd (fz (h.push (plainL vs.toArray n)) X) (.ref h.objs.size) (.list ds) := by
  refine .list (vs := vs.toArray) (n := n) (fz_some.mpr ⟨fun hx => Nat.lt_irrefl _ (hX _ hx), Heap.get?_push_size _ rfl⟩) ?_
  exact RdL.mono (fz_keep fun _ _ e => Heap.get?_push_of_some _ e) r
theorem Rd.new_tuple {h : Heap} {X : Addr → Prop} (hX : ∀ a, X a → a < h.objs.size) {vs : List Value} {ds : List PyData} {n : Nat} (r : RdL (fz h X) vs ds) :
    Rd (fz (h.push (plainT vs.toArray n)) X) (.ref h.objs.size) (.tuple ds) := by
  refine .tuple (vs := vs.toArray) (n := n) (fz_some.mpr ⟨fun hx => Nat.lt_irrefl _ (hX _ hx), Heap.get?_push_size _ rfl⟩) ?_
  exact RdL.mono (fz_keep fun _ _ e => Heap.get?_push_of_some _ e) r
theorem Kp.new (s : Shared) (o : Obj) : Kp s { s with heap := s.heap.push o } := ⟨rfl, rfl, fun _ _ e => Heap.get?_push_of_some _ e⟩

/-- the items of a list, own or frozen -/
noncomputable def items : AV → Option (List PyData)
  | .D (.list ds) => some ds
  | .M _ ds => some ds
  | .V _ ds => some ds
  | _ => none
theorem VR.items {X : Addr → Prop} {h : Heap} {av : AV} {v : Value} {ds : List PyData} (x : VR Γ (fz h X) h av v) (e : items av = some ds) :
    ∃ a vs n, v = .ref a ∧ h.get? a = some (plainL vs n) ∧ RdL (fz h X) vs.toList ds := by
  cases av with
  | D d =>
    cases d <;> simp [Mine.items] at e
    subst e
    obtain ⟨a, vs, n, h1, h2, h3⟩ := Rd.list_inv x
    exact ⟨a, vs, n, h1, fz_sub _ _ _ _ h2, h3⟩
  | K kvs => simp [Mine.items] at e
  | M a es =>
    simp [Mine.items] at e
    subst e
    obtain ⟨h1, vs, n, h2, h3⟩ := x
    exact ⟨a, vs, n, h1, h2, h3⟩
  | T n => simp [Mine.items] at e
  | TT n => simp [Mine.items] at e
  | Rg a b c => simp [Mine.items] at e
  | V a es =>
    simp [Mine.items] at e
    subst e
    obtain ⟨h1, vs, n, h2, h3⟩ := x
    exact ⟨a, vs, n, h1, h2, h3⟩

/-! constants, names -/
theorem WE_int {i : Int} {k pos} {Q : AV → Prop} (h : Q (.D (.int i))) : WE Γ c st (eval (.Constant (.int i) k pos) c.env) Q :=
  fun s _ => wpAny_Constant_int ⟨Kp.toks s _, .D (.int i), Rd.int i _, h⟩
theorem WE_str {x : Str} {k pos} {Q : AV → Prop} (h : Q (.D (.str x))) : WE Γ c st (eval (.Constant (.str x) k pos) c.env) Q :=
  fun s _ => wpAny_mkText (x := x) ⟨Kp.toks s _, .D (.str x), Rd.str x _, h⟩
theorem WE_bool {b : Bool} {k pos} {Q : AV → Prop} (h : Q (.D (.bool b))) : WE Γ c st (eval (.Constant (.bool b) k pos) c.env) Q :=
  fun s _ => Constant_bool ⟨Kp.refl s, .D (.bool b), Rd.bool b, h⟩
theorem WE_none {k pos} {Q : AV → Prop} (h : Q (.D .none)) : WE Γ c st (eval (.Constant .none k pos) c.env) Q :=
  fun s _ => Constant_none ⟨Kp.refl s, .D .none, Rd.none, h⟩
theorem loadName_Bd {A : Around} {E : Value → Shared → Prop} {env : Env} {x : Str} {v : Value} {Q : Value → Shared → Prop} (hk : env.scope.kind = .function) (b : Bd env s.heap x v) (h : Q v s)
    (hn : (x == ("__classdict__" : Str)) = false) : wpAny (mo Γ) A (loadName env x) Q E s := by
  rcases b with ⟨k, m, hm, e⟩ | ⟨k | k, a, e, hc⟩
  · exact wpAny_loadName_local hk k hm e h
  · exact wpAny_loadName_cell hk k e hc h
  · exact wpAny_loadName_free hk k e hc h hn
theorem WE_name {x : Str} {pos} {av : AV} {Q : AV → Prop} (e : st.lookup x = some av) (h : Q av) (hd : (x == ("__debug__" : Str)) = false := by decide) (hn : (x == ("__classdict__" : Str)) = false := by decide) :
    WE Γ c st (eval (.Name x pos) c.env) Q := fun s r => by
  obtain ⟨v, hb, hv⟩ := r.bound x av e
  exact wpAny_Name (loadName_Bd r.hk hb ⟨Kp.refl s, av, hv, h⟩ hn) hd

/-! two operands -/
inductive Bin : Operator → AV → AV → AV → Prop
  | addI (i j : Int) : Bin .Add (.D (.int i)) (.D (.int j)) (.D (.int (i + j)))
  | subI (i j : Int) : Bin .Sub (.D (.int i)) (.D (.int j)) (.D (.int (i - j)))
  | mulI (i j : Int) (h : IntMulOk i j) : Bin .Mult (.D (.int i)) (.D (.int j)) (.D (.int (i * j)))
  | divI (i j : Int) (h : j ≠ 0) (hj : j.natAbs < 1073741824) : Bin .FloorDiv (.D (.int i)) (.D (.int j)) (.D (.int (i.fdiv j)))
  | modI (i j : Int) (h : j ≠ 0) : Bin .Mod (.D (.int i)) (.D (.int j)) (.D (.int (i.fmod j)))
  | powI (i j : Int) (h : 0 ≤ j) (hs : (Builtin.Int.intBits i : Int) * j ≤ 2 ^ 27) : Bin .Pow (.D (.int i)) (.D (.int j)) (.D (.int (i ^ j.toNat)))
  | xorI (i j : Int) : Bin .BitXor (.D (.int i)) (.D (.int j)) (.D (.int (Builtin.bitXor i j)))
  | andI (i j : Int) : Bin .BitAnd (.D (.int i)) (.D (.int j)) (.D (.int (Builtin.bitAnd i j)))
  | addS (x y : Str) (h : x.length + y.length ≤ sizeLine) : Bin .Add (.D (.str x)) (.D (.str y)) (.D (.str (x ++ y)))
  | mulS (x : Str) (n : Int) (h : MulOk x n) : Bin .Mult (.D (.str x)) (.D (.int n)) (.D (.str (Txt.mul x n)))
  | addL (a b : AV) (xs ys : List PyData) (ha : items a = some xs) (hb : items b = some ys) (h : xs.length + ys.length ≤ sizeLine) : Bin .Add a b (.D (.list (xs ++ ys)))

theorem bin_sound {op : Operator} {a b z : AV} {u v : Value} (hz : Bin op a b z) (r : R Γ c st s) (ha : VR Γ (fz s.heap (Hd c st)) s.heap a u) (hb : VR Γ (fz s.heap (Hd c st)) s.heap b v) :
    wpAny (mo Γ) c.A (binaryOp op u v) (fun x s' => Kp s s' ∧ VR Γ (fz s'.heap (Hd c st)) s'.heap z x) (fun _ _ => False) s := by
  cases hz with
  | addI i j => obtain ⟨t, rfl⟩ := Rd.int_inv ha; obtain ⟨t', rfl⟩ := Rd.int_inv hb; exact PyProof.Rows.add_int ⟨Kp.toks s _, Rd.int _ _⟩
  | subI i j => obtain ⟨t, rfl⟩ := Rd.int_inv ha; obtain ⟨t', rfl⟩ := Rd.int_inv hb; exact PyProof.Rows.sub_int ⟨Kp.toks s _, Rd.int _ _⟩
  | mulI i j h => obtain ⟨t, rfl⟩ := Rd.int_inv ha; obtain ⟨t', rfl⟩ := Rd.int_inv hb; exact PyProof.Rows.mul_int ⟨Kp.toks s _, Rd.int _ _⟩ h
  | divI i j h hj => obtain ⟨t, rfl⟩ := Rd.int_inv ha; obtain ⟨t', rfl⟩ := Rd.int_inv hb; exact PyProof.Rows.floordiv_int h ⟨Kp.toks s _, Rd.int _ _⟩ (.inl (PyProof.noPylong_small hj))
  | modI i j h => obtain ⟨t, rfl⟩ := Rd.int_inv ha; obtain ⟨t', rfl⟩ := Rd.int_inv hb; exact PyProof.Rows.mod_int' h ⟨Kp.toks s _, Rd.int _ _⟩
  | powI i j h hs => obtain ⟨t, rfl⟩ := Rd.int_inv ha; obtain ⟨t', rfl⟩ := Rd.int_inv hb; exact PyProof.Rows.pow_int h hs ⟨Kp.toks s _, Rd.int _ _⟩
  | xorI i j => obtain ⟨t, rfl⟩ := Rd.int_inv ha; obtain ⟨t', rfl⟩ := Rd.int_inv hb; exact PyProof.Rows.xor_int ⟨Kp.toks s _, Rd.int _ _⟩
  | andI i j => obtain ⟨t, rfl⟩ := Rd.int_inv ha; obtain ⟨t', rfl⟩ := Rd.int_inv hb; exact PyProof.Rows.and_int ⟨Kp.toks s _, Rd.int _ _⟩
  | addS x y h => obtain ⟨t, rfl⟩ := Rd.str_inv ha; obtain ⟨t', rfl⟩ := Rd.str_inv hb; exact PyProof.Rows.add_str (fun _ _ => ⟨Kp.toks s _, Rd.str _ _⟩) h
  | mulS x n h => obtain ⟨t, rfl⟩ := Rd.str_inv ha; obtain ⟨t', rfl⟩ := Rd.int_inv hb; exact SB.mul h (fun _ _ => ⟨Kp.toks s _, Rd.str _ _⟩)
  | addL _ _ xs ys ea eb h =>
    obtain ⟨l, vs, n, rfl, h1, h2⟩ := ha.items ea
    obtain ⟨l', vs', n', rfl, h1', h2'⟩ := hb.items eb
    refine P.add_list h1 h1' ⟨Kp.new s _, ?_⟩ (by have := h2.length; have := h2'.length; simp only [Array.length_toList] at *; omega)
    have e : vs ++ vs' = (vs.toList ++ vs'.toList).toArray := by simp
    rw [e]
    exact Rd.new_list r.low' (h2.append h2')

/-- something holds of which the rest follows -/
inductive Ex2 {α : Type} (P Q : α → Prop) : Prop
  | mk (z : α) (h : P z) (q : Q z) : Ex2 P Q
inductive ExB (P : Bool → Prop) (Q : AV → Prop) : Prop
  | mk (z : Bool) (h : P z) (q : Q (.D (.bool z))) : ExB P Q
/-- posts by name -/
noncomputable abbrev K1 {α : Type} (P : AV → α → Prop) (Q : α → Prop) (a : AV) : Prop := Ex2 (P a) Q
noncomputable abbrev K1l {α : Type} (P : List AV → α → Prop) (Q : α → Prop) (a : AV) : Prop := Ex2 (P [a]) Q
noncomputable abbrev K2 {α : Type} (Γ : Gx) (c : Cx) (st : St) (r : Expr) (P : AV → AV → α → Prop) (Q : α → Prop) (a : AV) : Prop := WE Γ c st (eval r c.env) (K1 (P a) Q)
noncomputable abbrev K2l {α : Type} (Γ : Gx) (c : Cx) (st : St) (r : Expr) (P : List AV → α → Prop) (Q : α → Prop) (a : AV) : Prop := WE Γ c st (eval r c.env) fun b => Ex2 (P [a, b]) Q
noncomputable abbrev KB (P : AV → Bool → Prop) (Q : AV → Prop) (a : AV) : Prop := ExB (P a) Q
noncomputable abbrev K2B (Γ : Gx) (c : Cx) (st : St) (r : Expr) (P : AV → AV → Bool → Prop) (Q : AV → Prop) (a : AV) : Prop := WE Γ c st (eval r c.env) (KB (P a) Q)
noncomputable abbrev Kn {α : Type} (P : List AV → α → Prop) (Q : α → Prop) (as : List AV) : Prop := Ex2 (P as) Q
noncomputable abbrev Kc (Q : List AV → Prop) (a : AV) (as : List AV) : Prop := Q (a :: as)
noncomputable abbrev KA (Γ : Gx) (c : Cx) (st : St) (rest : List Expr) (pos : Pos) (Q : List AV → Prop) (a : AV) : Prop := WA Γ c st (spliced (backTo pos (starEach rest c.env))) (Kc Q a)
theorem WE_BinOp {l r : Expr} {op : Operator} {pos} {Q : AV → Prop} (h : WE Γ c st (eval l c.env) (K2 Γ c st r (Bin op) Q)) :
    WE Γ c st (eval (.BinOp l op r pos) c.env) Q := fun s R =>
  wpAny_BinOp (wpAny_mono (h s R) (fun _ s1 ⟨k1, _, va, ha⟩ => wpAny_mono (ha s1 (R.kp k1)) (fun _ _ ⟨k2, _, vb, z, hz, hq⟩ =>
    wpAny_mono (bin_sound hz ((R.kp k1).kp k2) (va.mono (fz_keep k2.heap) k2.heap) vb) (fun _ _ ⟨k3, vz⟩ => ⟨k1.trans (k2.trans k3), z, vz, hq⟩) fun _ _ x => x) fun _ _ x => x) fun _ _ x => x)

/-! truth -/
inductive Tru : AV → Bool → Prop
  | none : Tru (.D .none) false
  | bool (b : Bool) : Tru (.D (.bool b)) b
  | int (i : Int) : Tru (.D (.int i)) (i != 0)
  | str (x : Str) (h : x.length ≤ sizeLine) : Tru (.D (.str x)) ((x.length : Int) != 0)
  | list (a : AV) (ds : List PyData) (e : items a = some ds) (h : ds.length ≤ sizeLine) : Tru a (!ds.isEmpty)

theorem tru_sound {a : AV} {b : Bool} {v : Value} (hz : Tru a b) (r : R Γ c st s) (ha : VR Γ (fz s.heap (Hd c st)) s.heap a v) :
    wpAny (mo Γ) c.A (truthy v) (fun x s' => Kp s s' ∧ x = b) (fun _ _ => False) s := by
  cases hz with
  | none => rw [Rd.none_inv ha]; exact truthy_none ⟨Kp.refl s, rfl⟩
  | bool b => rw [Rd.bool_inv ha]; exact wpAny_truthy_bool ⟨Kp.refl s, rfl⟩
  | int i => obtain ⟨t, rfl⟩ := Rd.int_inv ha; exact PyProof.Rows.truthy_int ⟨Kp.refl s, rfl⟩
  | str x h => obtain ⟨t, rfl⟩ := Rd.str_inv ha; exact P.truthy_str (by have : sizeLine = 2 ^ 24 := rfl; omega) ⟨Kp.toks s _, rfl⟩
  | list _ ds e h =>
    obtain ⟨l, vs, n, rfl, h1, h2⟩ := ha.items e
    have hl := h2.length
    rw [Array.length_toList] at hl
    refine wpAny_truthy_list (plainL_isList h1) (by have : sizeLine = 2 ^ 24 := rfl; omega) ⟨Kp.toks s _, ?_⟩
    cases ds with
    | nil => have : vs = #[] := Array.eq_empty_of_size_eq_zero hl; subst this; rfl
    | cons d ds =>
      have : vs.isEmpty = false := by
        simp only [List.length_cons] at hl
        simp [Array.isEmpty, hl]
      rw [this]; rfl
end
end Mine
end
section
open PySem PySem.Calls PyProof.Rows
namespace Mine
section
variable {Γ : Gx} {c : Cx} {st : St} {s : Shared}

/-- data, own lists read as lists -/
noncomputable def dat : AV → Option PyData
  | .D d => some d
  | .M _ ds => some (.list ds)
  | _ => none
theorem VR.dat {X : Addr → Prop} {h : Heap} {av : AV} {v : Value} {d : PyData} (x : VR Γ (fz h X) h av v) (e : dat av = some d) : Rd h v d := by
  cases av with
  | D d' => simp [Mine.dat] at e; subst e; exact Rd.mono (fz_sub _ _) x
  | K kvs => simp [Mine.dat] at e
  | M a ds =>
    simp [Mine.dat] at e; subst e
    obtain ⟨rfl, vs, n, h1, h2⟩ := x
    exact .list h1 (RdL.mono (fz_sub _ _) h2)
  | T n => simp [Mine.dat] at e
  | TT n => simp [Mine.dat] at e
  | Rg a b c => simp [Mine.dat] at e
  | V a ds => simp [Mine.dat] at e
theorem strsAre_of {g : Heap} : ∀ {vs : List Value} {ys : List Str}, RdL g vs (ys.map .str) → StrsAre vs ys
  | vs, [], x => by rw [RdL.nil_inv x]; exact .nil
  | vs, y :: ys, x => by
    obtain ⟨v, vs', rfl, h1, h2⟩ := RdL.cons_inv' x
    obtain ⟨t, rfl⟩ := h1.str_inv
    exact .cons _ _ (strsAre_of h2)
theorem intsAre_of {g : Heap} : ∀ {vs : List Value} {ys : List Int}, RdL g vs (ys.map .int) → IntsAre vs ys
  | vs, [], x => by rw [RdL.nil_inv x]; exact .nil
  | vs, y :: ys, x => by
    obtain ⟨v, vs', rfl, h1, h2⟩ := RdL.cons_inv' x
    obtain ⟨t, rfl⟩ := h1.int_inv
    exact .cons _ _ (intsAre_of h2)

/-! comparisons -/
inductive Cmp : CmpOp → AV → AV → Bool → Prop
  | eqI (i j : Int) : Cmp .Eq (.D (.int i)) (.D (.int j)) (i == j)
  | neI (i j : Int) : Cmp .NotEq (.D (.int i)) (.D (.int j)) (i != j)
  | ltI (i j : Int) : Cmp .Lt (.D (.int i)) (.D (.int j)) (decide (i < j))
  | gtI (i j : Int) : Cmp .Gt (.D (.int i)) (.D (.int j)) (decide (j < i))
  | eqS (x y : Str) : Cmp .Eq (.D (.str x)) (.D (.str y)) (x == y)
  | neS (x y : Str) : Cmp .NotEq (.D (.str x)) (.D (.str y)) (x != y)
  | ltS (x y : Str) : Cmp .Lt (.D (.str x)) (.D (.str y)) (decide (x.cps.toList < y.cps.toList))
  | gtS (x y : Str) : Cmp .Gt (.D (.str x)) (.D (.str y)) (decide (y.cps.toList < x.cps.toList))
  | inS (x y : Str) : Cmp .In (.D (.str y)) (.D (.str x)) (Txt.contains x y)
  | inL (a : AV) (k : Str) (ys : List Str) (e : items a = some (ys.map .str)) : Cmp .In (.D (.str k)) a (ys.any (· == k))
  | notInL (a : AV) (k : Str) (ys : List Str) (e : items a = some (ys.map .str)) : Cmp .NotIn (.D (.str k)) a (!(ys.any (· == k)))
  | eqD (a b : AV) (d e : PyData) (ha : dat a = some d) (hb : dat b = some e) (h1 : SeqAt.shaped d = true) (h2 : SeqAt.shaped e = true) : Cmp .Eq a b (PyData.eqv d e)
  | neD (a b : AV) (d e : PyData) (ha : dat a = some d) (hb : dat b = some e) (h1 : SeqAt.shaped d = true) (h2 : SeqAt.shaped e = true) : Cmp .NotEq a b (!PyData.eqv d e)

theorem cmp_sound {op : CmpOp} {a b : AV} {z : Bool} {u v : Value} (hz : Cmp op a b z) (r : R Γ c st s) (ha : VR Γ (fz s.heap (Hd c st)) s.heap a u) (hb : VR Γ (fz s.heap (Hd c st)) s.heap b v) :
    wpAny (mo Γ) c.A (compareOp op u v) (fun x s' => Kp s s' ∧ x = .bool z) (fun _ _ => False) s := by
  have hu : c.A.units + 64 < cLine := by have := r.rm.units; have : cLine = 9900 := rfl; omega
  cases hz with
  | eqI i j => obtain ⟨t, rfl⟩ := Rd.int_inv ha; obtain ⟨t', rfl⟩ := Rd.int_inv hb; exact PyProof.Rows.eq_int ⟨Kp.refl s, rfl⟩
  | neI i j => obtain ⟨t, rfl⟩ := Rd.int_inv ha; obtain ⟨t', rfl⟩ := Rd.int_inv hb; exact PyProof.Rows.ne_int ⟨Kp.refl s, rfl⟩
  | ltI i j => obtain ⟨t, rfl⟩ := Rd.int_inv ha; obtain ⟨t', rfl⟩ := Rd.int_inv hb; exact PyProof.Rows.lt_int ⟨Kp.refl s, rfl⟩
  | gtI i j => obtain ⟨t, rfl⟩ := Rd.int_inv ha; obtain ⟨t', rfl⟩ := Rd.int_inv hb; exact PyProof.Rows.gt_int ⟨Kp.refl s, rfl⟩
  | eqS i j => obtain ⟨t, rfl⟩ := Rd.str_inv ha; obtain ⟨t', rfl⟩ := Rd.str_inv hb; exact PyProof.Rows.eq_str ⟨Kp.refl s, rfl⟩
  | neS i j => obtain ⟨t, rfl⟩ := Rd.str_inv ha; obtain ⟨t', rfl⟩ := Rd.str_inv hb; exact PyProof.Rows.ne_str ⟨Kp.refl s, rfl⟩
  | ltS i j => obtain ⟨t, rfl⟩ := Rd.str_inv ha; obtain ⟨t', rfl⟩ := Rd.str_inv hb; exact PyProof.Rows.lt_str ⟨Kp.refl s, rfl⟩
  | gtS i j => obtain ⟨t, rfl⟩ := Rd.str_inv ha; obtain ⟨t', rfl⟩ := Rd.str_inv hb; exact P.gt_str ⟨Kp.refl s, rfl⟩
  | inS x y => obtain ⟨t, rfl⟩ := Rd.str_inv ha; obtain ⟨t', rfl⟩ := Rd.str_inv hb; exact SB.contains ⟨Kp.refl s, rfl⟩
  | inL _ k ys e =>
    obtain ⟨t, rfl⟩ := Rd.str_inv ha
    obtain ⟨l, vs, n, rfl, h1, h2⟩ := hb.items e
    exact in_list_strs (vs := vs.toList) (plainL_isList h1) (strsAre_of h2) ⟨Kp.refl s, rfl⟩
  | notInL _ k ys e =>
    obtain ⟨t, rfl⟩ := Rd.str_inv ha
    obtain ⟨l, vs, n, rfl, h1, h2⟩ := hb.items e
    exact notin_list_strs (vs := vs.toList) (plainL_isList h1) (strsAre_of h2) ⟨Kp.refl s, rfl⟩
  | eqD _ _ d e ea eb h1 h2 =>
    obtain ⟨as, ra⟩ := (ha.dat ea).reads
    obtain ⟨bs, rb⟩ := (hb.dat eb).reads
    exact SeqAt.compareEq_shaped ra rb h1 h2 hu ⟨Kp.refl s, rfl⟩
  | neD _ _ d e ea eb h1 h2 =>
    obtain ⟨as, ra⟩ := (ha.dat ea).reads
    obtain ⟨bs, rb⟩ := (hb.dat eb).reads
    exact SeqAt.compareNe_shaped ra rb h1 h2 hu ⟨Kp.refl s, rfl⟩

theorem WE_Compare {l r : Expr} {op : CmpOp} {pos} {Q : AV → Prop} (h : WE Γ c st (eval l c.env) (K2B Γ c st r (Cmp op) Q))
    (hm : behindInMarks op r = false := by with_unfolding_all rfl) : WE Γ c st (eval (.Compare l [op] [r] pos) c.env) Q := fun s R =>
  wpAny_Compare1 (wpAny_mono (h s R) (fun _ s1 ⟨k1, _, va, ha⟩ => wpAny_mono (ha s1 (R.kp k1)) (fun _ _ ⟨k2, _, vb, z, hz, hq⟩ =>
    wpAny_mono (cmp_sound hz ((R.kp k1).kp k2) (va.mono (fz_keep k2.heap) k2.heap) vb) (fun _ _ ⟨k3, vz⟩ => ⟨k1.trans (k2.trans k3), .D (.bool z), vz ▸ Rd.bool z, hq⟩) fun _ _ x => x) fun _ _ x => x) fun _ _ x => x) hm
theorem WB_Compare {l r : Expr} {op : CmpOp} {pos whole} {Q : Bool → Prop} (h : WE Γ c st (eval l c.env) (K2 Γ c st r (Cmp op) Q))
    (hm : behindInMarks op r = false := by with_unfolding_all rfl) : WB Γ c st (isTrue (.Compare l [op] [r] pos) c.env whole) Q := fun s R =>
  wpAny_isTrue_Compare1 (wpAny_mono (h s R) (fun _ s1 ⟨k1, _, va, ha⟩ => wpAny_mono (ha s1 (R.kp k1)) (fun _ _ ⟨k2, _, vb, z, hz, hq⟩ =>
    wpAny_mono (cmp_sound hz ((R.kp k1).kp k2) (va.mono (fz_keep k2.heap) k2.heap) vb) (fun _ _ ⟨k3, vz⟩ => vz ▸ wpAny_truthy_bool ⟨k1.trans (k2.trans k3), hq⟩) fun _ _ x => x) fun _ _ x => x) fun _ _ x => x) hm

/-! tests -/
theorem WB_plain {e : Expr} {Q : Bool → Prop} (h : WE Γ c st (eval e c.env) (K1 Tru Q))
    (he : isTrue e c.env (eval e c.env) = (do let v ← eval e c.env; standAt e.pos; holding [v] (truthy v)) := by rfl) : WB Γ c st (isTrue e c.env (eval e c.env)) Q := fun s R =>
  isTrue_plain (wpAny_mono (h s R) (fun _ _ ⟨k1, _, va, b, hb, hq⟩ => wpAny_mono (tru_sound hb (R.kp k1) va) (fun _ _ ⟨k2, e⟩ => ⟨k1.trans k2, e ▸ hq⟩) fun _ _ x => x) fun _ _ x => x) he
theorem WB_not {x : Expr} {pos whole} {Q : Bool → Prop} (h : WB Γ c st (isTrue x c.env (eval x c.env)) fun b => Q (!b)) : WB Γ c st (isTrue (.UnaryOp .Not x pos) c.env whole) Q := fun s R =>
  isTrue_not (wpAny_mono (h s R) (fun _ _ ⟨k, q⟩ => ⟨k, q⟩) fun _ _ x => x)
theorem WB_and_nil {pos whole} {Q : Bool → Prop} (h : Q true) : WB Γ c st (isTrue (.BoolOp .And [] pos) c.env whole) Q := fun s _ => isTrue_and_nil ⟨Kp.refl s, h⟩
theorem WB_or_nil {pos whole} {Q : Bool → Prop} (h : Q false) : WB Γ c st (isTrue (.BoolOp .Or [] pos) c.env whole) Q := fun s _ => isTrue_or_nil ⟨Kp.refl s, h⟩
theorem WB_and {x : Expr} {rest : List Expr} {pos whole} {Q : Bool → Prop} (h : WB Γ c st (isTrue x c.env (eval x c.env)) fun b => (b = true → WB Γ c st (isTrue (.BoolOp .And rest pos) c.env whole) Q) ∧ (b = false → Q false)) :
    WB Γ c st (isTrue (.BoolOp .And (x :: rest) pos) c.env whole) Q := fun s R =>
  isTrue_and (wpAny_mono (h s R) (fun b s1 ⟨k1, ht, hf⟩ => by
    cases b with
    | true => exact wpAny_mono (ht rfl s1 (R.kp k1)) (fun _ _ x => x.pre k1) fun _ _ x => x
    | false => exact ⟨k1, hf rfl⟩) fun _ _ x => x)
theorem WB_or {x : Expr} {rest : List Expr} {pos whole} {Q : Bool → Prop} (h : WB Γ c st (isTrue x c.env (eval x c.env)) fun b => (b = true → Q true) ∧ (b = false → WB Γ c st (isTrue (.BoolOp .Or rest pos) c.env whole) Q)) :
    WB Γ c st (isTrue (.BoolOp .Or (x :: rest) pos) c.env whole) Q := fun s R =>
  isTrue_or (wpAny_mono (h s R) (fun b s1 ⟨k1, ht, hf⟩ => by
    cases b with
    | true => exact ⟨k1, ht rfl⟩
    | false => exact wpAny_mono (hf rfl s1 (R.kp k1)) (fun _ _ x => x.pre k1) fun _ _ x => x) fun _ _ x => x)

theorem WE_IfExp {test body orelse : Expr} {pos} {Q : AV → Prop} (h : WB Γ c st (isTrue test c.env (eval test c.env)) fun b => (b = true → WE Γ c st (eval body c.env) Q) ∧ (b = false → WE Γ c st (eval orelse c.env) Q)) :
    WE Γ c st (eval (.IfExp test body orelse pos) c.env) Q := fun s R =>
  IfExp_ (wpAny_mono (h s R) (fun b s1 ⟨k1, ht, hf⟩ => by
    cases b with
    | true => exact wpAny_mono (ht rfl s1 (R.kp k1)) (fun _ _ x => x.pre k1) fun _ _ x => x
    | false => exact wpAny_mono (hf rfl s1 (R.kp k1)) (fun _ _ x => x.pre k1) fun _ _ x => x) fun _ _ x => x)
theorem WE_BoolOp_one {e : Expr} {op pos} {Q : AV → Prop} (h : WE Γ c st (eval e c.env) Q) : WE Γ c st (eval (.BoolOp op [e] pos) c.env) Q := fun s R => BoolOp_one (h s R)
theorem WE_And {e₁ e₂ : Expr} {rest : List Expr} {pos} {Q : AV → Prop} (h : WE Γ c st (eval e₁ c.env) fun a => ∃ b, Tru a b ∧ (b = true → WE Γ c st (eval (.BoolOp .And (e₂ :: rest) pos) c.env) Q) ∧ (b = false → Q a)) :
    WE Γ c st (eval (.BoolOp .And (e₁ :: e₂ :: rest) pos) c.env) Q := fun s R =>
  BoolOp_and (wpAny_mono (h s R) (fun v s1 ⟨k1, a, va, b, hb, ht, hf⟩ => wpAny_mono (tru_sound hb (R.kp k1) va) (fun x s2 ⟨k2, e⟩ => by
    subst e
    cases x with
    | true => exact wpAny_mono (ht rfl s2 (R.kp (k1.trans k2))) (fun _ _ x => x.pre ((k1.trans k2))) fun _ _ x => x
    | false => exact ⟨k1.trans k2, a, va.mono (fz_keep k2.heap) k2.heap, hf rfl⟩) fun _ _ x => x) fun _ _ x => x)
theorem WE_Or {e₁ e₂ : Expr} {rest : List Expr} {pos} {Q : AV → Prop} (h : WE Γ c st (eval e₁ c.env) fun a => ∃ b, Tru a b ∧ (b = true → Q a) ∧ (b = false → WE Γ c st (eval (.BoolOp .Or (e₂ :: rest) pos) c.env) Q)) :
    WE Γ c st (eval (.BoolOp .Or (e₁ :: e₂ :: rest) pos) c.env) Q := fun s R =>
  BoolOp_or (wpAny_mono (h s R) (fun v s1 ⟨k1, a, va, b, hb, ht, hf⟩ => wpAny_mono (tru_sound hb (R.kp k1) va) (fun x s2 ⟨k2, e⟩ => by
    subst e
    cases x with
    | true => exact ⟨k1.trans k2, a, va.mono (fz_keep k2.heap) k2.heap, ht rfl⟩
    | false => exact wpAny_mono (hf rfl s2 (R.kp (k1.trans k2))) (fun _ _ x => x.pre ((k1.trans k2))) fun _ _ x => x) fun _ _ x => x) fun _ _ x => x)
theorem WE_Neg {x : Expr} {pos} {Q : AV → Prop} (h : WE Γ c st (eval x c.env) fun a => ∃ i, a = .D (.int i) ∧ Q (.D (.int (-i)))) : WE Γ c st (eval (.UnaryOp .USub x pos) c.env) Q := fun s R =>
  UnaryOp_ (wpAny_mono (h s R) (fun v s1 ⟨k1, a, va, i, e, q⟩ => by
    subst e; obtain ⟨t, rfl⟩ := Rd.int_inv va
    exact PyProof.Rows.neg_int ⟨k1.trans (Kp.toks _ _), .D (.int (-i)), Rd.int _ _, q⟩) fun _ _ x => x)
theorem WE_Not {x : Expr} {pos} {Q : AV → Prop} (h : WE Γ c st (eval x c.env) fun a => ∃ b, Tru a b ∧ Q (.D (.bool (!b)))) : WE Γ c st (eval (.UnaryOp .Not x pos) c.env) Q := fun s R =>
  UnaryOp_ (wpAny_mono (h s R) (fun v s1 ⟨k1, a, va, b, hb, q⟩ => not_of (wpAny_mono (tru_sound hb (R.kp k1) va) (fun x s2 ⟨k2, e⟩ => ⟨k1.trans k2, .D (.bool (!b)), e ▸ Rd.bool _, q⟩) fun _ _ x => x)) fun _ _ x => x)

/-! items -/
inductive Itm : AV → AV → AV → Prop
  | list (a : AV) (ds : List PyData) (k : Int) (d : PyData) (e : items a = some ds) (h0 : 0 ≤ k) (hx : ds[k.toNat]? = some d) (hs : ds.length ≤ sizeLine) : Itm a (.D (.int k)) (.D d)
  | listN (a : AV) (ds : List PyData) (k : Int) (d : PyData) (e : items a = some ds) (h0 : k < 0) (h1 : -(ds.length : Int) ≤ k) (hx : ds[(k + ds.length).toNat]? = some d) (hs : ds.length ≤ sizeLine) : Itm a (.D (.int k)) (.D d)
  | tup (ds : List PyData) (k : Int) (d : PyData) (h0 : 0 ≤ k) (hx : ds[k.toNat]? = some d) (hs : ds.length ≤ sizeLine) : Itm (.D (.tuple ds)) (.D (.int k)) (.D d)
  | str (x : Str) (k : Int) (h1 : fitsSsize k = true) (h2 : (Txt.charAt x k).isSome = true) : Itm (.D (.str x)) (.D (.int k)) (.D (.str (Txt.item x k)))
  | dict (kvs : List (Str × PyData)) (k : Str) (d : PyData) (h : kvs.lookup k = some d) : Itm (.K kvs) (.D (.str k)) (.D d)

theorem RdK.look {g : Heap} : ∀ {kvs : List (Str × Value)} {kds : List (Str × PyData)} {k : Str} {d : PyData}, RdK g kvs kds → kds.lookup k = some d → ∃ v, valueAt kvs k = some v ∧ Rd g v d
  | _, _, k, d, .nil, h => by simp at h
  | (k', v') :: kvs, (_, d') :: kds, k, d, .cons h1 t, h => by
    rw [List.lookup_cons] at h
    by_cases hk : k = k'
    · subst hk
      simp at h
      subst h
      exact ⟨v', by simp [valueAt], h1⟩
    · have : (k == k') = false := beq_eq_false_iff_ne.mpr hk
      rw [this] at h
      obtain ⟨v, h2, h3⟩ := RdK.look t h
      refine ⟨v, ?_, h3⟩
      have hk' : ¬ k' = k := fun e => hk e.symm
      unfold valueAt at h2 ⊢
      rw [List.find?_cons]
      simp only [decide_eq_false hk']
      exact h2

theorem itm_sound {value slice : Expr} {a b z : AV} {u v : Value} (hz : Itm a b z) (r : R Γ c st s) (ha : VR Γ (fz s.heap (Hd c st)) s.heap a u) (hb : VR Γ (fz s.heap (Hd c st)) s.heap b v)
    (hs : ∀ o i, subscripted slice false o i = operate [o, i] (getItem o i)) :
    wpAny (mo Γ) c.A (subscriptTail value slice u v) (fun x s' => Kp s s' ∧ VR Γ (fz s'.heap (Hd c st)) s'.heap z x) (fun _ _ => False) s := by
  have hsl : sizeLine = 2 ^ 24 := rfl
  cases hz with
  | list _ ds k d e h0 hx hsz =>
    obtain ⟨t, rfl⟩ := Rd.int_inv hb
    obtain ⟨l, vs, n, rfl, h1, h2⟩ := ha.items e
    obtain ⟨x, hx1, hx2⟩ := h2.get _ _ hx
    have hlt := (List.getElem?_eq_some_iff.mp hx).1
    exact tail_any (plainL_isList h1).typeIs slot_list_getitem.lookup (wpAny_getItem_list (plainL_isList h1) h0 (by omega) (by simpa using hx1) ⟨Kp.refl s, hx2⟩) (hs _ _)
  | listN _ ds k d e h0 h1' hx hsz =>
    obtain ⟨t, rfl⟩ := Rd.int_inv hb
    obtain ⟨l, vs, n, rfl, h1, h2⟩ := ha.items e
    have hl := h2.length
    rw [Array.length_toList] at hl
    obtain ⟨x, hx1, hx2⟩ := h2.get _ _ hx
    exact tail_any (plainL_isList h1).typeIs slot_list_getitem.lookup (wpAny_getItem_list_neg (plainL_isList h1) h0 (by omega) (by (clear hs h0 hx e h1 hl hx1; omega)) (by rw [hl]; simpa using hx1) ⟨Kp.refl s, hx2⟩) (hs _ _)
  | tup ds k d h0 hx hsz =>
    obtain ⟨t, rfl⟩ := Rd.int_inv hb
    obtain ⟨l, vs, n, rfl, h1, h2⟩ := Rd.tuple_inv ha
    obtain ⟨x, hx1, hx2⟩ := h2.get _ _ hx
    have hlt := (List.getElem?_eq_some_iff.mp hx).1
    have hl := h2.length
    rw [Array.length_toList] at hl
    have hT := plainT_isTup (fz_sub _ _ _ _ h1)
    refine item_tupleT (l := vs.toList) (j := k.toNat) (by simpa using hT) (by (clear hs hsl hx hsz h1 hx1 hlt hl; omega)) (by (clear hs h0 hx h1 hx1 hl; omega)) ?_ (by simpa using hx1) ⟨Kp.refl s, hx2⟩ (hs _ _)
    exact seqIndex_of h0 (by rw [Array.length_toList]; (clear hs hsl h0 hx hsz h1 hx1; omega))
  | str x k h1 h2 =>
    obtain ⟨t, rfl⟩ := Rd.str_inv ha
    obtain ⟨t', rfl⟩ := Rd.int_inv hb
    exact tail_any (typeIs_str s x t) F.slot_str_getitem.lookup (SB.getItem h1 h2 ⟨Kp.toks s _, Rd.str _ _⟩) (hs _ _)
  | dict kvs k d h =>
    obtain ⟨t, rfl⟩ := Rd.str_inv hb
    obtain ⟨l, vals, rfl, h1, h2⟩ := ha
    have hm := (DictOf_mono h1 (fz_sub _ _)).mapOf
    obtain ⟨x, hx1, hx2⟩ := RdK.look h2 h
    exact tail_any hm.typeIs slot_dict_getitem.lookup (wpAny_getItem_of (strKind_is Γ.prog Γ.w k t) hm hx1 ⟨Kp.toks s _, hx2⟩) (hs _ _)

theorem WE_Subscript {value slice : Expr} {pos} {Q : AV → Prop} (h : WE Γ c st (eval value c.env) (K2 Γ c st slice Itm Q))
    (hs : ∀ o i, subscripted slice false o i = operate [o, i] (getItem o i) := by intro _ _; rfl) : WE Γ c st (eval (.Subscript value slice pos) c.env) Q := fun s R =>
  Subscript_ (wpAny_mono (h s R) (fun _ s1 ⟨k1, _, va, ha⟩ => wpAny_mono (ha s1 (R.kp k1)) (fun _ _ ⟨k2, _, vb, z, hz, hq⟩ =>
    wpAny_mono (itm_sound hz ((R.kp k1).kp k2) (va.mono (fz_keep k2.heap) k2.heap) vb hs) (fun _ _ ⟨k3, vz⟩ => ⟨k1.trans (k2.trans k3), z, vz, hq⟩) fun _ _ x => x) fun _ _ x => x) fun _ _ x => x)
end
end Mine
end
section
open PySem PySem.Calls PyProof.Rows
namespace Mine
section
variable {Γ : Gx} {c : Cx} {st : St} {s : Shared}

/-! arguments, displays -/
theorem WA_nil {pos : Pos} {Q : List AV → Prop} (h : Q []) : WA Γ c st (spliced (backTo pos (starEach [] c.env))) Q := fun s _ => args_nil ⟨Kp.refl s, [], .nil, h⟩
theorem WA_cons {e : Expr} {rest : List Expr} {pos : Pos} {Q : List AV → Prop} (h : WE Γ c st (eval e c.env) (KA Γ c st rest pos Q))
    (he : starEach (e :: rest) c.env = (false, eval e c.env) :: starEach rest c.env := by rfl) : WA Γ c st (spliced (backTo pos (starEach (e :: rest) c.env))) Q := fun s R =>
  args_cons (wpAny_mono (h s R) (fun _ s1 ⟨k1, a, va, ha⟩ => wpAny_mono (ha s1 (R.kp k1)) (fun _ _ ⟨k2, as, vas, q⟩ => ⟨k1.trans k2, a :: as, .cons (va.mono (fz_keep k2.heap) k2.heap) vas, q⟩) fun _ _ x => x) fun _ _ x => x) he
noncomputable def allD : List AV → Option (List PyData)
  | [] => some []
  | .D d :: r => (allD r).map (d :: ·)
  | _ => none
theorem VRL.allD {g h : Heap} : ∀ {as : List AV} {vs : List Value} {ds : List PyData}, VRL Γ g h as vs → allD as = some ds → RdL g vs ds
  | _, _, _, .nil, e => by simp [Mine.allD] at e; subst e; exact .nil
  | .D d :: as, _, _, .cons x t, e => by
    simp only [Mine.allD, Option.map_eq_some_iff] at e
    obtain ⟨ds', h1, rfl⟩ := e
    exact .cons x (VRL.allD t h1)
  | .K _ :: as, _, _, .cons x t, e => by simp [Mine.allD] at e
  | .M _ _ :: as, _, _, .cons x t, e => by simp [Mine.allD] at e
  | .T _ :: as, _, _, .cons x t, e => by simp [Mine.allD] at e
  | .TT _ :: as, _, _, .cons x t, e => by simp [Mine.allD] at e
  | .Rg _ _ _ :: as, _, _, .cons x t, e => by simp [Mine.allD] at e
  | .V _ _ :: as, _, _, .cons x t, e => by simp [Mine.allD] at e
inductive AllT (Q : AV → Prop) (as : List AV) : Prop
  | mk (ds : List PyData) (e : allD as = some ds) (h : ds.length ≤ sizeLine) (q : Q (.D (.tuple ds))) : AllT Q as
inductive AllL (Q : AV → Prop) (as : List AV) : Prop
  | mk (ds : List PyData) (e : allD as = some ds) (h : ds.length ≤ sizeLine) (q : Q (.D (.list ds))) : AllL Q as
theorem WE_Tuple {elts : List Expr} {k : Nat} {pos : Pos} {Q : AV → Prop} (h : WA Γ c st (spliced (backTo pos (starEach elts c.env))) (AllT Q)) :
    WE Γ c st (eval (.Tuple elts k pos) c.env) Q := fun s R =>
  Tuple_ (wpAny_mono (h s R) (fun vs s1 ⟨k1, as, va, ds, e, hz, q⟩ => by
    have rd := va.allD e
    refine wpAny_newObj_type ⟨k1.trans (Kp.new s1 _), .D (.tuple ds), Rd.new_tuple (n := 0) (R.kp k1).low' rd, q⟩ ?_
    show vs.toArray.size ≤ sizeLine
    rw [List.size_toArray, rd.length]; exact hz) fun _ _ x => x)
theorem WE_List {elts : List Expr} {pos : Pos} {Q : AV → Prop} (h : WA Γ c st (spliced (backTo pos (starEach elts c.env))) (AllL Q)) :
    WE Γ c st (eval (.List elts pos) c.env) Q := fun s R =>
  List_ (wpAny_mono (h s R) (fun vs s1 ⟨k1, as, va, ds, e, hz, q⟩ => by
    have rd := va.allD e
    refine wpAny_newObj_type ⟨k1.trans (Kp.new s1 _), .D (.list ds), Rd.new_list (n := 0) (R.kp k1).low' rd, q⟩ ?_
    show vs.toArray.size ≤ sizeLine
    rw [List.size_toArray, rd.length]; exact hz) fun _ _ x => x)

/-! global names -/
theorem name_builtin {A : Around} {E : Value → Shared → Prop} {x : Str} {pos : Pos} {v : Value} {Q : Value → Shared → Prop} (r : R Γ c st s) (hx : c.env.kindOf x = some .globalImplicit)
    (hf : Γ.mg x = none) (hb : bootBuiltins x = some v) (hn : x ≠ "__name__") (hd : (x == ("__debug__" : Str)) = false) (h : Q v s) : wpAny (mo Γ) A (eval (.Name x pos) c.env) Q E s := by
  refine Name_function_global r.hk hx (loadGlobal_builtin (mg := Γ.mg) (mb := Γ.mb) ?_ hf ?_ ((r.gd.bs x hn).trans hb) h) hd
  · rw [r.glob]; exact r.gdH.g
  · rw [r.bns]; exact r.gdH.b
theorem name_global {A : Around} {E : Value → Shared → Prop} {x : Str} {pos : Pos} {v : Value} {Q : Value → Shared → Prop} (r : R Γ c st s) (hx : c.env.kindOf x = some .globalImplicit)
    (hf : Γ.mg x = some v) (hd : (x == ("__debug__" : Str)) = false) (h : Q v s) : wpAny (mo Γ) A (eval (.Name x pos) c.env) Q E s := by
  refine Name_function_global r.hk hx (loadGlobal_global (mg := Γ.mg) ?_ hf h) hd
  rw [r.glob]; exact r.gdH.g

/-- a built-in name -/
structure BI (x : Str) (v : Value) : Prop where
  mem : x ∈ frees
  boot : bootBuiltins x = some v
  ne : x ≠ "__name__"
  nd : (x == ("__debug__" : Str)) = false
theorem bi_type : BI "type" (.type "type") := ⟨.head _, PyProof.Rows.Boot.«type», by decide, by decide⟩
theorem bi_issubclass : BI "issubclass" (.builtin "issubclass") := ⟨.tail _ (.head _), PyProof.Rows.Boot.«issubclass», by decide, by decide⟩
theorem bi_isinstance : BI "isinstance" (.builtin "isinstance") := ⟨.tail _ (.tail _ (.head _)), PyProof.Rows.Boot.«isinstance», by decide, by decide⟩
theorem bi_str : BI "str" (.type "str") := ⟨.tail _ (.tail _ (.tail _ (.head _))), PyProof.Rows.Boot.«str», by decide, by decide⟩
theorem bi_bytes : BI "bytes" (.type "bytes") := ⟨.tail _ (.tail _ (.tail _ (.tail _ (.head _)))), PyProof.Rows.Boot.«bytes», by decide, by decide⟩
theorem bi_len : BI "len" (.builtin "len") := ⟨.tail _ (.tail _ (.tail _ (.tail _ (.tail _ (.head _))))), PyProof.Rows.Boot.«len», by decide, by decide⟩
theorem bi_tuple : BI "tuple" (.type "tuple") := ⟨.tail _ (.tail _ (.tail _ (.tail _ (.tail _ (.tail _ (.head _)))))), PyProof.Rows.Boot.«tuple», by decide, by decide⟩
theorem bi_map : BI "map" (.type "map") := ⟨.tail _ (.tail _ (.tail _ (.tail _ (.tail _ (.tail _ (.tail _ (.head _))))))), PyProof.Rows.Boot.«map», by decide, by decide⟩
theorem bi_min : BI "min" (.builtin "min") := ⟨.tail _ (.tail _ (.tail _ (.tail _ (.tail _ (.tail _ (.tail _ (.tail _ (.head _)))))))), PyProof.Rows.Boot.«min», by decide, by decide⟩
theorem bi_max : BI "max" (.builtin "max") := ⟨.tail _ (.tail _ (.tail _ (.tail _ (.tail _ (.tail _ (.tail _ (.tail _ (.tail _ (.head _))))))))), PyProof.Rows.Boot.«max», by decide, by decide⟩
theorem bi_enumerate : BI "enumerate" (.type "enumerate") := ⟨.tail _ (.tail _ (.tail _ (.tail _ (.tail _ (.tail _ (.tail _ (.tail _ (.tail _ (.tail _ (.head _)))))))))), PyProof.Rows.Boot.«enumerate», by decide, by decide⟩
theorem bi_range : BI "range" (.type "range") := ⟨.tail _ (.tail _ (.tail _ (.tail _ (.tail _ (.tail _ (.tail _ (.tail _ (.tail _ (.tail _ (.tail _ (.head _))))))))))), PyProof.Rows.Boot.«range», by decide, by decide⟩
theorem bi_sorted : BI "sorted" (.builtin "sorted") := ⟨.tail _ (.tail _ (.tail _ (.tail _ (.tail _ (.tail _ (.tail _ (.tail _ (.tail _ (.tail _ (.tail _ (.tail _ (.head _)))))))))))), PyProof.Rows.Boot.«sorted», by decide, by decide⟩
theorem bi_list : BI "list" (.type "list") := ⟨.tail _ (.tail _ (.tail _ (.tail _ (.tail _ (.tail _ (.tail _ (.tail _ (.tail _ (.tail _ (.tail _ (.tail _ (.tail _ (.head _))))))))))))), PyProof.Rows.Boot.«list», by decide, by decide⟩
theorem bi_sum : BI "sum" (.builtin "sum") := ⟨.tail _ (.tail _ (.tail _ (.tail _ (.tail _ (.tail _ (.tail _ (.tail _ (.tail _ (.tail _ (.tail _ (.tail _ (.tail _ (.tail _ (.head _)))))))))))))), PyProof.Rows.Boot.«sum», by decide, by decide⟩
theorem bi_abs : BI "abs" (.builtin "abs") := ⟨.tail _ (.tail _ (.tail _ (.tail _ (.tail _ (.tail _ (.tail _ (.tail _ (.tail _ (.tail _ (.tail _ (.tail _ (.tail _ (.tail _ (.tail _ (.head _))))))))))))))), PyProof.Rows.Boot.«abs», by decide, by decide⟩
theorem bi_all : BI "all" (.builtin "all") := ⟨.tail _ (.tail _ (.tail _ (.tail _ (.tail _ (.tail _ (.tail _ (.tail _ (.tail _ (.tail _ (.tail _ (.tail _ (.tail _ (.tail _ (.tail _ (.tail _ (.head _)))))))))))))))), PyProof.Rows.Boot.«all», by decide, by decide⟩
theorem bi_ValueError : BI "ValueError" (.type "ValueError") := ⟨.tail _ (.tail _ (.tail _ (.tail _ (.tail _ (.tail _ (.tail _ (.tail _ (.tail _ (.tail _ (.tail _ (.tail _ (.tail _ (.tail _ (.tail _ (.tail _ (.tail _ (.head _))))))))))))))))), PyProof.Rows.Boot.«ValueError», by decide, by decide⟩
theorem bi_IndexError : BI "IndexError" (.type "IndexError") := ⟨.tail _ (.tail _ (.tail _ (.tail _ (.tail _ (.tail _ (.tail _ (.tail _ (.tail _ (.tail _ (.tail _ (.tail _ (.tail _ (.tail _ (.tail _ (.tail _ (.tail _ (.tail _ (.head _)))))))))))))))))), PyProof.Rows.Boot.«IndexError», by decide, by decide⟩
theorem bi_TypeError : BI "TypeError" (.type "TypeError") := ⟨.tail _ (.tail _ (.tail _ (.tail _ (.tail _ (.tail _ (.tail _ (.tail _ (.tail _ (.tail _ (.tail _ (.tail _ (.tail _ (.tail _ (.tail _ (.tail _ (.tail _ (.tail _ (.tail _ (.head _))))))))))))))))))), PyProof.Rows.Boot.«TypeError», by decide, by decide⟩
theorem bi_AttributeError : BI "AttributeError" (.type "AttributeError") := ⟨.tail _ (.tail _ (.tail _ (.tail _ (.tail _ (.tail _ (.tail _ (.tail _ (.tail _ (.tail _ (.tail _ (.tail _ (.tail _ (.tail _ (.tail _ (.tail _ (.tail _ (.tail _ (.tail _ (.tail _ (.head _)))))))))))))))))))), PyProof.Rows.Boot.«AttributeError», by decide, by decide⟩
theorem bi_BytesWarning : BI "BytesWarning" (.type "BytesWarning") := ⟨.tail _ (.tail _ (.tail _ (.tail _ (.tail _ (.tail _ (.tail _ (.tail _ (.tail _ (.tail _ (.tail _ (.tail _ (.tail _ (.tail _ (.tail _ (.tail _ (.tail _ (.tail _ (.tail _ (.tail _ (.tail _ (.head _))))))))))))))))))))), PyProof.Rows.Boot.«BytesWarning», by decide, by decide⟩
/-- a built-in type as a value -/
theorem WE_type {x : Str} {pos : Pos} {n : String} {Q : AV → Prop} (hb : BI x (.type n)) (h : Q (.T n)) (hx : c.env.kindOf x = some .globalImplicit := by rfl) :
    WE Γ c st (eval (.Name x pos) c.env) Q := fun s r => name_builtin r hx (r.gd.free x hb.mem) hb.boot hb.ne hb.nd ⟨Kp.refl s, .T n, rfl, h⟩

/-! built-in functions -/
theorem WE_builtin {x : Str} {np pos : Pos} {e : Expr} {rest : List Expr} {id : String} {Q : AV → Prop} (P : List AV → AV → Prop)
    (sound : ∀ s avs vs z, R Γ c st s → VRL Γ (fz s.heap (Hd c st)) s.heap avs vs → P avs z →
      wpAny (mo Γ) c.A (call (.builtin id) vs) (fun x s' => Kp s s' ∧ VR Γ (fz s'.heap (Hd c st)) s'.heap z x) (fun _ _ => False) s)
    (h : WA Γ c st (spliced (backTo pos (starEach (e :: rest) c.env))) (Kn P Q))
    (hx : c.env.kindOf x = some .globalImplicit)
    (hb : BI x (.builtin id))
    (he : starEach (e :: rest) c.env = (false, eval e c.env) :: starEach rest c.env)
    (hplain : (backTo pos (starEach rest c.env)).any (·.1) = false)
    (hcall : eval (.Call (.Name x np) (e :: rest) [] pos) c.env = (do callWith pos (← eval (.Name x np) c.env) [] (backTo pos (starEach (e :: rest) c.env)) (backToKw pos (keywordEach [] c.env)))) :
    WE Γ c st (eval (.Call (.Name x np) (e :: rest) [] pos) c.env) Q := fun s r =>
  Call_ (name_builtin r hx (r.gd.free x hb.mem) hb.boot hb.ne hb.nd (callWith_builtin1 (wpAny_mono (h s r) (fun vs s1 ⟨k1, avs, va, z, hz, q⟩ =>
    wpAny_mono (sound s1 avs vs z (r.kp k1) va hz) (fun _ _ ⟨k2, vz⟩ => ⟨k1.trans k2, z, vz, q⟩) fun _ _ x => x) fun _ _ x => x) he hplain)) hcall
theorem WE_typecall {x : Str} {np pos : Pos} {e : Expr} {rest : List Expr} {T : String} {Q : AV → Prop} (P : List AV → AV → Prop)
    (sound : ∀ s avs vs z, R Γ c st s → VRL Γ (fz s.heap (Hd c st)) s.heap avs vs → P avs z →
      wpAny (mo Γ) c.A (call (.type T) vs) (fun x s' => Kp s s' ∧ VR Γ (fz s'.heap (Hd c st)) s'.heap z x) (fun _ _ => False) s)
    (h : WA Γ c st (spliced (backTo pos (starEach (e :: rest) c.env))) (Kn P Q))
    (hx : c.env.kindOf x = some .globalImplicit)
    (hb : BI x (.type T))
    (he : starEach (e :: rest) c.env = (false, eval e c.env) :: starEach rest c.env)
    (hplain : (backTo pos (starEach rest c.env)).any (·.1) = false)
    (hcall : eval (.Call (.Name x np) (e :: rest) [] pos) c.env = (do callWith pos (← eval (.Name x np) c.env) [] (backTo pos (starEach (e :: rest) c.env)) (backToKw pos (keywordEach [] c.env)))) :
    WE Γ c st (eval (.Call (.Name x np) (e :: rest) [] pos) c.env) Q := fun s r =>
  Call_ (name_builtin r hx (r.gd.free x hb.mem) hb.boot hb.ne hb.nd (PyProof.Rows.callWith_type1 (wpAny_mono (h s r) (fun vs s1 ⟨k1, avs, va, z, hz, q⟩ =>
    wpAny_mono (sound s1 avs vs z (r.kp k1) va hz) (fun _ _ ⟨k2, vz⟩ => ⟨k1.trans k2, z, vz, q⟩) fun _ _ x => x) fun _ _ x => x) he hplain)) hcall

/-! the text's own defs -/
noncomputable def isFn (f : Str) : Prop := ((recsOf PySem.Challenge.pw_pd0153_01).any fun d => d.name == f) = true
theorem Gd.fnAt {h : Heap} (G : Gd Γ h) {f : Str} (hf : isFn f) : ∃ a o fd, Γ.mg f = some (.ref a) ∧ h.get? a = some o ∧ o.data = .func fd := by
  obtain ⟨d, hd, e⟩ := List.any_eq_true.mp hf
  obtain ⟨a, o, pm, code, doc, h1, h2, h3, _⟩ := G.fn d hd
  rw [beq_iff_eq.mp e] at h1
  exact ⟨a, o, _, h1, h2, h3⟩

/-- what a def gives back, for all arguments that read so; the heap is kept -/
noncomputable def Con (Γ : Gx) (n : Nat) (f : Str) (args : List AV) (res : AV) : Prop :=
  ∀ (A : Around) (X : Addr → Prop) (s : Shared) (fa : Addr) (vs : List Value), Rm n A → Gd Γ s.heap → Tab Γ (fz s.heap X) → s.gens = #[] → (∀ a, X a → ∃ o, s.heap.get? a = some o) → Γ.mg f = some (.ref fa) →
    VRL Γ (fz s.heap X) s.heap args vs → wpAny (mo Γ) A (call (.ref fa) vs) (fun v s' => Kp s s' ∧ VR Γ (fz s'.heap X) s'.heap res v) (fun _ _ => False) s

theorem Rm.le {n m : Nat} {A : Around} (x : Rm m A) (h : n ≤ m) : Rm n A := ⟨x.handled, by have := x.depth; omega, by have := x.units; omega⟩
theorem WE_call {f : Str} {np pos : Pos} {e : Expr} {rest : List Expr} {n : Nat} {Q : AV → Prop} (hf : isFn f)
    (h : WA Γ c st (spliced (backTo pos (starEach (e :: rest) c.env))) (Kn (Con Γ n f) Q)) (hn : n ≤ c.n)
    (hx : c.env.kindOf f = some .globalImplicit := by rfl) (hd : (f == ("__debug__" : Str)) = false := by decide)
    (he : starEach (e :: rest) c.env = (false, eval e c.env) :: starEach rest c.env := by rfl)
    (hcall : eval (.Call (.Name f np) (e :: rest) [] pos) c.env = (do callWith pos (← eval (.Name f np) c.env) [] (backTo pos (starEach (e :: rest) c.env)) (backToKw pos (keywordEach [] c.env))) := by rfl) :
    WE Γ c st (eval (.Call (.Name f np) (e :: rest) [] pos) c.env) Q := fun s r => by
  obtain ⟨a, o, fd, h1, h2, h3⟩ := r.gdH.fnAt hf
  refine Call_ (name_global r hx h1 hd (callWith_def h3 (wpAny_mono (h s r) (fun vs s1 ⟨k1, avs, va, z, hz, q⟩ => ⟨k1.heap _ _ h2, ?_⟩) fun _ _ x => x) he)) hcall
  have r1 := r.kp k1
  exact wpAny_mono (hz c.A (Hd c st) s1 a vs (r1.rm.le hn) r1.gdH r1.tab r1.gens r1.low2 h1 va) (fun _ _ ⟨k2, vz⟩ => ⟨k1.trans k2, z, vz, q⟩) fun _ _ x => x
end
end Mine
end
section
open PySem PySem.Calls PyProof.Rows
namespace Mine

inductive Fl where
  | next | brk | cont
  | ret (a : AV)

/-- a name set -/
noncomputable def upd : St → Str → AV → St
  | [], x, a => [(x, a)]
  | (y, b) :: r, x, a => if x == y then (x, a) :: r else (y, b) :: upd r x a

theorem upd_look_self : ∀ (st : St) (x : Str) (a : AV), (upd st x a).lookup x = some a
  | [], x, a => by simp [upd]
  | (y, b) :: r, x, a => by
    unfold upd
    cases h : x == y with
    | true => simp
    | false =>
      simp only [Bool.false_eq_true, if_false, List.lookup_cons, h]
      exact upd_look_self r x a
theorem upd_look_ne : ∀ (st : St) {x y : Str} (a : AV), y ≠ x → (upd st x a).lookup y = st.lookup y
  | [], x, y, a, hn => by
    have : (y == x) = false := beq_eq_false_iff_ne.mpr hn
    simp [upd, List.lookup_cons, this]
  | (z, b) :: r, x, y, a, hn => by
    unfold upd
    cases h : x == z with
    | true =>
      have e := beq_iff_eq.mp h
      subst e
      have : (y == x) = false := beq_eq_false_iff_ne.mpr hn
      simp [List.lookup_cons, this]
    | false =>
      simp only [Bool.false_eq_true, if_false, List.lookup_cons]
      rw [upd_look_ne r a hn]
theorem upd_keys_mem : ∀ (st : St) (x : Str) (a : AV) (y : Str), y ∈ (upd st x a).map (·.1) → y = x ∨ y ∈ st.map (·.1)
  | [], x, a, y, h => by simp [upd] at h; exact .inl h
  | (z, b) :: r, x, a, y, h => by
    unfold upd at h
    cases e : x == z with
    | true =>
      simp only [e, if_true, List.map_cons, List.mem_cons] at h
      rcases h with h | h
      · exact .inl h
      · exact .inr (List.mem_cons_of_mem _ h)
    | false =>
      simp only [e, Bool.false_eq_true, if_false, List.map_cons, List.mem_cons] at h
      rcases h with h | h
      · subst h; exact .inr (by simp)
      · rcases upd_keys_mem r x a y h with h | h
        · exact .inl h
        · exact .inr (List.mem_cons_of_mem _ h)
theorem upd_nodup : ∀ (st : St) (x : Str) (a : AV), (st.map (·.1)).Nodup → ((upd st x a).map (·.1)).Nodup
  | [], x, a, _ => by simp [upd]
  | (z, b) :: r, x, a, h => by
    simp only [List.map_cons, List.nodup_cons] at h
    unfold upd
    cases e : x == z with
    | true =>
      have e' := beq_iff_eq.mp e
      subst e'
      simp only [if_true, List.map_cons, List.nodup_cons]
      exact h
    | false =>
      simp only [Bool.false_eq_true, if_false, List.map_cons, List.nodup_cons]
      refine ⟨fun hm => ?_, upd_nodup r x a h.2⟩
      rcases upd_keys_mem r x a z hm with h' | h'
      · rw [h'] at e; simp at e
      · exact h.1 h'
theorem upd_mem {st : St} (hn : (st.map (·.1)).Nodup) {x y : Str} {a b : AV} (h : (y, b) ∈ upd st x a) : (y = x ∧ b = a) ∨ (y ≠ x ∧ (y, b) ∈ st) := by
  have l := lookup_of_mem (upd_nodup st x a hn) h
  by_cases e : y = x
  · subst e
    rw [upd_look_self] at l
    exact .inl ⟨rfl, (Option.some.inj l).symm⟩
  · rw [upd_look_ne st a e] at l
    exact .inr ⟨e, mem_of_lookup l⟩
theorem mem_upd {st : St} {x y : Str} {a b : AV} (h : (y, b) ∈ st) (hn : (st.map (·.1)).Nodup) (e : y ≠ x) : (y, b) ∈ upd st x a :=
  mem_of_lookup ((upd_look_ne st a e).trans (lookup_of_mem hn h))

noncomputable def noM : AV → Bool
  | .M _ _ => false
  | .V _ _ => false
  | _ => true

section
variable {Γ : Gx} {c : Cx} {st : St} {s : Shared}

noncomputable def FlR (Γ : Gx) (g h : Heap) : Fl → Flow → Prop
  | .next, f => f = .next
  | .brk, f => f = .brk
  | .cont, f => f = .cont
  | .ret a, f => ∃ v, f = .ret v ∧ VR Γ g h a v

structure Mv (c : Cx) (st : St) (s : Shared) (st' : St) (s' : Shared) : Prop where
  sub : Sub (fz s.heap (Hd c st)) (fz s'.heap (Hd c st'))
  hid : ∀ b o, c.hid b → ¬ own c.env b → s.heap.get? b = some o → Sl (fr c b) o s'.heap b
theorem Mv.ex {st' : St} {s' : Shared} (h1 : Sub (fz s.heap (Hd c st)) (fz s'.heap (Hd c st'))) (h2 : ∀ b o, c.hid b → ¬ own c.env b → s.heap.get? b = some o → s'.heap.get? b = some o) : Mv c st s st' s' :=
  ⟨h1, fun b o h h' e => .exact (h2 b o h h' e)⟩
theorem Mv.refl : Mv c st s st s := .ex (Sub.refl _) fun _ _ _ _ e => e
theorem Mv.trans {st1 st2 : St} {s1 s2 : Shared} (x : Mv c st s st1 s1) (y : Mv c st1 s1 st2 s2) : Mv c st s st2 s2 := ⟨Sub.trans x.sub y.sub, fun b o h1 h2 e => (x.hid b o h1 h2 e).trans fun o' e' => y.hid b o' h1 h2 e'⟩
theorem Kp.mv {s' : Shared} (k : Kp s s') : Mv c st s st s' := .ex (fz_keep k.heap) fun b o _ _ e => k.heap b o e
theorem Mv.fo {st' : St} {s' : Shared} (m : Mv c st s st' s') (x : Fo c s.heap) : Fo c s'.heap := x.keeps fun b o hb e => (m.hid b o (x.fr hb).1 (x.fr hb).2.1 e).live

/-- what a statement leaves behind -/
inductive WSq (Γ : Gx) (c : Cx) (Q : Fl → St → Prop) (f : Flow) (s' : Shared) (st' : St) (fl : Fl) : Prop
  | mk (r : R Γ c st' s') (hf : FlR Γ (fz s'.heap (Hd c st')) s'.heap fl f) (q : Q fl st')
inductive WSp (Γ : Gx) (c : Cx) (st : St) (Q : Fl → St → Prop) (s : Shared) (f : Flow) (s' : Shared) : Prop
  | mk (st' : St) (fl : Fl) (m : Mv c st s st' s') (q : WSq Γ c Q f s' st' fl)
/-- a statement's judgement -/
noncomputable def WS (Γ : Gx) (c : Cx) (st : St) (t : Sem Flow) (Q : Fl → St → Prop) : Prop :=
  ∀ s, R Γ c st s → wpAny (mo Γ) c.A t (WSp Γ c st Q s) (fun _ _ => False) s

theorem WSp.pre {Q : Fl → St → Prop} {st0 : St} {s0 s' : Shared} {f : Flow} (m : Mv c st0 s0 st s) (x : WSp Γ c st Q s f s') : WSp Γ c st0 Q s0 f s' := by cases x with | mk st' fl m' q => exact ⟨st', fl, m.trans m', q⟩
theorem WS.mono {t : Sem Flow} {Q Q' : Fl → St → Prop} (h : WS Γ c st t Q) (hq : ∀ f st, Q f st → Q' f st) : WS Γ c st t Q' :=
  fun s r => wpAny_mono (h s r) (fun _ _ ⟨st', fl, h1, h2, h3, h4⟩ => ⟨st', fl, h1, h2, h3, hq _ _ h4⟩) fun _ _ x => x

theorem WS_nil {Q : Fl → St → Prop} (h : Q .next st) : WS Γ c st (execs [] c.env) Q := fun s r => wpAny_execs_nil ⟨st, .next, .refl, r, rfl, h⟩
noncomputable def andThen (Γ : Gx) (c : Cx) (rest : List Stmt) (Q : Fl → St → Prop) : Fl → St → Prop
  | .next, st => WS Γ c st (execs rest c.env) Q
  | f, st => Q f st
theorem WS_cons {x : Stmt} {rest : List Stmt} {Q : Fl → St → Prop} (h : WS Γ c st (exec x c.env) (andThen Γ c rest Q)) : WS Γ c st (execs (x :: rest) c.env) Q := fun s r =>
  wpAny_execs_cons (wpAny_mono (h s r) (fun f s1 ⟨st1, fl, m1, r1, hf, hq⟩ => by
    cases fl with
    | next =>
      cases hf
      exact wpAny_mono (hq s1 r1) (fun _ _ x => x.pre m1) fun _ _ x => x
    | brk => cases hf; exact ⟨st1, .brk, m1, r1, rfl, hq⟩
    | cont => cases hf; exact ⟨st1, .cont, m1, r1, rfl, hq⟩
    | ret a => obtain ⟨v, rfl, hv⟩ := hf; exact ⟨st1, .ret a, m1, r1, ⟨v, rfl, hv⟩, hq⟩) fun _ _ x => x)

theorem VR.noM_mono {g h g' h' : Heap} {av : AV} {v : Value} (hm : noM av = true) (x : VR Γ g h av v) (hg : Sub g g') : VR Γ g' h' av v := x.step hg fun a ds e => by rcases e with rfl | rfl <;> cases hm

/-! stores of names -/
theorem Ns_uniq {h : Heap} {a : Addr} {m m' : Str → Option Value} (x : h.Ns a m) (y : h.Ns a m') : m = m' := by
  obtain ⟨o, es, ep, h1, h2, _, h3⟩ := x
  obtain ⟨o', es', ep', h1', h2', _, h3'⟩ := y
  rw [h1] at h1'; cases h1'
  rw [h2] at h2'; cases h2'
  funext n; rw [← h3, h3']

/-- where a name of the frame lives -/
noncomputable def Stor (env : Env) (x : Str) : Prop := env.kindOf x = some .local ∨ (env.kindOf x = some .cell ∧ ∃ a, env.cells.lookup x = some a)

theorem store_name {A : Around} {E : Value → Shared → Prop} {x : Str} {v : Value} {Q : Unit → Shared → Prop} (r : R Γ c st s) (hx : Stor c.env x)
    (h : ∀ s', (∃ p, own c.env p ∧ (∃ o, s'.heap.get? p = some o) ∧ ∀ b, b ≠ p → s'.heap.get? b = s.heap.get? b) → s'.gens = s.gens → s'.os = s.os → Bd c.env s'.heap x v → (∀ y u, y ≠ x → Bd c.env s.heap y u → Bd c.env s'.heap y u) →
      (∃ m, s'.heap.Ns c.env.locals m) → (∀ y a, c.env.cells.lookup y = some a → ∃ u, s'.heap.IsCell a u) → Q () s') : wpAny (mo Γ) A (storeName c.env x v) Q E s := by
  rcases hx with hl | ⟨hl, a, ha⟩
  · obtain ⟨m, hm⟩ := r.frame
    refine wpAny_storeName_local hl hm (fun h' hn hs => h _ ⟨_, .inl rfl, (let ⟨o, _, _, e, _⟩ := hn; ⟨o, e⟩), hs.2⟩ rfl rfl (.inl ⟨hl, _, hn, by simp⟩) (fun y u hy hb => ?_) ⟨_, hn⟩ fun y a e => ?_) (by rw [r.hk]; rfl)
    · rcases hb with ⟨k, m', hm', e⟩ | ⟨k, a, e, hc⟩
      · rw [Ns_uniq hm' hm] at e
        exact .inl ⟨k, _, hn, by simp [hy, e]⟩
      · exact .inr ⟨k, a, e, hc.sameBut hs (r.apartL y a (mem_of_lookup e))⟩
    · obtain ⟨u, hu⟩ := r.cells y a e
      exact ⟨u, hu.sameBut hs (r.apartL y a (mem_of_lookup e))⟩
  · obtain ⟨v0, hv0⟩ := r.cells x a ha
    have haL := r.apartL x a (mem_of_lookup ha)
    refine wpAny_storeName_cell r.hk hl ha hv0 fun h' hc' hs => h _ ⟨_, (.inr ⟨x, ha⟩), (let ⟨o, e, _⟩ := hc'; ⟨o, e⟩), hs.2⟩ rfl rfl (.inr ⟨.inl hl, a, ha, hc'⟩) (fun y u hy hb => ?_) ?_ fun y b e => ?_
    · rcases hb with ⟨k, m', hm', e⟩ | ⟨k, b, e, hc⟩
      · exact .inl ⟨k, m', hm'.sameBut hs (Ne.symm haL), e⟩
      · refine .inr ⟨k, b, e, hc.sameBut hs fun q => ?_⟩
        subst q
        exact hy (name_of_addr r.apart (mem_of_lookup e) (mem_of_lookup ha))
    · obtain ⟨m, hm⟩ := r.frame
      exact ⟨m, hm.sameBut hs (Ne.symm haL)⟩
    · by_cases hb : b = a
      · subst hb; exact ⟨_, hc'⟩
      · obtain ⟨u, hu⟩ := r.cells y b e
        exact ⟨u, hu.sameBut hs hb⟩

/-- the state behind a store of what is no list of the frame's own -/
theorem R.stored {x : Str} {v : Value} {a : AV} {s' : Shared} (r : R Γ c st s) (hv : VR Γ (fz s.heap (Hd c st)) s.heap a v) (hm : noM a = true)
    (hp : ∃ p, own c.env p ∧ (∃ o, s'.heap.get? p = some o) ∧ ∀ b, b ≠ p → s'.heap.get? b = s.heap.get? b) (hg : s'.gens = s.gens) (ho : s'.os = s.os) (hb : Bd c.env s'.heap x v) (hy : ∀ y u, y ≠ x → Bd c.env s.heap y u → Bd c.env s'.heap y u)
    (hf : ∃ m, s'.heap.Ns c.env.locals m) (hc : ∀ y a, c.env.cells.lookup y = some a → ∃ u, s'.heap.IsCell a u) : R Γ c (upd st x a) s' ∧ Mv c st s (upd st x a) s' := by
  obtain ⟨p, hp, hpo, hs⟩ := hp
  have hH : ∀ b, Hd c (upd st x a) b → Hd c st b := by
    rintro b (h | ⟨y, ds, h⟩)
    · exact .inl h
    · rcases upd_mem r.keys h with ⟨_, e⟩ | ⟨_, h⟩
      · subst e; cases hm
      · exact .inr ⟨y, ds, h⟩
  have mv' : Mv c st s (upd st x a) s' := .ex (fz_mono fun b o hx e => ⟨fun h => hx (hH b h), (hs b fun q => hx (.inl (r.ownH b (q ▸ hp)))).trans e⟩) fun b o _ hno e => (hs b fun q => hno (q ▸ hp)).trans e
  have mv := mv'.sub
  have keepM : ∀ y q ds, (y, AV.M q ds) ∈ st → s'.heap.get? q = s.heap.get? q := fun y q ds h => hs q fun e => r.mOwn y q ds h (e ▸ hp)
  refine ⟨?_, mv'⟩
  exact {
    gd := r.gd
    keep := fun b o e => (hs b fun q => by have := r.ownB b (q ▸ hp); rw [e] at this; cases this).trans (r.keep b o e)
    rm := r.rm
    gens := hg.trans r.gens
    os := ho.trans r.os
    hk := r.hk
    glob := r.glob
    bns := r.bns
    frame := hf
    cells := hc
    ownH := r.ownH
    ownB := r.ownB
    apart := r.apart
    apartL := r.apartL
    low := fun b h => by
      obtain ⟨o, e⟩ := r.low b h
      by_cases q : b = p
      · subst q; exact hpo
      · exact ⟨o, (hs b q).trans e⟩
    tab := r.tab.mono mv
    fo := mv'.fo r.fo
    bound := fun y av e => by
      by_cases q : y = x
      · subst q
        rw [upd_look_self] at e; cases e
        exact ⟨v, hb, hv.noM_mono hm mv⟩
      · rw [upd_look_ne st a q] at e
        obtain ⟨u, h1, h2⟩ := r.bound y av e
        exact ⟨u, hy y u q h1, h2.step mv fun l ds e' o eo => e'.elim (fun e' => (keepM y l ds (mem_of_lookup (e' ▸ e))).trans eo) fun e' => (hs l fun q => r.vOwn y l ds (mem_of_lookup (e' ▸ e)) (q ▸ hp)).trans eo⟩
    keys := upd_nodup st x a r.keys
    mHid := fun y q ds h => by
      rcases upd_mem r.keys h with ⟨_, e⟩ | ⟨_, h⟩
      · subst e; cases hm
      · exact r.mHid y q ds h
    vOwn := fun y q ds h => by
      rcases upd_mem r.keys h with ⟨_, e⟩ | ⟨_, h⟩
      · subst e; cases hm
      · exact r.vOwn y q ds h
    mBase := fun y q ds h => by
      rcases upd_mem r.keys h with ⟨_, e⟩ | ⟨_, h⟩
      · subst e; cases hm
      · exact r.mBase y q ds h
    mApart := fun y z q ds es h h' => by
      rcases upd_mem r.keys h with ⟨_, e⟩ | ⟨_, h⟩
      · subst e; cases hm
      · rcases upd_mem r.keys h' with ⟨_, e⟩ | ⟨_, h'⟩
        · subst e; cases hm
        · exact r.mApart y z q ds es h h' }
end
end Mine
end
section
open PySem PySem.Calls PyProof.Rows
namespace Mine
section
variable {Γ : Gx} {c : Cx} {st : St} {s : Shared}

/-- one name is given another worth; the rest stands -/
theorem R.set {x : Str} {v : Value} {a : AV} {s' : Shared} (r : R Γ c st s) (hg : s'.gens = s.gens) (ho : s'.os = s.os)
    (mv' : Mv c st s (upd st x a) s') (hv : VR Γ (fz s'.heap (Hd c (upd st x a))) s'.heap a v) (hb : Bd c.env s'.heap x v) (hy : ∀ y u, y ≠ x → Bd c.env s.heap y u → Bd c.env s'.heap y u)
    (hf : ∃ m, s'.heap.Ns c.env.locals m) (hc : ∀ y a, c.env.cells.lookup y = some a → ∃ u, s'.heap.IsCell a u)
    (keep : Sub c.base s'.heap) (low : ∀ b, c.hid b → ∃ o, s'.heap.get? b = some o)
    (keepM : ∀ y q ds, y ≠ x → (y, AV.M q ds) ∈ st → s'.heap.get? q = s.heap.get? q)
    (keepV : ∀ y q ds, y ≠ x → (y, AV.V q ds) ∈ st → s'.heap.get? q = s.heap.get? q) (hV : ∀ q ds, a ≠ .V q ds)
    (hM : ∀ q ds, a = .M q ds → ¬ c.hid q ∧ c.base.get? q = none ∧ ∀ y es, y ≠ x → (y, AV.M q es) ∉ st) : R Γ c (upd st x a) s' where
  gd := r.gd
  keep := keep
  rm := r.rm
  gens := hg.trans r.gens
  os := ho.trans r.os
  hk := r.hk
  glob := r.glob
  bns := r.bns
  frame := hf
  cells := hc
  ownH := r.ownH
  ownB := r.ownB
  apart := r.apart
  apartL := r.apartL
  low := low
  tab := r.tab.mono mv'.sub
  fo := mv'.fo r.fo
  bound := fun y av e => by
    by_cases q : y = x
    · subst q
      rw [upd_look_self] at e; cases e
      exact ⟨v, hb, hv⟩
    · rw [upd_look_ne st a q] at e
      obtain ⟨u, h1, h2⟩ := r.bound y av e
      have mv := mv'.sub
      exact ⟨u, hy y u q h1, h2.step mv fun l ds e' o eo => e'.elim (fun e' => (keepM y l ds q (mem_of_lookup (e' ▸ e))).trans eo) fun e' => (keepV y l ds q (mem_of_lookup (e' ▸ e))).trans eo⟩
  keys := upd_nodup st x a r.keys
  mHid := fun y q ds h => by
    rcases upd_mem r.keys h with ⟨_, e⟩ | ⟨_, h⟩
    · exact (hM q ds e.symm).1
    · exact r.mHid y q ds h
  vOwn := fun y q ds h => by
    rcases upd_mem r.keys h with ⟨_, e⟩ | ⟨_, h⟩
    · exact absurd e.symm (hV q ds)
    · exact r.vOwn y q ds h
  mBase := fun y q ds h => by
    rcases upd_mem r.keys h with ⟨_, e⟩ | ⟨_, h⟩
    · exact (hM q ds e.symm).2.1
    · exact r.mBase y q ds h
  mApart := fun y z q ds es h h' => by
    rcases upd_mem r.keys h with ⟨e1, e⟩ | ⟨n1, h⟩
    · rcases upd_mem r.keys h' with ⟨e2, e'⟩ | ⟨n2, h'⟩
      · rw [e1, e2]
      · exact absurd h' ((hM q ds e.symm).2.2 z es n2)
    · rcases upd_mem r.keys h' with ⟨e2, e'⟩ | ⟨n2, h'⟩
      · exact absurd h ((hM q es e'.symm).2.2 y ds n1)
      · exact r.mApart y z q ds es h h'

theorem R.ownLive (r : R Γ c st s) {p : Addr} (h : own c.env p) : ∃ o, s.heap.get? p = some o := r.low p (r.ownH p h)

/-! assignments -/
noncomputable abbrev KSt (st : St) (x : Str) (Q : Fl → St → Prop) (a : AV) : Prop := noM a = true ∧ Q .next (upd st x a)
noncomputable abbrev KRet (st : St) (Q : Fl → St → Prop) (a : AV) : Prop := Q (.ret a) st
noncomputable abbrev KIf (Γ : Gx) (c : Cx) (st : St) (body orelse : List Stmt) (Q : Fl → St → Prop) (b : Bool) : Prop := (b = true → WS Γ c st (execs body c.env) Q) ∧ (b = false → WS Γ c st (execs orelse c.env) Q)

theorem WS_Assign {x : Str} {px pos : Pos} {value : Expr} {Q : Fl → St → Prop} (h : WE Γ c st (eval value c.env) (KSt st x Q))
    (hx : Stor c.env x := by first | exact .inl rfl | exact .inr ⟨rfl, _, rfl⟩) (hs : swapsWith value (some (.Name x px)) pos.line c.env = pure false := by rfl) :
    WS Γ c st (exec (.Assign [.Name x px] value pos) c.env) Q := fun s r =>
  wpAny_Assign_Name (wpAny_mono (h s r) (fun v s1 ⟨k1, a, va, hm, q⟩ => store_name (r.kp k1) hx fun s2 hp hg ho hb hy hf hc => by
    obtain ⟨r2, m2⟩ := (r.kp k1).stored va hm hp hg ho hb hy hf hc
    exact ⟨_, .next, k1.mv.trans m2, r2, rfl, q⟩) fun _ _ x => x) hs

inductive Inp : Operator → AV → AV → AV → Prop
  | addI (i j : Int) : Inp .Add (.D (.int i)) (.D (.int j)) (.D (.int (i + j)))
  | addS (x y : Str) (h : x.length + y.length ≤ sizeLine) : Inp .Add (.D (.str x)) (.D (.str y)) (.D (.str (x ++ y)))
theorem inp_sound {op : Operator} {a b z : AV} {u v : Value} (hz : Inp op a b z) (r : R Γ c st s) (ha : VR Γ (fz s.heap (Hd c st)) s.heap a u) (hb : VR Γ (fz s.heap (Hd c st)) s.heap b v) :
    wpAny (mo Γ) c.A (inplaceOp op u v) (fun x s' => Kp s s' ∧ VR Γ (fz s'.heap (Hd c st)) s'.heap z x ∧ noM z = true) (fun _ _ => False) s := by
  cases hz with
  | addI i j => obtain ⟨t, rfl⟩ := Rd.int_inv ha; obtain ⟨t', rfl⟩ := Rd.int_inv hb; exact PyProof.Rows.iadd_int ⟨Kp.toks s _, Rd.int _ _, rfl⟩
  | addS x y h => obtain ⟨t, rfl⟩ := Rd.str_inv ha; obtain ⟨t', rfl⟩ := Rd.str_inv hb; exact SB.iadd (fun _ _ => ⟨Kp.toks s _, Rd.str _ _, rfl⟩) h
theorem WS_AugAssign {x : Str} {px pos : Pos} {op : Operator} {value : Expr} {av : AV} {Q : Fl → St → Prop} (e : st.lookup x = some av)
    (h : WE Γ c st (eval value c.env) fun b => ∃ z, Inp op av b z ∧ Q .next (upd st x z))
    (hx : Stor c.env x := by first | exact .inl rfl | exact .inr ⟨rfl, _, rfl⟩) (hn : (x == ("__classdict__" : Str)) = false := by decide) :
    WS Γ c st (exec (.AugAssign (.Name x px) op value pos) c.env) Q := fun s r => by
  obtain ⟨v, hb, hv⟩ := r.bound x av e
  refine wpAny_AugAssign_Name (loadName_Bd r.hk hb (wpAny_mono (h s r) (fun u s1 ⟨k1, b, vb, z, hz, q⟩ => ?_) fun _ _ x => x) hn)
  refine wpAny_mono (inp_sound hz (r.kp k1) (hv.mono (fz_keep k1.heap) k1.heap) vb) (fun y s2 ⟨k2, vz, hm⟩ => ?_) fun _ _ x => x
  refine store_name ((r.kp k1).kp k2) hx fun s3 hp hg ho hb hy hf hc => ?_
  obtain ⟨r3, m3⟩ := ((r.kp k1).kp k2).stored vz hm hp hg ho hb hy hf hc
  exact ⟨_, .next, (k1.trans k2).mv.trans m3, r3, rfl, q⟩

/-! control -/
theorem WS_If {test : Expr} {body orelse : List Stmt} {pos : Pos} {Q : Fl → St → Prop} (h : WB Γ c st (isTrue test c.env (eval test c.env)) (KIf Γ c st body orelse Q)) :
    WS Γ c st (exec (.If test body orelse pos) c.env) Q := fun s r =>
  wpAny_If (wpAny_mono (h s r) (fun b s1 ⟨k1, ht, hf⟩ => by
    cases b with
    | true => exact wpAny_mono (ht rfl s1 (r.kp k1)) (fun _ _ x => x.pre (k1.mv)) fun _ _ x => x
    | false => exact wpAny_mono (hf rfl s1 (r.kp k1)) (fun _ _ x => x.pre (k1.mv)) fun _ _ x => x) fun _ _ x => x)
theorem WS_Return {e : Expr} {pos : Pos} {Q : Fl → St → Prop} (h : WE Γ c st (eval e c.env) (KRet st Q)) : WS Γ c st (exec (.Return (some e) pos) c.env) Q := fun s r =>
  wpAny_Return_some (wpAny_mono (h s r) (fun v s1 ⟨k1, a, va, q⟩ => ⟨st, .ret a, k1.mv, r.kp k1, ⟨v, rfl, va⟩, q⟩) fun _ _ x => x)
theorem WS_Break {pos : Pos} {Q : Fl → St → Prop} (h : Q .brk st) : WS Γ c st (exec (.Break pos) c.env) Q := fun s r => wpAny_Break ⟨st, .brk, .refl, r, rfl, h⟩

/-- the post of a loop's body -/
noncomputable def loopP (I : St → Prop) (Q : Fl → St → Prop) : Fl → St → Prop
  | .next, st => I st
  | .cont, st => I st
  | .brk, st => Q .next st
  | .ret a, st => Q (.ret a) st
/-- a lesser measure -/
noncomputable def dec (I : Nat → St → Prop) (n : Nat) (st : St) : Prop := ∃ m, m < n ∧ I m st
theorem WS_While {test : Expr} {body orelse : List Stmt} {pos : Pos} {Q : Fl → St → Prop} (I : Nat → St → Prop)
    (step : ∀ n st, I n st → WB Γ c st (isTrue test c.env (eval test c.env)) fun b =>
      (b = true → WS Γ c st (execs body c.env) (loopP (dec I n) Q)) ∧
      (b = false → WS Γ c st (execs orelse c.env) Q))
    (n : Nat) (h : I n st) : WS Γ c st (exec (.While test body orelse pos) c.env) Q := fun s r => by
  refine wpAny_While (codeAny_whileLoop (fun n s1 => ∃ st1, Mv c st s st1 s1 ∧ R Γ c st1 s1 ∧ I n st1) ?_ n ⟨st, .refl, r, h⟩)
  rintro n s1 ⟨st1, m1, r1, hI⟩
  refine wpAny_mono (step n st1 hI s1 r1) (fun b s2 ⟨k2, ht, hf⟩ => ?_) fun _ _ x => x.elim
  cases b with
  | true =>
    simp only [if_true]
    refine wpAny_mono (ht rfl s2 (r1.kp k2)) (fun f s3 ⟨st3, fl, m3, r3, hfl, q⟩ => ?_) fun _ _ x => x.elim
    have mm := m1.trans (k2.mv.trans m3)
    cases fl with
    | next => cases hfl; obtain ⟨m, hm, hI'⟩ := q; exact ⟨m, hm, st3, mm, r3, hI'⟩
    | cont => cases hfl; obtain ⟨m, hm, hI'⟩ := q; exact ⟨m, hm, st3, mm, r3, hI'⟩
    | brk => cases hfl; exact ⟨st3, .next, mm, r3, rfl, q⟩
    | ret a => obtain ⟨v, rfl, hv⟩ := hfl; exact ⟨st3, .ret a, mm, r3, ⟨v, rfl, hv⟩, q⟩
  | false =>
    simp only [Bool.false_eq_true, if_false]
    exact wpAny_mono (hf rfl s2 (r1.kp k2)) (fun f s3 ⟨st3, fl, m3, q⟩ => ⟨st3, fl, m1.trans (k2.mv.trans m3), q⟩) fun _ _ x => x.elim

/-! lists of the frame's own -/
/-- an expression that makes a new list -/
noncomputable def WN (Γ : Gx) (c : Cx) (st : St) (t : Sem Value) (Q : List PyData → Prop) : Prop :=
  ∀ s, R Γ c st s → wpAny (mo Γ) c.A t (fun v s' => Kp s s' ∧ ∃ a vs n ds, v = .ref a ∧ s.heap.get? a = none ∧ s'.heap.get? a = some (plainL vs n) ∧ RdL (fz s'.heap (Hd c st)) vs.toList ds ∧ (∀ d ∈ ds, flat d = true) ∧ Q ds) (fun _ _ => False) s
theorem get_none_size (h : Heap) : h.get? h.objs.size = none := by
  cases e : h.get? h.objs.size with
  | none => rfl
  | some o => exact absurd (Heap.lt_size e) (Nat.lt_irrefl _)
theorem WN_List {elts : List Expr} {pos : Pos} {Q : List PyData → Prop} (h : WA Γ c st (spliced (backTo pos (starEach elts c.env))) fun as => ∃ ds, allD as = some ds ∧ ds.length ≤ sizeLine ∧ (∀ d ∈ ds, flat d = true) ∧ Q ds) :
    WN Γ c st (eval (.List elts pos) c.env) Q := fun s R =>
  List_ (wpAny_mono (h s R) (fun vs s1 ⟨k1, as, va, ds, e, hz, hf, q⟩ => by
    have rd := va.allD e
    refine wpAny_newObj_type ⟨k1.trans (Kp.new s1 _), s1.heap.objs.size, vs.toArray, 0, ds, rfl, ?_, Heap.get?_push_size _ rfl, RdL.mono (fz_keep fun _ _ e => Heap.get?_push_of_some _ e) rd, hf, q⟩ ?_
    · cases e : s.heap.get? s1.heap.objs.size with
      | none => rfl
      | some o => exact absurd (Heap.lt_size (k1.heap _ _ e)) (Nat.lt_irrefl _)
    show vs.toArray.size ≤ sizeLine
    rw [List.size_toArray, rd.length]; exact hz) fun _ _ x => x)

theorem WS_AssignNew {x : Str} {px pos : Pos} {value : Expr} {Q : Fl → St → Prop} (h : WN Γ c st (eval value c.env) fun ds => ∀ a, Q .next (upd st x (.M a ds)))
    (hx : Stor c.env x := by first | exact .inl rfl | exact .inr ⟨rfl, _, rfl⟩) (hs : swapsWith value (some (.Name x px)) pos.line c.env = pure false := by rfl) :
    WS Γ c st (exec (.Assign [.Name x px] value pos) c.env) Q := fun s r =>
  wpAny_Assign_Name (wpAny_mono (h s r) (fun v s1 ⟨k1, a, vs, n, ds, e, hnew, hat, hrd, hfl, q⟩ => by
    subst e
    have r1 := r.kp k1
    refine store_name r1 hx fun s2 ⟨p, hp, hpo, hs⟩ hg ho hb hy hf hc => ?_
    have live : ∀ {b o}, s.heap.get? b = some o → b ≠ a := fun e q => by rw [q, hnew] at e; cases e
    have hap : a ≠ p := by
      obtain ⟨o, e⟩ := r.ownLive hp
      exact (live e).symm
    have hat2 : s2.heap.get? a = some (plainL vs n) := (hs a hap).trans hat
    have hH : ∀ b, Hd c (upd st x (.M a ds)) b → Hd c st b ∨ b = a := by
      rintro b (h | ⟨y, es, h⟩)
      · exact .inl (.inl h)
      · rcases upd_mem r.keys h with ⟨_, e⟩ | ⟨_, h⟩
        · cases e; exact .inr rfl
        · exact .inl (.inr ⟨y, es, h⟩)
    have mv : Mv c st s (upd st x (.M a ds)) s2 := .ex (fz_mono fun b o hb e => ⟨fun h => (hH b h).elim hb (live e), (hs b fun q => hb (.inl (r.ownH b (q ▸ hp)))).trans (k1.heap _ _ e)⟩) fun b o _ hno e => (hs b fun q => hno (q ▸ hp)).trans (k1.heap _ _ e)
    refine ⟨_, .next, mv, r.set (hg.trans k1.gens) (ho.trans k1.os) mv ⟨rfl, vs, n, hat2, RdL.flat_any hrd hfl _⟩ hb (fun y u hyx hb => hy y u hyx (hb.mono k1.heap)) hf hc ?_ ?_ ?_ ?_ (fun _ _ e => by cases e) ?_, rfl, q a⟩
    · exact fun b o e => (hs b fun q => by have := r.ownB b (q ▸ hp); rw [e] at this; cases this).trans (k1.heap _ _ (r.keep b o e))
    · intro b hb
      by_cases q : b = p
      · exact q ▸ hpo
      · obtain ⟨o, e⟩ := r.low b hb
        exact ⟨o, (hs b q).trans (k1.heap _ _ e)⟩
    · intro y q es _ hm
      obtain ⟨vs', n', e', _⟩ := r.mlist hm
      rw [hs q fun e => r.mOwn y q es hm (e ▸ hp), k1.heap _ _ e', e']
    · intro y q es _ hm
      obtain ⟨v', _, e1, vs', n', e', _⟩ := r.bound y _ (lookup_of_mem r.keys hm)
      rw [hs q fun e => r.vOwn y q es hm (e ▸ hp), k1.heap _ _ e', e']
    · intro q es e
      cases e
      refine ⟨fun ho => ?_, ?_, fun y es' _ hm => ?_⟩
      · obtain ⟨o, e⟩ := r.low a ho
        exact live e rfl
      · cases e : c.base.get? a with
        | none => rfl
        | some o => exact absurd rfl (live (r.keep _ _ e))
      · obtain ⟨vs', n', e', _⟩ := r.mlist hm
        exact live e' rfl) fun _ _ x => x) hs

/-- a list of the frame's own, from now on data -/
theorem WS_freeze {x : Str} {a : Addr} {ds : List PyData} {t : Sem Flow} {Q : Fl → St → Prop} (e : st.lookup x = some (.M a ds)) (h : WS Γ c (upd st x (.D (.list ds))) t Q)
    : WS Γ c st t Q := fun s r => by
  obtain ⟨v, hb, rfl, vs, n, h1, h2⟩ := r.bound x _ e
  have hm := mem_of_lookup e
  have hH : ∀ b, Hd c (upd st x (.D (.list ds))) b → Hd c st b := by
    rintro b (h | ⟨y, es, h⟩)
    · exact .inl h
    · rcases upd_mem r.keys h with ⟨_, e⟩ | ⟨_, h⟩
      · cases e
      · exact .inr ⟨y, es, h⟩
  have ha : ¬ Hd c (upd st x (.D (.list ds))) a := by
    rintro (h | ⟨y, es, h⟩)
    · exact r.mHid x a ds hm h
    · rcases upd_mem r.keys h with ⟨_, e⟩ | ⟨ny, h⟩
      · cases e
      · exact ny (r.mApart y x a es ds h hm)
  have mv : Mv c st s (upd st x (.D (.list ds))) s := .ex (fz_mono fun b o hb e => ⟨fun h => hb (hH b h), e⟩) fun _ _ _ _ e => e
  have r' : R Γ c (upd st x (.D (.list ds))) s := r.set rfl rfl mv (Rd.list (fz_some.mpr ⟨ha, h1⟩) (RdL.mono mv.sub h2)) hb (fun _ _ _ b => b) r.frame r.cells r.keep r.low (fun _ _ _ _ _ => rfl) (fun _ _ _ _ _ => rfl) (fun _ _ e => by cases e) (fun _ _ e => by cases e)
  exact wpAny_mono (h s r') (fun _ _ x => x.pre (mv)) fun _ _ x => x
end
end Mine
end
section
open PySem PySem.Calls PyProof.Rows
namespace Mine
section
variable {Γ : Gx} {c : Cx} {st : St} {s : Shared}

/-! methods of texts -/
inductive KS (Γ : Gx) (c : Cx) (st : St) (e : Expr) (P : Str → AV → AV → Prop) (Q : AV → Prop) (a : AV) : Prop
  | mk (x : Str) (ea : a = .D (.str x)) (h : WE Γ c st (eval e c.env) (K1 (P x) Q))
theorem WE_smeth {o e : Expr} {name : Str} {apos pos : Pos} {Q : AV → Prop} (P : Str → AV → AV → Prop)
    (sound : ∀ (s : Shared) (x : Str) (t : Tok) (T : AV → Prop), R Γ c st s → wpAny (mo Γ) c.A (eval e c.env) (WEp Γ c st (K1 (P x) T) s) (fun _ _ => False) s →
      MethodOnS Γ.prog Γ.w c.A (fun _ _ => False) name (.str x t) pos [(false, eval e c.env)] (WEp Γ c st T s) s)
    (h : WE Γ c st (eval o c.env) (KS Γ c st e P Q))
    (hbase : attributeBase o name c.env (eval o c.env) = eval o c.env) (hs : starEach [e] c.env = [(false, eval e c.env)]) (hline : (apos.endLine == pos.line) = true) :
    WE Γ c st (eval (.Call (.Attribute o name apos) [e] [] pos) c.env) Q := fun s r => by
  refine Call_method1 hbase hs hline (wpAny_mono (h s r) (fun v s1 ⟨k1, a, va, x, ea, hb⟩ => ?_) fun _ _ x => x)
  subst ea
  obtain ⟨t, rfl⟩ := Rd.str_inv va
  obtain ⟨T, id, g1, g2, g3, g4, g5, g6⟩ := sound s1 x t Q (r.kp k1) (hb s1 (r.kp k1))
  exact ⟨T, id, g1, g2, g3, g4, g5, wpAny_mono g6 (fun _ _ x => x.pre k1) fun _ _ x => x⟩

inductive SmStart : Str → AV → AV → Prop | mk (x y : Str) : SmStart x (.D (.str y)) (.D (.bool (Txt.startswith x y)))
inductive SmEnd : Str → AV → AV → Prop | mk (x y : Str) : SmEnd x (.D (.str y)) (.D (.bool (Txt.endswith x y)))
inductive SmRfind : Str → AV → AV → Prop | mk (x y : Str) : SmRfind x (.D (.str y)) (.D (.int (Txt.rfind x y)))
inductive SmRstrip : Str → AV → AV → Prop | mk (x y : Str) (h : x.length ≤ sizeLine) : SmRstrip x (.D (.str y)) (.D (.str (Txt.rstripChars x y)))
theorem WE_startswith {o e : Expr} {apos pos : Pos} {Q : AV → Prop} (h : WE Γ c st (eval o c.env) (KS Γ c st e SmStart Q))
    (hbase : attributeBase o "startswith" c.env (eval o c.env) = eval o c.env := by rfl) (hs : starEach [e] c.env = [(false, eval e c.env)] := by rfl) (hline : (apos.endLine == pos.line) = true := by rfl) :
    WE Γ c st (eval (.Call (.Attribute o "startswith" apos) [e] [] pos) c.env) Q :=
  WE_smeth SmStart (fun s x t T r hb => SB.startswith (wpAny_mono hb (fun v s1 ⟨k, b, vb, z, hz, q⟩ => by
    cases hz with
    | mk y => obtain ⟨u, rfl⟩ := Rd.str_inv vb; exact ⟨y, u, rfl, k, .D (.bool _), Rd.bool _, q⟩) fun _ _ x => x)) h hbase hs hline
theorem WE_endswith {o e : Expr} {apos pos : Pos} {Q : AV → Prop} (h : WE Γ c st (eval o c.env) (KS Γ c st e SmEnd Q))
    (hbase : attributeBase o "endswith" c.env (eval o c.env) = eval o c.env := by rfl) (hs : starEach [e] c.env = [(false, eval e c.env)] := by rfl) (hline : (apos.endLine == pos.line) = true := by rfl) :
    WE Γ c st (eval (.Call (.Attribute o "endswith" apos) [e] [] pos) c.env) Q :=
  WE_smeth SmEnd (fun s x t T r hb => SB.endswith (wpAny_mono hb (fun v s1 ⟨k, b, vb, z, hz, q⟩ => by
    cases hz with
    | mk y => obtain ⟨u, rfl⟩ := Rd.str_inv vb; exact ⟨y, u, rfl, k, .D (.bool _), Rd.bool _, q⟩) fun _ _ x => x)) h hbase hs hline
theorem WE_rfind {o e : Expr} {apos pos : Pos} {Q : AV → Prop} (h : WE Γ c st (eval o c.env) (KS Γ c st e SmRfind Q))
    (hbase : attributeBase o "rfind" c.env (eval o c.env) = eval o c.env := by rfl) (hs : starEach [e] c.env = [(false, eval e c.env)] := by rfl) (hline : (apos.endLine == pos.line) = true := by rfl) :
    WE Γ c st (eval (.Call (.Attribute o "rfind" apos) [e] [] pos) c.env) Q :=
  WE_smeth SmRfind (fun s x t T r hb => SB.rfind (wpAny_mono hb (fun v s1 ⟨k, b, vb, z, hz, q⟩ => by
    cases hz with
    | mk y => obtain ⟨u, rfl⟩ := Rd.str_inv vb; exact ⟨y, u, rfl, k.trans (Kp.toks _ _), .D (.int _), Rd.int _ _, q⟩) fun _ _ x => x)) h hbase hs hline
theorem WE_rstrip {o e : Expr} {apos pos : Pos} {Q : AV → Prop} (h : WE Γ c st (eval o c.env) fun a => ∃ x, (x.length ≤ sizeLine ∧ a = .D (.str x)) ∧ WE Γ c st (eval e c.env) fun b => ∃ y, b = .D (.str y) ∧ Q (.D (.str (Txt.rstripChars x y))))
    (hbase : attributeBase o "rstrip" c.env (eval o c.env) = eval o c.env := by rfl) (hs : starEach [e] c.env = [(false, eval e c.env)] := by rfl) (hline : (apos.endLine == pos.line) = true := by rfl) :
    WE Γ c st (eval (.Call (.Attribute o "rstrip" apos) [e] [] pos) c.env) Q := fun s r => by
  refine Call_method1 hbase hs hline (wpAny_mono (h s r) (fun v s1 ⟨k1, a, va, x, ⟨hx, ea⟩, hb⟩ => ?_) fun _ _ x => x)
  subst ea
  obtain ⟨t, rfl⟩ := Rd.str_inv va
  refine SB.rstripChars (wpAny_mono (hb s1 (r.kp k1)) (fun u s2 ⟨k2, b, vb, y, eb, q⟩ => ?_) fun _ _ x => x) hx
  subst eb
  obtain ⟨t', rfl⟩ := Rd.str_inv vb
  exact ⟨y, t', rfl, fun _ _ => ⟨(k1.trans k2).trans (Kp.toks _ _), .D (.str _), Rd.str _ _, q⟩⟩

/-! slices -/
theorem RdL.pick {g : Heap} {vs : List Value} {ds : List PyData} (x : RdL g vs ds) : ∀ idx : List Nat, RdL g (idx.filterMap (vs[·]?)) (idx.filterMap (ds[·]?))
  | [] => .nil
  | i :: r => by
    rw [List.filterMap_cons, List.filterMap_cons]
    cases e : ds[i]? with
    | none =>
      have : vs[i]? = none := by
        rw [List.getElem?_eq_none_iff] at e ⊢
        rw [x.length]; exact e
      rw [this]
      exact RdL.pick x r
    | some d =>
      obtain ⟨v, h1, h2⟩ := x.get i d e
      rw [h1]
      exact .cons h2 (RdL.pick x r)
noncomputable def dpick (ds : List PyData) (lo hi st : Option Int) : List PyData :=
  (sliceRange (sliceBounds lo hi st ds.length).1 (sliceBounds lo hi st ds.length).2.1 (sliceBounds lo hi st ds.length).2.2).filterMap (ds[·]?)
theorem slice_list_sound {a : AV} {ds : List PyData} {u vl vu vs : Value} {lo hi sp : Option Int} (r : R Γ c st s) (ha : VR Γ (fz s.heap (Hd c st)) s.heap a u) (e : items a = some ds) (hz : ds.length ≤ sizeLine)
    (pl : IsPart vl lo) (pu : IsPart vu hi) (ps : IsPart vs sp) (h0 : sp ≠ some 0) :
    let s2 : Shared := { s with heap := s.heap.push { cls := .type "slice", data := .fields #[vl, vu, vs] } }
    s2.TypeIs u "list" ∧ wpAny (mo Γ) c.A (getItem u (.ref s.heap.objs.size)) (fun x s' => Kp s s' ∧ Rd (fz s'.heap (Hd c st)) x (.list (dpick ds lo hi sp))) (fun _ _ => False) s2 := by
  intro s2
  obtain ⟨l, its, n, rfl, h1, h2⟩ := ha.items e
  have hl := h2.length
  rw [Array.length_toList] at hl
  have h1' : s2.heap.get? l = some (plainL its n) := Heap.get?_push_of_some _ h1
  have k : Kp s s2 := Kp.new s _
  refine ⟨(plainL_isList h1').typeIs, wpAny_getItem_list_slice (plainL_isList h1') ⟨_, Heap.get?_push_size _ rfl, rfl, rfl⟩ pl pu ps h0 ⟨k.trans (Kp.new s2 _), ?_⟩ (by rw [hl]; exact hz)⟩
  have h2' : RdL (fz s2.heap (Hd c st)) its.toList ds := RdL.mono (fz_keep k.heap) h2
  have := h2'.pick (sliceRange (sliceBounds lo hi sp ds.length).1 (sliceBounds lo hi sp ds.length).2.1 (sliceBounds lo hi sp ds.length).2.2)
  have e2 : slicePick its lo hi sp = ((sliceRange (sliceBounds lo hi sp ds.length).1 (sliceBounds lo hi sp ds.length).2.1 (sliceBounds lo hi sp ds.length).2.2).filterMap (its.toList[·]?)).toArray := by
    unfold slicePick; rw [hl]; simp
  rw [e2]
  exact Rd.new_list (r.kp k).low' this
theorem WE_slice_from {value l : Expr} {p p' : Pos} {Q : AV → Prop}
    (h : WE Γ c st (eval value c.env) fun a => WE Γ c st (eval l c.env) fun b => ∃ ds i, items a = some ds ∧ b = .D (.int i) ∧ ds.length ≤ sizeLine ∧ Q (.D (.list (dpick ds (some i) none none))))
    (ht : ∀ o r, letTemporaryGo value o r = pure () := by intro _ _; rfl) : WE Γ c st (eval (.Subscript value (.Slice (some l) none none p) p') c.env) Q := fun s r => by
  refine wpAny_Subscript_Slice (T := "list") slot_list_getitem.lookup (wpAny_mono (h s r) (fun u s1 ⟨k1, a, va, hb⟩ => wpAny_Slice (wpAny_mono (hb s1 (r.kp k1)) (fun v s2 ⟨k2, b, vb, ds, i, ea, eb, hz, q⟩ => ?_) fun _ _ x => x)) fun _ _ x => x) ht
  subst eb
  obtain ⟨t, rfl⟩ := Rd.int_inv vb
  rw [evalPart_none]
  refine wpAny_pure (wpAny_pure ?_)
  have := slice_list_sound (vl := .int i t) (vu := .none) (vs := .none) (lo := some i) (hi := none) (sp := none) (r.kp (k1.trans k2)) (va.mono (fz_keep k2.heap) k2.heap) ea hz (.int i t) .none .none (by simp)
  exact ⟨this.1, wpAny_mono this.2 (fun _ _ ⟨k3, rd⟩ => ⟨(k1.trans k2).trans k3, .D _, rd, q⟩) fun _ _ x => x⟩
theorem WE_slice_toL {value l : Expr} {p p' : Pos} {Q : AV → Prop}
    (h : WE Γ c st (eval value c.env) fun a => WE Γ c st (eval l c.env) fun b => ∃ ds i, items a = some ds ∧ b = .D (.int i) ∧ ds.length ≤ sizeLine ∧ Q (.D (.list (dpick ds none (some i) none))))
    (ht : ∀ o r, letTemporaryGo value o r = pure () := by intro _ _; rfl) : WE Γ c st (eval (.Subscript value (.Slice none (some l) none p) p') c.env) Q := fun s r => by
  refine wpAny_Subscript_Slice (T := "list") slot_list_getitem.lookup (wpAny_mono (h s r) (fun u s1 ⟨k1, a, va, hb⟩ => wpAny_Slice (by
    rw [evalPart_none]
    exact wpAny_pure (wpAny_mono (hb s1 (r.kp k1)) (fun v s2 ⟨k2, b, vb, ds, i, ea, eb, hz, q⟩ => by
      subst eb
      obtain ⟨t, rfl⟩ := Rd.int_inv vb
      refine wpAny_pure ?_
      have := slice_list_sound (vl := .none) (vu := .int i t) (vs := .none) (lo := none) (hi := some i) (sp := none) (r.kp (k1.trans k2)) (va.mono (fz_keep k2.heap) k2.heap) ea hz .none (.int i t) .none (by simp)
      exact ⟨this.1, wpAny_mono this.2 (fun _ _ ⟨k3, rd⟩ => ⟨(k1.trans k2).trans k3, .D _, rd, q⟩) fun _ _ x => x⟩) fun _ _ x => x))) fun _ _ x => x) ht
theorem WE_slice_step {value l sp : Expr} {p p' : Pos} {Q : AV → Prop}
    (h : WE Γ c st (eval value c.env) fun a => WE Γ c st (eval l c.env) fun b => WE Γ c st (eval sp c.env) fun d => ∃ ds i k, items a = some ds ∧ b = .D (.int i) ∧ d = .D (.int k) ∧ k ≠ 0 ∧ ds.length ≤ sizeLine ∧ Q (.D (.list (dpick ds (some i) none (some k)))))
    (ht : ∀ o r, letTemporaryGo value o r = pure () := by intro _ _; rfl) : WE Γ c st (eval (.Subscript value (.Slice (some l) none (some sp) p) p') c.env) Q := fun s r => by
  refine wpAny_Subscript_Slice_step (T := "list") slot_list_getitem.lookup (wpAny_mono (h s r) (fun u s1 ⟨k1, a, va, hb⟩ => wpAny_Slice (wpAny_mono (hb s1 (r.kp k1)) (fun v s2 ⟨k2, b, vb, hd⟩ => ?_) fun _ _ x => x)) fun _ _ x => x) ht
  rw [evalPart_none]
  refine wpAny_pure (wpAny_mono (hd s2 (r.kp (k1.trans k2))) (fun y s3 ⟨k3, d, vd, ds, i, k, ea, eb, ed, hk, hz, q⟩ => ?_) fun _ _ x => x)
  subst eb ed
  obtain ⟨t, rfl⟩ := Rd.int_inv vb
  obtain ⟨t', rfl⟩ := Rd.int_inv vd
  have k23 := k2.trans k3
  have := slice_list_sound (vl := .int i t) (vu := .none) (vs := .int k t') (lo := some i) (hi := none) (sp := some k) (r.kp (k1.trans k23)) (va.mono (fz_keep k23.heap) k23.heap) ea hz (.int i t) .none (.int k t') (by simpa using hk)
  exact ⟨this.1, wpAny_mono this.2 (fun _ _ ⟨k4, rd⟩ => ⟨(k1.trans k23).trans k4, .D _, rd, q⟩) fun _ _ x => x⟩
theorem WE_slice_toS {value u : Expr} {p p' : Pos} {Q : AV → Prop}
    (h : WE Γ c st (eval value c.env) fun a => WE Γ c st (eval u c.env) fun b => ∃ x i, a = .D (.str x) ∧ b = .D (.int i) ∧ x.length ≤ sizeLine ∧ Q (.D (.str (Txt.slice x none (some i)))))
    (ht : ∀ o r, letTemporaryGo value o r = pure () := by intro _ _; rfl) : WE Γ c st (eval (.Subscript value (.Slice none (some u) none p) p') c.env) Q := fun s r => by
  refine wpAny_Subscript_Slice (T := "str") F.slot_str_getitem.lookup (wpAny_mono (h s r) (fun u' s1 ⟨k1, a, va, hb⟩ => wpAny_Slice (by
    rw [evalPart_none]
    exact wpAny_pure (wpAny_mono (hb s1 (r.kp k1)) (fun v s2 ⟨k2, b, vb, x, i, ea, eb, hz, q⟩ => by
      subst ea eb
      obtain ⟨t, rfl⟩ := Rd.int_inv vb
      obtain ⟨t', rfl⟩ := Rd.str_inv va
      refine wpAny_pure ⟨typeIs_str _ x t', wpAny_getItem_str_slice (l := none) (u := some (i, t)) (st := none) ⟨_, Heap.get?_push_size _ rfl, rfl, rfl⟩ rfl
        (post_val_or_str ⟨Nat.le_trans (Txt.slice_le x _ _) hz, fun t'' k => ⟨((k1.trans k2).trans (Kp.new s2 _)).trans (Kp.toks _ _), .D (.str _), Rd.str _ _, q⟩⟩)⟩) fun _ _ x => x))) fun _ _ x => x) ht

end
end Mine
end
section
open PySem PySem.Calls PyProof.Rows
namespace Mine

noncomputable def fnEnv (scope : Scope) (L : Addr) (q : Str) (a : Addr) (cd : Value) : Env :=
  { scope := scope, locals := L, globals := mainGlobals, cells := cellsFrom (L + 1) scope.names [], qual := q, func := some a, code := cd, frame := some L, builtins := builtinsNs }

theorem bindL_at {kindOf : Str → Option NameKind} : ∀ (binds : List (Str × Value)) (m : Str → Option Value) (x : Str), x ∉ binds.map (·.1) → bindL kindOf binds m x = m x
  | [], m, x, _ => rfl
  | (n, v) :: r, m, x, h => by
    simp only [List.map_cons, List.mem_cons, not_or] at h
    unfold bindL
    rw [bindL_at r _ x h.2]
    split
    · simp [h.1]
    · rfl
theorem bindL_get {kindOf : Str → Option NameKind} : ∀ (binds : List (Str × Value)) (m : Str → Option Value) (x : Str) (v : Value), (binds.map (·.1)).Nodup → (x, v) ∈ binds → kindOf x = some .local → bindL kindOf binds m x = some v
  | [], m, x, v, _, h, _ => nomatch h
  | (n, u) :: r, m, x, v, hn, h, hk => by
    simp only [List.map_cons, List.nodup_cons] at hn
    unfold bindL
    rcases List.mem_cons.mp h with e | h'
    · cases e
      rw [bindL_at r _ _ hn.1, if_pos hk]
      simp
    · exact bindL_get r _ x v hn.2 h' hk
theorem bindC_at {kindOf : Str → Option NameKind} : ∀ (binds : List (Str × Value)) (m : Str → Option Value) (x : Str), x ∉ binds.map (·.1) → bindC kindOf binds m x = m x
  | [], m, x, _ => rfl
  | (n, v) :: r, m, x, h => by
    simp only [List.map_cons, List.mem_cons, not_or] at h
    unfold bindC
    rw [bindC_at r _ x h.2]
    split
    · rfl
    · simp [h.1]
theorem bindC_get {kindOf : Str → Option NameKind} : ∀ (binds : List (Str × Value)) (m : Str → Option Value) (x : Str) (v : Value), (binds.map (·.1)).Nodup → (x, v) ∈ binds → kindOf x = some .cell → bindC kindOf binds m x = some v
  | [], m, x, v, _, h, _ => nomatch h
  | (n, u) :: r, m, x, v, hn, h, hk => by
    simp only [List.map_cons, List.nodup_cons] at hn
    unfold bindC
    rcases List.mem_cons.mp h with e | h'
    · cases e
      have hnl : ¬ kindOf n = some .local := by rw [hk]; decide
      rw [bindC_at r _ _ hn.1, if_neg hnl]
      simp
    · exact bindC_get r _ x v hn.2 h' hk

theorem cellsFrom_lookup {x : Str} : ∀ (names : List (Str × NameKind)) (n : Nat) (acc : List (Str × Addr)), (x, NameKind.cell) ∈ names ∨ (acc.lookup x).isSome = true → ((cellsFrom n names acc).lookup x).isSome = true
  | [], n, acc, h => h.elim (fun h => nomatch h) id
  | (y, k) :: r, n, acc, h => by
    unfold cellsFrom
    by_cases hk : (k == .cell) = true
    · rw [if_pos hk]
      refine cellsFrom_lookup r (n + 1) _ ?_
      by_cases hy : (x == y) = true
      · exact .inr (by rw [List.lookup_cons, hy]; rfl)
      · have hy' : (x == y) = false := by simpa using hy
        refine h.imp (fun e => ?_) fun e => ?_
        · rcases List.mem_cons.mp e with e | e
          · cases e; simp at hy
          · exact e
        · rw [List.lookup_cons, hy']; exact e
    · rw [if_neg hk]
      refine cellsFrom_lookup r n acc (h.imp (fun e => ?_) id)
      rcases List.mem_cons.mp e with e | e
      · cases e; simp at hk
      · exact e

section
variable {Γ : Gx}

theorem VRL.length {g h : Heap} : ∀ {as : List AV} {vs : List Value}, VRL Γ g h as vs → vs.length = as.length
  | _, _, .nil => rfl
  | _, _, .cons _ t => by simp [VRL.length t]
theorem VRL.zip {g h : Heap} : ∀ {as : List AV} {vs : List Value} {names : List Str} {x : Str} {a : AV}, VRL Γ g h as vs → (names.zip as).lookup x = some a → names.Nodup → ∃ v, (x, v) ∈ names.zip vs ∧ VR Γ g h a v
  | _, _, [], x, a, .nil, e, _ => by simp at e
  | _, _, n :: ns, x, a, .nil, e, _ => by simp at e
  | _, _, [], x, a, .cons h1 t, e, _ => by simp at e
  | b :: as, v :: vs, n :: ns, x, a, .cons h1 t, e, hn => by
    simp only [List.zip_cons_cons, List.lookup_cons] at e
    cases hx : x == n with
    | true =>
      rw [hx] at e; cases e
      rw [beq_iff_eq.mp hx]
      exact ⟨v, by simp, h1⟩
    | false =>
      rw [hx] at e
      obtain ⟨u, h2, h3⟩ := VRL.zip t e (List.nodup_cons.mp hn).2
      exact ⟨u, by simp [h2], h3⟩
theorem zip_keys {α : Type} : ∀ (names : List Str) (vs : List α), vs.length = names.length → (names.zip vs).map (·.1) = names
  | [], vs, h => by simp
  | n :: ns, [], h => by simp at h
  | n :: ns, v :: vs, h => by simp [zip_keys ns vs (by simpa using h)]
/-- what a frame stands on -/
structure Fr where
  L : Addr
  fa : Addr
  q : Str
  cd : Value
  hid : Addr → Prop
  base : Heap
  A : Around
  os : OsState
noncomputable abbrev Fr.cx (κ : Fr) (scope : Scope) (n : Nat) (out : Option (List Env)) : Cx := ⟨fnEnv scope κ.L κ.q κ.fa κ.cd, κ.hid, κ.base, κ.A, n, κ.os, out⟩
theorem len0 {P : List Value → Prop} (h : P []) : ∀ vs : List Value, vs.length = 0 → P vs := fun vs e => by rw [List.eq_nil_of_length_eq_zero e]; exact h
theorem lenS {P : List Value → Prop} {n : Nat} (h : ∀ v vs, vs.length = n → P (v :: vs)) : ∀ vs : List Value, vs.length = n + 1 → P vs := fun vs e => by
  cases vs with
  | nil => cases e
  | cons v vs => exact h v vs (Nat.succ.inj e)
theorem len1 {P : List Value → Prop} (h : ∀ v, P [v]) : ∀ vs : List Value, vs.length = 1 → P vs := lenS fun v => len0 (P := fun l => P (v :: l)) (h v)
theorem len2 {P : List Value → Prop} (h : ∀ v u, P [v, u]) : ∀ vs : List Value, vs.length = 2 → P vs := lenS fun v => len1 (P := fun l => P (v :: l)) (h v)
theorem len3 {P : List Value → Prop} (h : ∀ v u x, P [v, u, x]) : ∀ vs : List Value, vs.length = 3 → P vs := lenS fun v => len2 (P := fun l => P (v :: l)) (h v)
theorem len4 {P : List Value → Prop} (h : ∀ v u x y, P [v, u, x, y]) : ∀ vs : List Value, vs.length = 4 → P vs := lenS fun v => len3 (P := fun l => P (v :: l)) (h v)
/-- a def's contract from its body -/
theorem con_fn {n : Nat} {f : Str} {args : List AV} {res : AV} {j : Nat} {params : Arguments} {body : List Stmt} {scope : Scope} {pos : Pos} (names : List Str)
    (hd : (recsOf PySem.Challenge.pw_pd0153_01)[j]? = some ⟨f, params, body, scope, pos⟩)
    (hlen : args.length = names.length) (hnoM : args.all noM = true) (hres : noM res = true)
    (hbind : ∀ (pm cd doc : Value) (vs : List Value), vs.length = names.length → bindArgs (docDef f params body scope pm cd doc) ⟨vs, []⟩ = pure (names.zip vs))
    (hkind : (names.all fun x => scope.names.lookup x == some .local || scope.names.lookup x == some .cell) = true) (hnd : names.Nodup)
    (hb : ∀ κ : Fr, WS Γ (κ.cx scope n none) (names.zip args) (execs body (κ.cx scope n none).env) fun fl st' => fl = .ret res)
    (hco : scope.isCoroutine = false) (hgen : scope.isGenerator = false) (hk : scope.kind = .function) : Con Γ (n + 1) f args res := by
  intro A X s fa vs rm gd htab hgens hX hfa hv
  obtain ⟨a, o, pm, code, doc, h1, h2, h3, h4⟩ := gd.fn _ (List.mem_of_getElem? hd)
  simp only at h1 h3 h4
  rw [h1] at hfa
  obtain rfl : a = fa := by cases hfa; rfl
  have hvl : vs.length = names.length := hv.length.trans hlen
  have hzk := zip_keys names vs hvl
  refine wpAny_call (codeAny_call_cells (fd := docDef f params body scope pm code doc) (binds := names.zip vs) (by have := rm.depth; have : recursionLimit = 1000 := rfl; (clear hd hlen hnoM hres hbind hkind hb hco hgen hk hgens hX h1 h2 h3 hfa hvl hzk; omega)) h2 h3 gd.nolimit h4 rfl (hbind pm code doc vs hvl) rfl ?_ ?_ hco hgen hk)
  · intro x hx
    have hm : x.1 ∈ names := by rw [← hzk]; exact List.mem_map_of_mem (f := (·.1)) hx
    have := List.all_eq_true.mp hkind _ hm
    rcases Bool.or_eq_true_iff.mp this with q | q
    · exact .inl (beq_iff_eq.mp q)
    · have q := beq_iff_eq.mp q
      exact .inr ⟨q, cellsFrom_lookup _ _ _ (.inl (mem_of_lookup q))⟩
  intro s₁ I
  have he : callEnvC (docDef f params body scope pm code doc) s.heap.objs.size a = fnEnv scope s.heap.objs.size (f ++ ".<locals>.") a code := rfl
  rw [he] at I ⊢
  generalize hL : s.heap.objs.size = L at I ⊢
  generalize hq : (f ++ ".<locals>." : Str) = q at I ⊢
  obtain ⟨I1, I2, I3, I4⟩ := I
  obtain ⟨⟨h₁, tk, rfl⟩, ns, keep, fresh⟩ := I1
  let env : Env := fnEnv scope L q a code
  let κ : Fr := ⟨L, a, q, code, fun b => X b ∨ own env b, s.heap, A.deeper env, s.os⟩
  let c : Cx := κ.cx scope n none
  have ownNew : ∀ b, own env b → s.heap.get? b = none := by
    intro b hb
    have hge : s.heap.objs.size ≤ b := by
      rcases hb with e | ⟨x, e⟩
      · rw [e, hL]; exact Nat.le_refl _
      · rw [hL]; exact Nat.le_of_lt (I4 x b (mem_of_lookup e))
    cases e : s.heap.get? b with
    | none => rfl
    | some o => exact absurd (Heap.lt_size e) (Nat.not_lt.mpr hge)
  have stM : ∀ x b ds, (x, AV.M b ds) ∉ names.zip args := fun x b ds h => by
    have := List.all_eq_true.mp hnoM _ (List.of_mem_zip h).2
    cases this
  have stV : ∀ x b ds, (x, AV.V b ds) ∉ names.zip args := fun x b ds h => by
    have := List.all_eq_true.mp hnoM _ (List.of_mem_zip h).2
    cases this
  have hHd : ∀ b, Hd c (names.zip args) b → X b ∨ own env b := by
    rintro b (h | ⟨x, ds, h⟩)
    · exact h
    · exact absurd h (stM x b ds)
  have sub : Sub (fz s.heap X) (fz h₁ (Hd c (names.zip args))) := fz_mono fun b o hx e => ⟨fun h => (hHd b h).elim hx fun h => (by rw [ownNew b h] at e; cases e), keep b o e⟩
  have r : R Γ c (names.zip args) { s with heap := h₁, toks := tk } := {
    gd := gd
    keep := keep
    rm := ⟨rm.handled, by have := rm.depth; show A.depth + 1 + n ≤ 900; (clear hd hlen hnoM hres hbind hkind hb hco hgen hk hgens hX h1 h2 h3 hfa hvl hzk he hL hq I4 fresh I2 keep ownNew stM stV hHd; omega), by have := rm.units; show A.units + 3 + 4 * n ≤ 4000; (clear hd hlen hnoM hres hbind hkind hb hco hgen hk hgens hX h1 h2 h3 hfa hvl hzk he hL hq I4 fresh I2 keep ownNew stM stV hHd; omega)⟩
    gens := hgens
    os := rfl
    hk := hk
    glob := rfl
    bns := rfl
    frame := ⟨_, ns⟩
    cells := fun x b e => ⟨_, I2 x b e⟩
    ownH := fun b h => .inr h
    ownB := ownNew
    apart := I3
    apartL := fun x b h => Nat.ne_of_gt (I4 x b h)
    low := fun b h => by
      rcases h with h | h | ⟨x, e⟩
      · obtain ⟨o, e⟩ := hX b h
        exact ⟨o, keep b o e⟩
      · obtain ⟨o, _, _, e, _⟩ := ns
        exact ⟨o, h ▸ e⟩
      · obtain ⟨o, e, _⟩ := I2 x b e
        exact ⟨o, e⟩
    tab := htab.mono sub
    fo := fun _ e => (by cases e)
    bound := fun x av e => by
      obtain ⟨v, hm, hv'⟩ := hv.zip e hnd
      refine ⟨v, ?_, VR.noM_mono (List.all_eq_true.mp hnoM _ (List.of_mem_zip (mem_of_lookup e)).2) hv' sub⟩
      have hnm : x ∈ names := (List.of_mem_zip hm).1
      have hnd' : ((names.zip vs).map (·.1)).Nodup := by rw [hzk]; exact hnd
      rcases Bool.or_eq_true_iff.mp (List.all_eq_true.mp hkind _ hnm) with q | q
      · have q := beq_iff_eq.mp q
        exact .inl ⟨q, _, ns, bindL_get _ _ x v hnd' hm q⟩
      · have q := beq_iff_eq.mp q
        obtain ⟨b, hb⟩ := Option.isSome_iff_exists.mp (cellsFrom_lookup (x := x) scope.names (L + 1) [] (.inl (mem_of_lookup q)))
        refine .inr ⟨.inl q, b, hb, ?_⟩
        have := I2 x b hb
        rw [bindC_get _ _ x v hnd' hm q] at this
        exact this
    keys := by rw [zip_keys names args hlen]; exact hnd
    mHid := fun x b ds h => absurd h (stM x b ds)
    vOwn := fun x b ds h => absurd h (stV x b ds)
    mBase := fun x b ds h => absurd h (stM x b ds)
    mApart := fun x y b ds es h _ => absurd h (stM x b ds) }
  refine wpAny_mono (hb κ _ r) (fun fl s' ⟨st', fl', mv, r', hfl, e⟩ => ?_) fun _ _ x => x.elim
  subst e
  obtain ⟨v, rfl, hv'⟩ := hfl
  refine ⟨⟨r'.gens.trans hgens.symm, r'.os, r'.keep⟩, VR.noM_mono hres hv' (fz_mono fun b o hx e => ⟨fun h => hx (.inl (.inl h)), e⟩)⟩
end
end Mine
end
section
open PySem PySem.Calls PyProof.Rows
namespace Mine
section
variable {Γ : Gx} {c : Cx} {st : St} {s : Shared}

/-! type(x), isinstance, issubclass -/
theorem WE_typeOf {e : Expr} {np pos : Pos} {Q : AV → Prop} (h : WE Γ c st (eval e c.env) fun a => ∃ x, a = .D (.str x) ∧ Q (.T "str"))
    (hx : c.env.kindOf "type" = some .globalImplicit := by rfl) (he : starEach [e] c.env = [(false, eval e c.env)] := by rfl)
    (hcall : eval (.Call (.Name "type" np) [e] [] pos) c.env = (do callWith pos (← eval (.Name "type" np) c.env) [] (backTo pos (starEach [e] c.env)) (backToKw pos (keywordEach [] c.env))) := by rfl) :
    WE Γ c st (eval (.Call (.Name "type" np) [e] [] pos) c.env) Q :=
  WE_typecall (T := "type") (fun avs z => ∃ x, avs = [.D (.str x)] ∧ z = .T "str") (fun s avs vs z r va hz => by
    obtain ⟨x, rfl, rfl⟩ := hz
    cases va with
    | cons h1 t =>
      cases t
      obtain ⟨t, rfl⟩ := Rd.str_inv h1
      exact call_type_of (typeIs_str s x t) (by decide +kernel) ⟨Kp.refl s, rfl⟩)
    (WA_cons (h.mono fun a ⟨x, ea, q⟩ => WA_nil ⟨.T "str", ⟨x, by rw [ea], rfl⟩, q⟩) he) hx bi_type he rfl hcall

theorem WE_isi_bytes {e : Expr} {np np2 pos : Pos} {Q : AV → Prop} (h : WE Γ c st (eval e c.env) fun a => ∃ x, a = .D (.str x) ∧ Q (.D (.bool false)))
    (hx : c.env.kindOf "isinstance" = some .globalImplicit := by rfl) (hx2 : c.env.kindOf "bytes" = some .globalImplicit := by rfl)
    (he : starEach [e, .Name "bytes" np2] c.env = (false, eval e c.env) :: starEach [.Name "bytes" np2] c.env := by rfl)
    (hcall : eval (.Call (.Name "isinstance" np) [e, .Name "bytes" np2] [] pos) c.env = (do callWith pos (← eval (.Name "isinstance" np) c.env) [] (backTo pos (starEach [e, .Name "bytes" np2] c.env)) (backToKw pos (keywordEach [] c.env))) := by rfl) :
    WE Γ c st (eval (.Call (.Name "isinstance" np) [e, .Name "bytes" np2] [] pos) c.env) Q :=
  WE_builtin (id := "isinstance") (fun avs z => ∃ x, avs = [.D (.str x), .T "bytes"] ∧ z = .D (.bool false)) (fun s avs vs z r va hz => by
    obtain ⟨x, rfl, rfl⟩ := hz
    cases va with
    | cons h1 t =>
      cases t with
      | cons h2 t =>
        cases t
        obtain ⟨t, rfl⟩ := Rd.str_inv h1
        cases h2
        exact IsiPair.str_bytes ⟨Kp.toks s _, Rd.bool _⟩)
    (WA_cons (h.mono fun a ⟨x, ea, q⟩ => WA_cons (WE_type bi_bytes (WA_nil ⟨_, ⟨x, by rw [ea], rfl⟩, q⟩) hx2)) he) hx bi_isinstance he rfl hcall

theorem nested_str {prog : Program} {w : World} (A : Around) (E : Value → Shared → Prop) (Q : Value → Shared → Prop) (s : Shared) (hq : Q (.bool true) s) :
    wpAny (model prog w) A (call (.builtin "issubclass.nested") [.type "str", .type "str", rawInt 1]) Q E s := by
  have hself : isSubtype (.type "str") (.type "str") = pure true := PySem.isSubtype_str_str
  have hty : typeOf (.type "str") = pure (.type "type") := by rfl
  refine call_function_entry (by decide +kernel) (by decide +kernel) F.entry_issubclass_nested (by unfold argsOk; kernel_rfl) ?_
  unfold Builtin.«issubclass.nested»
  repeat (any_goals (first | assumption | (rw [hself]) | wp_step))
  exact ⟨_, rfl, hq⟩
theorem sub_str (A : Around) (a : Addr) (k : Nat) (E : Value → Shared → Prop) (Q : Value → Shared → Prop) (s : Shared) (ha : s.heap.get? a = some (plainT #[.type "str", .type "bytes"] k)) (hq : ∀ t, Q (.bool true) { s with toks := t }) :
    wpAny (mo Γ) A (call (.builtin "issubclass") [.type "str", .ref a]) Q E s := by
  refine call_issubclass (S := fun _ R s => s.heap.get? a = some (plainT #[.type "str", .type "bytes"] k) ∧ ∀ t, R (.ok (.ret (.bool true))) { s with toks := t }) (fun prog w A R s hs => issubclass_outer ?_) ⟨ha, fun t => hq t⟩
  obtain ⟨hs, hr⟩ := hs
  have hT : s.TypeIs (.ref a) "tuple" := ⟨_, hs, rfl⟩
  unfold Builtin.«issubclass.nested»
  repeat (any_goals (first | assumption | wp_step))
  rw [show isSubtype (Value.type "tuple") (Value.type "tuple") = pure true from by rw [isSubtype_type]; kernel_rfl]
  refine wpAny_pure ?_
  rw [if_pos rfl]
  dsimp only
  rw [if_neg (by decide)]
  refine wpAny_bind ?_
  unfold seqItems?
  refine wpAny_bind (wpAny_load hs ?_)
  refine wpAny_pure ?_
  simp only [Option.getD_some, List.forIn_cons, List.forIn_toArray]
  refine wpAny_bind (wpAny_bind (wpAny_bind (nested_str _ _ _ _ ?_)))
  refine wpAny_bind (wpAny_truthy_bool ?_)
  rw [if_pos rfl]
  refine wpAny_bind ?_
  refine wpAny_pure (wpAny_pure (wpAny_pure (wpAny_pure ?_)))
  exact hr s.toks

theorem VRL.types {g h : Heap} : ∀ {ns : List String} {vs : List Value}, VRL Γ g h (ns.map AV.T) vs → vs = ns.map Value.type
  | [], _, va => by cases va; rfl
  | n :: ns, _, va => by cases va with | cons h1 t => cases h1; rw [VRL.types t]; rfl
theorem WE_TupleT {elts : List Expr} {k : Nat} {pos : Pos} {Q : AV → Prop} (h : WA Γ c st (spliced (backTo pos (starEach elts c.env))) fun as => ∃ ns, as = ns.map AV.T ∧ ns.length ≤ sizeLine ∧ Q (.TT ns)) :
    WE Γ c st (eval (.Tuple elts k pos) c.env) Q := fun s R =>
  Tuple_ (wpAny_mono (h s R) (fun vs s1 ⟨k1, as, va, ns, e, hz, q⟩ => by
    subst e
    have hvs := VRL.types va
    subst hvs
    refine wpAny_newObj_type ⟨k1.trans (Kp.new s1 _), .TT ns, ⟨s1.heap.objs.size, 0, rfl, fz_some.mpr ⟨fun hx => Nat.lt_irrefl _ ((R.kp k1).low' _ hx), Heap.get?_push_size _ rfl⟩⟩, q⟩ ?_
    show (ns.map Value.type).toArray.size ≤ sizeLine
    rw [List.size_toArray, List.length_map]; exact hz) fun _ _ x => x)

theorem WE_issub {e : Expr} {es : List Expr} {tk : Nat} {np pos tp : Pos} {Q : AV → Prop} (h : WE Γ c st (eval e c.env) fun a => a = .T "str" ∧ WE Γ c st (eval (.Tuple es tk tp) c.env) fun b => b = .TT ["str", "bytes"] ∧ Q (.D (.bool true)))
    (hx : c.env.kindOf "issubclass" = some .globalImplicit := by rfl)
    (he : starEach [e, .Tuple es tk tp] c.env = (false, eval e c.env) :: starEach [.Tuple es tk tp] c.env := by rfl)
    (hcall : eval (.Call (.Name "issubclass" np) [e, .Tuple es tk tp] [] pos) c.env = (do callWith pos (← eval (.Name "issubclass" np) c.env) [] (backTo pos (starEach [e, .Tuple es tk tp] c.env)) (backToKw pos (keywordEach [] c.env))) := by rfl) :
    WE Γ c st (eval (.Call (.Name "issubclass" np) [e, .Tuple es tk tp] [] pos) c.env) Q :=
  WE_builtin (id := "issubclass") (fun avs z => avs = [.T "str", .TT ["str", "bytes"]] ∧ z = .D (.bool true)) (fun s avs vs z r va hz => by
    obtain ⟨rfl, rfl⟩ := hz
    cases va with
    | cons h1 t =>
      cases t with
      | cons h2 t =>
        cases t
        cases h1
        obtain ⟨a, k, rfl, h3⟩ := h2
        exact sub_str _ a k _ _ s (fz_sub _ _ _ _ h3) fun t => ⟨Kp.toks s _, Rd.bool _⟩)
    (WA_cons (h.mono fun a ⟨ea, hb⟩ => WA_cons (hb.mono fun b ⟨eb, q⟩ => WA_nil ⟨_, ⟨by rw [ea, eb], rfl⟩, q⟩)) he) hx bi_issubclass he rfl hcall

/-! the first defs -/
theorem con_get_sep (x : Str) : Con Γ 1 "_get_sep" [.D (.str x)] (.D (.str "/")) := by
  refine con_fn (j := 5) ["path"] (by rfl) rfl rfl rfl ?_ (by decide +kernel) (by decide +kernel) ?_ rfl rfl rfl
  · exact fun pm cd doc => len1 fun v => rfl
  · intro κ
    refine WS_cons (WS_If (WB_plain (WE_isi_bytes (WE_name rfl ⟨x, rfl, _, .bool _, ?_⟩))))
    refine ⟨fun h => (by cases h), fun _ => ?_⟩
    refine WS_cons (WS_Return (WE_str ?_))
    rfl
theorem con_fspath (x : Str) : Con Γ 1 "fspath" [.D (.str x)] (.D (.str x)) := by
  refine con_fn (j := 3) ["path"] (by rfl) rfl rfl rfl ?_ (by decide +kernel) (by decide +kernel) ?_ rfl rfl rfl
  · exact fun pm cd doc => len1 fun v => rfl
  · intro κ
    refine WS_cons (WS_Assign (WE_typeOf (WE_name rfl ⟨x, rfl, rfl, ?_⟩)))
    refine WS_cons (WS_If (WB_plain (WE_issub (WE_name rfl ⟨rfl, WE_TupleT (WA_cons (WE_type bi_str (WA_cons (WE_type bi_bytes (WA_nil ⟨["str", "bytes"], rfl, by decide, rfl, _, .bool _, ?_⟩)))))⟩))))
    refine ⟨fun _ => ?_, fun h => (by cases h)⟩
    refine WS_cons (WS_Return (WE_name rfl ?_))
    rfl
end
end Mine
end
section
open PySem PySem.Calls PyProof.Rows
namespace Mine

/-- the order of texts -/
noncomputable def strLe (x y : Str) : Bool := !decide (y.cps.toList < x.cps.toList)
noncomputable def srt (ss : List Str) : List Str := ss.mergeSort strLe

section
variable {Γ : Gx} {c : Cx} {st : St} {s : Shared}

/-- iterating a list within a built-in -/
theorem iter_list {A : Around} {E : Value → Shared → Prop} {l : Addr} {vs : Array Value} {n : Nat} {K : Value → Shared → Prop} (hh : A.handled = none) (h1 : s.heap.get? l = some (plainL vs n))
    (h : ∀ I s2, s2 = { s with heap := s.heap.push { cls := .type "list_iterator", data := .fields #[.ref l, .int 0 0] } } → I = s.heap.objs.size →
      Walks Γ.prog Γ.w A I [I, l] [I] vs.size (fun i v => vs[i]? = some v) (fun i h => h.IsListIter I l i ∧ h.IsList l vs) → s2.heap.IsListIter I l 0 ∧ s2.heap.IsList l vs → (∀ b ∈ [I, l], b < s2.heap.objs.size) →
      (∀ h', (∀ b o, b ∉ [I] → s2.heap.get? b = some o → h'.get? b = some o) → Sub s.heap h') → K (.ref I) s2) :
    wpAny (mo Γ) A (pyIter (.ref l)) K E s := by
  have hlt := Heap.lt_size h1
  refine wpAny_pyIter_list (plainL_isList h1) ?_
  refine h s.heap.objs.size _ rfl rfl (Walks.list hh _ l (Nat.ne_of_lt hlt) vs) ⟨⟨_, Heap.get?_push_size _ rfl, rfl, rfl⟩, (plainL_isList h1).push _⟩ ?_ ?_
  · intro b hb
    show b < (s.heap.push _).objs.size
    rw [Heap.size_push]
    simp only [List.mem_cons, List.not_mem_nil, or_false] at hb
    rcases hb with hb | hb
    · rw [hb]; exact Nat.lt_succ_self _
    · rw [hb]; exact Nat.lt_succ_of_lt hlt
  · intro h' hk b o e
    exact hk b o (by simp; exact Nat.ne_of_lt (Heap.lt_size e)) (Heap.get?_push_of_some _ e)

inductive BLen : List AV → AV → Prop
  | list (a : AV) (ds : List PyData) (e : items a = some ds) (h : ds.length ≤ sizeLine) : BLen [a] (.D (.int ds.length))
  | str (x : Str) (h : x.length ≤ sizeLine) : BLen [.D (.str x)] (.D (.int x.length))
theorem len_sound {avs : List AV} {vs : List Value} {z : AV} (r : R Γ c st s) (va : VRL Γ (fz s.heap (Hd c st)) s.heap avs vs) (hz : BLen avs z) :
    wpAny (mo Γ) c.A (call (.builtin "len") vs) (fun x s' => Kp s s' ∧ VR Γ (fz s'.heap (Hd c st)) s'.heap z x) (fun _ _ => False) s := by
  have hsl : sizeLine = 2 ^ 24 := rfl
  cases hz with
  | list a ds e h =>
    cases va with
    | cons h1 t =>
      cases t
      obtain ⟨l, its, n, rfl, h2, h3⟩ := h1.items e
      have hl := h3.length
      rw [Array.length_toList] at hl
      refine call_len_list (plainL_isList h2) (by omega) ⟨Kp.toks s _, ?_⟩
      rw [hl]
      exact Rd.int _ _
  | str x h =>
    cases va with
    | cons h1 t =>
      cases t
      obtain ⟨t, rfl⟩ := Rd.str_inv h1
      exact call_len_gives (typeIs_str s x t) F.slot_str_len F.entry_str_len (F.args_str_len_1 _) (gives_str_len x t) (by (clear hsl h; omega)) (by omega) ⟨Kp.toks s _, Rd.int _ _⟩

inductive BAbs : List AV → AV → Prop
  | mk (i : Int) : BAbs [.D (.int i)] (.D (.int (if i < 0 then -i else i)))
theorem abs_sound {avs : List AV} {vs : List Value} {z : AV} (r : R Γ c st s) (va : VRL Γ (fz s.heap (Hd c st)) s.heap avs vs) (hz : BAbs avs z) :
    wpAny (mo Γ) c.A (call (.builtin "abs") vs) (fun x s' => Kp s s' ∧ VR Γ (fz s'.heap (Hd c st)) s'.heap z x) (fun _ _ => False) s := by
  cases hz with
  | mk i =>
    cases va with
    | cons h1 t =>
      cases t
      obtain ⟨t, rfl⟩ := Rd.int_inv h1
      exact call_abs_int fun _ _ => ⟨Kp.toks s _, Rd.int _ _⟩

theorem preSum_take (xs : List Int) : ∀ n, n ≤ xs.length → preSum (fun i => xs.getD i 0) n = (xs.take n).sum
  | 0, _ => by simp [preSum]
  | n + 1, h => by
    rw [preSum, preSum_take xs n (by exact Nat.le_of_lt h), List.take_succ_eq_append_getElem (by assumption), List.sum_append]
    simp [List.getD_eq_getElem?_getD, List.getElem?_eq_getElem (show n < xs.length by assumption)]
inductive BSum : List AV → AV → Prop
  | mk (a : AV) (xs : List Int) (e : items a = some (xs.map .int)) : BSum [a] (.D (.int xs.sum))
theorem sum_sound {avs : List AV} {vs : List Value} {z : AV} (r : R Γ c st s) (va : VRL Γ (fz s.heap (Hd c st)) s.heap avs vs) (hz : BSum avs z) :
    wpAny (mo Γ) c.A (call (.builtin "sum") vs) (fun x s' => Kp s s' ∧ VR Γ (fz s'.heap (Hd c st)) s'.heap z x) (fun _ _ => False) s := by
  cases hz with
  | mk a xs e =>
    cases va with
    | cons h1 t =>
      cases t
      obtain ⟨l, its, n, rfl, h2, h3⟩ := h1.items e
      have hl := h3.length
      rw [Array.length_toList, List.length_map] at hl
      refine call_sum_walkG (iter_list (by exact r.rm.handled) h2 fun I s2 es2 eI W hst hfp hk => ?_)
      refine ⟨I, _, _, _, _, _, fun i => xs.getD i 0, rfl, W, hst, hfp, fun i v hv => ?_, fun h' tk t' hk' => ?_⟩
      · obtain ⟨d, hd, rd⟩ := h3.get' (i := i) (v := v) (by simpa using hv)
        rw [List.getElem?_map, Option.map_eq_some_iff] at hd
        obtain ⟨x, hx, rfl⟩ := hd
        obtain ⟨t, rfl⟩ := rd.int_inv
        exact ⟨t, by dsimp only; rw [List.getD_eq_getElem?_getD, hx]; rfl⟩
      · subst es2
        have kp : Kp s { s with heap := h', toks := tk } := ⟨rfl, rfl, hk h' hk'⟩
        refine ⟨kp, ?_⟩
        rw [hl, preSum_take xs xs.length (Nat.le_refl _), List.take_length]
        exact Rd.int _ _

inductive BMax : List AV → AV → Prop
  | two (i j : Int) : BMax [.D (.int i), .D (.int j)] (.D (.int (max i j)))
inductive BMin : List AV → AV → Prop
  | two (i j : Int) : BMin [.D (.int i), .D (.int j)] (.D (.int (min i j)))
theorem max_sound {avs : List AV} {vs : List Value} {z : AV} (r : R Γ c st s) (va : VRL Γ (fz s.heap (Hd c st)) s.heap avs vs) (hz : BMax avs z) :
    wpAny (mo Γ) c.A (call (.builtin "max") vs) (fun x s' => Kp s s' ∧ VR Γ (fz s'.heap (Hd c st)) s'.heap z x) (fun _ _ => False) s := by
  cases hz with
  | two i j =>
    cases va with
    | cons h1 t =>
      cases t with
      | cons h2 t =>
        cases t
        obtain ⟨t, rfl⟩ := Rd.int_inv h1
        obtain ⟨t', rfl⟩ := Rd.int_inv h2
        refine max_two_ints r.rm.handled fun h' tk hk => ⟨⟨rfl, rfl, hk⟩, ?_⟩
        show Rd _ _ _
        by_cases hij : j > i
        · rw [if_pos hij, show max i j = j by omega]; exact Rd.int _ _
        · rw [if_neg hij, show max i j = i by omega]; exact Rd.int _ _
theorem min_sound {avs : List AV} {vs : List Value} {z : AV} (r : R Γ c st s) (va : VRL Γ (fz s.heap (Hd c st)) s.heap avs vs) (hz : BMin avs z) :
    wpAny (mo Γ) c.A (call (.builtin "min") vs) (fun x s' => Kp s s' ∧ VR Γ (fz s'.heap (Hd c st)) s'.heap z x) (fun _ _ => False) s := by
  cases hz with
  | two i j =>
    cases va with
    | cons h1 t =>
      cases t with
      | cons h2 t =>
        cases t
        obtain ⟨t, rfl⟩ := Rd.int_inv h1
        obtain ⟨t', rfl⟩ := Rd.int_inv h2
        refine min_two_ints r.rm.handled fun h' tk hk => ⟨⟨rfl, rfl, hk⟩, ?_⟩
        show Rd _ _ _
        by_cases hij : j < i
        · rw [if_pos hij, show min i j = j by omega]; exact Rd.int _ _
        · rw [if_neg hij, show min i j = i by omega]; exact Rd.int _ _

/-- max of a list of ints -/
inductive BMaxL : List AV → AV → Prop
  | mk (a : AV) (xs : List Int) (m : Int) (e : items a = some (xs.map .int)) (hm : m ∈ xs) (hle : ∀ x ∈ xs, x ≤ m) : BMaxL [a] (.D (.int m))
theorem argBest_lt (bt : Nat → Nat → Bool) : ∀ n, argBest bt n ≤ n
  | 0 => Nat.le_refl _
  | n + 1 => by
    rw [argBest]
    split
    · exact Nat.le_refl _
    · exact Nat.le_succ_of_le (argBest_lt bt n)
theorem argBest_max (f : Nat → Int) : ∀ n, ∀ i, i ≤ n → f i ≤ f (argBest (fun i j => decide (f i > f j)) n)
  | 0, i, h => by obtain rfl : i = 0 := by omega
                  exact Int.le_refl _
  | n + 1, i, h => by
    have ih := argBest_max f n
    rw [argBest]
    by_cases hc : f (n + 1) > f (argBest (fun i j => decide (f i > f j)) n)
    · rw [if_pos (decide_eq_true hc)]
      by_cases hi : i = n + 1
      · rw [hi]; exact Int.le_refl _
      · have := ih i (by omega); omega
    · rw [if_neg (by simpa using hc)]
      by_cases hi : i = n + 1
      · rw [hi]; omega
      · exact ih i (by omega)
theorem maxL_sound {avs : List AV} {vs : List Value} {z : AV} (r : R Γ c st s) (va : VRL Γ (fz s.heap (Hd c st)) s.heap avs vs) (hz : BMaxL avs z) :
    wpAny (mo Γ) c.A (call (.builtin "max") vs) (fun x s' => Kp s s' ∧ VR Γ (fz s'.heap (Hd c st)) s'.heap z x) (fun _ _ => False) s := by
  cases hz with
  | mk a xs m e hm hle =>
    cases va with
    | cons h1 t =>
      cases t
      obtain ⟨l, its, n, rfl, h2, h3⟩ := h1.items e
      have hl := h3.length
      rw [Array.length_toList, List.length_map] at hl
      have hpos : 0 < xs.length := List.length_pos_of_mem hm
      have hval : ∀ i v, its[i]? = some v → ∃ t, v = .int (xs.getD i 0) t ∧ i < xs.length := fun i v hv => by
        obtain ⟨d, hd, rd⟩ := h3.get' (i := i) (v := v) (by simpa using hv)
        rw [List.getElem?_map, Option.map_eq_some_iff] at hd
        obtain ⟨x, hx, rfl⟩ := hd
        obtain ⟨t, rfl⟩ := rd.int_inv
        exact ⟨t, by rw [List.getD_eq_getElem?_getD, hx]; rfl, (List.getElem?_eq_some_iff.mp hx).1⟩
      refine call_max_walk (iter_list (by exact r.rm.handled) h2 fun I s2 es2 eI W hst hfp hk => ?_)
      refine ⟨I, _, _, _, _, _, fun i j => decide (xs.getD i 0 > xs.getD j 0), rfl, W, hst, hfp, by omega, ?_, fun v h' tk hP hk' => ?_⟩
      · intro i j vi vj s' Q' E' hi hj hq
        obtain ⟨t, rfl, _⟩ := hval i vi hi
        obtain ⟨t', rfl, _⟩ := hval j vj hj
        exact PyProof.Rows.gt_int hq
      · subst es2
        have kp : Kp s { s with heap := h', toks := tk } := ⟨rfl, rfl, hk h' hk'⟩
        refine ⟨kp, ?_⟩
        obtain ⟨t, rfl, hlt⟩ := hval _ v hP
        have hmx := argBest_max (fun i => xs.getD i 0) (its.size - 1)
        obtain ⟨k, hk1, hk2⟩ := List.getElem_of_mem hm
        have h4 := hmx k (by omega)
        rw [show xs.getD k 0 = m by rw [List.getD_eq_getElem?_getD, List.getElem?_eq_getElem hk1, hk2]; rfl] at h4
        have h5 := hle _ (List.getElem_mem hlt)
        have h6 : xs.getD (argBest (fun i j => decide (xs.getD i 0 > xs.getD j 0)) (its.size - 1)) 0 = xs[argBest (fun i j => decide (xs.getD i 0 > xs.getD j 0)) (its.size - 1)] := by
          rw [List.getD_eq_getElem?_getD, List.getElem?_eq_getElem hlt]; rfl
        rw [h6] at h4 ⊢
        rw [Int.le_antisymm h5 h4]
        exact Rd.int _ _

inductive BAll : List AV → AV → Prop
  | mk (a : AV) (bs : List Bool) (e : items a = some (bs.map .bool)) : BAll [a] (.D (.bool (bs.all id)))
theorem all_sound {avs : List AV} {vs : List Value} {z : AV} (r : R Γ c st s) (va : VRL Γ (fz s.heap (Hd c st)) s.heap avs vs) (hz : BAll avs z) :
    wpAny (mo Γ) c.A (call (.builtin "all") vs) (fun x s' => Kp s s' ∧ VR Γ (fz s'.heap (Hd c st)) s'.heap z x) (fun _ _ => False) s := by
  cases hz with
  | mk a bs e =>
    cases va with
    | cons h1 t =>
      cases t
      obtain ⟨l, its, n, rfl, h2, h3⟩ := h1.items e
      have hl := h3.length
      rw [Array.length_toList, List.length_map] at hl
      refine call_all_walk (iter_list (by exact r.rm.handled) h2 fun I s2 es2 eI W hst hfp hk => ?_)
      refine ⟨I, _, _, _, _, _, fun i => bs.getD i true, rfl, W, hst, ?_, fun h' tk hk' => ?_⟩
      · intro i v s' Q' E' hv hq
        obtain ⟨d, hd, rd⟩ := h3.get' (i := i) (v := v) (by simpa using hv)
        rw [List.getElem?_map, Option.map_eq_some_iff] at hd
        obtain ⟨x, hx, rfl⟩ := hd
        rw [rd.bool_inv]
        refine wpAny_truthy_bool ?_
        dsimp only at hq
        rw [List.getD_eq_getElem?_getD, hx] at hq
        exact hq
      · subst es2
        refine ⟨⟨rfl, rfl, hk h' hk'⟩, ?_⟩
        have : (List.range its.size).all (fun i => bs.getD i true) = bs.all id := by
          rw [hl, Bool.eq_iff_iff, List.all_eq_true, List.all_eq_true]
          constructor
          · intro h x hx
            obtain ⟨k, hk1, hk2⟩ := List.getElem_of_mem hx
            have := h k (by simpa using hk1)
            rw [List.getD_eq_getElem?_getD, List.getElem?_eq_getElem hk1, hk2] at this
            exact this
          · intro h i hi
            have hi' : i < bs.length := by simpa using hi
            rw [List.getD_eq_getElem?_getD, List.getElem?_eq_getElem hi']
            exact h _ (List.getElem_mem hi')
        rw [this]
        exact Rd.bool _
end
end Mine
end
section
open PySem PySem.Calls PyProof.Rows
namespace Mine

theorem strLe_iff {x y : Str} : strLe x y = true ↔ x.cps.toList ≤ y.cps.toList := by
  unfold strLe
  rw [Bool.not_eq_true', decide_eq_false_iff_not, List.not_lt]
theorem strLe_trans (a b c : Str) (h1 : strLe a b = true) (h2 : strLe b c = true) : strLe a c = true :=
  strLe_iff.mpr (List.le_trans (strLe_iff.mp h1) (strLe_iff.mp h2))
theorem strLe_total (a b : Str) : (strLe a b || strLe b a) = true := by
  rw [Bool.or_eq_true, strLe_iff, strLe_iff]; exact List.le_total _ _
theorem strLe_antisymm {a b : Str} (h1 : strLe a b = true) (h2 : strLe b a = true) : a = b := by
  have := List.le_antisymm (strLe_iff.mp h1) (strLe_iff.mp h2)
  cases a; cases b
  simp only [Str.mk.injEq]
  exact Array.toList_inj.mp this
theorem srt_perm (ss : List Str) : (srt ss).Perm ss := List.mergeSort_perm _ _
theorem srt_sorted (ss : List Str) : (srt ss).Pairwise fun a b => strLe a b = true := List.pairwise_mergeSort strLe_trans strLe_total ss
theorem srt_uniq {l ss : List Str} (hp : l.Perm ss) (hs : l.Pairwise fun a b => strLe a b = true) : l = srt ss :=
  List.Perm.eq_of_pairwise (le := fun a b => strLe a b = true) (fun a b _ _ h1 h2 => strLe_antisymm h1 h2) hs (srt_sorted ss) (hp.trans (srt_perm ss).symm)
theorem srt_congr {l l' : List Str} (h : l.Perm l') : srt l = srt l' := srt_uniq ((srt_perm l).trans h) (srt_sorted l)
theorem rising_pairwise : ∀ (l : List Str) (p : Str), risingS p l = true → (p :: l).Pairwise fun a b => strLe a b = true
  | [], p, _ => by simp
  | x :: r, p, h => by
    unfold risingS at h
    rw [Bool.and_eq_true] at h
    have ih := rising_pairwise r x h.2
    have h1 : strLe p x = true := by
      unfold strLe
      have := h.1
      rw [ltCps_eq] at this
      exact this
    refine List.pairwise_cons.mpr ⟨fun y hy => ?_, ih⟩
    rcases List.mem_cons.mp hy with e | hy
    · rw [e]; exact h1
    · exact strLe_trans p x y h1 ((List.pairwise_cons.mp ih).1 y hy)
theorem sortedS_pairwise : ∀ (l : List Str), sortedS l = true → l.Pairwise fun a b => strLe a b = true
  | [], _ => by simp
  | x :: r, h => rising_pairwise r x h
theorem rdL_strs {g : Heap} : ∀ {vs : List Value} {ss : List Str}, StrsAre vs ss → RdL g vs (ss.map .str)
  | _, _, .nil => .nil
  | _, _, .cons x t h => .cons (.str x t) (rdL_strs h)

section
variable {Γ : Gx} {c : Cx} {st : St} {s : Shared}

inductive BSorted : List AV → AV → Prop
  | mk (a : AV) (ss : List Str) (e : items a = some (ss.map .str)) (h : ss.length < 64) : BSorted [a] (.D (.list ((srt ss).map .str)))
theorem sorted_sound {avs : List AV} {vs : List Value} {z : AV} (r : R Γ c st s) (va : VRL Γ (fz s.heap (Hd c st)) s.heap avs vs) (hz : BSorted avs z) :
    wpAny (mo Γ) c.A (call (.builtin "sorted") vs) (fun x s' => Kp s s' ∧ VR Γ (fz s'.heap (Hd c st)) s'.heap z x) (fun _ _ => False) s := by
  cases hz with
  | mk a ss e h =>
    cases va with
    | cons h1 t =>
      cases t
      obtain ⟨l, its, n, rfl, h2, h3⟩ := h1.items e
      have hl := h3.length
      rw [List.length_map] at hl
      refine sorted_strs (vs := its.toList) (plainL_isList h2) (strsAre_of h3) (by omega) fun out ss' a1 a2 a3 => ?_
      obtain ⟨ep, he⟩ := sortedAll_at s.heap its.toList out
      refine ⟨⟨rfl, rfl, fun _ _ => sortedAll_old⟩, ?_⟩
      rw [← srt_uniq a2 (sortedS_pairwise _ a3)]
      refine Rd.list (n := ep) (fz_some.mpr ⟨fun hx => ?_, he⟩) (rdL_strs a1)
      exact absurd (r.low' _ hx) (Nat.not_lt.mpr (Nat.le_succ _))

/-! the built-ins as rules for calls of one and of two arguments -/
theorem WE_b1 {x : Str} {np pos : Pos} {e : Expr} {id : String} {Q : AV → Prop} (P : List AV → AV → Prop) (hb : BI x (.builtin id))
    (sound : ∀ s avs vs z, R Γ c st s → VRL Γ (fz s.heap (Hd c st)) s.heap avs vs → P avs z →
      wpAny (mo Γ) c.A (call (.builtin id) vs) (fun x s' => Kp s s' ∧ VR Γ (fz s'.heap (Hd c st)) s'.heap z x) (fun _ _ => False) s)
    (h : WE Γ c st (eval e c.env) (K1l P Q))
    (hx : c.env.kindOf x = some .globalImplicit) (he : starEach [e] c.env = [(false, eval e c.env)])
    (hcall : eval (.Call (.Name x np) [e] [] pos) c.env = (do callWith pos (← eval (.Name x np) c.env) [] (backTo pos (starEach [e] c.env)) (backToKw pos (keywordEach [] c.env)))) :
    WE Γ c st (eval (.Call (.Name x np) [e] [] pos) c.env) Q :=
  WE_builtin P sound (WA_cons (h.mono fun a ⟨z, hz, q⟩ => WA_nil ⟨z, hz, q⟩) he) hx hb he rfl hcall
theorem WE_len {np pos : Pos} {e : Expr} {Q : AV → Prop} (h : WE Γ c st (eval e c.env) (K1l BLen Q))
    (hx : c.env.kindOf "len" = some .globalImplicit := by rfl) (he : starEach [e] c.env = [(false, eval e c.env)] := by rfl)
    (hcall : eval (.Call (.Name "len" np) [e] [] pos) c.env = (do callWith pos (← eval (.Name "len" np) c.env) [] (backTo pos (starEach [e] c.env)) (backToKw pos (keywordEach [] c.env))) := by rfl) :
    WE Γ c st (eval (.Call (.Name "len" np) [e] [] pos) c.env) Q := WE_b1 BLen bi_len (fun _ _ _ _ => len_sound) h hx he hcall
theorem WE_abs {np pos : Pos} {e : Expr} {Q : AV → Prop} (h : WE Γ c st (eval e c.env) (K1l BAbs Q))
    (hx : c.env.kindOf "abs" = some .globalImplicit := by rfl) (he : starEach [e] c.env = [(false, eval e c.env)] := by rfl)
    (hcall : eval (.Call (.Name "abs" np) [e] [] pos) c.env = (do callWith pos (← eval (.Name "abs" np) c.env) [] (backTo pos (starEach [e] c.env)) (backToKw pos (keywordEach [] c.env))) := by rfl) :
    WE Γ c st (eval (.Call (.Name "abs" np) [e] [] pos) c.env) Q := WE_b1 BAbs bi_abs (fun _ _ _ _ => abs_sound) h hx he hcall
theorem WE_sum {np pos : Pos} {e : Expr} {Q : AV → Prop} (h : WE Γ c st (eval e c.env) (K1l BSum Q))
    (hx : c.env.kindOf "sum" = some .globalImplicit := by rfl) (he : starEach [e] c.env = [(false, eval e c.env)] := by rfl)
    (hcall : eval (.Call (.Name "sum" np) [e] [] pos) c.env = (do callWith pos (← eval (.Name "sum" np) c.env) [] (backTo pos (starEach [e] c.env)) (backToKw pos (keywordEach [] c.env))) := by rfl) :
    WE Γ c st (eval (.Call (.Name "sum" np) [e] [] pos) c.env) Q := WE_b1 BSum bi_sum (fun _ _ _ _ => sum_sound) h hx he hcall
theorem WE_maxL {np pos : Pos} {e : Expr} {Q : AV → Prop} (h : WE Γ c st (eval e c.env) (K1l BMaxL Q))
    (hx : c.env.kindOf "max" = some .globalImplicit := by rfl) (he : starEach [e] c.env = [(false, eval e c.env)] := by rfl)
    (hcall : eval (.Call (.Name "max" np) [e] [] pos) c.env = (do callWith pos (← eval (.Name "max" np) c.env) [] (backTo pos (starEach [e] c.env)) (backToKw pos (keywordEach [] c.env))) := by rfl) :
    WE Γ c st (eval (.Call (.Name "max" np) [e] [] pos) c.env) Q := WE_b1 BMaxL bi_max (fun _ _ _ _ => maxL_sound) h hx he hcall
theorem WE_all {np pos : Pos} {e : Expr} {Q : AV → Prop} (h : WE Γ c st (eval e c.env) (K1l BAll Q))
    (hx : c.env.kindOf "all" = some .globalImplicit := by rfl) (he : starEach [e] c.env = [(false, eval e c.env)] := by rfl)
    (hcall : eval (.Call (.Name "all" np) [e] [] pos) c.env = (do callWith pos (← eval (.Name "all" np) c.env) [] (backTo pos (starEach [e] c.env)) (backToKw pos (keywordEach [] c.env))) := by rfl) :
    WE Γ c st (eval (.Call (.Name "all" np) [e] [] pos) c.env) Q := WE_b1 BAll bi_all (fun _ _ _ _ => all_sound) h hx he hcall
theorem WE_sorted {np pos : Pos} {e : Expr} {Q : AV → Prop} (h : WE Γ c st (eval e c.env) (K1l BSorted Q))
    (hx : c.env.kindOf "sorted" = some .globalImplicit := by rfl) (he : starEach [e] c.env = [(false, eval e c.env)] := by rfl)
    (hcall : eval (.Call (.Name "sorted" np) [e] [] pos) c.env = (do callWith pos (← eval (.Name "sorted" np) c.env) [] (backTo pos (starEach [e] c.env)) (backToKw pos (keywordEach [] c.env))) := by rfl) :
    WE Γ c st (eval (.Call (.Name "sorted" np) [e] [] pos) c.env) Q := WE_b1 BSorted bi_sorted (fun _ _ _ _ => sorted_sound) h hx he hcall
theorem WE_b2 {x : Str} {np pos : Pos} {e1 e2 : Expr} {id : String} {Q : AV → Prop} (P : List AV → AV → Prop) (hb : BI x (.builtin id))
    (sound : ∀ s avs vs z, R Γ c st s → VRL Γ (fz s.heap (Hd c st)) s.heap avs vs → P avs z →
      wpAny (mo Γ) c.A (call (.builtin id) vs) (fun x s' => Kp s s' ∧ VR Γ (fz s'.heap (Hd c st)) s'.heap z x) (fun _ _ => False) s)
    (h : WE Γ c st (eval e1 c.env) (K2l Γ c st e2 P Q))
    (hx : c.env.kindOf x = some .globalImplicit) (he : starEach [e1, e2] c.env = (false, eval e1 c.env) :: starEach [e2] c.env) (he2 : starEach [e2] c.env = [(false, eval e2 c.env)])
    (hcall : eval (.Call (.Name x np) [e1, e2] [] pos) c.env = (do callWith pos (← eval (.Name x np) c.env) [] (backTo pos (starEach [e1, e2] c.env)) (backToKw pos (keywordEach [] c.env)))) :
    WE Γ c st (eval (.Call (.Name x np) [e1, e2] [] pos) c.env) Q :=
  WE_builtin P sound (WA_cons (h.mono fun a hb => WA_cons (hb.mono fun b ⟨z, hz, q⟩ => WA_nil ⟨z, hz, q⟩) he2) he) hx hb he (by rw [he2]; rfl) hcall
theorem WE_max {np pos : Pos} {e1 e2 : Expr} {Q : AV → Prop} (h : WE Γ c st (eval e1 c.env) (K2l Γ c st e2 BMax Q))
    (hx : c.env.kindOf "max" = some .globalImplicit := by rfl) (he : starEach [e1, e2] c.env = (false, eval e1 c.env) :: starEach [e2] c.env := by rfl) (he2 : starEach [e2] c.env = [(false, eval e2 c.env)] := by rfl)
    (hcall : eval (.Call (.Name "max" np) [e1, e2] [] pos) c.env = (do callWith pos (← eval (.Name "max" np) c.env) [] (backTo pos (starEach [e1, e2] c.env)) (backToKw pos (keywordEach [] c.env))) := by rfl) :
    WE Γ c st (eval (.Call (.Name "max" np) [e1, e2] [] pos) c.env) Q := WE_b2 BMax bi_max (fun _ _ _ _ => max_sound) h hx he he2 hcall
theorem WE_min {np pos : Pos} {e1 e2 : Expr} {Q : AV → Prop} (h : WE Γ c st (eval e1 c.env) (K2l Γ c st e2 BMin Q))
    (hx : c.env.kindOf "min" = some .globalImplicit := by rfl) (he : starEach [e1, e2] c.env = (false, eval e1 c.env) :: starEach [e2] c.env := by rfl) (he2 : starEach [e2] c.env = [(false, eval e2 c.env)] := by rfl)
    (hcall : eval (.Call (.Name "min" np) [e1, e2] [] pos) c.env = (do callWith pos (← eval (.Name "min" np) c.env) [] (backTo pos (starEach [e1, e2] c.env)) (backToKw pos (keywordEach [] c.env))) := by rfl) :
    WE Γ c st (eval (.Call (.Name "min" np) [e1, e2] [] pos) c.env) Q := WE_b2 BMin bi_min (fun _ _ _ _ => min_sound) h hx he he2 hcall
/-- a def's call with one and with two arguments -/
theorem WE_call1 {f : Str} {np pos : Pos} {e : Expr} {n : Nat} {Q : AV → Prop} (hf : isFn f) (h : WE Γ c st (eval e c.env) (K1l (Con Γ n f) Q)) (hn : n ≤ c.n)
    (hx : c.env.kindOf f = some .globalImplicit := by rfl) (hd : (f == ("__debug__" : Str)) = false := by decide) (he : starEach [e] c.env = [(false, eval e c.env)] := by rfl)
    (hcall : eval (.Call (.Name f np) [e] [] pos) c.env = (do callWith pos (← eval (.Name f np) c.env) [] (backTo pos (starEach [e] c.env)) (backToKw pos (keywordEach [] c.env))) := by rfl) :
    WE Γ c st (eval (.Call (.Name f np) [e] [] pos) c.env) Q := WE_call hf (WA_cons (h.mono fun a ⟨z, hz, q⟩ => WA_nil ⟨z, hz, q⟩) he) hn hx hd he hcall
theorem WE_call2 {f : Str} {np pos : Pos} {e1 e2 : Expr} {n : Nat} {Q : AV → Prop} (hf : isFn f) (h : WE Γ c st (eval e1 c.env) (K2l Γ c st e2 (Con Γ n f) Q)) (hn : n ≤ c.n)
    (hx : c.env.kindOf f = some .globalImplicit := by rfl) (hd : (f == ("__debug__" : Str)) = false := by decide) (he : starEach [e1, e2] c.env = (false, eval e1 c.env) :: starEach [e2] c.env := by rfl) (he2 : starEach [e2] c.env = [(false, eval e2 c.env)] := by rfl)
    (hcall : eval (.Call (.Name f np) [e1, e2] [] pos) c.env = (do callWith pos (← eval (.Name f np) c.env) [] (backTo pos (starEach [e1, e2] c.env)) (backToKw pos (keywordEach [] c.env))) := by rfl) :
    WE Γ c st (eval (.Call (.Name f np) [e1, e2] [] pos) c.env) Q := WE_call hf (WA_cons (h.mono fun a hb => WA_cons (hb.mono fun b ⟨z, hz, q⟩ => WA_nil ⟨z, hz, q⟩) he2) he) hn hx hd he hcall
end
end Mine
end
section
open PySem PySem.Calls PyProof.Rows
namespace Mine

noncomputable def rangeDs (a b c : Int) : List PyData := (List.range (Builtin.Range.rangeSize a b c).toNat).map fun (i : Nat) => PyData.int (a + (i : Int) * c)

/-- what an iteration goes over -/
inductive Iter : AV → List PyData → Prop
  | list (a : AV) (ds : List PyData) (e : items a = some ds) : Iter a ds
  | tup (ds : List PyData) : Iter (.D (.tuple ds)) ds
  | range (a b c : Int) (h : Builtin.Range.small a b c = true) : Iter (.Rg a b c) (rangeDs a b c)

section
variable {Γ : Gx} {c : Cx} {st : St} {s : Shared}

inductive Srcs (Γ : Gx) (c : Cx) (st : St) (s s2 : Shared) (it : Value) (ds : List PyData) (fro : Bool) : Prop
  | mk (I : Addr) (fp wr : List Addr) (P : Nat → Value → Prop) (S : Nat → Heap → Prop) (e : it = .ref I) (W : Walks Γ.prog Γ.w c.A I fp wr ds.length P S) (h0 : S 0 s2.heap) (hn : ∀ b ∈ wr, s.heap.get? b = none) (hl : ∀ b ∈ wr, ∃ o, s2.heap.get? b = some o)
    (hS : ∀ i h, S i h → ∀ b ∈ fp, ∃ o, h.get? b = some o) (hz : ∀ b ∈ fp, b < s2.heap.objs.size) (hf : fro = true → ∀ b ∈ fp, ¬ Hd c st b) (hr : ∀ i v, i < ds.length → P i v → ∃ d, ds[i]? = some d ∧ Rd (fz s.heap (Hd c st)) v d)

theorem rangeSize_nonneg (a b c : Int) : 0 ≤ Builtin.Range.rangeSize a b c := by
  unfold Builtin.Range.rangeSize
  split <;> split <;> first | decide | (have := Int.ediv_nonneg (a := b - a - 1) (b := c) (by omega) (by omega); omega) | (have := Int.ediv_nonneg (a := a - b - 1) (b := -c) (by omega) (by omega); omega)

theorem iter_sound {a : AV} {ds : List PyData} {v : Value} (hi : Iter a ds) (r : R Γ c st s) (hv : VR Γ (fz s.heap (Hd c st)) s.heap a v) :
    wpAny (mo Γ) c.A (pyIter v) (fun it s2 => Kp s s2 ∧ Srcs Γ c st s s2 it ds (noM a)) (fun _ _ => False) s := by
  have sizeNew : s.heap.get? s.heap.objs.size = none := get_none_size _
  have sizeH : ¬ Hd c st s.heap.objs.size := fun h => Nat.lt_irrefl _ (r.low' _ h)
  cases hi with
  | list a ds e =>
    obtain ⟨l, vs, n, rfl, h1, h2⟩ := hv.items e
    have hl := h2.length
    rw [Array.length_toList] at hl
    have hlt := Heap.lt_size h1
    have hfz : noM a = true → ¬ Hd c st l := fun hm => by
      cases a with
      | D d =>
        cases d <;> simp [items] at e
        subst e
        obtain ⟨l', vs', n', e', h1', _⟩ := Rd.list_inv hv
        cases e'
        exact (fz_some.mp h1').1
      | K _ => cases e
      | M _ _ => cases hm
      | T _ => cases e
      | TT _ => cases e
      | Rg _ _ _ => cases e
      | V _ _ => cases hm
    refine wpAny_pyIter_list (plainL_isList h1) ⟨Kp.new s _, s.heap.objs.size, [s.heap.objs.size, l], [s.heap.objs.size], _, _, rfl, hl ▸ Walks.list r.rm.handled _ l (Nat.ne_of_lt hlt) vs,
      ⟨⟨_, Heap.get?_push_size _ rfl, rfl, rfl⟩, (plainL_isList h1).push _⟩, ?_, ?_, ?_, ?_, ?_, ?_⟩
    · intro b hb; rw [List.mem_singleton.mp hb]; exact sizeNew
    · intro b hb; rw [List.mem_singleton.mp hb]; exact ⟨_, Heap.get?_push_size _ rfl⟩
    · rintro i h ⟨⟨o1, e1, _⟩, o2, e2, _⟩ b hb
      rcases List.mem_cons.mp hb with q | hb
      · rw [q]; exact ⟨_, e1⟩
      · rw [List.mem_singleton.mp hb]; exact ⟨_, e2⟩
    · intro b hb
      show b < (s.heap.push _).objs.size
      rw [Heap.size_push]
      rcases List.mem_cons.mp hb with q | hb
      · rw [q]; exact Nat.lt_succ_self _
      · rw [List.mem_singleton.mp hb]; exact Nat.lt_succ_of_lt hlt
    · intro hm b hb
      rcases List.mem_cons.mp hb with q | hb
      · rw [q]; exact sizeH
      · rw [List.mem_singleton.mp hb]; exact hfz hm
    · intro i v _ hv
      exact h2.get' (by simpa using hv)
  | tup ds =>
    obtain ⟨l, vs, n, rfl, h1, h2⟩ := Rd.tuple_inv hv
    have hl := h2.length
    rw [Array.length_toList] at hl
    have h1' := fz_sub _ _ _ _ h1
    have hlt := Heap.lt_size h1'
    have hT : s.heap.IsTuple l vs := ⟨_, h1', rfl, n, rfl⟩
    refine wpAny_pyIter_tuple hT ⟨Kp.new s _, s.heap.objs.size, [s.heap.objs.size, l], [s.heap.objs.size], _, _, rfl, hl ▸ Walks.tuple r.rm.handled _ l (Nat.ne_of_lt hlt) vs,
      ⟨⟨_, Heap.get?_push_size _ rfl, rfl, rfl⟩, hT.push _⟩, ?_, ?_, ?_, ?_, ?_, ?_⟩
    · intro b hb; rw [List.mem_singleton.mp hb]; exact sizeNew
    · intro b hb; rw [List.mem_singleton.mp hb]; exact ⟨_, Heap.get?_push_size _ rfl⟩
    · rintro i h ⟨⟨o1, e1, _⟩, o2, e2, _⟩ b hb
      rcases List.mem_cons.mp hb with q | hb
      · rw [q]; exact ⟨_, e1⟩
      · rw [List.mem_singleton.mp hb]; exact ⟨_, e2⟩
    · intro b hb
      show b < (s.heap.push _).objs.size
      rw [Heap.size_push]
      rcases List.mem_cons.mp hb with q | hb
      · rw [q]; exact Nat.lt_succ_self _
      · rw [List.mem_singleton.mp hb]; exact Nat.lt_succ_of_lt hlt
    · intro hm b hb
      rcases List.mem_cons.mp hb with q | hb
      · rw [q]; exact sizeH
      · rw [List.mem_singleton.mp hb]; exact (fz_some.mp h1).1
    · intro i v _ hv
      exact h2.get' (by simpa using hv)
  | range a b c' h =>
    obtain ⟨q, t, u, y, rfl, h1⟩ := hv
    have hpos := rangeSize_nonneg a b c'
    have hlen : (rangeDs a b c').length = (Builtin.Range.rangeSize a b c').toNat := by simp [rangeDs]
    refine wpAny_pyIter_range (fz_sub _ _ _ _ h1) h ⟨Kp.new s _, s.heap.objs.size, [s.heap.objs.size], [s.heap.objs.size], _, _, rfl, Walks.range r.rm.handled s.heap.objs.size a c' (rangeDs a b c').length, ?_, ?_, ?_, ?_, ?_, ?_, ?_⟩
    · show IsRangeIter _ _ _ _ _
      have : a + ((0 : Nat) : Int) * c' = a := by simp
      rw [this, hlen, Int.toNat_of_nonneg hpos]
      simpa using Heap.get?_push_size s.heap rfl
    · intro b hb; rw [List.mem_singleton.mp hb]; exact sizeNew
    · intro b hb; rw [List.mem_singleton.mp hb]; exact ⟨_, Heap.get?_push_size _ rfl⟩
    · intro i h hi b hb; rw [List.mem_singleton.mp hb]; exact ⟨_, hi⟩
    · intro b hb
      show b < (s.heap.push _).objs.size
      rw [Heap.size_push, List.mem_singleton.mp hb]; exact Nat.lt_succ_self _
    · intro _ b hb; rw [List.mem_singleton.mp hb]; exact sizeH
    · rintro i v hi ⟨t', rfl⟩
      refine ⟨.int (a + (i : Int) * c'), ?_, .int _ _⟩
      rw [hlen] at hi
      simp only [rangeDs, List.getElem?_map, List.getElem?_range hi, Option.map_some]
end
end Mine
end
section
open PySem PySem.Calls PyProof.Rows
namespace Mine

noncomputable def Cx.wh (c : Cx) (h : Addr → Prop) : Cx := ⟨c.env, h, c.base, c.A, c.n, c.os, c.out⟩
noncomputable def notV : AV → Bool
  | .V _ _ => false
  | _ => true

section
variable {Γ : Gx} {c : Cx} {st : St} {s : Shared}

/-- new places, hidden -/
theorem R.fresh {X : Addr → Prop} {s0 : Shared} (r : R Γ c st s0) (k : Kp s0 s) (hnew : ∀ a, X a → s0.heap.get? a = none) (hlive : ∀ a, X a → ∃ o, s.heap.get? a = some o) :
    R Γ (c.wh fun a => c.hid a ∨ X a) st s ∧ Sub (fz s0.heap (Hd c st)) (fz s.heap (Hd (c.wh fun a => c.hid a ∨ X a) st)) := by
  have hH : ∀ b, Hd (c.wh fun a => c.hid a ∨ X a) st b → Hd c st b ∨ X b := by
    rintro b ((h | h) | h)
    · exact .inl (.inl h)
    · exact .inr h
    · exact .inl (.inr h)
  have sub : Sub (fz s0.heap (Hd c st)) (fz s.heap (Hd (c.wh fun a => c.hid a ∨ X a) st)) := fz_mono fun b o hb e => ⟨fun h => (hH b h).elim hb fun h => (by rw [hnew b h] at e; cases e), k.heap _ _ e⟩
  have r' := r.kp k
  exact ⟨{
    gd := r.gd
    keep := r'.keep
    rm := r.rm
    gens := r'.gens
    os := r'.os
    hk := r.hk
    glob := r.glob
    bns := r.bns
    frame := r'.frame
    cells := r'.cells
    ownH := fun a h => .inl (r.ownH a h)
    ownB := r.ownB
    apart := r.apart
    apartL := r.apartL
    low := fun a h => h.elim (r'.low a) (hlive a)
    bound := fun x av e => let ⟨v, h1, h2⟩ := r.bound x av e; ⟨v, h1.mono k.heap, h2.mono sub k.heap⟩
    tab := r.tab.mono sub
    fo := fun outer e => let ⟨h1, h2, h3, h4⟩ := (r.fo.sub k.heap) outer e; ⟨h1, h2, h3, fun b hb => ⟨.inl (h4 b hb).1, (h4 b hb).2⟩⟩
    keys := r.keys
    mHid := fun x a ds h hh => hh.elim (r.mHid x a ds h) fun h' => by
      obtain ⟨vs, n, e, _⟩ := r.mlist h
      rw [hnew a h'] at e; cases e
    vOwn := r.vOwn
    mBase := r.mBase
    mApart := r.mApart }, sub⟩
theorem R.drop {X : Addr → Prop} (r : R Γ (c.wh fun a => c.hid a ∨ X a) st s) (ho : ∀ a, own c.env a → c.hid a) (hf : ∀ a, fr c a → c.hid a) : R Γ c st s where
  fo := fun outer e => let ⟨h1, h2, h3, h4⟩ := r.fo outer e; ⟨h1, h2, h3, fun b hb => ⟨hf b ⟨outer, e, hb⟩, (h4 b hb).2⟩⟩
  gd := r.gd
  keep := r.keep
  rm := r.rm
  gens := r.gens
  os := r.os
  hk := r.hk
  glob := r.glob
  bns := r.bns
  frame := r.frame
  cells := r.cells
  ownH := ho
  ownB := r.ownB
  apart := r.apart
  apartL := r.apartL
  low := fun a h => r.low a (.inl h)
  tab := r.tab.mono (fz_mono fun b o hb e => ⟨fun h => hb (h.elim (fun h => .inl (.inl h)) .inr), e⟩)
  bound := fun x av e => let ⟨v, h1, h2⟩ := r.bound x av e; ⟨v, h1, h2.mono (fz_mono fun b o hb e => ⟨fun h => hb (h.elim (fun h => .inl (.inl h)) .inr), e⟩) (Sub.refl _)⟩
  keys := r.keys
  mHid := fun x a ds h hh => r.mHid x a ds h (.inl hh)
  vOwn := r.vOwn
  mBase := r.mBase
  mApart := r.mApart

/-- a hidden place turns -/
theorem R.turned {W : Addr → Prop} {s' : Shared} (r : R Γ c st s) (hW : ∀ a, W a → c.hid a ∧ ¬ own c.env a ∧ c.base.get? a = none) (hWf : ∀ a, W a → ¬ fr c a) (hV : st.all (fun p => notV p.2) = true)
    (hk : ∀ b o, ¬ W b → s.heap.get? b = some o → s'.heap.get? b = some o) (hl : ∀ b, W b → ∃ o, s'.heap.get? b = some o) (hg : s'.gens = s.gens) (ho : s'.os = s.os) :
    R Γ c st s' ∧ Sub (fz s.heap (Hd c st)) (fz s'.heap (Hd c st)) := by
  have sub : Sub (fz s.heap (Hd c st)) (fz s'.heap (Hd c st)) := fz_mono fun b o hb e => ⟨hb, hk b o (fun h => hb (.inl (hW b h).1)) e⟩
  have noV : ∀ x a ds, (x, AV.V a ds) ∉ st := fun x a ds h => by have := List.all_eq_true.mp hV _ h; cases this
  have nown : ∀ a, own c.env a → ¬ W a := fun a h1 h2 => (hW a h2).2.1 h1
  exact ⟨{
    gd := r.gd
    keep := fun b o e => hk b o (fun h => by rw [(hW b h).2.2] at e; cases e) (r.keep b o e)
    rm := r.rm
    gens := hg.trans r.gens
    os := ho.trans r.os
    hk := r.hk
    glob := r.glob
    bns := r.bns
    frame := let ⟨m, o, es, ep, e, q⟩ := r.frame; ⟨m, o, es, ep, hk _ _ (nown _ (.inl rfl)) e, q⟩
    cells := fun x a e => let ⟨v, o, e', q⟩ := r.cells x a e; ⟨v, o, hk _ _ (nown _ (.inr ⟨x, e⟩)) e', q⟩
    ownH := r.ownH
    ownB := r.ownB
    apart := r.apart
    apartL := r.apartL
    low := fun b h => by
      obtain ⟨o, e⟩ := r.low b h
      exact (Classical.em (W b)).elim (hl b) fun hn => ⟨o, hk b o hn e⟩
    tab := r.tab.mono sub
    fo := r.fo.keeps fun b o hb e => ⟨o, hk b o (fun h => hWf b h hb) e, rfl⟩
    bound := fun x av e => by
      obtain ⟨v, h1, h2⟩ := r.bound x av e
      refine ⟨v, ?_, ?_⟩
      · rcases h1 with ⟨k, m, ⟨o, es, ep, e, q⟩, em⟩ | ⟨k, a, ea, o, e', q⟩
        · exact .inl ⟨k, m, ⟨o, es, ep, hk _ _ (nown _ (.inl rfl)) e, q⟩, em⟩
        · exact .inr ⟨k, a, ea, o, hk _ _ (nown _ (.inr ⟨x, ea⟩)) e', q⟩
      · exact h2.step sub fun l ds e' o eo => e'.elim (fun e' => hk _ _ (fun h => r.mHid x l ds (mem_of_lookup (e' ▸ e)) (hW l h).1) eo) fun e' => absurd (mem_of_lookup (e' ▸ e)) (noV x l ds)
    keys := r.keys
    mHid := r.mHid
    vOwn := r.vOwn
    mBase := r.mBase
    mApart := r.mApart }, sub⟩

theorem R.dropTurned {X : Addr → Prop} {s' : Shared} (r : R Γ (c.wh fun a => c.hid a ∨ X a) st s) (ho : ∀ a, own c.env a → c.hid a) (hd : ∀ a, c.hid a → ¬ X a) (hf : ∀ a, fr c a → c.hid a) (hB : ∀ a, X a → c.base.get? a = none)
    (hV : st.all (fun p => notV p.2) = true) (hk : ∀ b o, ¬ X b → s.heap.get? b = some o → s'.heap.get? b = some o) (hg : s'.gens = s.gens) (ho' : s'.os = s.os) :
    R Γ c st s' ∧ Sub (fz s.heap (Hd (c.wh fun a => c.hid a ∨ X a) st)) (fz s'.heap (Hd c st)) := by
  have sub : Sub (fz s.heap (Hd (c.wh fun a => c.hid a ∨ X a) st)) (fz s'.heap (Hd c st)) := fz_mono fun b o hb e => ⟨fun h => hb (h.elim (fun h => .inl (.inl h)) .inr), hk b o (fun h => hb (.inl (.inr h))) e⟩
  have noV : ∀ x a ds, (x, AV.V a ds) ∉ st := fun x a ds h => by have := List.all_eq_true.mp hV _ h; cases this
  have nown : ∀ a, own c.env a → ¬ X a := fun a h1 => hd a (ho a h1)
  exact ⟨{
    gd := r.gd
    keep := fun b o e => hk b o (fun h => by rw [hB b h] at e; cases e) (r.keep b o e)
    rm := r.rm
    gens := hg.trans r.gens
    os := ho'.trans r.os
    hk := r.hk
    glob := r.glob
    bns := r.bns
    frame := let ⟨m, o, es, ep, e, q⟩ := r.frame; ⟨m, o, es, ep, hk _ _ (nown _ (.inl rfl)) e, q⟩
    cells := fun x a e => let ⟨v, o, e', q⟩ := r.cells x a e; ⟨v, o, hk _ _ (nown _ (.inr ⟨x, e⟩)) e', q⟩
    ownH := ho
    ownB := r.ownB
    apart := r.apart
    apartL := r.apartL
    low := fun b h => let ⟨o, e⟩ := r.low b (.inl h); ⟨o, hk b o (hd b h) e⟩
    tab := r.tab.mono sub
    fo := fun outer e => let ⟨h1, h2, h3, h4⟩ := r.fo outer e; ⟨h1, h2, funFrames_keeps (fun b hb o ho => ⟨o, hk b o (hd b (hf b ⟨outer, e, hb⟩)) ho, rfl⟩) h3, fun b hb => ⟨hf b ⟨outer, e, hb⟩, (h4 b hb).2⟩⟩
    bound := fun x av e => by
      obtain ⟨v, h1, h2⟩ := r.bound x av e
      refine ⟨v, ?_, ?_⟩
      · rcases h1 with ⟨k, m, ⟨o, es, ep, e, q⟩, em⟩ | ⟨k, a, ea, o, e', q⟩
        · exact .inl ⟨k, m, ⟨o, es, ep, hk _ _ (nown _ (.inl rfl)) e, q⟩, em⟩
        · exact .inr ⟨k, a, ea, o, hk _ _ (nown _ (.inr ⟨x, ea⟩)) e', q⟩
      · exact h2.step sub fun l ds e' o eo => e'.elim (fun e' => hk _ _ (fun h => r.mHid x l ds (mem_of_lookup (e' ▸ e)) (.inr h)) eo) fun e' => absurd (mem_of_lookup (e' ▸ e)) (noV x l ds)
    keys := r.keys
    mHid := fun x a ds h hh => r.mHid x a ds h (.inl hh)
    vOwn := r.vOwn
    mBase := r.mBase
    mApart := r.mApart }, sub⟩

/-- what stands between two turns of a for loop -/
inductive LpI (Γ : Gx) (c : Cx) (st : St) (s1 : Shared) (N : Nat) (Inv : Nat → St → Prop) (S : Nat → Heap → Prop) (fp wr : List Addr) (n : Nat) (s' : Shared) : Prop
  | mk (i : Nat) (st1 : St) (hn : n = N + 1 - i) (hi : i ≤ N) (inv : Inv i st1) (r : R Γ (c.wh fun b => c.hid b ∨ b ∈ wr) st1 s') (hS : S i s'.heap) (hm : Sub (fz s1.heap (Hd c st)) (fz s'.heap (Hd (c.wh fun b => c.hid b ∨ b ∈ wr) st1)))
    (hf : ∀ b ∈ fp, b ∉ wr → ¬ Hd (c.wh fun b => c.hid b ∨ b ∈ wr) st1 b) (hh : ∀ b o, c.hid b → ¬ own c.env b → s1.heap.get? b = some o → Sl (fr c b) o s'.heap b)
theorem WS_For {x : Str} {px pos : Pos} {iter : Expr} {body orelse : List Stmt} {Q : Fl → St → Prop} (Inv : List PyData → Nat → St → Prop)
    (h : WE Γ c st (eval iter c.env) fun a => noM a = true ∧ ∃ ds, Iter a ds ∧ Inv ds 0 st ∧
      (∀ i st1, Inv ds i st1 → st1.all (fun p => notV p.2) = true) ∧
      (∀ hid i d st1, ds[i]? = some d → Inv ds i st1 → WS Γ (c.wh hid) (upd st1 x (.D d)) (execs body c.env) (loopP (Inv ds (i + 1)) Q)) ∧
      (∀ hid st1, Inv ds ds.length st1 → WS Γ (c.wh hid) st1 (execs orelse c.env) Q))
    (hx : Stor c.env x := by first | exact .inl rfl | exact .inr ⟨rfl, _, rfl⟩) (hs : ∀ x, foldedSetIterable iter c.env x = pure x := by intro _; rfl) (hgo : ∀ it v, letOwnedTupleGo (.Name x px) it v = pure () := by intro _ _; rfl) :
    WS Γ c st (exec (.For (.Name x px) iter body orelse pos) c.env) Q := fun s r => by
  refine wpAny_For (wpAny_mono (h s r) (fun v s1 ⟨k1, a, va, hm, ds, hi, inv0, hV, step, fin⟩ => wpAny_mono (iter_sound hi (r.kp k1) va) (fun it s2 ⟨k2, hsrc⟩ => ?_) fun _ _ x => x) fun _ _ x => x) hs
  obtain ⟨I, fp, wr, P, S, rfl, W, hS0, hnew, hliv, hSl, hlt, hfro, hrd⟩ := hsrc
  have hfro := hfro hm
  have r1 := r.kp k1
  let c' : Cx := c.wh fun b => c.hid b ∨ b ∈ wr
  obtain ⟨r2, sub2⟩ : R Γ c' st s2 ∧ Sub (fz s1.heap (Hd c st)) (fz s2.heap (Hd c' st)) := r1.fresh k2 hnew hliv
  have hwr : ∀ b, b ∈ wr → c'.hid b ∧ ¬ own c'.env b ∧ c'.base.get? b = none := fun b hb => by
    refine ⟨.inr hb, fun ho => ?_, ?_⟩
    · obtain ⟨o, e⟩ := r1.ownLive ho
      rw [hnew b hb] at e; cases e
    · cases e : c.base.get? b with
      | none => exact e
      | some o => have := r1.keep b o e; rw [hnew b hb] at this; cases this
  have hfh : ∀ b, fr c b → c.hid b := fun b h => (r.fo.fr h).1
  have hwf : ∀ b, b ∈ wr → ¬ fr c' b := fun b hb hf => by
    obtain ⟨_, _, _, o, e, _⟩ := r1.fo.fr (c := c) hf
    rw [hnew b hb] at e; cases e
  have hidk : ∀ b o, c.hid b → ¬ own c.env b → s1.heap.get? b = some o → Sl (fr c b) o s2.heap b := fun b o _ _ e => .exact (k2.heap _ _ e)
  have finish : ∀ {st1 : St} {s' : Shared}, R Γ c' st1 s' → Sub (fz s1.heap (Hd c st)) (fz s'.heap (Hd c' st1)) → (∀ b o, c.hid b → ¬ own c.env b → s1.heap.get? b = some o → Sl (fr c b) o s'.heap b) →
      Mv c st s st1 s' ∧ R Γ c st1 s' := fun r' m' h' => ⟨k1.mv.trans ⟨m'.trans (fz_mono fun b o hb e => ⟨fun h => hb (h.elim (fun h => .inl (.inl h)) .inr), e⟩), h'⟩, r'.drop r.ownH hfh⟩
  have flr : ∀ {st1 : St} {s' : Shared} {fl : Fl} {f : Flow}, FlR Γ (fz s'.heap (Hd c' st1)) s'.heap fl f → FlR Γ (fz s'.heap (Hd c st1)) s'.heap fl f := fun {st1 s' fl f} h => by
    cases fl with
    | next => exact h
    | brk => exact h
    | cont => exact h
    | ret a => obtain ⟨v, e, hv⟩ := h; exact ⟨v, e, hv.mono (fz_mono fun b o hb e => ⟨fun h => hb (h.elim (fun h => .inl (.inl h)) .inr), e⟩) (Sub.refl _)⟩
  refine codeAny_forLoop_any (LpI Γ c st s1 ds.length (Inv ds) S fp wr) ?_ (ds.length + 1)
    ⟨0, st, rfl, Nat.zero_le _, inv0, r2, hS0, sub2, fun b hb hw => ?_, hidk⟩
  · rintro n s' ⟨i, st1, rfl, hile, inv, r', hS, msub, hfp, hidk'⟩
    have hVs := hV i st1 inv
    have hidd : ∀ b, c.hid b → b ∉ wr := fun b hb hw => by
      obtain ⟨o, e⟩ := r1.low b hb
      rw [hnew b hw] at e; cases e
    by_cases hlt' : i < ds.length
    · refine W.item i s' _ _ hlt' hS fun v h' tk hP hS' hk' => ?_
      obtain ⟨d, hd, rdv⟩ := hrd i v hlt' hP
      obtain ⟨r3, sub3⟩ := r'.turned (s' := { s' with heap := h', toks := tk }) (W := fun b => b ∈ wr) hwr hwf hVs hk' (fun b hb => hSl _ _ hS' b (W.sub b hb)) rfl rfl
      refine wpAny_of_eq (hgo _ _) ?_
      have rdv' : Rd (fz h' (Hd c' st1)) v d := Rd.mono (msub.trans sub3) rdv
      refine wpAny_assign_Name (store_name (c := c') r3 hx fun s4 hp hg ho hb hy hf hc => ?_)
      obtain ⟨r4, m4⟩ := r3.stored (a := .D d) rdv' rfl hp hg ho hb hy hf hc
      refine wpAny_mono (step (fun b => c.hid b ∨ b ∈ wr) i d st1 hd inv s4 r4) (fun f s5 ⟨st5, fl, m5, r5, hfl, q⟩ => ?_) fun _ _ x => x.elim
      have m45 := m4.trans m5
      have msub5 := msub.trans (sub3.trans m45.sub)
      have hidk5 : ∀ b o, c.hid b → ¬ own c.env b → s1.heap.get? b = some o → Sl (fr c b) o s5.heap b := fun b o h1 h2 e => (hidk' b o h1 h2 e).trans fun o' e' => m45.hid b o' (.inl h1) h2 (hk' b o' (hidd b h1) e')
      have keepfp : ∀ b ∈ fp, ∀ o, h'.get? b = some o → s5.heap.get? b = some o := fun b hb o e => by
        by_cases hw : b ∈ wr
        · exact (m45.hid b o (.inr hw) (hwr b hw).2.1 e).get (hwf b hw)
        · exact (fz_some.mp (m45.sub b o (fz_some.mpr ⟨hfp b hb hw, e⟩))).2
      have next : Inv ds (i + 1) st5 → ∃ m, m < ds.length + 1 - i ∧ LpI Γ c st s1 ds.length (Inv ds) S fp wr m s5 := fun inv' =>
        ⟨ds.length + 1 - (i + 1), by omega, i + 1, st5, rfl, hlt', inv', r5, W.frame _ _ _ hS' keepfp, msub5, fun b hb hw => by
          obtain ⟨o, e⟩ := hSl _ _ hS' b hb
          exact (fz_some.mp (m45.sub b o (fz_some.mpr ⟨hfp b hb hw, e⟩))).1, hidk5⟩
      cases fl with
      | next => cases hfl; exact next q
      | cont => cases hfl; exact next q
      | brk => cases hfl; obtain ⟨m6, r6⟩ := finish r5 msub5 hidk5; exact ⟨st5, .next, m6, r6, rfl, q⟩
      | ret b =>
        obtain ⟨m6, r6⟩ := finish r5 msub5 hidk5
        obtain ⟨v5, rfl, hv5⟩ := id hfl
        exact ⟨st5, .ret b, m6, r6, flr hfl, q⟩
    · have hie : i = ds.length := by omega
      subst hie
      refine W.done s' _ _ hS fun h' tk hk' => ?_
      obtain ⟨r3, sub3⟩ := R.dropTurned (s' := { s' with heap := h', toks := tk }) r' r.ownH hidd hfh (fun b hb => (hwr b hb).2.2) hVs hk' rfl rfl
      have mv3 : Mv c st s st1 { s' with heap := h', toks := tk } := k1.mv.trans ⟨msub.trans sub3, fun b o h1 h2 e => (hidk' b o h1 h2 e).trans fun o' e' => .exact (hk' b o' (hidd b h1) e')⟩
      exact wpAny_mono (fin c.hid st1 inv _ r3) (fun _ _ x => x.pre (mv3)) fun _ _ x => x.elim
  · rintro ((h | h) | ⟨y, es, h⟩)
    · exact hfro b hb (.inl h)
    · exact hw h
    · exact hfro b hb (.inr ⟨y, es, h⟩)
end
end Mine
end
section
open PySem PySem.Calls PyProof.Rows
namespace Mine

/-- what a comprehension sees of its frame -/
noncomputable def cap : AV → AV
  | .M a ds => .V a ds
  | a => a
noncomputable def capture (st : St) : List (Str × Addr) → St
  | [] => []
  | (y, _) :: r => match st.lookup y with
    | some av => (y, cap av) :: capture st r
    | none => capture st r

theorem capture_mem {st : St} : ∀ {cl : List (Str × Addr)} {y : Str} {av : AV}, (y, av) ∈ capture st cl → (∃ a, (y, a) ∈ cl) ∧ ∃ av0, st.lookup y = some av0 ∧ av = cap av0
  | [], _, _, h => nomatch h
  | (z, b) :: r, y, av, h => by
    unfold capture at h
    split at h
    · rename_i av0 e
      rcases List.mem_cons.mp h with q | h
      · cases q; exact ⟨⟨b, .head _⟩, av0, e, rfl⟩
      · obtain ⟨⟨a, h1⟩, h2⟩ := capture_mem h
        exact ⟨⟨a, .tail _ h1⟩, h2⟩
    · obtain ⟨⟨a, h1⟩, h2⟩ := capture_mem h
      exact ⟨⟨a, .tail _ h1⟩, h2⟩
theorem capture_keys {st : St} : ∀ {cl : List (Str × Addr)}, (cl.map (·.1)).Nodup → ((capture st cl).map (·.1)).Nodup
  | [], _ => by simp [capture]
  | (z, b) :: r, h => by
    simp only [List.map_cons, List.nodup_cons] at h
    unfold capture
    split
    · simp only [List.map_cons, List.nodup_cons]
      refine ⟨fun hm => ?_, capture_keys h.2⟩
      obtain ⟨⟨y, av⟩, hm, e⟩ := List.mem_map.mp hm
      obtain ⟨⟨a, h1⟩, _⟩ := capture_mem hm
      simp only at e
      subst e
      exact h.1 (List.mem_map_of_mem (f := (·.1)) h1)
    · exact capture_keys h.2

theorem VR.cap {Γ : Gx} {g h : Heap} {av : AV} {v : Value} (x : VR Γ g h av v) : VR Γ g h (Mine.cap av) v := by cases av <;> exact x
noncomputable def cEnv (c : Cx) (scope : Scope) (cl : List (Str × Addr)) (C : Addr) (hid : Addr → Prop) : Cx := ⟨compEnvC scope cl C c.env, hid, c.base, c.A, c.n, c.os, none⟩

section
variable {Γ : Gx} {c : Cx} {st : St} {s : Shared}

/-- the names of a comprehension's block -/
structure CompOk (c : Cx) (scope : Scope) (cl : List (Str × Addr)) (x : Str) : Prop where
  clos : closureFor scope c.env = pure cl
  cell : ∀ y ∈ scope.names, y.2 ≠ .cell
  kind : scope.kind = .function
  names : ∀ y ∈ scope.names, y.2 = .local → scope.names.lookup y.1 = some .local
  loc : scope.names.lookup x = some .local
  capt : ∀ p ∈ cl, (relabel scope c.env).names.lookup p.1 = some .cell ∧ c.env.kindOf p.1 = some .cell ∧ c.env.cells.lookup p.1 = some p.2
  nodup : (x :: cl.map (·.1)).Nodup

/-- the state within a turn -/
theorem comp_R {scope : Scope} {cl : List (Str × Addr)} {x : Str} {C : Addr} {hid : Addr → Prop} {d : PyData} {v : Value} {s1 s' : Shared} {m : Str → Option Value} (ok : CompOk c scope cl x) (r : R Γ c st s1)
    (hsub : Sub s1.heap s'.heap) (hg : s'.gens = s1.gens) (ho : s'.os = s1.os) (hC : s1.heap.get? C = none) (hns : s'.heap.Ns C m) (hmx : m x = some v)
    (hH : ∀ a, hid a → Hd c st a ∨ s1.heap.get? a = none) (hH' : ∀ a, Hd c st a → hid a) (hHC : hid C) (hlive : ∀ a, hid a → ∃ o, s'.heap.get? a = some o)
    (hv : Rd (fz s1.heap (Hd c st)) v d) :
    R Γ (cEnv c scope cl C hid) ((x, .D d) :: capture st cl) s' := by
  have hcl : ∀ y a, cl.lookup y = some a → c.env.cells.lookup y = some a := fun y a e => (ok.capt _ (mem_of_lookup e)).2.2
  have noM' : ∀ y a ds, (y, AV.M a ds) ∉ (x, AV.D d) :: capture st cl := fun y a ds h => by
    rcases List.mem_cons.mp h with e | h
    · cases e
    · obtain ⟨_, av0, _, e⟩ := capture_mem h
      cases av0 <;> cases e
  have hHd : ∀ a, Hd (cEnv c scope cl C hid) ((x, .D d) :: capture st cl) a → hid a := by
    rintro a (h | ⟨y, ds, h⟩)
    · exact h
    · exact absurd h (noM' y a ds)
  have sub : Sub (fz s1.heap (Hd c st)) (fz s'.heap (Hd (cEnv c scope cl C hid) ((x, .D d) :: capture st cl))) :=
    fz_mono fun b o hb e => ⟨fun h => (hH b (hHd b h)).elim hb fun h => (by rw [h] at e; cases e), hsub b o e⟩
  have ownC : ∀ a, own (compEnvC scope cl C c.env) a → a = C ∨ own c.env a := by
    rintro a (h | ⟨y, e⟩)
    · exact .inl h
    · exact .inr (.inr ⟨y, hcl y a e⟩)
  exact {
    gd := r.gd
    keep := r.keep.trans hsub
    rm := r.rm
    gens := hg.trans r.gens
    os := ho.trans r.os
    hk := by show (relabel scope c.env).kind = _; simp [relabel, ok.kind]
    glob := r.glob
    bns := r.bns
    frame := ⟨m, hns⟩
    cells := fun y a e => let ⟨u, h⟩ := r.cells y a (hcl y a e); ⟨u, h.keeps hsub⟩
    ownH := fun a h => (ownC a h).elim (fun h => h ▸ hHC) fun h => hH' a (.inl (r.ownH a h))
    ownB := fun a h => (ownC a h).elim (fun h => by
      cases e : c.base.get? a with
      | none => exact e
      | some o => have := r.keep a o e; rw [h, hC] at this; cases this) (r.ownB a)
    apart := by
      have : ∀ l : List (Str × Addr), (∀ p ∈ l, p ∈ cl) → (l.map (·.1)).Nodup → l.Pairwise fun x y => x.2 ≠ y.2 := by
        intro l
        induction l with
        | nil => intro _ _; exact .nil
        | cons p l ih =>
          intro h1 h2
          simp only [List.map_cons, List.nodup_cons] at h2
          refine List.pairwise_cons.mpr ⟨fun q hq e => ?_, ih (fun q hq => h1 q (.tail _ hq)) h2.2⟩
          have e1 := mem_of_lookup (ok.capt p (h1 p (.head _))).2.2
          have e2 := mem_of_lookup (ok.capt q (h1 q (.tail _ hq))).2.2
          rw [← e] at e2
          have := name_of_addr r.apart e1 e2
          exact h2.1 (this ▸ List.mem_map_of_mem (f := (·.1)) hq)
      exact this cl (fun _ h => h) (List.nodup_cons.mp ok.nodup).2
    apartL := fun y a h e => by
      obtain ⟨u, o, e', _⟩ := r.cells y a ((ok.capt _ h).2.2)
      have e : a = C := e
      rw [e, hC] at e'; cases e'
    low := hlive
    tab := r.tab.mono sub
    fo := fun _ e => (by cases e)
    bound := fun y av e => by
      rw [List.lookup_cons] at e
      cases hy : y == x with
      | true =>
        rw [hy] at e; cases e
        rw [beq_iff_eq.mp hy]
        exact ⟨v, .inl ⟨lookup_relabel_local ok.loc, m, hns, hmx⟩, Rd.mono sub hv⟩
      | false =>
        rw [hy] at e
        obtain ⟨⟨a, hm⟩, av0, h0, rfl⟩ := capture_mem (mem_of_lookup e)
        obtain ⟨k1, k2, k3⟩ := ok.capt _ hm
        obtain ⟨u, hb, hu⟩ := r.bound y av0 h0
        have hclk : cl.lookup y = some a := lookup_of_mem (List.nodup_cons.mp ok.nodup).2 hm
        refine ⟨u, .inr ⟨.inl k1, a, hclk, ?_⟩, ?_⟩
        · rcases hb with ⟨k, _⟩ | ⟨_, a', e', hc⟩
          · simp only at k2; rw [k2] at k; cases k
          · simp only at k3; rw [k3] at e'; cases e'
            exact hc.keeps hsub
        · exact (hu.step sub fun l ds _ o eo => hsub _ _ eo).cap
    keys := by
      simp only [List.map_cons, List.nodup_cons]
      refine ⟨fun h => ?_, capture_keys (List.nodup_cons.mp ok.nodup).2⟩
      obtain ⟨⟨y, av⟩, hm, e⟩ := List.mem_map.mp h
      obtain ⟨⟨a, h1⟩, _⟩ := capture_mem hm
      simp only at e
      subst e
      exact (List.nodup_cons.mp ok.nodup).1 (List.mem_map_of_mem (f := (·.1)) h1)
    mHid := fun y a ds h => absurd h (noM' y a ds)
    vOwn := fun y a ds h ho => by
      rcases List.mem_cons.mp h with e | h
      · cases e
      · obtain ⟨_, av0, h0, e⟩ := capture_mem h
        cases av0 with
        | M b es =>
          cases e
          rcases ownC a ho with q | q
          · obtain ⟨vs, n, e', _⟩ := r.mlist (mem_of_lookup h0)
            rw [q, hC] at e'; cases e'
          · exact r.mOwn y a ds (mem_of_lookup h0) q
        | V b es =>
          cases e
          rcases ownC a ho with q | q
          · obtain ⟨u, _, e1, vs, n, e', _⟩ := r.bound y _ h0
            rw [q, hC] at e'; cases e'
          · exact r.vOwn y a ds (mem_of_lookup h0) q
        | D _ => cases e
        | K _ => cases e
        | T _ => cases e
        | TT _ => cases e
        | Rg _ _ _ => cases e
    mBase := fun y a ds h => absurd h (noM' y a ds)
    mApart := fun y z a ds es h _ => absurd h (noM' y a ds) }
end
end Mine
end
section
open PySem PySem.Calls PyProof.Rows
namespace Mine
section
variable {Γ : Gx} {c : Cx} {st : St} {s : Shared}

/-- the tests of a comprehension: none or one -/
noncomputable def WTs (Γ : Gx) (c : Cx) (st : St) (ifs : List Expr) (Q : Bool → Prop) : Prop := match ifs with
  | [] => Q true
  | [t] => WB Γ c st (isTrue t c.env (eval t c.env)) Q
  | _ => False
theorem tests_sound {ifs : List Expr} {Q : Bool → Prop} (h : WTs Γ c st ifs Q) (r : R Γ c st s) :
    wpAny (mo Γ) c.A (forIn ifs true fun t b => if b = true then do let ok ← isTrue t c.env (eval t c.env); pure (ForInStep.yield ok) else pure (ForInStep.yield b)) (WBp Q s) (fun _ _ => False) s := by
  match ifs, h with
  | [], h => exact wpAny_tests_nil ⟨Kp.refl s, h⟩
  | [t], h => exact wpAny_tests_one (h s r)

theorem append_sound {A : Around} {E : Value → Shared → Prop} {D : Addr} {ys : Array Value} {n : Nat} {v : Value} {Q : Value → Shared → Prop} (hD : s.heap.get? D = some (plainL ys n)) (hz : ys.size ≤ sizeLine)
    (h : ∀ h' n', h'.get? D = some (plainL (ys.push v) n') → (∀ b, b ≠ D → h'.get? b = s.heap.get? b) → Q .none { s with heap := h' }) : wpAny (mo Γ) A (call (.builtin "list.append") [.ref D, v]) Q E s :=
  call_meets F.slot_list_append ⟨_, hD, rfl⟩ F.entry_list_append (F.args_list_append_2 _ _) (list_append D ys n v hz) ⟨hD, h _ _ (IsL.update hD _) fun b hb => Heap.get?_update_other _ _ (Ne.symm hb)⟩

theorem take_succ_pF {α β : Type} (p : α → Bool) (F : α → β) (l : List α) (i : Nat) (d : α) (h : l[i]? = some d) : ((l.take (i + 1)).filter p).map F = ((l.take i).filter p).map F ++ (if p d then [F d] else []) := by
  rw [take_succ_filter p l i d h, List.map_append]
  cases p d <;> rfl

inductive CpL (s1 : Shared) (C D : Addr) (hid : Addr → Prop) (ds : List PyData) (p : PyData → Bool) (F : PyData → PyData) (S : Nat → Heap → Prop) (n : Nat) (s' : Shared) : Prop
  | mk (i : Nat) (m : Str → Option Value) (ys : Array Value) (e : Nat) (hn : n = ds.length + 1 - i) (hi : i ≤ ds.length) (hS : S i s'.heap) (hns : s'.heap.Ns C m) (hD : s'.heap.get? D = some (plainL ys e))
    (hr : RdL (fz s'.heap hid) ys.toList (((ds.take i).filter p).map F)) (k : Kp s1 s')
/-- the block of a list comprehension -/
theorem comp_list {elt iter : Expr} {x : Str} {px pos : Pos} {ifs : List Expr} {scope : Scope} {cl : List (Str × Addr)} {s1 s2 : Shared} {it : Value} {ds : List PyData} {fro : Bool} (ok : CompOk c scope cl x) (p : PyData → Bool) (F : PyData → PyData)
    (r : R Γ c st s1) (k : Kp s1 s2) (src : Srcs Γ c st s1 s2 it ds fro) (hsz : ds.length ≤ sizeLine)
    (hel : ∀ (hid : Addr → Prop) (C : Addr) (i : Nat) (d : PyData), ds[i]? = some d → WTs Γ (cEnv c scope cl C hid) ((x, .D d) :: capture st cl) ifs fun b => b = p d ∧ (b = true → WE Γ (cEnv c scope cl C hid) ((x, .D d) :: capture st cl) (eval elt (cEnv c scope cl C hid).env) fun a => a = .D (F d)))
    {RR : Value → Addr → Result → Shared → Prop}
    (hRR : ∀ D C s' m vs n, s1.heap.get? D = none → s1.heap.get? C = none → D ≠ C → s'.heap.Ns C m → s'.heap.get? D = some (plainL vs n) → RdL (fz s'.heap fun a => Hd c st a ∨ a = C ∨ a = D) vs.toList ((ds.filter p).map F) → Kp s1 s' → RR (.ref D) C (.ok .next) s') :
    wpAny (mo Γ) c.A (newList []) (fun acc s₃ => wpAny (mo Γ) c.A (newFunctionEnv scope c.env.globals cl [] c.env.qual none .none (some c.env)) (fun cenv s₄ =>
      codeAny (mo Γ) c.A (.compStart (.ListComp elt [⟨.Name x px, iter, ifs, 0⟩] scope pos) 0 it acc { cenv with scope := relabel scope c.env }) (RR acc cenv.locals) s₄) (fun _ _ => False) s₃) (fun _ _ => False) s2 := by
  obtain ⟨I, fp, wr, P, S, rfl, W, hS0, hnew, hliv, hSl, hlt, -, hrd⟩ := src
  refine wpAny_newObj_type (wpAny_newFunctionEnv ok.cell (by intro y hy; simp at hy) (fun h₁ hns₁ hsb₁ => ?_) ok.kind)
  dsimp only at hns₁ hsb₁ ⊢
  have hD0 : s2.heap.get? s2.heap.objs.size = none := get_none_size _
  generalize hD : s2.heap.objs.size = D at hns₁ hsb₁ hD0 ⊢
  generalize hH2 : s2.heap.push { cls := .type "list", dict := none, data := .seq ([] : List Value).toArray } = H2 at hns₁ hsb₁ ⊢
  have hCs : H2.objs.size = D + 1 := by rw [← hH2, Heap.size_push, hD]
  generalize hC : H2.objs.size = C at hns₁ hsb₁ hCs ⊢
  have hDC : D ≠ C := by rw [hCs]; exact Nat.ne_of_lt (Nat.lt_succ_self _)
  have below : ∀ b o, s2.heap.get? b = some o → b ≠ C ∧ b ≠ D := fun b o e => by
    have := Heap.lt_size e
    rw [hD] at this
    exact ⟨by rw [hCs]; exact Nat.ne_of_lt (Nat.lt_succ_of_lt this), Nat.ne_of_lt this⟩
  have old : Sub s2.heap h₁ := fun b o e => hsb₁.extBut b o (below b o e).1 (Heap.get?_push_of_some _ (hH2 ▸ Heap.get?_push_of_some _ e))
  have new1 : s1.heap.get? D = none := by
    cases e : s1.heap.get? D with
    | none => rfl
    | some o => have := k.heap _ _ e; rw [hD0] at this; cases this
  have new2 : s1.heap.get? C = none := by
    cases e : s1.heap.get? C with
    | none => rfl
    | some o => exact absurd rfl (below _ _ (k.heap _ _ e)).1
  have hacc : h₁.get? D = some (plainL #[] 0) := hsb₁.extBut _ _ hDC (Heap.get?_push_of_some _ (hH2 ▸ hD ▸ Heap.get?_push_size _ rfl))
  have fpD : D ∉ fp := fun h => by have := hlt _ h; rw [hD] at this; exact Nat.lt_irrefl _ this
  have fpC : C ∉ fp := fun h => by have := hlt _ h; rw [hD, hCs] at this; exact absurd this (Nat.not_lt.mpr (Nat.le_succ _))
  let hid : Addr → Prop := fun a => Hd c st a ∨ a = C ∨ a = D ∨ a ∈ wr
  have hidN : ∀ a, hid a → Hd c st a ∨ s1.heap.get? a = none := by
    rintro a (h | h | h | h)
    · exact .inl h
    · exact .inr (h ▸ new2)
    · exact .inr (h ▸ new1)
    · exact .inr (hnew a h)
  have hHC : ∀ a, Hd c st a → a ≠ C ∧ a ≠ D ∧ a ∉ wr := fun a h => by
    obtain ⟨o, e⟩ := r.low2 a h
    refine ⟨(below a o (k.heap _ _ e)).1, (below a o (k.heap _ _ e)).2, fun hw => ?_⟩
    rw [hnew a hw] at e; cases e
  have start : S 0 h₁ := W.frame _ _ _ hS0 fun b _ o e => old b o e
  have loop : codeAny (mo Γ) c.A (.compLoop (.ListComp elt [⟨.Name x px, iter, ifs, 0⟩] scope pos) 0 (.ref I) (.ref D) (compEnvC scope cl C c.env)) (RR (.ref D) C) { s2 with heap := h₁, toks := s2.toks + ([] : List (Str × Value)).length } := by
    refine codeAny_compLoop_tests (CpL s1 C D hid ds p F S) ?_ (ds.length + 1)
      ⟨0, _, #[], 0, rfl, Nat.zero_le _, start, hns₁, hacc, by simpa using RdL.nil, k.gens, k.os, k.heap.trans old⟩
    rintro n s' ⟨i, m, ys, e, rfl, hile, hS, hns, hDat, hrdl, k'⟩
    by_cases hlt' : i < ds.length
    · refine W.item i s' _ _ hlt' hS fun v h' tk hP hS' hk' => ?_
      obtain ⟨d, hd, rdv⟩ := hrd i v hlt' hP
      have nC : C ∉ wr := fun h => fpC (W.sub _ h)
      have nD : D ∉ wr := fun h => fpD (W.sub _ h)
      have hnsC : h'.Ns C m := let ⟨o, a, b, e, q⟩ := hns; ⟨o, a, b, hk' _ _ nC e, q⟩
      have hDat' : h'.get? D = some (plainL ys e) := hk' _ _ nD hDat
      have sub1 : Sub s1.heap h' := fun b o eb => hk' b o (fun hw => by rw [hnew b hw] at eb; cases eb) (k'.heap b o eb)
      have hkd : (compEnvC scope cl C c.env).kindOf x = some .local := lookup_relabel_local ok.loc
      refine wpAny_assign_Name (wpAny_storeName_local hkd hnsC (fun h₂ hns₂ hsb₂ => ?_) (by simp [compEnvC, relabel, ok.kind]))
      have sub2 : Sub s1.heap h₂ := fun b o eb => (hsb₂.2 b fun q => by rw [q, show (compEnvC scope cl C c.env).locals = C from rfl, new2] at eb; cases eb).trans (sub1 b o eb)
      have hD2 : h₂.get? D = some (plainL ys e) := (hsb₂.2 D hDC).trans hDat'
      have hS2 : S (i + 1) h₂ := W.frame _ _ _ hS' fun b hb o eb => (hsb₂.2 b fun q => fpC (by have q : b = C := q; exact q ▸ hb)).trans eb
      have live2 : ∀ a, hid a → ∃ o, h₂.get? a = some o := by
        rintro a (h | h | h | h)
        · obtain ⟨o, ea⟩ := r.low2 a h; exact ⟨o, sub2 a o ea⟩
        · obtain ⟨o, _, _, ea, _⟩ := hns₂; exact ⟨o, h ▸ ea⟩
        · exact ⟨_, h ▸ hD2⟩
        · exact hSl _ _ hS2 a (W.sub a h)
      have rc : R Γ (cEnv c scope cl C hid) ((x, .D d) :: capture st cl) { s' with heap := h₂, toks := tk + 1 } :=
        comp_R ok r sub2 k'.gens k'.os new2 hns₂ (by simp) hidN (fun a h => .inl h) (.inr (.inl rfl)) live2 rdv
      have t1 := tests_sound (hel hid C i d hd) rc
      refine wpAny_mono t1 (fun b s3 ⟨k3, eb, he⟩ => ?_) fun _ _ x => x.elim
      have rdl3 : RdL (fz s3.heap hid) ys.toList (((ds.take i).filter p).map F) := by
        refine RdL.mono (fz_mono fun b o hb eb => ⟨hb, k3.heap _ _ ?_⟩) hrdl
        exact (hsb₂.2 b fun q => hb (.inr (.inl q))).trans (hk' b o (fun h => hb (.inr (.inr (.inr h)))) eb)
      cases b with
      | false =>
        simp only [Bool.false_eq_true, if_false]
        refine ⟨ds.length + 1 - (i + 1), by (clear hsz hel hRR hnew hliv hSl hlt hrd hD hD0 hH2 hC hCs hDC below new1 new2 hacc fpD fpC hidN hHC hile hDat hk' hd nC nD hDat' hkd hD2 live2 eb he; omega), i + 1, _, ys, e, rfl, hlt', W.frame _ _ _ hS2 fun b _ o eb => k3.heap _ _ eb, hns₂.keeps k3.heap, k3.heap _ _ hD2, ?_, ⟨k3.gens.trans k'.gens, k3.os.trans k'.os, sub2.trans k3.heap⟩⟩
        rw [take_succ_pF p F ds i d hd, ← eb]
        simpa using rdl3
      | true =>
        simp only [if_true]
        refine wpAny_mono (he rfl s3 (rc.kp k3)) (fun y s4 ⟨k4, a, va, ea⟩ => ?_) fun _ _ x => x.elim
        subst ea
        have k34 := k3.trans k4
        have hys : ys.size ≤ sizeLine := by
          have h1 := hrdl.length
          rw [Array.length_toList, List.length_map] at h1
          have h2 := List.length_filter_le p (ds.take i)
          have h3 : (ds.take i).length ≤ ds.length := List.length_take_le' ..
          (clear hel hRR hnew hliv hSl hlt hrd hD hD0 hH2 hC hCs hDC below new1 new2 hacc fpD fpC hidN hHC hile hDat hlt' hk' hd nC nD hDat' hkd hD2 live2 eb he; omega)
        refine append_sound (k34.heap _ _ hD2) hys fun h₅ n' hD5 hsb5 => ?_
        have sub5 : Sub s1.heap h₅ := fun b o eb => (hsb5 b fun q => by rw [q, new1] at eb; cases eb).trans (k34.heap _ _ (sub2 b o eb))
        have hv5 : ∀ X : Addr → Prop, X D → Sub (fz s4.heap X) (fz h₅ X) := fun X hX => fz_mono fun b o hb eb => ⟨hb, (hsb5 b fun q => hb (q ▸ hX)).trans eb⟩
        refine ⟨ds.length + 1 - (i + 1), by (clear hsz hel hRR hnew hliv hSl hlt hrd hD hD0 hH2 hC hCs hDC below new1 new2 hacc fpD fpC hidN hHC hile hDat hk' hd nC nD hDat' hkd hD2 live2 eb he hys hD5 hsb5 hv5; omega), i + 1, _, ys.push y, n', rfl, hlt', W.frame _ _ _ (W.frame _ _ _ hS2 fun b _ o eb => k34.heap _ _ eb) fun b hb o eb => (hsb5 b fun q => fpD (q ▸ hb)).trans eb,
          (let ⟨o, a, b, ee, q⟩ := hns₂; ⟨o, a, b, (hsb5 C (Ne.symm hDC)).trans (k34.heap _ _ ee), q⟩), hD5, ?_, ⟨k34.gens.trans k'.gens, k34.os.trans k'.os, sub5⟩⟩
        rw [take_succ_pF p F ds i d hd, ← eb, if_pos rfl, Array.toList_push]
        refine RdL.mono (hv5 hid (.inr (.inr (.inl rfl)))) (RdL.append (RdL.mono (fz_keep k4.heap) rdl3) (.one ?_))
        refine Rd.mono (fz_mono fun b o hb eb => ⟨fun h => hb (.inl h), eb⟩) va
    · have hie : i = ds.length := by (clear hsz hel hRR hnew hliv hSl hlt hrd hD hD0 hH2 hC hCs hDC below new1 new2 hacc fpD fpC hidN hHC hDat; omega)
      subst hie
      refine W.done s' _ _ hS fun h' tk hk' => ?_
      have nC : C ∉ wr := fun h => fpC (W.sub _ h)
      have nD : D ∉ wr := fun h => fpD (W.sub _ h)
      rw [List.take_length] at hrdl
      refine hRR D C _ m ys e new1 new2 hDC (let ⟨o, a, b, ee, q⟩ := hns; ⟨o, a, b, hk' _ _ nC ee, q⟩) (hk' _ _ nD hDat) ?_ ⟨k'.gens, k'.os, fun b o eb => hk' b o (fun hw => by rw [hnew b hw] at eb; cases eb) (k'.heap b o eb)⟩
      refine RdL.mono (fz_mono fun b o hb eb => ⟨fun h => hb ?_, hk' b o (fun h => hb (.inr (.inr (.inr h)))) eb⟩) hrdl
      rcases h with h | h | h
      · exact .inl h
      · exact .inr (.inl h)
      · exact .inr (.inr (.inl h))
  exact codeAny_compStart_list loop (W.self 0 _ _ _ start loop)

theorem WE_ListComp {elt iter : Expr} {x : Str} {px pos : Pos} {ifs : List Expr} {scope : Scope} {cl : List (Str × Addr)} {Q : AV → Prop} (p : PyData → Bool) (F : PyData → PyData) (ok : CompOk c scope cl x)
    (h : WE Γ c st (eval iter c.env) fun a => ∃ ds, Iter a ds ∧ ds.length ≤ sizeLine ∧
      (∀ (hid : Addr → Prop) (C : Addr) (i : Nat) (d : PyData), ds[i]? = some d → WTs Γ (cEnv c scope cl C hid) ((x, .D d) :: capture st cl) ifs fun b => b = p d ∧ (b = true → WE Γ (cEnv c scope cl C hid) ((x, .D d) :: capture st cl) (eval elt (cEnv c scope cl C hid).env) fun a => a = .D (F d))) ∧
      Q (.D (.list ((ds.filter p).map F))))
    (hs : ∀ x, foldedSetIterable iter c.env x = pure x := by intro _; rfl) :
    WE Γ c st (eval (.ListComp elt [⟨.Name x px, iter, ifs, 0⟩] scope pos) c.env) Q := fun s r => by
  rw [eval_ListComp]
  refine wpAny_comprehension_free (use := none) rfl hs ok.clos ok.kind ok.names (wpAny_mono (h s r) (fun v s1 ⟨k1, a, va, ds, hi, hsz, hel, q⟩ => wpAny_mono (iter_sound hi (r.kp k1) va) (fun it s2 ⟨k2, src⟩ => ?_) fun _ _ x => x) fun _ _ x => x)
  refine comp_list (RR := fun acc C => compPost (mo Γ) c.A (fun _ _ => False) none _ acc C) ok p F (r.kp k1) k2 src hsz hel fun D C s' m vs n hD hC hDC hns hat rd k' => ?_
  refine ⟨m, hns, fun h' hsb => ⟨k1.trans ⟨k'.gens, k'.os, fun b o e => (hsb.2 b fun q => by rw [q, hC] at e; cases e).trans (k'.heap b o e)⟩, .D (.list ((ds.filter p).map F)), ?_, q⟩⟩
  have hDH : ¬ Hd c st D := fun h => by obtain ⟨o, e⟩ := (r.kp k1).low2 D h; rw [hD] at e; cases e
  refine Rd.list (n := n) (fz_some.mpr ⟨hDH, (hsb.2 D hDC).trans hat⟩) (RdL.mono (fz_mono fun b o hb e => ⟨fun h => hb (.inl h), (hsb.2 b fun q => hb (.inr (.inl q))).trans e⟩) rd)
end
end Mine
end
section
open PySem PySem.Calls PyProof.Rows
namespace Mine
section
variable {Γ : Gx} {c : Cx} {st : St} {s : Shared}

/-- behind a comprehension whose value goes into a local name -/
theorem comp_use {y : Str} {py : Pos} {s1 s' : Shared} {C : Addr} {m : Str → Option Value} {v : Value} {a : AV} {Q : Fl → St → Prop} (r : R Γ c st s) (k1 : Kp s s1) (k' : Kp s1 s') (hC : s1.heap.get? C = none) (hns : s'.heap.Ns C m)
    (hv : VR Γ (fz s'.heap fun b => Hd c st b ∨ b = C) s'.heap a v) (hm : noM a = true) (hy : Stor c.env y) (hV : (upd st y a).all (fun p => notV p.2) = true) (q : Q .next (upd st y a)) :
    wpAny (mo Γ) c.A (assign (.Name y py) c.env v) (fun _ s'' => ∃ m, s''.heap.Ns C m ∧ ∀ h', Heap.SameBut C s''.heap h' →
      WSp Γ c st Q s .next { s'' with heap := h' }) (fun _ _ => False) s' := by
  have r1 := r.kp k1
  let c' : Cx := c.wh fun b => c.hid b ∨ b = C
  have hlive : ∀ b, b = C → ∃ o, s'.heap.get? b = some o := fun b e => by obtain ⟨o, _, _, h, _⟩ := hns; exact ⟨o, e ▸ h⟩
  obtain ⟨r2, sub2⟩ : R Γ c' st s' ∧ Sub (fz s1.heap (Hd c st)) (fz s'.heap (Hd c' st)) := r1.fresh (X := fun b => b = C) k' (fun b e => e ▸ hC) hlive
  have hH : ∀ b, Hd c' st b → Hd c st b ∨ b = C := by
    rintro b ((h | h) | h)
    · exact .inl (.inl h)
    · exact .inr h
    · exact .inl (.inr h)
  refine wpAny_assign_Name (store_name (c := c') r2 hy fun s2 hp hg ho hb hy' hf hc => ?_)
  obtain ⟨r3, m3⟩ := r2.stored (a := a) (VR.noM_mono hm hv (fz_mono fun b o hb e => ⟨fun h => hb (hH b h), e⟩)) hm hp hg ho hb hy' hf hc
  obtain ⟨p, hp, hpo, hs⟩ := hp
  have hpC : C ≠ p := fun e => by
    obtain ⟨o, e'⟩ := r1.ownLive (c := c) hp
    rw [← e, hC] at e'; cases e'
  refine ⟨m, (let ⟨o, es, ep, e, rest⟩ := hns; ⟨o, es, ep, (hs C hpC).trans e, rest⟩), fun h' hsb => ?_⟩
  have hidC : ∀ b, c.hid b → ¬ b = C := fun b hb e => by
    obtain ⟨o, e'⟩ := r1.low b hb
    rw [e, hC] at e'; cases e'
  obtain ⟨r4, sub4⟩ := R.dropTurned (s' := { s2 with heap := h' }) r3 r.ownH hidC (fun b h => (r.fo.fr h).1) (fun b e => by
    cases eb : c.base.get? b with
    | none => rfl
    | some o => have := r1.keep b o eb; rw [e, hC] at this; cases this) hV (fun b o hn e => (hsb.2 b hn).trans e) rfl rfl
  exact ⟨_, .next, k1.mv.trans ⟨sub2.trans (m3.sub.trans sub4), fun b o h1 h2 e => (m3.hid b o (.inl h1) h2 (k'.heap _ _ e)).trans fun o' e' => .exact ((hsb.2 b (hidC b h1)).trans e')⟩, r4, rfl, q⟩

theorem WS_AssignComp {elt iter : Expr} {x y : Str} {px py pos spos : Pos} {ifs : List Expr} {scope : Scope} {cl : List (Str × Addr)} {Q : Fl → St → Prop} (p : PyData → Bool) (F : PyData → PyData) (ok : CompOk c scope cl x)
    (h : WE Γ c st (eval iter c.env) fun a => ∃ ds, Iter a ds ∧ ds.length ≤ sizeLine ∧
      (∀ (hid : Addr → Prop) (C : Addr) (i : Nat) (d : PyData), ds[i]? = some d → WTs Γ (cEnv c scope cl C hid) ((x, .D d) :: capture st cl) ifs fun b => b = p d ∧ (b = true → WE Γ (cEnv c scope cl C hid) ((x, .D d) :: capture st cl) (eval elt (cEnv c scope cl C hid).env) fun a => a = .D (F d))) ∧
      (upd st y (.D (.list ((ds.filter p).map F)))).all (fun p => notV p.2) = true ∧ Q .next (upd st y (.D (.list ((ds.filter p).map F)))))
    (hy : Stor c.env y := by exact .inl rfl) (hsw : swapsWith (.ListComp elt [⟨.Name x px, iter, ifs, 0⟩] scope pos) (some (.Name y py)) spos.line c.env = pure true := by rfl)
    (hs : ∀ x, foldedSetIterable iter c.env x = pure x := by intro _; rfl) :
    WS Γ c st (exec (.Assign [.Name y py] (.ListComp elt [⟨.Name x px, iter, ifs, 0⟩] scope pos) spos) c.env) Q := fun s r => by
  rw [exec_Assign_Name_used _ _ _ _ hsw]
  refine wpAny_bind (wpAny_standAt (wpAny_bind ?_))
  show wpAny _ c.A (do let _ ← comprehension (.ListComp elt [⟨.Name x px, iter, ifs, 0⟩] scope pos) scope c.env _ (newList []) false (eval iter c.env) (some (assign (.Name y py) c.env))) _ _ s
  refine wpAny_bind (wpAny_mono (wpAny_comprehension_free (use := some (assign (.Name y py) c.env)) (Q := fun _ s' => WSp Γ c st Q s .next s') rfl hs ok.clos ok.kind ok.names
    (wpAny_mono (h s r) (fun v s1 ⟨k1, a, va, ds, hi, hsz, hel, hV, q⟩ => wpAny_mono (iter_sound hi (r.kp k1) va) (fun it s2 ⟨k2, src⟩ => ?_) fun _ _ e => e) fun _ _ e => e)) (fun _ s' hq => wpAny_pure (wpAny_pure hq)) fun _ _ e => e)
  refine comp_list (RR := fun acc C => compPost (mo Γ) c.A (fun _ _ => False) (some (assign (.Name y py) c.env)) _ acc C) ok p F (r.kp k1) k2 src hsz hel fun D C s' m vs n hD hC hDC hns hat rd k' => ?_
  refine comp_use r k1 k' hC hns (a := .D (.list ((ds.filter p).map F))) ?_ rfl hy hV q
  have hDH : ¬ (Hd c st D ∨ D = C) := fun h => h.elim (fun h => by obtain ⟨o, e⟩ := (r.kp k1).low2 D h; rw [hD] at e; cases e) hDC
  refine Rd.list (n := n) (fz_some.mpr ⟨hDH, hat⟩) (RdL.mono (fz_mono fun b o hb e => ⟨fun h => hb (h.elim .inl fun h => .inr (.inl h)), e⟩) rd)

/-! a list of the frame's own grows -/
theorem WS_append {x : Str} {e : Expr} {np apos pos p' : Pos} {a : Addr} {ds : List PyData} {Q : Fl → St → Prop} (hl : st.lookup x = some (.M a ds)) (hz : ds.length ≤ sizeLine) (hV : st.all (fun p => notV p.2) = true)
    (h : WE Γ c st (eval e c.env) fun b => ∃ d, b = .D d ∧ Q .next (upd st x (.M a (ds ++ [d]))))
    (hbase : attributeBase (.Name x np) "append" c.env (eval (.Name x np) c.env) = eval (.Name x np) c.env := by rfl) (hs : starEach [e] c.env = [(false, eval e c.env)] := by rfl) (hline : (apos.endLine == pos.line) = true := by rfl)
    (hd : (x == ("__debug__" : Str)) = false := by decide) (hn : (x == ("__classdict__" : Str)) = false := by decide) (hi : interactive c.env = false := by rfl)
    (hsw : swapsWith (.Call (.Attribute (.Name x np) "append" apos) [e] [] pos) none p'.line c.env = pure false := by rfl) :
    WS Γ c st (exec (.Expr (.Call (.Attribute (.Name x np) "append" apos) [e] [] pos) p') c.env) Q := fun s r => by
  obtain ⟨v, hb, rfl, vs, n, h1, h2⟩ := r.bound x _ hl
  have hm := mem_of_lookup hl
  refine wpAny_Expr_any (Call_method1 hbase hs hline (wpAny_Name (loadName_Bd r.hk hb ?_ hn) hd)) hi hsw
  refine ⟨"list", "list.append", F.plainAttrs_list, F.slot_list_append, F.type_list_append, ⟨_, h1, rfl⟩, (fun b e => by cases e; exact ⟨_, h1, rfl⟩), ?_⟩
  refine P.append_list (wpAny_mono (h s r) (fun u s1 ⟨k1, b, vb, d, eb, q⟩ => ?_) fun _ _ x => x)
  subst eb
  have h1' := k1.heap _ _ h1
  have hlen := h2.length
  rw [Array.length_toList] at hlen
  refine ⟨vs, n, by omega, h1', ?_⟩
  have r1 := r.kp k1
  have hother : ∀ b, b ≠ a → (s1.heap.update a (Obj.mapSeq fun xs => xs.push u)).get? b = s1.heap.get? b := fun b hb => Heap.get?_update_other _ _ (Ne.symm hb)
  have hH : ∀ b, Hd c (upd st x (.M a (ds ++ [d]))) b → Hd c st b := by
    rintro b (h | ⟨y, es, h⟩)
    · exact .inl h
    · rcases upd_mem r.keys h with ⟨_, e⟩ | ⟨_, h⟩
      · cases e; exact .inr ⟨x, ds, hm⟩
      · exact .inr ⟨y, es, h⟩
  have mv : Mv c st s1 (upd st x (.M a (ds ++ [d]))) { s1 with heap := s1.heap.update a (Obj.mapSeq fun xs => xs.push u) } :=
    .ex (fz_mono fun b o hb e => ⟨fun h => hb (hH b h), (hother b fun q => hb (.inr ⟨x, ds, q ▸ hm⟩)).trans e⟩) fun b o h1 _ e => (hother b fun q => r.mHid x a ds hm (q ▸ h1)).trans e
  have nown : ∀ b, own c.env b → b ≠ a := fun b ho q => r.mOwn x a ds hm (q ▸ ho)
  have bd : ∀ {y u}, Bd c.env s1.heap y u → Bd c.env (s1.heap.update a (Obj.mapSeq fun xs => xs.push u)) y u → True := fun _ _ => trivial
  have hbd : ∀ y w', Bd c.env s1.heap y w' → Bd c.env (s1.heap.update a (Obj.mapSeq fun xs => xs.push u)) y w' := by
    rintro y w' (⟨k, m, ⟨o, es, ep, e, q⟩, em⟩ | ⟨k, b, ea, o, e', q⟩)
    · exact .inl ⟨k, m, ⟨o, es, ep, (hother _ (nown _ (.inl rfl))).trans e, q⟩, em⟩
    · exact .inr ⟨k, b, ea, o, (hother _ (nown _ (.inr ⟨y, ea⟩))).trans e', q⟩
  refine ⟨_, .next, k1.mv.trans mv, r1.set rfl rfl mv ⟨rfl, _, _, IsL.update h1' _, ?_⟩ (hbd _ _ (hb.mono k1.heap)) (fun y w' _ hb => hbd y w' hb) ?_ ?_ ?_ ?_ ?_ ?_ (fun _ _ e => by cases e) ?_, rfl, q⟩
  · rw [Array.toList_push]
    exact RdL.mono mv.sub (RdL.append (RdL.mono (fz_keep k1.heap) h2) (.one vb))
  · obtain ⟨m, o, es, ep, e, q⟩ := r1.frame
    exact ⟨m, o, es, ep, (hother _ (nown _ (.inl rfl))).trans e, q⟩
  · intro y b e
    obtain ⟨w', o, e', q⟩ := r1.cells y b e
    exact ⟨w', o, (hother _ (nown _ (.inr ⟨y, e⟩))).trans e', q⟩
  · exact fun b o e => (hother b fun q => by have := r.mBase x a ds hm; rw [← q, e] at this; cases this).trans (r1.keep b o e)
  · intro b hb
    obtain ⟨o, e⟩ := r1.low b hb
    exact ⟨o, (hother b fun q => r.mHid x a ds hm (q ▸ hb)).trans e⟩
  · intro y q es hy hm'
    exact hother q fun e => hy (r.mApart y x a es ds (e ▸ hm') hm)
  · intro y q es _ hm'
    have := List.all_eq_true.mp hV _ hm'
    cases this
  · intro q es e
    cases e
    exact ⟨r.mHid x a ds hm, r.mBase x a ds hm, fun y es' hy hm' => hy (r.mApart y x a es' ds hm' hm)⟩
end
end Mine
end
section
open PySem PySem.Calls PyProof.Rows
namespace Mine
section
variable {Γ : Gx} {c : Cx} {st : St} {s : Shared}

theorem fn_fspath : isFn "fspath" := by unfold isFn; decide +kernel
theorem fn_get_sep : isFn "_get_sep" := by unfold isFn; decide +kernel

noncomputable def dirHead (x : Str) : Str := Txt.slice x none (some (Txt.rfind x "/" + 1))
noncomputable def dirnameF (x : Str) : Str :=
  if (((dirHead x).length : Int) != 0) = true then (if ((dirHead x) != Txt.mul "/" ((dirHead x).length : Nat)) = true then Txt.rstripChars (dirHead x) "/" else dirHead x) else dirHead x

theorem con_dirname (x : Str) (hx : x.length ≤ 1000) : Con Γ 2 "dirname" [.D (.str x)] (.D (.str (dirnameF x))) := by
  have hsl : sizeLine = 2 ^ 24 := rfl
  have hh : (dirHead x).length ≤ 1000 := Nat.le_trans (Txt.slice_le x _ _) hx
  refine con_fn (j := 7) ["p"] (by rfl) rfl rfl rfl ?_ (by decide +kernel) (by decide +kernel) ?_ rfl rfl rfl
  · exact fun pm cd doc => len1 fun v => rfl
  · intro κ
    refine WS_cons (WS_Assign (WE_call1 fn_fspath (WE_name rfl ⟨_, con_fspath x, rfl, ?_⟩) (Nat.le_refl 1)))
    refine WS_cons (WS_Assign (WE_call1 fn_get_sep (WE_name rfl ⟨_, con_get_sep x, rfl, ?_⟩) (Nat.le_refl 1)))
    refine WS_cons (WS_Assign (WE_BinOp (WE_rfind (WE_name rfl ⟨x, rfl, WE_name rfl ⟨_, .mk _ _, WE_int ⟨_, .addI _ _, rfl, ?_⟩⟩⟩))))
    refine WS_cons (WS_Assign (WE_slice_toS (WE_name rfl (WE_name rfl ⟨x, _, rfl, rfl, by exact Nat.le_trans hx (by decide), rfl, ?_⟩))))
    refine WS_cons (WS_If (WB_and (WB_plain (WE_name rfl ⟨_, .str _ (by show (dirHead x).length ≤ _; exact Nat.le_trans hh (by decide)), ?_⟩))))
    have hm : MulOk "/" ((dirHead x).length : Int) := mulOk_of 1 1000 (by decide) (by omega) (by (clear hx hsl hh; omega)) (by decide) (by decide)
    refine ⟨fun h1 => WB_and (WB_Compare (WE_name rfl (WE_BinOp (WE_name rfl (WE_len (WE_name rfl ⟨_, .str _ (by show (dirHead x).length ≤ _; exact Nat.le_trans hh (by decide)), ⟨_, .mulS _ _ hm, ⟨_, .neS _ _, ?_⟩⟩⟩)))))), fun h1 => ?_⟩
    · refine ⟨fun h2 => WB_and_nil ?_, fun h2 => ?_⟩
      · refine ⟨fun _ => ?_, fun h => (nomatch h)⟩
        refine WS_cons (WS_Assign (WE_rstrip (WE_name rfl ⟨_, ⟨by show (dirHead x).length ≤ _; exact Nat.le_trans hh (by decide), rfl⟩, WE_name rfl ⟨_, rfl, rfl, ?_⟩⟩)))
        refine WS_nil (WS_cons (WS_Return (WE_name rfl ?_)))
        have h1 : (((dirHead x).length : Int) != 0) = true := h1
        have h2 : ((dirHead x) != Txt.mul "/" ((dirHead x).length : Nat)) = true := h2
        show Fl.ret (.D (.str (Txt.rstripChars (dirHead x) "/"))) = Fl.ret (.D (.str (dirnameF x)))
        unfold dirnameF
        rw [if_pos h1, if_pos h2]
      · refine ⟨fun h => (nomatch h), fun _ => ?_⟩
        refine WS_nil (WS_cons (WS_Return (WE_name rfl ?_)))
        have h1 : (((dirHead x).length : Int) != 0) = true := h1
        have h2 : ((dirHead x) != Txt.mul "/" ((dirHead x).length : Nat)) = false := h2
        show Fl.ret (.D (.str (dirHead x))) = Fl.ret (.D (.str (dirnameF x)))
        unfold dirnameF
        rw [if_pos h1, if_neg (by rw [h2]; decide)]
    · refine ⟨fun h => (nomatch h), fun _ => ?_⟩
      refine WS_nil (WS_cons (WS_Return (WE_name rfl ?_)))
      have h1 : (((dirHead x).length : Int) != 0) = false := h1
      show Fl.ret (.D (.str (dirHead x))) = Fl.ret (.D (.str (dirnameF x)))
      unfold dirnameF
      rw [if_neg (by rw [h1]; decide)]
end
end Mine
end
section
open PySem PySem.Calls PyProof.Rows
namespace Mine
section
variable {Γ : Gx} {c : Cx} {st : St} {s : Shared}

/-! range -/
inductive BRange : List AV → AV → Prop
  | one (n : Int) : BRange [.D (.int n)] (.Rg 0 n 1)
  | two (a b : Int) : BRange [.D (.int a), .D (.int b)] (.Rg a b 1)
  | three (a b k : Int) (hk : k ≠ 0) (hs : k.natAbs < 1073741824) : BRange [.D (.int a), .D (.int b), .D (.int k)] (.Rg a b k)
theorem range_new {a b k : Int} {t u v : Tok} {tk : Tok} (r : R Γ c st s) :
    Kp s { s with heap := s.heap.push { cls := .type "range", data := .fields #[.int a t, .int b u, .int k v] }, toks := tk } ∧
    VR Γ (fz (s.heap.push { cls := .type "range", data := .fields #[.int a t, .int b u, .int k v] }) (Hd c st)) (s.heap.push { cls := .type "range", data := .fields #[.int a t, .int b u, .int k v] }) (.Rg a b k) (.ref s.heap.objs.size) := by
  refine ⟨⟨rfl, rfl, fun _ _ e => Heap.get?_push_of_some _ e⟩, s.heap.objs.size, t, u, v, rfl, fz_some.mpr ⟨fun h => Nat.lt_irrefl _ (r.low' _ h), Heap.get?_push_size _ rfl⟩⟩
theorem range_sound {avs : List AV} {vs : List Value} {z : AV} (r : R Γ c st s) (va : VRL Γ (fz s.heap (Hd c st)) s.heap avs vs) (hz : BRange avs z) :
    wpAny (mo Γ) c.A (call (.type "range") vs) (fun x s' => Kp s s' ∧ VR Γ (fz s'.heap (Hd c st)) s'.heap z x) (fun _ _ => False) s := by
  cases hz with
  | one n =>
    cases va with
    | cons h1 t =>
      cases t
      obtain ⟨t, rfl⟩ := Rd.int_inv h1
      exact call_range_1 (range_new r)
  | two a b =>
    cases va with
    | cons h1 t =>
      cases t with
      | cons h2 t =>
        cases t
        obtain ⟨t, rfl⟩ := Rd.int_inv h1
        obtain ⟨t', rfl⟩ := Rd.int_inv h2
        exact call_range_2 (range_new r)
  | three a b k hk hs =>
    cases va with
    | cons h1 t =>
      cases t with
      | cons h2 t =>
        cases t with
        | cons h3 t =>
          cases t
          obtain ⟨t, rfl⟩ := Rd.int_inv h1
          obtain ⟨t', rfl⟩ := Rd.int_inv h2
          obtain ⟨t'', rfl⟩ := Rd.int_inv h3
          exact call_range_3 hk (range_new r) (.inl (PyProof.noPylong_small hs))
theorem WE_range1 {np pos : Pos} {e : Expr} {Q : AV → Prop} (h : WE Γ c st (eval e c.env) (K1l BRange Q))
    (hx : c.env.kindOf "range" = some .globalImplicit := by rfl) (he : starEach [e] c.env = [(false, eval e c.env)] := by rfl)
    (hcall : eval (.Call (.Name "range" np) [e] [] pos) c.env = (do callWith pos (← eval (.Name "range" np) c.env) [] (backTo pos (starEach [e] c.env)) (backToKw pos (keywordEach [] c.env))) := by rfl) :
    WE Γ c st (eval (.Call (.Name "range" np) [e] [] pos) c.env) Q :=
  WE_typecall BRange (fun _ _ _ _ => range_sound) (WA_cons (h.mono fun a ⟨z, hz, q⟩ => WA_nil ⟨z, hz, q⟩) he) hx bi_range he rfl hcall
theorem WE_range2 {np pos : Pos} {e1 e2 : Expr} {Q : AV → Prop} (h : WE Γ c st (eval e1 c.env) (K2l Γ c st e2 BRange Q))
    (hx : c.env.kindOf "range" = some .globalImplicit := by rfl) (he : starEach [e1, e2] c.env = (false, eval e1 c.env) :: starEach [e2] c.env := by rfl) (he2 : starEach [e2] c.env = [(false, eval e2 c.env)] := by rfl)
    (hcall : eval (.Call (.Name "range" np) [e1, e2] [] pos) c.env = (do callWith pos (← eval (.Name "range" np) c.env) [] (backTo pos (starEach [e1, e2] c.env)) (backToKw pos (keywordEach [] c.env))) := by rfl) :
    WE Γ c st (eval (.Call (.Name "range" np) [e1, e2] [] pos) c.env) Q :=
  WE_typecall BRange (fun _ _ _ _ => range_sound) (WA_cons (h.mono fun a hb => WA_cons (hb.mono fun b ⟨z, hz, q⟩ => WA_nil ⟨z, hz, q⟩) he2) he) hx bi_range he (by rw [he2]; rfl) hcall
theorem WE_range3 {np pos : Pos} {e1 e2 e3 : Expr} {Q : AV → Prop} (h : WE Γ c st (eval e1 c.env) fun a => WE Γ c st (eval e2 c.env) fun b => WE Γ c st (eval e3 c.env) fun d => Ex2 (BRange [a, b, d]) Q)
    (hx : c.env.kindOf "range" = some .globalImplicit := by rfl) (he : starEach [e1, e2, e3] c.env = (false, eval e1 c.env) :: starEach [e2, e3] c.env := by rfl) (he2 : starEach [e2, e3] c.env = (false, eval e2 c.env) :: starEach [e3] c.env := by rfl) (he3 : starEach [e3] c.env = [(false, eval e3 c.env)] := by rfl)
    (hcall : eval (.Call (.Name "range" np) [e1, e2, e3] [] pos) c.env = (do callWith pos (← eval (.Name "range" np) c.env) [] (backTo pos (starEach [e1, e2, e3] c.env)) (backToKw pos (keywordEach [] c.env))) := by rfl) :
    WE Γ c st (eval (.Call (.Name "range" np) [e1, e2, e3] [] pos) c.env) Q :=
  WE_typecall BRange (fun _ _ _ _ => range_sound) (WA_cons (h.mono fun a hb => WA_cons (hb.mono fun b hd => WA_cons (hd.mono fun d ⟨z, hz, q⟩ => WA_nil ⟨z, hz, q⟩) he3) he2) he) hx bi_range he (by rw [he2, he3]; rfl) hcall

/-! new lists: list(xs), xs * n -/
theorem WN_list {np pos : Pos} {e : Expr} {Q : List PyData → Prop} (h : WE Γ c st (eval e c.env) fun a => ∃ ds, items a = some ds ∧ ds.length ≤ sizeLine ∧ (∀ d ∈ ds, flat d = true) ∧ Q ds)
    (hx : c.env.kindOf "list" = some .globalImplicit := by rfl) (he : starEach [e] c.env = [(false, eval e c.env)] := by rfl)
    (hcall : eval (.Call (.Name "list" np) [e] [] pos) c.env = (do callWith pos (← eval (.Name "list" np) c.env) [] (backTo pos (starEach [e] c.env)) (backToKw pos (keywordEach [] c.env))) := by rfl) :
    WN Γ c st (eval (.Call (.Name "list" np) [e] [] pos) c.env) Q := fun s r => by
  have hA : WA Γ c st (spliced (backTo pos (starEach [e] c.env))) fun avs => ∃ a, avs = [a] ∧ ∃ ds, items a = some ds ∧ ds.length ≤ sizeLine ∧ (∀ d ∈ ds, flat d = true) ∧ Q ds := WA_cons (h.mono fun a q => WA_nil ⟨a, rfl, q⟩) he
  exact Call_ (name_builtin r hx (r.gd.free _ bi_list.mem) bi_list.boot bi_list.ne bi_list.nd (PyProof.Rows.callWith_type1 (wpAny_mono (hA s r) (fun vs s1 ⟨k1, avs, va, a, ea, ds, hi, hz, hf, q⟩ => by
    subst ea
    cases va with
    | cons h1 t =>
      cases t
      obtain ⟨l, its, n, rfl, h2, h3⟩ := h1.items hi
      have hl := h3.length
      rw [Array.length_toList] at hl
      refine call_list_seq l (.inl rfl) h2 rfl rfl (fun h' c' hk hat => ?_) (by omega)
      refine ⟨k1.trans ⟨rfl, rfl, hk⟩, s1.heap.objs.size, its, c', ds, rfl, ?_, hat, RdL.mono (fz_keep hk) h3, hf, q⟩
      cases e : s.heap.get? s1.heap.objs.size with
      | none => rfl
      | some o => exact absurd (Heap.lt_size (k1.heap _ _ e)) (Nat.lt_irrefl _)) fun _ _ x => x) he rfl)) hcall

noncomputable def flatAV : AV → Prop
  | .D d => flat d = true
  | _ => False
theorem flatAV.noM {a : AV} (h : flatAV a) : noM a = true := by cases a <;> first | rfl | exact h.elim
theorem flatAV.any {a : AV} {v : Value} {g h g' h' : Heap} (hf : flatAV a) (x : VR Γ g h a v) : VR Γ g' h' a v := by
  cases a with
  | D d => exact Rd.flat_any x hf g'
  | _ => exact hf.elim
theorem WS_Assign2 {x y : Str} {px py pos : Pos} {value : Expr} {Q : Fl → St → Prop} (h : WE Γ c st (eval value c.env) fun a => flatAV a ∧ Q .next (upd (upd st x a) y a))
    (hx : Stor c.env x := by first | exact .inl rfl | exact .inr ⟨rfl, _, rfl⟩) (hy : Stor c.env y := by first | exact .inl rfl | exact .inr ⟨rfl, _, rfl⟩)
    (he : (assignEach [.Name x px, .Name y py] c.env).map (·.2) = [assign (.Name x px) c.env, assign (.Name y py) c.env] := by rfl)
    (hw : swappedStores [.Name x px, .Name y py] value c.env = pure none := by rfl) :
    WS Γ c st (exec (.Assign [.Name x px, .Name y py] value pos) c.env) Q := fun s r =>
  wpAny_Assign_two (wpAny_mono (h s r) (fun v s1 ⟨k1, a, va, hm, q⟩ => wpAny_assign_Name (store_name (r.kp k1) hx fun s2 hp hg ho hb hy' hf hc => by
    obtain ⟨r2, m2⟩ := (r.kp k1).stored va hm.noM hp hg ho hb hy' hf hc
    exact wpAny_assign_Name (store_name r2 hy fun s3 hp hg ho hb hy' hf hc => by
      obtain ⟨r3, m3⟩ := r2.stored (hm.any va) hm.noM hp hg ho hb hy' hf hc
      exact ⟨_, .next, (k1.mv.trans m2).trans m3, r3, rfl, q⟩))) fun _ _ x => x) he hw
end
end Mine
end
section
open PySem PySem.Calls PyProof.Rows
namespace Mine
/-- st' is part of st -/
noncomputable def Wk (st : St) : St → Prop
  | [] => True
  | (x, a) :: r => st.lookup x = some a ∧ Wk st r
theorem Wk.mem {st : St} : ∀ {st' : St}, Wk st st' → ∀ {x a}, (x, a) ∈ st' → st.lookup x = some a
  | [], _, _, _, h => nomatch h
  | (y, b) :: r, ⟨h1, h2⟩, x, a, h => by
    rcases List.mem_cons.mp h with e | h
    · cases e; exact h1
    · exact Wk.mem h2 h
section
variable {Γ : Gx} {c : Cx} {st : St} {s : Shared}
theorem R.weak {st' : St} (r : R Γ c st s) (hk : Wk st st') (hn : (st'.map (·.1)).Nodup) : R Γ c st' s ∧ Mv c st s st' s := by
  have hm : ∀ {x a}, (x, a) ∈ st' → (x, a) ∈ st := fun h => mem_of_lookup (hk.mem h)
  have hH : ∀ b, Hd c st' b → Hd c st b := by
    rintro b (h | ⟨x, ds, h⟩)
    · exact .inl h
    · exact .inr ⟨x, ds, hm h⟩
  have sub : Sub (fz s.heap (Hd c st)) (fz s.heap (Hd c st')) := fz_mono fun b o hb e => ⟨fun h => hb (hH b h), e⟩
  exact ⟨{
    gd := r.gd
    keep := r.keep
    rm := r.rm
    gens := r.gens
    os := r.os
    hk := r.hk
    glob := r.glob
    bns := r.bns
    frame := r.frame
    cells := r.cells
    ownH := r.ownH
    ownB := r.ownB
    apart := r.apart
    apartL := r.apartL
    low := r.low
    tab := r.tab.mono sub
    fo := r.fo
    bound := fun x av e => let ⟨v, h1, h2⟩ := r.bound x av (hk.mem (mem_of_lookup e)); ⟨v, h1, h2.mono sub (Sub.refl _)⟩
    keys := hn
    mHid := fun x a ds h => r.mHid x a ds (hm h)
    vOwn := fun x a ds h => r.vOwn x a ds (hm h)
    mBase := fun x a ds h => r.mBase x a ds (hm h)
    mApart := fun x y a ds es h h' => r.mApart x y a ds es (hm h) (hm h') }, .ex sub fun _ _ _ _ e => e⟩
/-- forget names -/
theorem WS_weak (st' : St) {t : Sem Flow} {Q : Fl → St → Prop} (hk : Wk st st') (h : WS Γ c st' t Q) (hn : (st'.map (·.1)).Nodup := by (simp only [List.map_cons, List.map_nil]; decide +kernel)) : WS Γ c st t Q := fun s r => by
  obtain ⟨r', m'⟩ := r.weak hk hn
  exact wpAny_mono (h s r') (fun _ _ x => x.pre (m')) fun _ _ x => x
theorem WS_end (st' : St) {Q : Fl → St → Prop} (hk : Wk st st') (h : Q .next st') (hn : (st'.map (·.1)).Nodup := by (simp only [List.map_cons, List.map_nil]; decide +kernel)) : WS Γ c st (execs [] c.env) Q := WS_weak st' hk (WS_nil h) hn

end
end Mine
end
section
open PySem PySem.Calls PyProof.Rows
namespace Mine
section
variable {Γ : Gx} {c : Cx} {st : St} {s : Shared}
/-! the modes -/
noncomputable def iter {α : Type} (f : α → α) : Nat → α → α
  | 0, x => x
  | n + 1, x => f (iter f n x)
noncomputable def modeStep (p : Int × Int) : Int × Int := (Builtin.bitXor p.1 ((Int.fdiv 4096 (2 ^ (p.2.fmod 13).toNat)).fmod 4096), p.2.fdiv 13)
noncomputable def modeHi : List Int := [33188, 42400, 8191, 12288, 25545]
noncomputable def modeLo : List Int := [17407, 16877, 18889, 16894, 16767]
noncomputable def modeF (k : Nat) (g : Int) : Int := if k > 4 then (modeHi.getD (k - 5) 0 + g).fmod (2 ^ 32) else (iter modeStep 3 (modeLo.getD k 0, g)).1
theorem fn_law_mode : isFn "_law_mode" := by unfold isFn; decide +kernel
theorem ints_at (l : List Int) (k : Nat) (hk : k < l.length) : (l.map PyData.int)[k]? = some (.int (l.getD k 0)) := by
  rw [List.getElem?_map, List.getElem?_eq_getElem hk, List.getD_eq_getElem?_getD, List.getElem?_eq_getElem hk]; rfl
theorem con_law_mode (k : Nat) (g : Int) (hk : k < 10) (hg : 0 ≤ g) : Con Γ 1 "_law_mode" [.D (.int k), .D (.int g)] (.D (.int (modeF k g))) := by
  refine con_fn (j := 13) ["k", "given"] (by rfl) rfl rfl rfl ?_ (by decide +kernel) (by decide +kernel) ?_ rfl rfl rfl
  · exact fun pm cd doc => len2 fun v u => rfl
  · intro κ
    refine WS_cons ?_; refine WS_If ?_; refine WB_Compare ?_; refine WE_name rfl ?_; refine WE_int ?_; refine ⟨_, Cmp.gtI _ _, ?_⟩
    refine ⟨fun h1 => ?_, fun h1 => ?_⟩
    · have h1 : 4 < k := by have := of_decide_eq_true h1; (clear hk hg h1; omega)
      refine WS_cons ?_; refine WS_Return ?_; refine WE_BinOp ?_; refine WE_BinOp ?_; refine WE_Subscript ?_; refine WE_List ?_; refine WA_cons ?_; refine WE_int ?_; refine WA_cons ?_; refine WE_int ?_; refine WA_cons ?_; refine WE_int ?_; refine WA_cons ?_; refine WE_int ?_; refine WA_cons ?_; refine WE_int ?_; refine WA_nil ?_; refine ⟨_, rfl, by decide, ?_⟩; refine WE_BinOp ?_; refine WE_name rfl ?_; refine WE_int ?_; refine ⟨_, Bin.subI _ _, ?_⟩
      refine ⟨_, .list _ (modeHi.map .int) _ (.int (modeHi.getD (k - 5) 0)) rfl (by omega) ?_ (by decide), ?_⟩
      · rw [show ((k : Int) - 5).toNat = k - 5 by omega]
        exact ints_at modeHi (k - 5) (by show k - 5 < 5; omega)
      refine WE_name rfl ?_; refine ⟨_, Bin.addI _ _, ?_⟩; refine WE_BinOp ?_; refine WE_int ?_; refine WE_int ?_; refine ⟨_, Bin.powI _ _ (by decide) (by decide), ?_⟩; refine ⟨_, Bin.modI _ _ (by decide), ?_⟩
      unfold modeF
      rw [if_pos h1]; rfl
    · have h1 : ¬ 4 < k := by have := of_decide_eq_false h1; (clear hk hg h1; omega)
      refine WS_nil ?_
      refine WS_cons ?_; refine WS_Assign ?_; refine WE_Subscript ?_; refine WE_List ?_; refine WA_cons ?_; refine WE_int ?_; refine WA_cons ?_; refine WE_int ?_; refine WA_cons ?_; refine WE_int ?_; refine WA_cons ?_; refine WE_int ?_; refine WA_cons ?_; refine WE_int ?_; refine WA_nil ?_; refine ⟨_, rfl, by decide, ?_⟩; refine WE_name rfl ?_
      refine ⟨_, .list _ (modeLo.map .int) _ (.int (modeLo.getD k 0)) rfl (by omega) ?_ (by decide), ?_⟩
      · rw [show ((k : Int)).toNat = k by rfl]
        exact ints_at modeLo k (by show k < 5; omega)
      refine ⟨rfl, ?_⟩; refine WS_cons ?_; refine WS_Assign ?_; refine WE_name rfl ?_; refine ⟨rfl, ?_⟩; refine WS_cons ?_
      refine WS_For (fun ds i st => st = ([("k", .D (.int k)), ("given", .D (.int g)), ("mode", .D (.int (iter modeStep i (modeLo.getD k 0, g)).1)), ("rest", .D (.int (iter modeStep i (modeLo.getD k 0, g)).2))] : St)) ?_
      refine WE_range1 ?_; refine WE_int ?_; refine ⟨_, BRange.one _, ?_⟩; refine ⟨rfl, ?_⟩
      refine ⟨rangeDs 0 3 1, .range _ _ _ (by decide), rfl, fun i st1 h => h ▸ rfl, ?_, ?_⟩
      · rintro hid i d st1 hd rfl
        refine WS_cons ?_; refine WS_Assign ?_; refine WE_BinOp ?_; refine WE_name rfl ?_; refine WE_BinOp ?_; refine WE_BinOp ?_; refine WE_int ?_; refine WE_BinOp ?_; refine WE_int ?_; refine WE_BinOp ?_; refine WE_name rfl ?_; refine WE_int ?_; refine ⟨_, Bin.modI _ _ (by decide), ?_⟩
        generalize hp : iter modeStep i (modeLo.getD k 0, g) = p
        have h13 : 0 ≤ p.2.fmod 13 ∧ p.2.fmod 13 < 13 := by rw [Int.fmod_eq_emod_of_nonneg _ (by decide)]; omega
        have hpow : ∀ n : Nat, n < 13 → (2 : Int) ^ n ≠ 0 ∧ ((2 : Int) ^ n).natAbs < 1073741824 := by decide
        have hn := hpow (p.2.fmod 13).toNat (by omega)
        refine ⟨_, Bin.powI _ _ (by omega) (by have : Builtin.Int.intBits 2 = 2 := by decide +kernel
                                               rw [this]; omega), _, Bin.divI _ _ hn.1 hn.2, ?_⟩
        refine WE_int ?_; refine ⟨_, Bin.modI _ _ (by decide), ?_⟩; refine ⟨_, Bin.xorI _ _, ?_⟩; refine ⟨rfl, ?_⟩; refine WS_cons ?_; refine WS_Assign ?_; refine WE_BinOp ?_; refine WE_name rfl ?_; refine WE_int ?_; refine ⟨_, Bin.divI _ _ (by decide) (by decide), ?_⟩; refine ⟨rfl, ?_⟩
        refine WS_end [("k", .D (.int k)), ("given", .D (.int g)), ("mode", .D (.int (iter modeStep (i + 1) (modeLo.getD k 0, g)).1)), ("rest", .D (.int (iter modeStep (i + 1) (modeLo.getD k 0, g)).2))] ?_ rfl
        unfold iter
        rw [hp]
        exact ⟨rfl, rfl, rfl, rfl, trivial⟩
      · rintro hid st1 rfl
        refine WS_nil ?_
        refine WS_cons ?_; refine WS_Return ?_; refine WE_name rfl ?_
        unfold modeF
        rw [if_neg h1]; rfl
end
end Mine
end
section
open PySem PySem.Calls PyProof.Rows
namespace Mine
/-! texts as lists of signs -/
noncomputable def S (l : List Nat) : Str := ⟨l.toArray⟩
theorem S_append (a b : List Nat) : S a ++ S b = S (a ++ b) := by
  show (⟨a.toArray ++ b.toArray⟩ : Str) = ⟨(a ++ b).toArray⟩
  rw [List.append_toArray]
theorem S_length (a : List Nat) : (S a).length = a.length := by show a.toArray.size = _; simp
theorem S_inj {a b : List Nat} : S a = S b ↔ a = b := by
  constructor
  · intro h; have := congrArg (fun x => x.cps.toList) h; simpa [S] using this
  · intro h; rw [h]
theorem S_cps (a : List Nat) : (S a).cps.toList = a := by simp [S]
theorem S_of (x : Str) : S x.cps.toList = x := by cases x; simp [S]
theorem slash_S : (Str.ofString "/") = S [47] := by decide +kernel
theorem letter_S : ∀ k : Nat, k < 9 → Txt.item "abcdefghi" (k : Int) = S [97 + k] ∧ (Txt.charAt "abcdefghi" (k : Int)).isSome = true ∧ fitsSsize (k : Int) = true := by decide +kernel

/-! the tree -/
noncomputable def path (up : Nat → Nat) (k : Nat) : List Nat := if h : up k < k then path up (up k) ++ [47, 96 + k] else []
termination_by k
theorem path_len (up : Nat → Nat) : ∀ k, (path up k).length ≤ 2 * k := by
  intro k
  induction k using Nat.strongRecOn with
  | _ k ih =>
    rw [path]
    split
    · rename_i h
      have := ih (up k) h
      rw [List.length_append]; simp only [List.length_cons, List.length_nil]; omega
    · simp
noncomputable def intsOf (f : Nat → Nat) : PyData := .list ((List.range 10).map fun k => PyData.int (f k))
noncomputable def natsL (f : Nat → Nat) : List PyData := (List.range 10).map fun k => PyData.int (f k)
theorem natsL_at (f : Nat → Nat) (k : Nat) (hk : k < 10) : (natsL f)[k]? = some (.int (f k)) := by
  simp [natsL, List.getElem?_map, List.getElem?_range hk]
theorem natsL_len (f : Nat → Nat) : (natsL f).length = 10 := by simp [natsL]
noncomputable def textF (up : Nat → Nat) (k : Nat) : Str := if 0 < k then S (path up k) else "/"

section
variable {Γ : Gx} {c : Cx} {st : St} {s : Shared}
theorem fn_law_text : isFn "_law_text" := by unfold isFn; decide +kernel
theorem con_law_text (up : Nat → Nat) (hup : ∀ k, 0 < k → up k < k) (p : Nat) (hp : p < 10) : Con Γ 1 "_law_text" [.D (.int p), .D (.list (natsL up))] (.D (.str (textF up p))) := by
  have hsl : sizeLine = 2 ^ 24 := rfl
  refine con_fn (j := 19) ["place", "above"] (by rfl) rfl rfl rfl ?_ (by decide +kernel) (by decide +kernel) ?_ rfl rfl rfl
  · exact fun pm cd doc => len2 fun v u => rfl
  · intro κ
    refine WS_cons ?_; refine WS_Assign ?_; refine WE_str ?_; refine ⟨rfl, ?_⟩; refine WS_cons ?_; refine WS_Assign ?_; refine WE_name rfl ?_; refine ⟨rfl, ?_⟩; refine WS_cons ?_
    refine WS_While (fun n st => ∃ j suf, n = j ∧ j < 10 ∧ path up p = path up j ++ suf ∧ st = ([("place", .D (.int p)), ("above", .D (.list (natsL up))), ("text", .D (.str (S suf))), ("k", .D (.int j))] : St)) ?_ p ⟨p, [], rfl, hp, by simp, rfl⟩
    rintro j st ⟨_, suf, rfl, hj, hsuf, rfl⟩
    have hlen : suf.length ≤ 18 := by
      have h1 := path_len up p
      rw [hsuf, List.length_append] at h1
      omega
    refine WB_Compare ?_; refine WE_name rfl ?_; refine WE_int ?_; refine ⟨_, Cmp.gtI _ _, ?_⟩
    refine ⟨fun h1 => ?_, fun h1 => ?_⟩
    · have h1 : 0 < j := by have := of_decide_eq_true h1; (clear hup hp hsl hj hsuf hlen h1; omega)
      obtain ⟨e1, e2, e3⟩ := letter_S (j - 1) (by omega)
      have hj1 : ((j - 1 : Nat) : Int) = (j : Int) - 1 := by omega
      rw [hj1] at e1 e2 e3
      refine WS_cons ?_; refine WS_Assign ?_; refine WE_BinOp ?_; refine WE_BinOp ?_; refine WE_str ?_; refine WE_Subscript ?_; refine WE_str ?_; refine WE_BinOp ?_; refine WE_name rfl ?_; refine WE_int ?_; refine ⟨_, Bin.subI _ _, ?_⟩
      refine ⟨_, .str _ _ e3 e2, ?_⟩
      rw [e1, slash_S]
      refine ⟨_, Bin.addS _ _ (by rw [S_length, S_length]; simp only [List.length_cons, List.length_nil]; decide), ?_⟩
      rw [S_append]
      refine WE_name rfl ?_
      refine ⟨_, Bin.addS _ _ (by rw [S_length, S_length]; simp only [List.length_append, List.length_cons, List.length_nil]; omega), ?_⟩
      rw [S_append]
      refine ⟨rfl, ?_⟩; refine WS_cons ?_; refine WS_Assign ?_; refine WE_Subscript ?_; refine WE_name rfl ?_; refine WE_name rfl ?_
      refine ⟨_, .list _ (natsL up) _ (.int (up j)) rfl (by omega) (natsL_at up j hj) (by rw [natsL_len]; decide), ?_⟩
      refine ⟨rfl, ?_⟩
      refine WS_nil ?_
      have hu := hup j h1
      refine ⟨up j, hu, up j, [47] ++ [97 + (j - 1)] ++ suf, rfl, by exact Nat.lt_trans hu hj, ?_, rfl⟩
      rw [hsuf]
      conv => lhs; rw [path]
      rw [dif_pos hu, List.append_assoc, show 97 + (j - 1) = 96 + j by omega]
      simp
    · have h1 : j = 0 := by have := of_decide_eq_false h1; (clear hup hp hsl hj hsuf hlen h1; omega)
      subst h1
      have h0 : path up 0 = [] := by rw [path]; simp
      rw [h0, List.nil_append] at hsuf
      refine WS_nil ?_
      refine WS_cons ?_; refine WS_Return ?_; refine WE_IfExp ?_; refine WB_Compare ?_; refine WE_name rfl ?_; refine WE_int ?_; refine ⟨_, Cmp.gtI _ _, ?_⟩
      refine ⟨fun h2 => ?_, fun h2 => ?_⟩
      · have h2 : 0 < p := by have := of_decide_eq_true h2; (clear hup hp hsl hlen hj hsuf h1 h0 h2; omega)
        refine WE_name rfl ?_
        unfold textF
        rw [if_pos h2, hsuf]; rfl
      · have h2 : ¬ 0 < p := by have := of_decide_eq_false h2; (clear hup hp hsl hlen hj hsuf h1 h0 h2; omega)
        refine WE_str ?_
        unfold textF
        rw [if_neg h2]; rfl
end
end Mine
end
section
open PySem PySem.Calls PyProof.Rows
namespace Mine
theorem fdiv_nat (a b : Nat) : Int.fdiv (a : Int) (b : Int) = ((a / b : Nat) : Int) := by rw [Int.fdiv_eq_ediv_of_nonneg _ (by omega)]; rfl
theorem fmod_nat (a b : Nat) : Int.fmod (a : Int) (b : Int) = ((a % b : Nat) : Int) := by rw [Int.fmod_eq_emod_of_nonneg _ (by omega)]; rfl
theorem pow_w (w : Nat) (hw : w ≤ 2) : (8 : Int) ^ ((2 - (w : Int)).toNat) = ((8 ^ (2 - w) : Nat) : Int) := by
  rw [show (2 - (w : Int)).toNat = 2 - w by (clear hw; omega), Int.natCast_pow]; rfl
theorem pow_w_ok (w : Nat) (hw : w ≤ 2) : ((8 ^ (2 - w) : Nat) : Int) ≠ 0 ∧ ((8 ^ (2 - w) : Nat) : Int).natAbs < 1073741824 := by
  have : ∀ w : Nat, w ≤ 2 → ((8 ^ (2 - w) : Nat) : Int) ≠ 0 ∧ ((8 ^ (2 - w) : Nat) : Int).natAbs < 1073741824 := by decide
  exact this w hw
theorem bits8 : Builtin.Int.intBits 8 = 4 := by decide +kernel
noncomputable def figW (m w : Nat → Nat) (f : Nat) : Nat := m f / 8 ^ (2 - w f)
noncomputable def chain (up m w : Nat → Nat) (k : Nat) : Bool := if h : up k < k then (figW m w (up k) % 2 != 0) && chain up m w (up k) else true
termination_by k
noncomputable def mayF (up w m : Nat → Nat) (k : Nat) : Bool := if figW m w (up k) % 4 < 2 then false else if m (up k) / 512 % 2 = 1 ∧ w (up k) ≠ 0 ∧ w k ≠ 0 then false else chain up m w k

section
variable {Γ : Gx} {c : Cx} {st : St} {s : Shared}
theorem WB_is {t : Sem Bool} {Q : Bool → Prop} (B : Bool) (h : WB Γ c st t fun b => b = B) (q : Q B) : WB Γ c st t Q := fun s r =>
  wpAny_mono (h s r) (fun _ _ ⟨k, e⟩ => ⟨k, e ▸ q⟩) fun _ _ x => x
theorem WE_is {t : Sem Value} {Q : AV → Prop} (B : AV) (h : WE Γ c st t fun b => b = B) (q : Q B) : WE Γ c st t Q := h.mono fun a e => e ▸ q
theorem fn_law_may : isFn "_law_may" := by unfold isFn; decide +kernel
theorem con_law_may (up wh m : Nat → Nat) (hup : ∀ k, 0 < k → up k < k) (hw : ∀ k, wh k ≤ 2) (k : Nat) (hk : k < 10) (hk0 : 0 < k) :
    Con Γ 1 "_law_may" [.D (.int k), .D (.list (natsL up)), .D (.list (natsL wh)), .D (.list (natsL m))] (.D (.bool (mayF up wh m k))) := by
  have hsl : sizeLine = 2 ^ 24 := rfl
  have huk := hup k hk0
  have it : ∀ (f : Nat → Nat) (i : Nat), i < 10 → Itm (.D (.list (natsL f))) (.D (.int i)) (.D (.int (f i))) := fun f i hi => .list _ (natsL f) _ (.int (f i)) rfl (by (clear hup hw hk hk0 hsl huk hi; omega)) (natsL_at f i hi) (by rw [natsL_len]; decide)
  refine con_fn (j := 20) ["k", "above", "whose", "modes"] (by rfl) rfl rfl rfl ?_ (by decide +kernel) (by decide +kernel) ?_ rfl rfl rfl
  · exact fun pm cd doc => len4 fun v u x y => rfl
  · intro κ
    refine WS_cons ?_; refine WS_Assign ?_; refine WE_Subscript ?_; refine WE_name rfl ?_; refine WE_name rfl ?_
    refine ⟨_, it up k hk, ?_⟩
    refine ⟨rfl, ?_⟩; refine WS_cons ?_; refine WS_If ?_; refine WB_Compare ?_; refine WE_BinOp ?_; refine WE_BinOp ?_; refine WE_Subscript ?_; refine WE_name rfl ?_; refine WE_name rfl ?_
    refine ⟨_, it m (up k) (by exact Nat.lt_trans huk hk), ?_⟩
    refine WE_BinOp ?_; refine WE_int ?_; refine WE_BinOp ?_; refine WE_int ?_; refine WE_Subscript ?_; refine WE_name rfl ?_; refine WE_name rfl ?_
    refine ⟨_, it wh (up k) (by exact Nat.lt_trans huk hk), _, Bin.subI _ _, _, Bin.powI _ _ (by have := hw (up k); omega) (by rw [bits8]; omega), ?_⟩
    rw [pow_w _ (hw _)]
    refine ⟨_, Bin.divI _ _ (pow_w_ok _ (hw _)).1 (pow_w_ok _ (hw _)).2, ?_⟩
    rw [fdiv_nat]
    refine WE_int ?_; refine ⟨_, Bin.modI _ _ (by decide), ?_⟩; refine WE_int ?_; refine ⟨_, Cmp.ltI _ _, ?_⟩
    rw [show (4 : Int) = ((4 : Nat) : Int) from rfl, fmod_nat]
    have hfig : decide (((m (up k) / 8 ^ (2 - wh (up k)) % 4 : Nat) : Int) < 2) = decide (figW m wh (up k) % 4 < 2) := decide_eq_decide.mpr (by unfold figW; omega)
    rw [hfig]
    refine ⟨fun h1 => ?_, fun h1 => ?_⟩
    · have h1 := of_decide_eq_true h1
      refine WS_cons ?_; refine WS_Return ?_; refine WE_bool ?_
      unfold mayF
      rw [if_pos h1]; rfl
    · have h1 := of_decide_eq_false h1
      refine WS_nil (WS_cons (WS_If (WB_is (decide (m (up k) / 512 % 2 = 1 ∧ wh (up k) ≠ 0 ∧ wh k ≠ 0)) ?_ ?_)))
      · refine WB_and ?_; refine WB_Compare ?_; refine WE_BinOp ?_; refine WE_BinOp ?_; refine WE_Subscript ?_; refine WE_name rfl ?_; refine WE_name rfl ?_
        refine ⟨_, it m (up k) (by exact Nat.lt_trans huk hk), ?_⟩
        refine WE_int ?_; refine ⟨_, Bin.divI _ _ (by decide) (by decide), ?_⟩; refine WE_int ?_; refine ⟨_, Bin.modI _ _ (by decide), ?_⟩; refine WE_int ?_; refine ⟨_, Cmp.eqI _ _, ?_⟩
        rw [show (512 : Int) = ((512 : Nat) : Int) from rfl, fdiv_nat, show (2 : Int) = ((2 : Nat) : Int) from rfl, fmod_nat]
        refine ⟨fun h2 => ?_, fun h2 => ?_⟩
        · have h2 : m (up k) / 512 % 2 = 1 := by have := beq_iff_eq.mp h2; omega
          refine WB_and ?_; refine WB_Compare ?_; refine WE_Subscript ?_; refine WE_name rfl ?_; refine WE_name rfl ?_
          refine ⟨_, it wh (up k) (by exact Nat.lt_trans huk hk), ?_⟩
          refine WE_int ?_; refine ⟨_, Cmp.neI _ _, ?_⟩
          refine ⟨fun h3 => ?_, fun h3 => ?_⟩
          · have h3 : wh (up k) ≠ 0 := by have := bne_iff_ne.mp h3; omega
            refine WB_and ?_; refine WB_Compare ?_; refine WE_Subscript ?_; refine WE_name rfl ?_; refine WE_name rfl ?_
            refine ⟨_, it wh k (by assumption), ?_⟩
            refine WE_int ?_; refine ⟨_, Cmp.neI _ _, ?_⟩
            refine ⟨fun h4 => ?_, fun h4 => ?_⟩
            · have h4 : wh k ≠ 0 := by have := bne_iff_ne.mp h4; omega
              refine WB_and_nil ?_
              exact (decide_eq_true ⟨h2, h3, h4⟩).symm
            · have h4 : wh k = 0 := by have := bne_eq_false_iff_eq.mp h4; omega
              exact (decide_eq_false fun h => h.2.2 h4).symm
          · have h3 : wh (up k) = 0 := by have := bne_eq_false_iff_eq.mp h3; omega
            exact (decide_eq_false fun h => h.2.1 h3).symm
        · have h2 : ¬ m (up k) / 512 % 2 = 1 := by have := beq_eq_false_iff_ne.mp h2; omega
          exact (decide_eq_false fun h => h2 h.1).symm
      refine ⟨fun h2 => ?_, fun h2 => ?_⟩
      · have h2 := of_decide_eq_true h2
        refine WS_cons ?_; refine WS_Return ?_; refine WE_bool ?_
        unfold mayF
        rw [if_neg h1, if_pos h2]; rfl
      · have h2 := of_decide_eq_false h2
        refine WS_nil ?_
        refine WS_cons ?_; refine WS_Assign ?_; refine WE_name rfl ?_; refine ⟨rfl, ?_⟩; refine WS_cons ?_
        have hmay : mayF up wh m k = chain up m wh k := by unfold mayF; rw [if_neg h1, if_neg h2]
        refine WS_While (fun n st => ∃ j, n = j ∧ j < 10 ∧ mayF up wh m k = chain up m wh j ∧ st = ([("k", .D (.int k)), ("above", .D (.list (natsL up))), ("whose", .D (.list (natsL wh))), ("modes", .D (.list (natsL m))), ("folder", .D (.int (up k))), ("place", .D (.int j))] : St)) ?_ k ⟨k, rfl, hk, hmay, rfl⟩
        rintro j st ⟨_, rfl, hj, hch, rfl⟩
        refine WB_Compare ?_; refine WE_name rfl ?_; refine WE_int ?_; refine ⟨_, Cmp.gtI _ _, ?_⟩
        refine ⟨fun h3 => ?_, fun h3 => ?_⟩
        · have h3 : 0 < j := by have := of_decide_eq_true h3; omega
          have huj := hup j h3
          rw [chain, dif_pos huj] at hch
          refine WS_cons ?_; refine WS_Assign ?_; refine WE_Subscript ?_; refine WE_name rfl ?_; refine WE_name rfl ?_
          refine ⟨_, it up j hj, ?_⟩
          refine ⟨rfl, ?_⟩; refine WS_cons ?_; refine WS_If ?_; refine WB_Compare ?_; refine WE_BinOp ?_; refine WE_BinOp ?_; refine WE_Subscript ?_; refine WE_name rfl ?_; refine WE_name rfl ?_
          refine ⟨_, it m (up j) (by exact Nat.lt_trans huj hj), ?_⟩
          refine WE_BinOp ?_; refine WE_int ?_; refine WE_BinOp ?_; refine WE_int ?_; refine WE_Subscript ?_; refine WE_name rfl ?_; refine WE_name rfl ?_
          refine ⟨_, it wh (up j) (by exact Nat.lt_trans huj hj), _, Bin.subI _ _, _, Bin.powI _ _ (by have := hw (up j); omega) (by rw [bits8]; omega), ?_⟩
          rw [pow_w _ (hw _)]
          refine ⟨_, Bin.divI _ _ (pow_w_ok _ (hw _)).1 (pow_w_ok _ (hw _)).2, ?_⟩
          rw [fdiv_nat]
          refine WE_int ?_; refine ⟨_, Bin.modI _ _ (by decide), ?_⟩; refine WE_int ?_; refine ⟨_, Cmp.eqI _ _, ?_⟩
          rw [show (2 : Int) = ((2 : Nat) : Int) from rfl, fmod_nat]
          refine ⟨fun h4 => ?_, fun h4 => ?_⟩
          · have h4 : figW m wh (up j) % 2 = 0 := by have := beq_iff_eq.mp h4; unfold figW; omega
            refine WS_cons ?_; refine WS_Return ?_; refine WE_bool ?_
            rw [hch, h4]; rfl
          · have h4 : figW m wh (up j) % 2 ≠ 0 := by have := beq_eq_false_iff_ne.mp h4; unfold figW; omega
            refine WS_nil (WS_nil ⟨up j, huj, up j, rfl, by exact Nat.lt_trans huj hj, ?_, rfl⟩)
            rw [hch, bne_iff_ne.mpr h4, Bool.true_and]
        · have h3 : j = 0 := by have := of_decide_eq_false h3; omega
          subst h3
          rw [chain, dif_neg (by omega)] at hch
          refine WS_nil ?_
          refine WS_cons ?_; refine WS_Return ?_; refine WE_bool ?_
          rw [hch]; rfl
end
end Mine
end
section
open PySem PySem.Calls PyProof.Rows
namespace Mine
open PySem.Builtin PySem.Builtin.Str

/-! one sign sought from the right -/
theorem lastOcc_fold (s sub : Str) (hi : Nat) : ∀ (l : List Nat) (a : Option Nat),
    (forIn (m := Id) l a fun i r => if (i + sub.length ≤ hi && subAt s sub i) = true then (pure (ForInStep.yield (some i)) : Id _) else pure (ForInStep.yield r)).run =
    l.foldl (fun r i => if (i + sub.length ≤ hi && subAt s sub i) = true then some i else r) a
  | [], a => rfl
  | i :: l, a => by
    rw [List.forIn_cons, List.foldl_cons]
    by_cases h : (i + sub.length ≤ hi && subAt s sub i) = true
    · rw [if_pos h, if_pos h]; exact lastOcc_fold s sub hi l _
    · rw [if_neg h, if_neg h]; exact lastOcc_fold s sub hi l _
theorem lastOcc_eq (s sub : Str) (hi : Nat) : lastOccurrence s sub 0 hi = (List.range' 0 (hi + 1)).foldl (fun r i => if (i + sub.length ≤ hi && subAt s sub i) = true then some i else r) none := by
  rw [← lastOcc_fold]
  unfold lastOccurrence
  simp
theorem fold_none {P : Nat → Bool} : ∀ (l : List Nat) (a : Option Nat), (∀ i ∈ l, P i = false) → l.foldl (fun r i => if P i = true then some i else r) a = a
  | [], a, _ => rfl
  | i :: l, a, h => by
    rw [List.foldl_cons, if_neg (by rw [h i (.head _)]; decide)]
    exact fold_none l a fun j hj => h j (.tail _ hj)
theorem rfind_one (l r : List Nat) (c : Nat) (hr : c ∉ r) : Txt.rfind (S (l ++ c :: r)) (S [c]) = (l.length : Int) := by
  unfold Txt.rfind
  rw [lastOcc_eq]
  have hlen : (S (l ++ c :: r)).length = l.length + 1 + r.length := by rw [S_length]; simp; omega
  have hP : ∀ i, (i + (S [c]).length ≤ (S (l ++ c :: r)).length && subAt (S (l ++ c :: r)) (S [c]) i) = decide ((l ++ c :: r)[i]? = some c) := by
    intro i
    rw [StrLaws.subAt_eq, S_cps, S_cps, hlen, S_length]
    rw [Bool.eq_iff_iff]
    simp only [List.length_cons, List.length_nil, Nat.zero_add, Bool.and_eq_true, decide_eq_true_eq, beq_iff_eq]
    constructor
    · rintro ⟨_, h⟩
      have := congrArg (·[0]?) h
      simpa [List.getElem?_take, List.getElem?_drop] using this
    · intro h
      have hi := (List.getElem?_eq_some_iff.mp h).1
      refine ⟨by simp at hi; omega, ?_⟩
      apply List.ext_getElem?
      intro j
      cases j with
      | zero => simpa [List.getElem?_take, List.getElem?_drop] using h
      | succ j => simp [List.getElem?_take]
  have hr' : List.range' 0 ((S (l ++ c :: r)).length + 1) = List.range' 0 l.length ++ l.length :: List.range' (l.length + 1) (r.length + 1) := by
    rw [hlen, show l.length + 1 + r.length + 1 = l.length + (r.length + 2) by omega, ← List.range'_append_1, Nat.zero_add]
    rfl
  simp only [hP, hr', List.foldl_append, List.foldl_cons]
  rw [fold_none (P := fun i => decide ((l ++ c :: r)[i]? = some c)) (List.range' (l.length + 1) (r.length + 1))]
  · simp
  · intro i hi
    simp only [List.mem_range'_1] at hi
    simp only [decide_eq_false_iff_not]
    intro h
    rw [List.getElem?_append_right (by omega), show i - l.length = (i - l.length - 1) + 1 by (clear hr hlen hP hr' h; omega), List.getElem?_cons_succ] at h
    exact hr (List.mem_of_getElem? h)
theorem slice_to (l : List Nat) (n : Nat) (h : n ≤ l.length) : Txt.slice (S l) none (some (n : Int)) = S (l.take n) := by
  unfold Txt.slice
  have hl : (S l).length = l.length := S_length l
  have e : strSliceIndices none (some (n : Int)) 1 (S l).length = (List.range n).map fun k => 0 + k := by
    rw [StrLaws.sliceIdx_none_lo]
    exact StrLaws.strSliceIndices_plain (a := 0) (Nat.zero_le _) (by assumption)
  have hp := StrLaws.picks l n 0 (by (clear hl e; omega))
  rw [e]
  have hf : ((List.range n).map fun k => 0 + k).filterMap ((S l).cps[·]?) = l.take n := by
    simpa [S] using hp
  split
  · rename_i h'
    simp at h'
    rw [show n = l.length by assumption, List.take_length]
  · rw [hf]; rfl
theorem mul_slash (n : Nat) : Txt.mul (S [47]) (n : Int) = S (List.replicate n 47) := by
  unfold Txt.mul
  split
  · rename_i h
    have : n = 0 := by omega
    subst this; rfl
  · split
    · rename_i h1 h2
      have : n = 1 := by
        rw [S_length] at h2
        simp at h2; omega
      subst this; rfl
    · have : ∀ (n : Nat) (a : Array Nat), (List.replicate n (S [47]).cps).foldl (· ++ ·) a = a ++ (List.replicate n 47).toArray := by
        intro n
        induction n with
        | zero => intro a; simp
        | succ n ih =>
          intro a
          rw [List.replicate_succ, List.foldl_cons, ih, List.replicate_succ]
          apply Array.toList_inj.mp
          simp [S]
      show (⟨_⟩ : Str) = ⟨_⟩
      rw [show ((n : Int)).toNat = n by rfl, this]
      simp
theorem rstrip_slash (l : List Nat) (c : Nat) (hc : c ≠ 47) (n : Nat) : Txt.rstripChars (S (l ++ [c] ++ List.replicate n 47)) (S [47]) = S (l ++ [c]) := by
  unfold Txt.rstripChars
  rw [W.stripBy_eq]
  unfold W.stripped
  simp only [Bool.false_eq_true, if_false, if_true, List.drop_zero, S_cps, S_length]
  have h1 : ∀ n (r : List Nat), ((List.replicate n 47) ++ c :: r).takeWhile (S [47]).cps.contains = List.replicate n 47 := by
    intro n
    induction n with
    | zero => intro r; simp [S, hc]
    | succ n ih => intro r; rw [List.replicate_succ, List.cons_append, List.takeWhile_cons]; rw [ih]; simp [S]
  have h2 : (l ++ [c] ++ List.replicate n 47).reverse = List.replicate n 47 ++ c :: l.reverse := by simp
  rw [h2, h1]
  apply Str.ext'
  apply Array.toList_inj.mp
  rw [StrLaws.strSub_toList, S_cps, S_cps, List.drop_zero, List.length_replicate]
  have e : (l ++ [c] ++ List.replicate n 47).length - n - 0 = (l ++ [c]).length := by simp; omega
  rw [e, List.take_left']
  rfl

theorem path_pos {up : Nat → Nat} {k : Nat} (h : up k < k) : path up k = path up (up k) ++ [47, 96 + k] := by rw [path, dif_pos h]
theorem path_zero (up : Nat → Nat) : path up 0 = [] := by rw [path, dif_neg (by omega)]
theorem dirname_text (up : Nat → Nat) (hup : ∀ k, 0 < k → up k < k) (k : Nat) (hk : 0 < k) (hk9 : k < 10) : dirnameF (textF up k) = textF up (up k) := by
  have hu := hup k hk
  have h0 : textF up k = S (path up (up k) ++ 47 :: [96 + k]) := by unfold textF; rw [if_pos hk, path_pos hu]
  have hlen := path_len up (up k)
  have hd : dirHead (textF up k) = S (path up (up k) ++ [47]) := by
    unfold dirHead
    rw [h0, slash_S, rfind_one _ _ _ (by simp; (clear hup hk hk9 hu h0 hlen; omega))]
    rw [show ((path up (up k)).length : Int) + 1 = (((path up (up k)).length + 1 : Nat) : Int) by rfl, slice_to _ _ (by simp)]
    congr 1
    rw [show path up (up k) ++ 47 :: [96 + k] = (path up (up k) ++ [47]) ++ [96 + k] by simp, List.take_left' (by simp)]
  have hl : (dirHead (textF up k)).length = (path up (up k)).length + 1 := by rw [hd, S_length]; simp
  unfold dirnameF
  rw [if_pos (by rw [hl]; exact bne_iff_ne.mpr (by (clear hup hk hk9 hu h0 hlen hd hl; omega))), hl, hd, slash_S, mul_slash]
  by_cases hz : 0 < up k
  · have hu2 := hup (up k) hz
    have hp := path_pos hu2
    have hne : S (path up (up k) ++ [47]) ≠ S (List.replicate ((path up (up k)).length + 1) 47) := by
      intro h
      rw [S_inj] at h
      have hm : 96 + up k ∈ List.replicate ((path up (up k)).length + 1) 47 := by rw [← h, hp]; simp
      have := List.eq_of_mem_replicate hm
      (clear hup hk hk9 hu h0 hlen hd hl hz hu2 hp h; omega)
    rw [if_pos (bne_iff_ne.mpr hne)]
    have e : path up (up k) ++ [47] = (path up (up (up k)) ++ [47]) ++ [96 + up k] ++ List.replicate 1 47 := by rw [hp]; simp
    rw [e, rstrip_slash _ _ (by (clear hup hk hk9 hu h0 hlen hd hl hz hu2 hp hne e; omega))]
    unfold textF
    rw [if_pos hz, hp]
    simp
  · have hz : up k = 0 := by omega
    rw [hz, path_zero]
    rw [if_neg (by simp)]
    unfold textF
    rw [if_neg (by decide), slash_S]
    rfl
theorem dirname_root (up : Nat → Nat) : dirnameF (textF up 0) = textF up 0 := by
  have : textF up 0 = "/" := rfl
  rw [this]
  decide +kernel
theorem textF_len (up : Nat → Nat) (k : Nat) (hk : k < 10) : (textF up k).length ≤ 20 := by
  unfold textF
  split
  · rw [S_length]; have := path_len up k; omega
  · decide
theorem textF_inj (up : Nat → Nat) (hup : ∀ k, 0 < k → up k < k) {j k : Nat} (h : textF up j = textF up k) : j = k := by
  have key : ∀ j k, 0 < j → textF up j = textF up k → j = k := by
    intro j k hj h
    unfold textF at h
    rw [if_pos hj] at h
    by_cases hk : 0 < k
    · rw [if_pos hk, S_inj, path_pos (hup j hj), path_pos (hup k hk)] at h
      have := congrArg List.getLast? h
      simp at this
      assumption
    · rw [if_neg hk, slash_S, S_inj, path_pos (hup j hj)] at h
      have := congrArg List.length h
      simp at this
  by_cases hj : 0 < j
  · exact key j k hj h
  · by_cases hk : 0 < k
    · exact (key k j hk h.symm).symm
    · omega
end Mine
end
section
open PySem PySem.Calls PyProof.Rows
namespace Mine
/-! rows -/
noncomputable def triA (k : Nat) : Nat := if k = 2 then 84 else 83
noncomputable def triB (k : Nat) : Nat := if k = 2 then 116 else 115
noncomputable def fig (m k : Nat) : Nat := m / 8 ^ (2 - k) % 8
noncomputable def tri (m k : Nat) : List Nat := [if fig m k > 3 then 114 else 45, if fig m k % 4 > 1 then 119 else 45,
  if m / 2 ^ (11 - k) % 2 = 1 then (if fig m k % 2 = 1 then triB k else triA k) else (if fig m k % 2 = 1 then 120 else 45)]
noncomputable def ftypes : List Nat := [63, 112, 99, 63, 100, 63, 98, 63, 45, 63, 108, 63, 115, 63, 63, 63]
noncomputable def rowN (m : Nat) : Nat → List Nat
  | 0 => [ftypes.getD (m / 4096 % 16) 0]
  | n + 1 => rowN m n ++ tri m n
noncomputable def rowL (m : Nat) : List Nat := rowN m 3
theorem ftype_S : ∀ k : Nat, k < 16 → Txt.item "?pc?d?b?-?l?s???" (k : Int) = S [ftypes.getD k 0] ∧ (Txt.charAt "?pc?d?b?-?l?s???" (k : Int)).isSome = true ∧ fitsSsize (k : Int) = true := by decide +kernel
theorem item2 (a b x : Nat) (hx : x < 2) : Txt.item (S [a, b]) (x : Int) = S [if x = 1 then b else a] ∧ (Txt.charAt (S [a, b]) (x : Int)).isSome = true ∧ fitsSsize (x : Int) = true := by
  have : x = 0 ∨ x = 1 := by omega
  rcases this with h | h <;> subst h <;> exact ⟨rfl, rfl, rfl⟩
theorem rangeDs_at {a b : Int} {i : Nat} {d : PyData} (h : (rangeDs a b 1)[i]? = some d) : d = .int (a + i) ∧ (a + i : Int) < b := by
  unfold rangeDs at h
  rw [List.getElem?_map, Option.map_eq_some_iff] at h
  obtain ⟨j, hj, rfl⟩ := h
  obtain ⟨hlt, e⟩ := List.getElem?_eq_some_iff.mp hj
  rw [List.getElem_range] at e
  subst e
  rw [List.length_range, rangeSize_one] at hlt
  refine ⟨by rw [Int.mul_one], ?_⟩
  split at hlt <;> omega
theorem rangeDs_len (a b : Int) (h : a ≤ b) : (rangeDs a b 1).length = (b - a).toNat := by
  simp only [rangeDs, List.length_map, List.length_range, rangeSize_one]
  split <;> omega
theorem rowN_len (m : Nat) : ∀ n, (rowN m n).length = 3 * n + 1
  | 0 => rfl
  | n + 1 => by rw [rowN, List.length_append, rowN_len m n]; simp [tri]; rfl

section
variable {Γ : Gx} {c : Cx} {st : St} {s : Shared}
theorem fn_law_row : isFn "_law_row" := by unfold isFn; decide +kernel
theorem con_law_row (m : Nat) : Con Γ 1 "_law_row" [.D (.int m)] (.D (.str (S (rowL m)))) := by
  have hsl : sizeLine = 2 ^ 24 := rfl
  refine con_fn (j := 18) ["mode"] (by rfl) rfl rfl rfl ?_ (by decide +kernel) (by decide +kernel) ?_ rfl rfl rfl
  · exact fun pm cd doc => len1 fun v => rfl
  · intro κ
    refine WS_cons ?_; refine WS_Assign ?_; refine WE_Subscript ?_; refine WE_str ?_; refine WE_BinOp ?_; refine WE_BinOp ?_; refine WE_name rfl ?_; refine WE_int ?_; refine ⟨_, Bin.divI _ _ (by decide) (by decide), ?_⟩; refine WE_int ?_; refine ⟨_, Bin.modI _ _ (by decide), ?_⟩
    rw [show (4096 : Int) = ((4096 : Nat) : Int) from rfl, fdiv_nat, show (16 : Int) = ((16 : Nat) : Int) from rfl, fmod_nat]
    obtain ⟨e1, e2, e3⟩ := ftype_S (m / 4096 % 16) (by omega)
    refine ⟨_, .str _ _ e3 e2, ?_⟩
    rw [e1]
    refine ⟨rfl, ?_⟩; refine WS_cons ?_
    refine WS_For (fun ds i st => st = ([("mode", .D (.int m)), ("row", .D (.str (S (rowN m i))))] : St)) ?_
    refine WE_range1 ?_; refine WE_int ?_; refine ⟨_, BRange.one _, ?_⟩; refine ⟨rfl, ?_⟩
    refine ⟨rangeDs 0 3 1, .range _ _ _ (by decide), rfl, fun i st1 h => h ▸ rfl, ?_, ?_⟩
    · rintro hid i d st1 hd rfl
      obtain ⟨rfl, hi⟩ := rangeDs_at hd
      have hi3 : i < 3 := by omega
      rw [show (0 : Int) + (i : Int) = (i : Int) by omega]
      have hrl := rowN_len m i
      refine WS_cons ?_; refine WS_Assign ?_; refine WE_BinOp ?_; refine WE_BinOp ?_; refine WE_name rfl ?_; refine WE_BinOp ?_; refine WE_int ?_; refine WE_BinOp ?_; refine WE_int ?_; refine WE_name rfl ?_; refine ⟨_, Bin.subI _ _, ?_⟩
      refine ⟨_, Bin.powI _ _ (by (clear hsl e1 e2 e3 hi hd hrl; omega)) (by rw [bits8]; (clear hsl e1 e2 e3 hi hd hi3 hrl; omega)), ?_⟩
      rw [pow_w _ (by exact Nat.le_of_lt_succ hi3)]
      refine ⟨_, Bin.divI _ _ (pow_w_ok _ (by exact Nat.le_of_lt_succ hi3)).1 (pow_w_ok _ (by exact Nat.le_of_lt_succ hi3)).2, ?_⟩
      rw [fdiv_nat]
      have ef : Int.fmod ((m / 8 ^ (2 - i) : Nat) : Int) 8 = ((fig m i : Nat) : Int) := fmod_nat _ 8
      refine WE_int ⟨_, Bin.modI _ _ (by decide), rfl, ?_⟩
      rw [ef]
      have hfig : fig m i < 8 := by unfold fig; (clear hsl e1 e2 e3 hi hd hi3 hrl ef; omega)
      generalize hfg : fig m i = f at hfig ⊢
      refine WS_cons (WS_Assign (WE_BinOp (WE_BinOp (WE_name rfl (WE_is (.D (.str (S [if f > 3 then 114 else 45]))) ?_ ?_)))))
      · refine WE_IfExp ?_; refine WB_Compare ?_; refine WE_name rfl ?_; refine WE_int ?_; refine ⟨_, Cmp.gtI _ _, ?_⟩
        refine ⟨fun h1 => ?_, fun h1 => ?_⟩
        · have h1 : f > 3 := by have := of_decide_eq_true h1; (clear hsl e1 e2 e3 hi hd hi3 hrl ef hfg hfig h1; omega)
          refine WE_str ?_
          rw [if_pos h1]; rfl
        · have h1 : ¬ f > 3 := by have := of_decide_eq_false h1; (clear hsl e1 e2 e3 hi hd hi3 hrl ef hfg hfig h1; omega)
          refine WE_str ?_
          rw [if_neg h1]; rfl
      refine ⟨_, Bin.addS _ _ (by rw [S_length, S_length, hrl]; simp only [List.length_cons, List.length_nil]; (clear e1 e2 e3 hi hd hrl ef hfg hfig; omega)), ?_⟩
      refine WE_is (.D (.str (S [if f % 4 > 1 then 119 else 45]))) ?_ ?_
      · refine WE_IfExp ?_; refine WB_Compare ?_; refine WE_BinOp ?_; refine WE_name rfl ?_; refine WE_int ?_; refine ⟨_, Bin.modI _ _ (by decide), ?_⟩; refine WE_int ?_; refine ⟨_, Cmp.gtI _ _, ?_⟩
        rw [show Int.fmod (f : Int) 4 = ((f % 4 : Nat) : Int) from fmod_nat f 4]
        refine ⟨fun h1 => ?_, fun h1 => ?_⟩
        · have h1 : f % 4 > 1 := by have := of_decide_eq_true h1; (clear hsl e1 e2 e3 hi hd hi3 hrl ef hfg hfig h1; omega)
          refine WE_str ?_
          rw [if_pos h1]; rfl
        · have h1 : ¬ f % 4 > 1 := by have := of_decide_eq_false h1; (clear hsl e1 e2 e3 hi hd hi3 hrl ef hfg hfig h1; omega)
          refine WE_str ?_
          rw [if_neg h1]; rfl
      rw [S_append]
      refine ⟨_, Bin.addS _ _ (by rw [S_length, S_length, List.length_append, hrl]; simp only [List.length_cons, List.length_nil]; (clear e1 e2 e3 hi hd hrl ef hfg hfig; omega)), rfl, ?_⟩
      rw [S_append]
      have hpw : ∀ i : Nat, i < 3 → (2 : Int) ^ ((11 - (i : Int)).toNat) = ((2 ^ (11 - i) : Nat) : Int) ∧ ((2 ^ (11 - i) : Nat) : Int) ≠ 0 ∧ ((2 ^ (11 - i) : Nat) : Int).natAbs < 1073741824 := by decide
      obtain ⟨p1, p2, p3⟩ := hpw i hi3
      have hrow : ∀ x, x = (if m / 2 ^ (11 - i) % 2 = 1 then (if f % 2 = 1 then triB i else triA i) else (if f % 2 = 1 then 120 else 45)) →
          S (rowN m i ++ [if f > 3 then 114 else 45] ++ [if f % 4 > 1 then 119 else 45] ++ [x]) = S (rowN m (i + 1)) := by
        intro x hx
        rw [rowN, tri, hfg, ← hx]
        simp
      have hl2 : (rowN m i ++ [if f > 3 then 114 else 45] ++ [if f % 4 > 1 then 119 else 45]).length = 3 * i + 3 := by
        rw [List.length_append, List.length_append, hrl]; rfl
      generalize rowN m i ++ [if f > 3 then 114 else 45] ++ [if f % 4 > 1 then 119 else 45] = rr at hrow hl2 ⊢
      have hm2 : Int.fmod (f : Int) 2 = ((f % 2 : Nat) : Int) := fmod_nat f 2
      refine WS_cons ?_; refine WS_If ?_; refine WB_Compare ?_; refine WE_BinOp ?_; refine WE_BinOp ?_; refine WE_name rfl ?_; refine WE_BinOp ?_; refine WE_int ?_; refine WE_BinOp ?_; refine WE_int ?_; refine WE_name rfl ?_; refine ⟨_, Bin.subI _ _, ?_⟩
      refine ⟨_, Bin.powI _ _ (by omega) (by have : Builtin.Int.intBits 2 = 2 := by decide +kernel
                                             rw [this]; (clear hsl e1 e2 e3 hi hd hi3 hrl ef hfg hfig hpw p1 p2 p3 hrow hl2 hm2 this; omega)), ?_⟩
      rw [p1]
      refine ⟨_, Bin.divI _ _ p2 p3, ?_⟩
      rw [fdiv_nat]
      refine WE_int ?_; refine ⟨_, Bin.modI _ _ (by decide), ?_⟩; refine WE_int ?_; refine ⟨_, Cmp.eqI _ _, ?_⟩
      rw [show Int.fmod ((m / 2 ^ (11 - i) : Nat) : Int) 2 = ((m / 2 ^ (11 - i) % 2 : Nat) : Int) from fmod_nat _ 2]
      refine ⟨fun h1 => ?_, fun h1 => ?_⟩
      · have h1 : m / 2 ^ (11 - i) % 2 = 1 := by have := beq_iff_eq.mp h1; (clear hsl e1 e2 e3 hi hd hi3 hrl ef hfg hfig hpw p1 p2 p3 hrow hl2 hm2 h1; omega)
        have sAt : ∀ i : Nat, i < 3 → ([.str "Ss", .str "Ss", .str "Tt"] : List PyData)[i]? = some (.str (S [triA i, triB i])) := fun
          | 0, _ => rfl
          | 1, _ => rfl
          | 2, _ => rfl
        refine WS_cons ?_; refine WS_Assign ?_; refine WE_BinOp ?_; refine WE_name rfl ?_; refine WE_Subscript ?_; refine WE_Subscript ?_; refine WE_List ?_; refine WA_cons ?_; refine WE_str ?_; refine WA_cons ?_; refine WE_str ?_; refine WA_cons ?_; refine WE_str ?_; refine WA_nil ?_; refine ⟨_, rfl, by decide, ?_⟩; refine WE_name rfl ?_
        refine ⟨_, .list _ [.str "Ss", .str "Ss", .str "Tt"] _ _ rfl (by omega) (sAt i hi3) (by decide), ?_⟩
        refine WE_BinOp ?_; refine WE_name rfl ?_; refine WE_int ?_; refine ⟨_, Bin.modI _ _ (by decide), ?_⟩
        obtain ⟨q1, q2, q3⟩ := item2 (triA i) (triB i) (f % 2) (by omega)
        rw [hm2]
        refine ⟨_, .str _ _ q3 q2, ?_⟩
        rw [q1]
        refine ⟨_, Bin.addS _ _ (by rw [S_length, S_length, hl2]; simp only [List.length_cons, List.length_nil]; omega), rfl, ?_⟩
        rw [S_append, hrow _ (by rw [if_pos h1])]
        exact WS_nil (WS_end [("mode", .D (.int m)), ("row", .D (.str (S (rowN m (i + 1)))))] ⟨rfl, rfl, trivial⟩ rfl)
      · have h1 : ¬ m / 2 ^ (11 - i) % 2 = 1 := by have := beq_eq_false_iff_ne.mp h1; (clear hsl e1 e2 e3 hi hd hi3 hrl ef hfg hfig hpw p1 p2 p3 hrow hl2 hm2 h1; omega)
        refine WS_cons ?_; refine WS_Assign ?_; refine WE_BinOp ?_; refine WE_name rfl ?_; refine WE_Subscript ?_; refine WE_str ?_; refine WE_BinOp ?_; refine WE_name rfl ?_; refine WE_int ?_; refine ⟨_, Bin.modI _ _ (by decide), ?_⟩
        obtain ⟨q1, q2, q3⟩ := item2 45 120 (f % 2) (by omega)
        rw [hm2, show (Str.ofString "-x") = S [45, 120] by decide +kernel]
        refine ⟨_, .str _ _ q3 q2, ?_⟩
        rw [q1]
        refine ⟨_, Bin.addS _ _ (by rw [S_length, S_length, hl2]; simp only [List.length_cons, List.length_nil]; omega), rfl, ?_⟩
        rw [S_append, hrow _ (by rw [if_neg h1])]
        exact WS_nil (WS_end [("mode", .D (.int m)), ("row", .D (.str (S (rowN m (i + 1)))))] ⟨rfl, rfl, trivial⟩ rfl)
    · rintro hid st1 rfl
      refine WS_nil ?_
      refine WS_cons ?_; refine WS_Return ?_; refine WE_name rfl ?_
      rfl
end
end Mine
end
section
open PySem PySem.Calls PyProof.Rows
namespace Mine
/-! signs of a row -/
theorem item_S (l : List Nat) (n : Nat) (h : n < l.length) (hs : l.length ≤ 1000) : Txt.item (S l) (n : Int) = S [l.getD n 0] ∧ (Txt.charAt (S l) (n : Int)).isSome = true ∧ fitsSsize (n : Int) = true := by
  have e : Txt.charAt (S l) (n : Int) = some (l.getD n 0) := by
    unfold Txt.charAt
    refine StrLaws.at_nonneg (by omega) ?_
    simp [S, List.getElem?_eq_getElem h, List.getD_eq_getElem?_getD]
  refine ⟨?_, by rw [e]; rfl, ?_⟩
  · unfold Txt.item; rw [e]; rfl
  · unfold fitsSsize; simp; omega
theorem rowL_eq (m : Nat) : rowL m = ftypes.getD (m / 4096 % 16) 0 :: (tri m 0 ++ (tri m 1 ++ tri m 2)) := by
  simp [rowL, rowN]
theorem rowL_len (m : Nat) : (rowL m).length = 10 := rowN_len m 3
theorem rowL_w (m w : Nat) (hw : w ≤ 2) : (rowL m).getD (2 + 3 * w) 0 = if fig m w % 4 > 1 then 119 else 45 := by
  have : w = 0 ∨ w = 1 ∨ w = 2 := by omega
  rw [rowL_eq]
  rcases this with h | h | h <;> subst h <;> rfl
theorem rowL_x (m w : Nat) (hw : w ≤ 2) : (rowL m).getD (3 + 3 * w) 0 = if m / 2 ^ (11 - w) % 2 = 1 then (if fig m w % 2 = 1 then triB w else triA w) else (if fig m w % 2 = 1 then 120 else 45) := by
  have : w = 0 ∨ w = 1 ∨ w = 2 := by omega
  rw [rowL_eq]
  rcases this with h | h | h <;> subst h <;> rfl
theorem in_xst : Txt.contains "xst" (S [120]) = true ∧ Txt.contains "xst" (S [115]) = true ∧ Txt.contains "xst" (S [116]) = true ∧ Txt.contains "xst" (S [83]) = false ∧ Txt.contains "xst" (S [84]) = false ∧ Txt.contains "xst" (S [45]) = false := by decide +kernel
theorem in_tT : Txt.contains "tT" (S [120]) = false ∧ Txt.contains "tT" (S [116]) = true ∧ Txt.contains "tT" (S [84]) = true ∧ Txt.contains "tT" (S [45]) = false := by decide +kernel
theorem row_xst (m w : Nat) (hw : w ≤ 2) : Txt.contains "xst" (S [(rowL m).getD (3 + 3 * w) 0]) = (m / 8 ^ (2 - w) % 2 != 0) := by
  have hf : fig m w % 2 = m / 8 ^ (2 - w) % 2 := by unfold fig; omega
  obtain ⟨a1, a2, a3, a4, a5, a6⟩ := in_xst
  have hA : Txt.contains "xst" (S [triA w]) = false := by unfold triA; split <;> assumption
  have hB : Txt.contains "xst" (S [triB w]) = true := by unfold triB; split <;> assumption
  rw [rowL_x m w hw, hf]
  have : m / 8 ^ (2 - w) % 2 = 0 ∨ m / 8 ^ (2 - w) % 2 = 1 := by (clear hw hf a1 a2 a3 a4 a5 a6 hA hB; omega)
  rcases this with h | h <;> rw [h] <;> split <;> simp_all
theorem row_tT (m : Nat) : Txt.contains "tT" (S [(rowL m).getD 9 0]) = decide (m / 512 % 2 = 1) := by
  obtain ⟨a1, a2, a3, a4⟩ := in_tT
  rw [rowL_x m 2 (by decide)]
  show Txt.contains "tT" (S [if m / 512 % 2 = 1 then _ else _]) = _
  split
  · rename_i h
    rw [decide_eq_true h]
    split
    · exact a2
    · exact a3
  · rename_i h
    rw [decide_eq_false h]
    split
    · exact a1
    · exact a4

/-! dicts by place -/
noncomputable def Kd (up : Nat → Nat) (f : Nat → PyData) : List (Str × PyData) := (List.range 10).map fun k => (textF up k, f k)
theorem look_map (g : Nat → Str) (f : Nat → PyData) (hg : ∀ i j, g i = g j → i = j) (k : Nat) : ∀ l : List Nat, k ∈ l → (l.map fun i => (g i, f i)).lookup (g k) = some (f k)
  | [], h => nomatch h
  | i :: l, h => by
    rw [List.map_cons, List.lookup_cons]
    by_cases e : k = i
    · subst e; simp
    · have hne : (g k == g i) = false := beq_eq_false_iff_ne.mpr fun h => e (hg _ _ h)
      rw [hne]
      exact look_map g f hg k l ((List.mem_cons.mp h).resolve_left e)
theorem Kd_look (up : Nat → Nat) (hup : ∀ k, 0 < k → up k < k) (f : Nat → PyData) (k : Nat) (hk : k < 10) : (Kd up f).lookup (textF up k) = some (f k) :=
  look_map (textF up) f (fun _ _ h => textF_inj up hup h) k _ (List.mem_range.mpr hk)

section
variable {Γ : Gx} {c : Cx} {st : St} {s : Shared}
theorem fn_dirname : isFn "dirname" := by unfold isFn; decide +kernel
theorem fn_law_free : isFn "_law_free" := by unfold isFn; decide +kernel
theorem mulOk3 (w : Nat) : IntMulOk 3 (w : Int) := IntMulOk.of_left (by decide +kernel)
theorem con_law_free (up wh m : Nat → Nat) (hup : ∀ k, 0 < k → up k < k) (hw : ∀ k, wh k ≤ 2) (k : Nat) (hk : k < 10) (hk0 : 0 < k) :
    Con Γ 3 "_law_free" [.D (.str (textF up k)), .K (Kd up fun k => .str (S (rowL (m k)))), .K (Kd up fun k => .int (wh k))] (.D (.bool (mayF up wh m k))) := by
  have hsl : sizeLine = 2 ^ 24 := rfl
  have huk := hup k hk0
  have itR : ∀ i, i < 10 → Itm (.K (Kd up fun k => .str (S (rowL (m k))))) (.D (.str (textF up i))) (.D (.str (S (rowL (m i))))) := fun i hi => .dict _ _ _ (Kd_look up hup _ i hi)
  have itO : ∀ i, i < 10 → Itm (.K (Kd up fun k => .int (wh k))) (.D (.str (textF up i))) (.D (.int (wh i))) := fun i hi => .dict _ _ _ (Kd_look up hup _ i hi)
  refine con_fn (j := 15) ["path", "rows", "owners"] (by rfl) rfl rfl rfl ?_ (by decide +kernel) (by decide +kernel) ?_ rfl rfl rfl
  · exact fun pm cd doc => len3 fun v u x => rfl
  · intro κ
    refine WS_cons (WS_Assign (WE_call1 fn_dirname (WE_name rfl ⟨_, con_dirname _ (by have := textF_len up k hk; exact Nat.le_trans this (by decide)), rfl, ?_⟩) (Nat.le_refl 2)))
    rw [dirname_text up hup k hk0 hk]
    refine WS_cons ?_; refine WS_Assign ?_; refine WE_Subscript ?_; refine WE_name rfl ?_; refine WE_name rfl ?_
    refine ⟨_, itR (up k) (by exact Nat.lt_trans huk hk), ?_⟩
    refine ⟨rfl, ?_⟩; refine WS_cons ?_; refine WS_If ?_; refine WB_Compare ?_; refine WE_Subscript ?_; refine WE_name rfl ?_; refine WE_BinOp ?_; refine WE_int ?_; refine WE_BinOp ?_; refine WE_int ?_; refine WE_Subscript ?_; refine WE_name rfl ?_; refine WE_name rfl ?_
    refine ⟨_, itO (up k) (by exact Nat.lt_trans huk hk), _, Bin.mulI _ _ (mulOk3 _), _, Bin.addI _ _, ?_⟩
    have hwu := hw (up k)
    rw [show (2 : Int) + 3 * (wh (up k) : Int) = ((2 + 3 * wh (up k) : Nat) : Int) by rfl]
    obtain ⟨e1, e2, e3⟩ := item_S (rowL (m (up k))) (2 + 3 * wh (up k)) (by rw [rowL_len]; omega) (by rw [rowL_len]; decide)
    refine ⟨_, .str _ _ e3 e2, ?_⟩
    rw [e1, rowL_w _ _ hwu]
    have hfw : fig (m (up k)) (wh (up k)) % 4 = figW m wh (up k) % 4 := by unfold fig figW; (clear hup hw hk hk0 hsl huk itR itO hwu e1 e2 e3; omega)
    rw [hfw]
    refine WE_str ?_; refine ⟨_, Cmp.neS _ _, ?_⟩
    have hww : (S [if figW m wh (up k) % 4 > 1 then 119 else 45] != Str.ofString "w") = decide (figW m wh (up k) % 4 < 2) := by
      rw [show Str.ofString "w" = S [119] by decide +kernel]
      split
      · rw [decide_eq_false (by (clear hup hw hk hk0 hsl huk itR itO hwu e1 e2 e3 hfw; omega))]; simp
      · rw [decide_eq_true (by (clear hup hw hk hk0 hsl huk itR itO hwu e1 e2 e3 hfw; omega))]; exact bne_iff_ne.mpr fun h => by rw [S_inj] at h; cases h
    rw [hww]
    refine ⟨fun h1 => ?_, fun h1 => ?_⟩
    · have h1 := of_decide_eq_true h1
      refine WS_cons ?_; refine WS_Return ?_; refine WE_bool ?_
      unfold mayF
      rw [if_pos h1]; rfl
    have h1 := of_decide_eq_false h1
    refine WS_nil (WS_cons (WS_If (WB_is (decide (m (up k) / 512 % 2 = 1 ∧ wh (up k) ≠ 0 ∧ wh k ≠ 0)) ?_ ?_)))
    · refine WB_and ?_; refine WB_Compare ?_; refine WE_Subscript ?_; refine WE_name rfl ?_; refine WE_int ?_
      obtain ⟨e1, e2, e3⟩ := item_S (rowL (m (up k))) 9 (by rw [rowL_len]; decide) (by rw [rowL_len]; decide)
      refine ⟨_, .str _ _ e3 e2, ?_⟩
      rw [show Txt.item (S (rowL (m (up k)))) 9 = _ from e1]
      refine WE_str ?_; refine ⟨_, Cmp.inS _ _, ?_⟩
      rw [row_tT]
      refine ⟨fun h2 => ?_, fun h2 => ?_⟩
      · have h2 := of_decide_eq_true h2
        refine WB_and ?_; refine WB_Compare ?_; refine WE_Subscript ?_; refine WE_name rfl ?_; refine WE_name rfl ?_
        refine ⟨_, itO (up k) (by exact Nat.lt_trans huk hk), ?_⟩
        refine WE_int ?_; refine ⟨_, Cmp.neI _ _, ?_⟩
        refine ⟨fun h3 => ?_, fun h3 => ?_⟩
        · have h3 : wh (up k) ≠ 0 := by have := bne_iff_ne.mp h3; omega
          refine WB_and ?_; refine WB_Compare ?_; refine WE_Subscript ?_; refine WE_name rfl ?_; refine WE_name rfl ?_
          refine ⟨_, itO k (by assumption), ?_⟩
          refine WE_int ?_; refine ⟨_, Cmp.neI _ _, ?_⟩
          refine ⟨fun h4 => ?_, fun h4 => ?_⟩
          · have h4 : wh k ≠ 0 := by have := bne_iff_ne.mp h4; omega
            refine WB_and_nil ?_
            exact (decide_eq_true ⟨h2, h3, h4⟩).symm
          · have h4 : wh k = 0 := by have := bne_eq_false_iff_eq.mp h4; omega
            exact (decide_eq_false fun h => h.2.2 h4).symm
        · have h3 : wh (up k) = 0 := by have := bne_eq_false_iff_eq.mp h3; omega
          exact (decide_eq_false fun h => h.2.1 h3).symm
      · have h2 := of_decide_eq_false h2
        exact (decide_eq_false fun h => h2 h.1).symm
    refine ⟨fun h2 => ?_, fun h2 => ?_⟩
    · have h2 := of_decide_eq_true h2
      refine WS_cons ?_; refine WS_Return ?_; refine WE_bool ?_
      unfold mayF
      rw [if_neg h1, if_pos h2]; rfl
    have h2 := of_decide_eq_false h2
    refine WS_nil ?_
    refine WS_cons ?_
    have hmay : mayF up wh m k = ((figW m wh (up k) % 2 != 0) && chain up m wh (up k)) := by unfold mayF; rw [if_neg h1, if_neg h2, chain, dif_pos huk]
    refine WS_While (fun n st => ∃ j, n = j ∧ j < 10 ∧ mayF up wh m k = ((figW m wh j % 2 != 0) && chain up m wh j) ∧ st = ([("path", .D (.str (textF up k))), ("rows", .K (Kd up fun k => .str (S (rowL (m k))))), ("owners", .K (Kd up fun k => .int (wh k))), ("folder", .D (.str (textF up j))), ("row", .D (.str (S (rowL (m j)))))] : St)) ?_ (up k) ⟨up k, rfl, by exact Nat.lt_trans huk hk, hmay, rfl⟩
    rintro j st ⟨_, rfl, hj, hch, rfl⟩
    refine WB_Compare ?_; refine WE_Subscript ?_; refine WE_name rfl ?_; refine WE_BinOp ?_; refine WE_int ?_; refine WE_BinOp ?_; refine WE_int ?_; refine WE_Subscript ?_; refine WE_name rfl ?_; refine WE_name rfl ?_
    refine ⟨_, itO j hj, _, Bin.mulI _ _ (mulOk3 _), _, Bin.addI _ _, ?_⟩
    have hwj := hw j
    rw [show (3 : Int) + 3 * (wh j : Int) = ((3 + 3 * wh j : Nat) : Int) by rfl]
    obtain ⟨e1, e2, e3⟩ := item_S (rowL (m j)) (3 + 3 * wh j) (by rw [rowL_len]; omega) (by rw [rowL_len]; decide)
    refine ⟨_, .str _ _ e3 e2, ?_⟩
    rw [e1]
    refine WE_str ?_; refine ⟨_, Cmp.inS _ _, ?_⟩
    rw [row_xst _ _ hwj]
    refine ⟨fun h3 => ?_, fun h3 => ?_⟩
    · have h3 : (figW m wh j % 2 != 0) = true := h3
      rw [h3, Bool.true_and] at hch
      refine WS_cons ?_; refine WS_If ?_; refine WB_Compare ?_; refine WE_name rfl ?_; refine WE_str ?_; refine ⟨_, Cmp.eqS _ _, ?_⟩
      refine ⟨fun h4 => ?_, fun h4 => ?_⟩
      · have h4 : textF up j = textF up 0 := beq_iff_eq.mp h4
        have hj0 := textF_inj up hup h4
        subst hj0
        rw [chain, dif_neg (by omega)] at hch
        refine WS_cons ?_; refine WS_Return ?_; refine WE_bool ?_
        rw [hch]; rfl
      · have h4 : 0 < j := by
          refine Nat.pos_of_ne_zero fun e => ?_
          subst e
          exact absurd h4 (by show ¬ ((Str.ofString "/" == Str.ofString "/") = false); decide)
        have huj := hup j h4
        rw [chain, dif_pos huj] at hch
        refine WS_nil (WS_cons (WS_Assign (WE_call1 fn_dirname (WE_name rfl ⟨_, con_dirname _ (by have := textF_len up j hj; omega), rfl, ?_⟩) (Nat.le_refl 2))))
        rw [dirname_text up hup j h4 hj]
        refine WS_cons ?_; refine WS_Assign ?_; refine WE_Subscript ?_; refine WE_name rfl ?_; refine WE_name rfl ?_
        refine ⟨_, itR (up j) (by omega), ?_⟩
        refine ⟨rfl, ?_⟩
        exact WS_nil ⟨up j, huj, up j, rfl, by omega, hch, rfl⟩
    · have h3 : (figW m wh j % 2 != 0) = false := h3
      rw [h3, Bool.false_and] at hch
      refine WS_nil ?_
      refine WS_cons ?_; refine WS_Return ?_; refine WE_bool ?_
      rw [hch]; rfl
end
end Mine
end
section
open PySem PySem.Calls PyProof.Rows
namespace Mine
/-! picks of ints -/
noncomputable def ipick (xs : List Int) (lo hi st : Option Int) : List Int :=
  (sliceRange (sliceBounds lo hi st xs.length).1 (sliceBounds lo hi st xs.length).2.1 (sliceBounds lo hi st xs.length).2.2).filterMap (xs[·]?)
theorem dpick_ints (xs : List Int) (lo hi st : Option Int) : dpick (xs.map .int) lo hi st = (ipick xs lo hi st).map .int := by
  unfold dpick ipick
  rw [List.length_map, List.map_filterMap]
  congr 1
  funext i
  rw [List.getElem?_map]
noncomputable def toldF (xs : List Int) (k : Nat) : Int := let v := (ipick xs (some k) none (some 10)).sum; if v < 0 then -v else v
theorem toldF_nonneg (xs : List Int) (k : Nat) : 0 ≤ toldF xs k := by unfold toldF; dsimp only; split <;> omega
noncomputable def roomF (k : Nat) : Nat := max 1 (min k 5)
noncomputable def abA : List Int := [0, 0, 1, 0, 0, 4, 3, 2, 0, 1]
noncomputable def whA : List Int := [2, 0, 0, 2, 0, 2, 1, 1, 1, 2]
noncomputable def restF (xs : List Int) (k : Nat) : Int := (toldF xs k).fdiv (roomF k)
noncomputable def upF (xs : List Int) (k : Nat) : Nat := ((abA.getD k 0 + toldF xs k).fmod (roomF k)).toNat
noncomputable def whF (xs : List Int) (k : Nat) : Nat := ((whA.getD k 0 + restF xs k).fmod 3).toNat
noncomputable def mdF (xs : List Int) (k : Nat) : Nat := (modeF k ((restF xs k).fdiv 3)).toNat
noncomputable def pre (f : Nat → Nat) (i : Nat) : List PyData := (List.range i).map fun k => PyData.int (f k)
theorem pre_succ (f : Nat → Nat) (i : Nat) : pre f i ++ [.int (f i)] = pre f (i + 1) := by
  unfold pre; rw [List.range_succ, List.map_append]; rfl
theorem pre_len (f : Nat → Nat) (i : Nat) : (pre f i).length = i := by simp [pre]
theorem range10 : rangeDs 0 10 1 = (List.range 10).map fun k => PyData.int (k : Nat) := by rfl
theorem roomF_pos (k : Nat) : 1 ≤ roomF k ∧ roomF k ≤ 5 := by unfold roomF; omega
theorem restF_nonneg (xs : List Int) (k : Nat) : 0 ≤ restF xs k := by
  unfold restF; rw [Int.fdiv_eq_ediv_of_nonneg _ (by omega)]
  exact Int.ediv_nonneg (toldF_nonneg xs k) (by omega)
theorem bitAnd_nat (a b : Nat) : Builtin.bitAnd (a : Int) (b : Int) = ((a &&& b : Nat) : Int) := by
  unfold Builtin.bitAnd
  rw [decide_eq_true (by omega : (0 : Int) ≤ (a : Int)), decide_eq_true (by omega : (0 : Int) ≤ (b : Int))]
  rfl
theorem bitXor_nonneg (x y : Int) (hx : 0 ≤ x) (hy : 0 ≤ y) : 0 ≤ Builtin.bitXor x y := by
  obtain ⟨a, rfl⟩ := Int.eq_ofNat_of_zero_le hx
  obtain ⟨b, rfl⟩ := Int.eq_ofNat_of_zero_le hy
  rw [PyProof.Rows.bitXor_and, bitAnd_nat]
  have h1 : a &&& b ≤ a := Nat.and_le_left
  have h2 : a &&& b ≤ b := Nat.and_le_right
  omega
theorem modeStep_nonneg (p : Int × Int) (h : 0 ≤ p.1) : 0 ≤ (modeStep p).1 := by
  refine bitXor_nonneg _ _ h ?_
  rw [Int.fmod_eq_emod_of_nonneg _ (by decide)]
  exact Int.emod_nonneg _ (by decide)
theorem modeF_nonneg (k : Nat) (g : Int) (hk : k < 10) : 0 ≤ modeF k g := by
  unfold modeF
  split
  · rw [Int.fmod_eq_emod_of_nonneg _ (by decide)]
    exact Int.emod_nonneg _ (by decide)
  · refine modeStep_nonneg _ (modeStep_nonneg _ (modeStep_nonneg _ ?_))
    have : ∀ k : Nat, k < 10 → 0 ≤ modeLo.getD k 0 := by decide
    exact this k hk
theorem upF_lt (xs : List Int) (k : Nat) (hk : 0 < k) : upF xs k < k := by
  have h1 : (roomF k : Int) > 0 := by have := roomF_pos k; omega
  have h2 : roomF k ≤ k := by unfold roomF; omega
  unfold upF
  rw [Int.fmod_eq_emod_of_nonneg _ (by (clear hk h1 h2; omega))]
  have := Int.emod_lt_of_pos (abA.getD k 0 + toldF xs k) h1
  have := Int.emod_nonneg (abA.getD k 0 + toldF xs k) (by omega : (roomF k : Int) ≠ 0)
  omega
theorem whF_le (xs : List Int) (k : Nat) : whF xs k ≤ 2 := by
  unfold whF
  rw [Int.fmod_eq_emod_of_nonneg _ (by decide)]
  have := Int.emod_lt_of_pos (whA.getD k 0 + restF xs k) (by decide : (0 : Int) < 3)
  (clear this; omega)
section
variable {Γ : Gx} {c : Cx} {st : St} {s : Shared}
theorem fn_law_drawn : isFn "_law_drawn" := by unfold isFn; decide +kernel
theorem con_law_drawn (xs : List Int) (hx : xs.length ≤ 63) : Con Γ 2 "_law_drawn" [.D (.list (xs.map .int))] (.D (.tuple [.list (natsL (upF xs)), .list (natsL (whF xs)), .list (natsL (mdF xs))])) := by
  have hsl : sizeLine = 2 ^ 24 := rfl
  refine con_fn (j := 14) ["script"] (by rfl) rfl rfl rfl ?_ (by decide +kernel) (by decide +kernel) ?_ rfl rfl rfl
  · exact fun pm cd doc => len1 fun v => rfl
  · intro κ
    refine WS_cons (WS_AssignComp (fun _ => true) (fun d => match d with | .int k => .int (toldF xs k.toNat) | _ => .none) (cl := [("script", κ.L + 1)]) (by exact ⟨by rfl, by decide +kernel, rfl, by decide +kernel, rfl, (by repeat (first | exact List.forall_mem_nil _ | refine List.forall_mem_cons.mpr ⟨⟨rfl, rfl, rfl⟩, ?_⟩)), (by (try simp only [List.map_cons, List.map_nil]); decide +kernel)⟩) ?_)
    refine WE_range1 ?_; refine WE_int ?_; refine ⟨_, BRange.one _, ?_⟩
    refine ⟨rangeDs 0 10 1, .range _ _ _ (by decide), by decide, ?_, ?_⟩
    · intro hid' C i d hd
      obtain ⟨rfl, hi⟩ := rangeDs_at hd
      refine ⟨rfl, fun _ => ?_⟩
      refine WE_abs ?_; refine WE_sum ?_; refine WE_slice_step ?_; refine WE_name rfl ?_; refine WE_name rfl ?_; refine WE_int ?_
      refine ⟨xs.map .int, _, _, rfl, rfl, rfl, by decide, by rw [List.length_map]; exact Nat.le_trans hx (by decide), ?_⟩
      rw [dpick_ints]
      refine ⟨_, .mk _ _ rfl, _, .mk _, ?_⟩
      rw [show (0 : Int) + (i : Int) = (i : Int) by omega]
      rfl
    refine ⟨rfl, ?_⟩
    have htold : (((rangeDs 0 10 1).filter fun _ => true).map fun d => match d with | .int k => PyData.int (toldF xs k.toNat) | _ => .none) = (List.range 10).map fun k => PyData.int (toldF xs k) := by
      rw [List.filter_eq_self.mpr (fun _ _ => rfl), range10, List.map_map]; rfl
    rw [htold]
    have told_at : ∀ k, k < 10 → ((List.range 10).map fun k => PyData.int (toldF xs k))[k]? = some (.int (toldF xs k)) := fun k hk => by
      rw [List.getElem?_map, List.getElem?_range hk]; rfl
    have told_len : ((List.range 10).map fun k => PyData.int (toldF xs k)).length = 10 := by simp
    generalize ((List.range 10).map fun k => PyData.int (toldF xs k)) = told at told_at told_len ⊢
    show WS _ _ _ (execs _ _) _
    refine WS_cons (WS_AssignNew (WN_List (WA_nil ⟨[], rfl, by decide, by simp, fun a1 => ?_⟩)))
    refine WS_cons (WS_AssignNew (WN_List (WA_nil ⟨[], rfl, by decide, by simp, fun a2 => ?_⟩)))
    refine WS_cons (WS_AssignNew (WN_List (WA_nil ⟨[], rfl, by decide, by simp, fun a3 => ?_⟩)))
    refine WS_cons (WS_For (fun ds i st => st = ([("script", .D (.list (xs.map .int))), ("told", .D (.list told)), ("above", .M a1 (pre (upF xs) i)), ("whose", .M a2 (pre (whF xs) i)), ("modes", .M a3 (pre (mdF xs) i))] : St)) ?_)
    refine WE_range1 ?_; refine WE_int ?_; refine ⟨_, BRange.one _, ?_⟩; refine ⟨rfl, ?_⟩
    refine ⟨rangeDs 0 10 1, .range _ _ _ (by decide), rfl, fun i st1 h => h ▸ rfl, ?_, ?_⟩
    · rintro hid i d st1 hd rfl
      obtain ⟨rfl, hi⟩ := rangeDs_at hd
      have hi10 : i < 10 := by (clear hx hsl htold told_at told_len hd; omega)
      rw [show (0 : Int) + (i : Int) = (i : Int) by omega]
      have hroom := roomF_pos i
      have eroom : max (1 : Int) (min (i : Int) 5) = ((roomF i : Nat) : Int) := by unfold roomF; (clear hx hsl htold told_at told_len hi hd hi10 hroom; omega)
      refine WS_cons (WS_Assign (WE_max (WE_int (WE_min (WE_name rfl (WE_int ⟨_, .two _ _, _, .two _ _, rfl, ?_⟩))))))
      rw [eroom]
      refine WS_cons ?_; refine WS_Assign ?_; refine WE_BinOp ?_; refine WE_Subscript ?_; refine WE_name rfl ?_; refine WE_name rfl ?_
      refine ⟨_, .list _ told _ (.int (toldF xs i)) rfl (by (clear hx hsl htold told_at told_len hi hd hi10 hroom eroom; omega)) (told_at i hi10) (by (clear hx htold told_at hi hd hi10 hroom eroom; omega)), ?_⟩
      refine WE_name rfl ⟨_, Bin.divI _ _ (by omega) (by omega), rfl, ?_⟩
      have erest : (toldF xs i).fdiv ((roomF i : Nat) : Int) = restF xs i := rfl
      rw [erest]
      have hab : ((abA.map PyData.int)[i]?) = some (.int (abA.getD i 0)) := ints_at abA i hi10
      have hwa : ((whA.map PyData.int)[i]?) = some (.int (whA.getD i 0)) := ints_at whA i hi10
      refine WS_cons (WS_append rfl (by rw [pre_len]; exact Nat.le_of_lt (Nat.lt_of_lt_of_le hi10 (by decide))) rfl ?_)
      refine WE_BinOp ?_; refine WE_BinOp ?_; refine WE_Subscript ?_; refine WE_List ?_; refine WA_cons ?_; refine WE_int ?_; refine WA_cons ?_; refine WE_int ?_; refine WA_cons ?_; refine WE_int ?_; refine WA_cons ?_; refine WE_int ?_; refine WA_cons ?_; refine WE_int ?_; refine WA_cons ?_; refine WE_int ?_; refine WA_cons ?_; refine WE_int ?_; refine WA_cons ?_; refine WE_int ?_; refine WA_cons ?_; refine WE_int ?_; refine WA_cons ?_; refine WE_int ?_; refine WA_nil ?_; refine ⟨_, rfl, by decide, ?_⟩; refine WE_name rfl ?_
      refine ⟨_, .list _ (abA.map .int) _ _ rfl (by (clear hx hsl htold told_at told_len hi hd hi10 hroom eroom erest hab hwa; omega)) hab (by decide), ?_⟩
      refine WE_Subscript ?_; refine WE_name rfl ?_; refine WE_name rfl ?_
      refine ⟨_, .list _ told _ (.int (toldF xs i)) rfl (by (clear hx hsl htold told_at told_len hi hd hi10 hroom eroom erest hab hwa; omega)) (told_at i hi10) (by (clear hx htold told_at hi hd hi10 hroom eroom erest hab hwa; omega)), ?_⟩
      refine ⟨_, Bin.addI _ _, WE_name rfl ⟨_, Bin.modI _ _ (by omega), ?_⟩⟩
      have eup : (abA.getD i 0 + toldF xs i).fmod ((roomF i : Nat) : Int) = ((upF xs i : Nat) : Int) := by
        unfold upF
        rw [Int.toNat_of_nonneg]
        rw [Int.fmod_eq_emod_of_nonneg _ (by (clear hx hsl htold told_at told_len hi hd hi10 hroom eroom erest hab hwa; omega))]
        exact Int.emod_nonneg _ (by omega)
      rw [eup]
      refine ⟨_, rfl, ?_⟩
      rw [pre_succ]
      show WS _ _ _ (execs _ _) _
      refine WS_cons (WS_append rfl (by rw [pre_len]; exact Nat.le_of_lt (Nat.lt_of_lt_of_le hi10 (by decide))) rfl ?_)
      refine WE_BinOp ?_; refine WE_BinOp ?_; refine WE_Subscript ?_; refine WE_List ?_; refine WA_cons ?_; refine WE_int ?_; refine WA_cons ?_; refine WE_int ?_; refine WA_cons ?_; refine WE_int ?_; refine WA_cons ?_; refine WE_int ?_; refine WA_cons ?_; refine WE_int ?_; refine WA_cons ?_; refine WE_int ?_; refine WA_cons ?_; refine WE_int ?_; refine WA_cons ?_; refine WE_int ?_; refine WA_cons ?_; refine WE_int ?_; refine WA_cons ?_; refine WE_int ?_; refine WA_nil ?_; refine ⟨_, rfl, by decide, ?_⟩; refine WE_name rfl ?_
      refine ⟨_, .list _ (whA.map .int) _ _ rfl (by (clear hx hsl htold told_at told_len hi hd hi10 hroom eroom erest hab hwa eup; omega)) hwa (by decide), ?_⟩
      refine WE_name rfl ?_; refine ⟨_, Bin.addI _ _, ?_⟩; refine WE_int ?_; refine ⟨_, Bin.modI _ _ (by decide), ?_⟩
      have ewh : (whA.getD i 0 + restF xs i).fmod 3 = ((whF xs i : Nat) : Int) := by
        unfold whF
        rw [Int.toNat_of_nonneg]
        rw [Int.fmod_eq_emod_of_nonneg _ (by decide)]
        exact Int.emod_nonneg _ (by decide)
      rw [ewh]
      refine ⟨_, rfl, ?_⟩
      rw [pre_succ]
      show WS _ _ _ (execs _ _) _
      have hr0 := restF_nonneg xs i
      have h3 : 0 ≤ (restF xs i).fdiv 3 := by
        rw [Int.fdiv_eq_ediv_of_nonneg _ (by decide)]
        exact Int.ediv_nonneg hr0 (by decide)
      have emd : modeF i ((restF xs i).fdiv 3) = ((mdF xs i : Nat) : Int) := by
        unfold mdF
        rw [Int.toNat_of_nonneg (modeF_nonneg i _ hi10)]
      refine WS_cons (WS_append rfl (by rw [pre_len]; exact Nat.le_of_lt (Nat.lt_of_lt_of_le hi10 (by decide))) rfl (WE_call2 fn_law_mode (WE_name rfl (WE_BinOp (WE_name rfl (WE_int ⟨_, .divI _ _ (by decide) (by decide), _, con_law_mode i _ hi10 h3, _, rfl, ?_⟩)))) (Nat.le_refl 1)))
      rw [emd, pre_succ]
      exact WS_end [("script", .D (.list (xs.map .int))), ("told", .D (.list told)), ("above", .M a1 (pre (upF xs) (i + 1))), ("whose", .M a2 (pre (whF xs) (i + 1))), ("modes", .M a3 (pre (mdF xs) (i + 1)))] ⟨rfl, rfl, rfl, rfl, rfl, trivial⟩ rfl
    · rintro hid st1 rfl
      refine WS_nil ?_
      show WS _ _ _ (execs _ _) _
      refine WS_cons (WS_freeze (x := "above") rfl (WS_freeze (x := "whose") rfl (WS_freeze (x := "modes") rfl ?_)))
      refine WS_Return ?_; refine WE_Tuple ?_; refine WA_cons ?_; refine WE_name rfl ?_; refine WA_cons ?_; refine WE_name rfl ?_; refine WA_cons ?_; refine WE_name rfl ?_; refine WA_nil ?_; refine ⟨_, rfl, by (dsimp only [List.length]; decide), ?_⟩
      rfl
end
end Mine
end
section
open PySem PySem.Calls PyProof.Rows
namespace Mine
section
variable {Γ : Gx} {c : Cx} {st : St} {s : Shared}

/-- a list of the frame's own turns -/
theorem R.mset {x : Str} {a : Addr} {ds ds' : List PyData} {s' : Shared} {vs' : Array Value} {n' : Nat} (r : R Γ c st s) (hl : st.lookup x = some (.M a ds)) (hV : st.all (fun p => notV p.2) = true)
    (hother : ∀ b, b ≠ a → s'.heap.get? b = s.heap.get? b) (hat : s'.heap.get? a = some (plainL vs' n')) (hrd : RdL (fz s.heap (Hd c st)) vs'.toList ds') (hg : s'.gens = s.gens) (ho : s'.os = s.os) :
    R Γ c (upd st x (.M a ds')) s' ∧ Mv c st s (upd st x (.M a ds')) s' := by
  obtain ⟨v, hb, rfl, vs, n, h1, h2⟩ := r.bound x _ hl
  have hm := mem_of_lookup hl
  have hH : ∀ b, Hd c (upd st x (.M a ds')) b → Hd c st b := by
    rintro b (h | ⟨y, es, h⟩)
    · exact .inl h
    · rcases upd_mem r.keys h with ⟨_, e⟩ | ⟨_, h⟩
      · cases e; exact .inr ⟨x, ds, hm⟩
      · exact .inr ⟨y, es, h⟩
  have mv : Mv c st s (upd st x (.M a ds')) s' :=
    .ex (fz_mono fun b o hb e => ⟨fun h => hb (hH b h), (hother b fun q => hb (.inr ⟨x, ds, q ▸ hm⟩)).trans e⟩) fun b o h1 _ e => (hother b fun q => r.mHid x a ds hm (q ▸ h1)).trans e
  have nown : ∀ b, own c.env b → b ≠ a := fun b ho q => r.mOwn x a ds hm (q ▸ ho)
  have hbd : ∀ y w', Bd c.env s.heap y w' → Bd c.env s'.heap y w' := by
    rintro y w' (⟨k, m, ⟨o, es, ep, e, q⟩, em⟩ | ⟨k, b, ea, o, e', q⟩)
    · exact .inl ⟨k, m, ⟨o, es, ep, (hother _ (nown _ (.inl rfl))).trans e, q⟩, em⟩
    · exact .inr ⟨k, b, ea, o, (hother _ (nown _ (.inr ⟨y, ea⟩))).trans e', q⟩
  refine ⟨r.set hg ho mv ⟨rfl, _, _, hat, RdL.mono mv.sub hrd⟩ (hbd _ _ hb) (fun y w' _ hb => hbd y w' hb) ?_ ?_ ?_ ?_ ?_ ?_ (fun _ _ e => by cases e) ?_, mv⟩
  · obtain ⟨m, o, es, ep, e, q⟩ := r.frame
    exact ⟨m, o, es, ep, (hother _ (nown _ (.inl rfl))).trans e, q⟩
  · intro y b e
    obtain ⟨w', o, e', q⟩ := r.cells y b e
    exact ⟨w', o, (hother _ (nown _ (.inr ⟨y, e⟩))).trans e', q⟩
  · exact fun b o e => (hother b fun q => by have := r.mBase x a ds hm; rw [← q, e] at this; cases this).trans (r.keep b o e)
  · intro b hb
    obtain ⟨o, e⟩ := r.low b hb
    exact ⟨o, (hother b fun q => r.mHid x a ds hm (q ▸ hb)).trans e⟩
  · intro y q es hy hm'
    exact hother q fun e => hy (r.mApart y x a es ds (e ▸ hm') hm)
  · intro y q es _ hm'
    have := List.all_eq_true.mp hV _ hm'
    cases this
  · intro q es e
    cases e
    exact ⟨r.mHid x a ds hm, r.mBase x a ds hm, fun y es' hy hm' => hy (r.mApart y x a es' ds hm' hm)⟩

/-- an item of a plain list, put at a counted place -/
theorem put_at {A : Around} {E : Value → Shared → Prop} {l : Addr} {vs : Array Value} {n j : Nat} {t : Tok} {u : Value} {Q : Unit → Shared → Prop} (hl : s.heap.get? l = some (plainL vs n)) (hj : j < vs.size) (hz : vs.size ≤ sizeLine)
    (h : Q () { s with heap := s.heap.update l (Obj.mapSeq (·.setIfInBounds ((j : Int).toNat) u)) }) : wpAny (mo Γ) A (setItem (.ref l) (.int (j : Int) t) u) Q E s := by
  have L := plainL_isList hl
  have hsl : sizeLine = 2 ^ 24 := rfl
  obtain ⟨k, hk⟩ : ∃ k : Int, k = (j : Int) := ⟨_, rfl⟩
  have f0 : 0 ≤ k := by omega
  have f1 : k < 2 ^ 63 := by omega
  rw [← hk] at h ⊢
  clear hsl hz
  unfold setItem
  try with_reducible refine wpAny_holding ?_
  first | refine wpAny_bind (wpAny_pure ?_) | skip
  refine wpAny_bind (wpAny_sequenceKey L.typeIs (by decide) ?_)
  refine wpAny_bind (wpAny_callSpecial?_slot (name := Str.ofString "__setitem__") L.typeIs slot_list_setitem (wpAny_call_entry slot_list_setitem L.typeIs entry_list_setitem ?_ (args_list_setitem _ _ _)))
  show wpAny _ _ (Builtin.List.listSubscript? (.int k t) >>= _) _ _ s
  refine wpAny_bind (wpAny_listSubscript_int (fitsIndex_of f0 f1) ?_)
  clear f1
  subst hk
  show wpAny _ _ ((seqItemAt l j >>= fun r => pure (r.map (j, ·))) >>= _) _ _ _
  refine wpAny_bind (wpAny_bind (wpAny_seqItemAt hl rfl (wpAny_pure ?_)))
  rw [Array.getElem?_eq_getElem hj]
  show wpAny _ _ (setSeqItemAt l j u >>= _) _ _ _
  exact wpAny_bind (wpAny_setSeqItemAt hl rfl (by first | exact wpAny_bind (wpAny_pure (wpAny_pure ⟨.none, rfl, wpAny_pure h⟩)) | exact wpAny_pure ⟨.none, rfl, wpAny_pure h⟩))
/-- x[i] = e -/
theorem WS_setitem {x : Str} {np pos pos' : Pos} {i e : Expr} {a : Addr} {ds : List PyData} {Q : Fl → St → Prop} (hl : st.lookup x = some (.M a ds)) (hV : st.all (fun p => notV p.2) = true) (hz : ds.length ≤ sizeLine)
    (h : WE Γ c st (eval e c.env) fun b => ∃ d, b = .D d ∧ WE Γ c st (eval i c.env) fun k => ∃ n : Nat, k = .D (.int n) ∧ n < ds.length ∧ Q .next (upd st x (.M a (ds.set n d))))
    (hd : (x == ("__debug__" : Str)) = false := by decide) (hn : (x == ("__classdict__" : Str)) = false := by decide)
    (hs : swapsWith e (some (.Subscript (.Name x np) i pos')) pos.line c.env = pure false := by rfl) :
    WS Γ c st (exec (.Assign [.Subscript (.Name x np) i pos'] e pos) c.env) Q := fun s r => by
  have hsl : sizeLine = 2 ^ 24 := rfl
  refine wpAny_Assign_Subscript (wpAny_mono (h s r) (fun v s1 ⟨k1, b, vb, d, eb, hi⟩ => ?_) fun _ _ x => x) hs
  subst eb
  have r1 := r.kp k1
  obtain ⟨u, hb, rfl, vs, n, h1, h2⟩ := r1.bound x _ hl
  refine wpAny_Name (loadName_Bd r1.hk hb ?_ hn) hd
  refine wpAny_mono (hi s1 r1) (fun iv s2 ⟨k2, ik, vi, j, ei, hj, q⟩ => ?_) fun _ _ x => x
  subst ei
  obtain ⟨t, rfl⟩ := Rd.int_inv vi
  have hlen := h2.length
  rw [Array.length_toList] at hlen
  have h1' := k2.heap _ _ h1
  have r2 := r1.kp k2
  refine put_at h1' (by omega) (by (clear hl hV hd hn hs hsl h1 hj h1'; omega)) ?_
  obtain ⟨r3, m3⟩ := r2.mset (s' := { s2 with heap := s2.heap.update a (Obj.mapSeq (·.setIfInBounds ((j : Int).toNat) v)) }) (ds' := ds.set j d) hl hV (fun b hb => Heap.get?_update_other _ _ (Ne.symm hb)) (IsL.update h1' _)
    (by rw [Array.toList_setIfInBounds]; exact RdL.set (Rd.mono (fz_keep k2.heap) vb) j (RdL.mono (fz_keep k2.heap) h2)) rfl rfl
  exact ⟨_, .next, (k1.trans k2).mv.trans m3, r3, rfl, q⟩

theorem rep_one {α : Type} (x : α) (n : Nat) : (List.replicate n [x]).flatten = List.replicate n x := by
  induction n with
  | zero => rfl
  | succ n ih => rw [List.replicate_succ, List.flatten_cons, ih, List.replicate_succ]; rfl
theorem RdL.rep {g : Heap} {v : Value} {d : PyData} (h : Rd g v d) : ∀ n, RdL g (List.replicate n v) (List.replicate n d)
  | 0 => .nil
  | n + 1 => by rw [List.replicate_succ, List.replicate_succ]; exact .cons h (RdL.rep h n)
theorem mul_plain {A : Around} {E : Value → Shared → Prop} {l : Addr} {items : Array Value} {k : Nat} {x : Int} {u : Tok} {Q : Value → Shared → Prop} (hl : s.heap.get? l = some (plainL items k)) (hlo : -(2 ^ 63 : Int) ≤ x) (hhi : x < 2 ^ 63) (hsz : items.size * x.toNat ≤ 2 ^ 24)
    (h : Q (.ref s.heap.objs.size) { s with heap := s.heap.push { cls := .type "list", data := .seq (List.replicate x.toNat items.toList).flatten.toArray } }) : wpAny (mo Γ) A (binaryOp .Mult (.ref l) (.int x u)) Q E s := by
  rw [← listMul_foldl_if] at h
  exact wpAny_binaryOp_repeat_ref (T := "list") (U := "int") (by decide) ⟨_, hl, rfl⟩ (fun s' => typeIs_int s' x u) noFill_list_mul F.fills_int_mul F.slot_int_rmul repeat_list F.slot_int_index.lookup
    (call_meets F.slot_int_rmul (typeIs_int s x u) F.entry_int_rmul (F.args_int_rmul_2 _ _) (lm_int_rmul_list_any x u l items k none #[])
      ⟨hl, rfl, ⟨_, hl, rfl⟩, call_meets F.slot_list_mul ⟨_, hl, rfl⟩ F.entry_list_mul (F.args_list_mul_2 _ _)
        (lm_list_mul_any l items k none #[] x u (by simp [Builtin.List.listFitsIndex]; omega) (by omega) (by simp [Builtin.List.listTooLong, sizeLine]; assumption)) ⟨hl, h⟩⟩)
/-- [e] * n -/
theorem WN_Mul {l e : Expr} {pos : Pos} {Q : List PyData → Prop} (h : WE Γ c st (eval l c.env) fun a => ∃ d, (a = .D (.list [d]) ∧ flat d = true) ∧ WE Γ c st (eval e c.env) fun b => ∃ n : Nat, b = .D (.int n) ∧ n ≤ 1000 ∧ Q (List.replicate n d)) :
    WN Γ c st (eval (.BinOp l .Mult e pos) c.env) Q := fun s R => by
  refine wpAny_BinOp (wpAny_mono (h s R) (fun u s1 ⟨k1, a, va, d, ⟨ea, hf⟩, hb⟩ => wpAny_mono (hb s1 (R.kp k1)) (fun v s2 ⟨k2, b, vb, n, eb, hn, q⟩ => ?_) fun _ _ x => x) fun _ _ x => x)
  subst ea eb
  obtain ⟨t, rfl⟩ := Rd.int_inv vb
  obtain ⟨p, vs, k, rfl, h1, h2⟩ := Rd.list_inv va
  have ho := k2.heap _ _ (fz_sub _ _ _ _ h1)
  obtain ⟨x, rest, e1, hx, hr⟩ := h2.cons_inv'
  have hnil := hr.nil_inv
  subst hnil
  have evs : vs = #[x] := Array.toList_inj.mp e1
  subst evs
  have hk := k1.trans k2
  refine mul_plain ho (by (clear hf hn h1 ho e1; omega)) (by omega) (by simp; exact Nat.le_trans hn (by decide)) ?_
  refine ⟨hk.trans (Kp.new s2 _), s2.heap.objs.size, _, 0, List.replicate n d, rfl, ?_, Heap.get?_push_size _ rfl, ?_, ?_, q⟩
  · cases e : s.heap.get? s2.heap.objs.size with
    | none => rfl
    | some o => exact absurd (Heap.lt_size (hk.heap _ _ e)) (Nat.lt_irrefl _)
  · have := RdL.rep (hx.flat_any hf (fz (s2.heap.push { cls := .type "list", data := .seq (List.replicate ((n : Int).toNat) #[x].toList).flatten.toArray }) (Hd c st))) n
    simpa [rep_one] using this
  · intro d' hd'
    rw [List.eq_of_mem_replicate hd']
    exact hf
end
end Mine
end
section
open PySem PySem.Calls PyProof.Rows
namespace Mine
/-! heights -/
noncomputable def mx (l : List Nat) : Nat := l.foldr max 0
theorem mx_mem (l : List Nat) : mx l ∈ 0 :: l := by
  induction l with
  | nil => simp [mx]
  | cons a l ih =>
    have e : mx (a :: l) = max a (mx l) := rfl
    rw [e]
    rcases Nat.le_total (mx l) a with h | h
    · rw [Nat.max_eq_left h]; simp
    · rw [Nat.max_eq_right h]
      rcases List.mem_cons.mp ih with h | h
      · rw [h]; simp
      · simp [h]
theorem mx_le (l : List Nat) : ∀ x ∈ l, x ≤ mx l := by
  induction l with
  | nil => intro x h; cases h
  | cons a l ih =>
    intro x h
    have e : mx (a :: l) = max a (mx l) := rfl
    rw [e]
    rcases List.mem_cons.mp h with h | h
    · rw [h]; exact Nat.le_max_left _ _
    · exact Nat.le_trans (ih x h) (Nat.le_max_right _ _)
noncomputable def upto (a b : Nat) : List Nat := (List.range (b - a)).map (a + ·)
theorem rangeDs_nat (a b : Nat) : rangeDs a b 1 = (upto a b).map fun c => PyData.int (c : Nat) := by
  unfold rangeDs upto
  rw [rangeSize_one, List.map_map]
  have : ((if (a : Int) < b then (b : Int) - a else 0) : Int).toNat = b - a := by split <;> omega
  rw [this]
  refine List.map_congr_left fun i _ => ?_
  simp
theorem mem_upto {a b c : Nat} : c ∈ upto a b ↔ a ≤ c ∧ c < b := by
  simp only [upto, List.mem_map, List.mem_range]
  constructor
  · rintro ⟨i, h, rfl⟩; omega
  · intro h; exact ⟨c - a, by omega, by omega⟩
noncomputable def kids (up : Nat → Nat) (k : Nat) : List Nat := (upto (k + 1) 10).filter fun c => up c == k
noncomputable def hts (up : Nat → Nat) : Nat → Nat → Nat
  | 0 => fun _ => 0
  | i + 1 => fun j => if j = 9 - i then 1 + mx ((kids up (9 - i)).map (hts up i)) else hts up i j
noncomputable def gos (up : Nat → Nat) (may : Nat → Bool) : Nat → Nat → Bool
  | 0 => fun _ => false
  | i + 1 => fun j => if j = 9 - i then may (9 - i) && ((kids up (9 - i)).map (gos up may i)).all id else gos up may i j
noncomputable def boolsL (f : Nat → Bool) : List PyData := (List.range 10).map fun k => PyData.bool (f k)
theorem boolsL_at (f : Nat → Bool) (k : Nat) (hk : k < 10) : (boolsL f)[k]? = some (.bool (f k)) := by
  simp [boolsL, List.getElem?_map, List.getElem?_range hk]
theorem boolsL_len (f : Nat → Bool) : (boolsL f).length = 10 := by simp [boolsL]
theorem set_range {α : Type} (f : Nat → α) (n k : Nat) (v : α) : ((List.range n).map f).set k v = (List.range n).map fun j => if j = k then v else f j := by
  apply List.ext_getElem?
  intro i
  rw [List.getElem?_set, List.getElem?_map, List.getElem?_map]
  simp only [List.length_map, List.length_range]
  by_cases h : i < n
  · rw [List.getElem?_range h]
    by_cases e : k = i
    · subst e; simp [h]
    · rw [if_neg e]; simp [Ne.symm e]
  · have : (List.range n)[i]? = none := List.getElem?_eq_none (by simp; exact Nat.not_lt.mp h)
    rw [this]
    split
    · rename_i e; subst e; simp [h]
    · rfl
theorem natsL_set (f : Nat → Nat) (k v : Nat) : (natsL f).set k (.int (v : Nat)) = natsL fun j => if j = k then v else f j := by
  unfold natsL
  rw [set_range]
  refine List.map_congr_left fun j _ => ?_
  by_cases h : j = k <;> simp [h]
theorem boolsL_set (f : Nat → Bool) (k : Nat) (v : Bool) : (boolsL f).set k (.bool v) = boolsL fun j => if j = k then v else f j := by
  unfold boolsL
  rw [set_range]
  refine List.map_congr_left fun j _ => ?_
  by_cases h : j = k <;> simp [h]
noncomputable def turnsF (up : Nat → Nat) (may : Nat → Bool) (k : Nat) : Nat := if gos up may 9 k then hts up 9 k else 0
theorem range_down : rangeDs 9 0 (-1) = (List.range 9).map fun i => PyData.int ((9 - i : Nat) : Int) := by rfl

section
variable {Γ : Gx} {c : Cx} {st : St} {s : Shared}
theorem fn_law_heights : isFn "_law_heights" := by unfold isFn; decide +kernel
theorem con_law_heights (up wh m : Nat → Nat) (hup : ∀ k, 0 < k → up k < k) (hw : ∀ k, wh k ≤ 2) :
    Con Γ 2 "_law_heights" [.D (.list (natsL up)), .D (.list (natsL wh)), .D (.list (natsL m))] (.D (.list (natsL (turnsF up (mayF up wh m))))) := by
  have hsl : sizeLine = 2 ^ 24 := rfl
  have it : ∀ (f : Nat → Nat) (a : AV) (i : Nat), items a = some (natsL f) → i < 10 → Itm a (.D (.int i)) (.D (.int (f i))) := fun f a i ha hi => .list _ (natsL f) _ (.int (f i)) ha (by (clear hup hw hsl ha hi; omega)) (natsL_at f i hi) (by rw [natsL_len]; decide)
  have itB : ∀ (f : Nat → Bool) (a : AV) (i : Nat), items a = some (boolsL f) → i < 10 → Itm a (.D (.int i)) (.D (.bool (f i))) := fun f a i ha hi => .list _ (boolsL f) _ (.bool (f i)) ha (by (clear hup hw hsl it ha hi; omega)) (boolsL_at f i hi) (by rw [boolsL_len]; decide)
  refine con_fn (j := 21) ["above", "whose", "modes"] (by rfl) rfl rfl rfl ?_ (by decide +kernel) (by decide +kernel) ?_ rfl rfl rfl
  · exact fun pm cd doc => len3 fun v u x => rfl
  · intro κ
    refine WS_cons (WS_AssignNew (WN_Mul (WE_List (WA_cons (WE_int (WA_nil ⟨_, rfl, by decide, _, ⟨rfl, rfl⟩, WE_int ⟨10, rfl, by decide, fun a1 => ?_⟩⟩))))))
    refine WS_cons (WS_AssignNew (WN_Mul (WE_List (WA_cons (WE_bool (WA_nil ⟨_, rfl, by decide, _, ⟨rfl, rfl⟩, WE_int ⟨10, rfl, by decide, fun a2 => ?_⟩⟩))))))
    refine WS_cons (WS_For (fun ds i st => st = ([("above", .D (.list (natsL up))), ("whose", .D (.list (natsL wh))), ("modes", .D (.list (natsL m))), ("heights", .M a1 (natsL (hts up i))), ("goes", .M a2 (boolsL (gos up (mayF up wh m) i)))] : St)) ?_)
    refine WE_range3 ?_; refine WE_int ?_; refine WE_int ?_; refine WE_Neg ?_; refine WE_int ?_; refine ⟨_, rfl, ?_⟩; refine ⟨_, BRange.three _ _ _ (by decide) (by decide), ?_⟩; refine ⟨rfl, ?_⟩
    refine ⟨rangeDs 9 0 (-1), .range _ _ _ (by decide), rfl, fun i st1 h => h ▸ rfl, ?_, ?_⟩
    · rintro hid i d st1 hd rfl
      rw [range_down, List.getElem?_map, Option.map_eq_some_iff] at hd
      obtain ⟨i', hi', rfl⟩ := hd
      obtain ⟨hi9, e⟩ := List.getElem?_eq_some_iff.mp hi'
      rw [List.getElem_range] at e
      subst e
      rw [List.length_range] at hi9
      generalize hk : 9 - i = k
      have hk1 : 0 < k := by omega
      have hk9 : k < 10 := by (clear hup hw hsl it itB hi9 hi' hk1; omega)
      have hkids : ((rangeDs ((k : Int) + 1) 10 1).filter fun d => match d with | .int c => up c.toNat == k | _ => false).map id = (kids up k).map fun c => PyData.int (c : Nat) := by
        rw [show ((k : Int) + 1) = ((k + 1 : Nat) : Int) by rfl, show (10 : Int) = ((10 : Nat) : Int) from rfl, rangeDs_nat, List.filter_map, List.map_id]
        rfl
      have hkmem : ∀ c ∈ kids up k, k < c ∧ c < 10 ∧ up c = k := fun c hc => by
        obtain ⟨h1, h2⟩ := List.mem_filter.mp hc
        have := mem_upto.mp h1
        exact ⟨by (clear hup hw hsl it itB hi9 hi' hk hk1 hk9 hkids h2; omega), this.2, beq_iff_eq.mp h2⟩
      have hklen : (kids up k).length ≤ 10 := Nat.le_trans (List.length_filter_le _ _) (by simp [upto]; (clear hup hw hsl it itB hi9 hi' hk hk1 hk9 hkids hkmem; omega))
      refine WS_cons (WS_AssignComp (fun d => match d with | .int c => up c.toNat == k | _ => false) id (cl := [("k", κ.L + 1 + 1 + 1 + 1), ("above", κ.L + 1)]) (by exact ⟨by rfl, by decide +kernel, rfl, by decide +kernel, rfl, (by repeat (first | exact List.forall_mem_nil _ | refine List.forall_mem_cons.mpr ⟨⟨rfl, rfl, rfl⟩, ?_⟩)), (by (try simp only [List.map_cons, List.map_nil]); decide +kernel)⟩) ?_)
      refine WE_range2 ?_; refine WE_BinOp ?_; refine WE_name rfl ?_; refine WE_int ?_; refine ⟨_, Bin.addI _ _, ?_⟩; refine WE_int ?_; refine ⟨_, BRange.two _ _, ?_⟩
      refine ⟨rangeDs ((k : Int) + 1) 10 1, .range _ _ _ (small_one (by (clear hup hw hsl it itB hi9 hi' hk hk1 hk9 hkids hkmem hklen; omega)) (by (clear hup hw hsl it itB hi9 hi' hk hk1 hkids hkmem hklen; omega)) (by decide) (by decide)), by rw [rangeDs_len _ _ (by (clear hup hw hsl it itB hi9 hi' hk hk1 hkids hkmem hklen; omega))]; (clear hup hw it itB hi9 hi' hk hk1 hk9 hkids hkmem hklen; omega), ?_, ?_⟩
      · intro hid' C i' d hd
        obtain ⟨rfl, hlt⟩ := rangeDs_at hd
        rw [show ((k : Int) + 1 + (i' : Int)) = ((k + 1 + i' : Nat) : Int) by rfl]
        show WB _ _ _ (isTrue _ _ _) _
        refine WB_Compare ?_; refine WE_Subscript ?_; refine WE_name rfl ?_; refine WE_name rfl ?_
        refine ⟨_, it up _ (k + 1 + i') rfl (by (clear hup hw hsl it itB hi9 hi' hk hk1 hk9 hkids hkmem hklen hd; omega)), ?_⟩
        refine WE_name rfl ?_; refine ⟨_, Cmp.eqI _ _, ?_⟩
        refine ⟨?_, fun _ => ?_⟩
        · show (((up (k + 1 + i') : Nat) : Int) == (k : Int)) = (up (k + 1 + i') == k)
          rw [Bool.eq_iff_iff, beq_iff_eq, beq_iff_eq]; (clear hup hw hsl it itB hi9 hi' hk hk1 hk9 hkids hkmem hklen hlt hd; omega)
        · refine WE_name rfl ?_
          rfl
      refine ⟨rfl, ?_⟩
      rw [hkids]
      show WS _ _ _ (execs _ _) _
      have hkl : ((kids up k).map fun c => PyData.int (c : Nat)).length ≤ sizeLine := by rw [List.length_map]; exact Nat.le_trans hklen (by decide)
      have kat : ∀ (i' : Nat) (d : PyData), ((kids up k).map fun c => PyData.int (c : Nat))[i']? = some d → ∃ c, c < 10 ∧ d = .int (c : Nat) := fun i' d hd => by
        rw [List.getElem?_map, Option.map_eq_some_iff] at hd
        obtain ⟨c, hc, rfl⟩ := hd
        exact ⟨c, (hkmem c (List.mem_of_getElem? hc)).2.1, rfl⟩
      refine WS_cons (WS_setitem rfl rfl (by rw [natsL_len]; decide) ?_)
      refine WE_BinOp (WE_int (WE_maxL (WE_BinOp (WE_List (WA_cons (WE_int (WA_nil ⟨_, rfl, by decide, ?_⟩)))))))
      refine WE_ListComp (fun _ => true) (fun d => match d with | .int c => .int (hts up i c.toNat) | _ => .none) (cl := [("heights", κ.L + 1 + 1)]) (by exact ⟨by rfl, by decide +kernel, rfl, by decide +kernel, rfl, (by repeat (first | exact List.forall_mem_nil _ | refine List.forall_mem_cons.mpr ⟨⟨rfl, rfl, rfl⟩, ?_⟩)), (by (try simp only [List.map_cons, List.map_nil]); decide +kernel)⟩) (WE_name rfl ⟨_, .list _ _ rfl, hkl, ?_, ?_⟩)
      · intro hid' C i' d hd
        obtain ⟨c, hc, rfl⟩ := kat i' d hd
        refine ⟨rfl, fun _ => ?_⟩
        refine WE_Subscript ?_; refine WE_name rfl ?_; refine WE_name rfl ?_
        exact ⟨_, it (hts up i) _ c rfl hc, rfl⟩
      have e1 : (((kids up k).map fun c => PyData.int (c : Nat)).filter fun _ => true).map (fun d => match d with | .int c => PyData.int (hts up i c.toNat) | _ => .none) = ((kids up k).map fun c => (hts up i c : Int)).map .int := by
        rw [List.filter_eq_self.mpr (fun _ _ => rfl), List.map_map, List.map_map]; rfl
      rw [e1]
      refine ⟨_, Bin.addL _ _ _ _ rfl rfl (by simp; (clear hup hw it itB hi9 hi' hk hk1 hk9 hkids hkmem hkl kat e1; omega)), ?_⟩
      have hM : BMaxL [.D (.list ([PyData.int 0] ++ ((kids up k).map fun c => (hts up i c : Int)).map .int))] (.D (.int ((mx ((kids up k).map (hts up i)) : Nat) : Int))) := by
        refine .mk _ (0 :: ((kids up k).map fun c => (hts up i c : Int))) _ rfl ?_ ?_
        · have := mx_mem ((kids up k).map (hts up i))
          rcases List.mem_cons.mp this with h | h
          · rw [h]; simp
          · obtain ⟨c, hc, e⟩ := List.mem_map.mp h
            rw [← e]
            exact List.mem_cons_of_mem _ (List.mem_map.mpr ⟨c, hc, rfl⟩)
        · intro x hx
          rcases List.mem_cons.mp hx with h | h
          · (clear hup hw hsl it itB hi9 hi' hk hk1 hk9 hkids hkmem hklen hkl kat e1; omega)
          · obtain ⟨c, hc, e⟩ := List.mem_map.mp h
            have := mx_le _ _ (List.mem_map.mpr ⟨c, hc, rfl⟩ : hts up i c ∈ (kids up k).map (hts up i))
            (clear hup hw hsl it itB hi9 hi' hk hk1 hk9 hkids hkmem hklen hkl kat e1; omega)
      refine ⟨_, hM, _, Bin.addI _ _, _, rfl, WE_name rfl ⟨k, rfl, by rw [natsL_len]; assumption, ?_⟩⟩
      rw [show (1 : Int) + ((mx ((kids up k).map (hts up i)) : Nat) : Int) = ((1 + mx ((kids up k).map (hts up i)) : Nat) : Int) by rfl, natsL_set]
      show WS _ _ _ (execs _ _) _
      refine WS_cons (WS_setitem rfl rfl (by rw [boolsL_len]; decide) (WE_is (.D (.bool (mayF up wh m k && ((kids up k).map (gos up (mayF up wh m) i)).all id))) ?_ ?_))
      · refine WE_And (WE_call fn_law_may (WA_cons (WE_name rfl (WA_cons (WE_name rfl (WA_cons (WE_name rfl (WA_cons (WE_name rfl (WA_nil ⟨_, con_law_may up wh m hup hw k hk9 hk1, _, .bool _, ?_⟩))))))))) (Nat.le_refl 1))
        refine ⟨fun h1 => WE_BoolOp_one (WE_all ?_), fun h1 => ?_⟩
        · rw [h1, Bool.true_and]
          refine WE_ListComp (fun _ => true) (fun d => match d with | .int c => .bool (gos up (mayF up wh m) i c.toNat) | _ => .none) (cl := [("goes", κ.L + 1 + 1 + 1)]) (by exact ⟨by rfl, by decide +kernel, rfl, by decide +kernel, rfl, (by repeat (first | exact List.forall_mem_nil _ | refine List.forall_mem_cons.mpr ⟨⟨rfl, rfl, rfl⟩, ?_⟩)), (by (try simp only [List.map_cons, List.map_nil]); decide +kernel)⟩) (WE_name rfl ⟨_, .list _ _ rfl, hkl, ?_, ?_⟩)
          · intro hid' C i' d hd
            obtain ⟨c, hc, rfl⟩ := kat i' d hd
            refine ⟨rfl, fun _ => ?_⟩
            refine WE_Subscript ?_; refine WE_name rfl ?_; refine WE_name rfl ?_
            exact ⟨_, itB (gos up (mayF up wh m) i) _ c rfl hc, rfl⟩
          have e2 : (((kids up k).map fun c => PyData.int (c : Nat)).filter fun _ => true).map (fun d => match d with | .int c => PyData.bool (gos up (mayF up wh m) i c.toNat) | _ => .none) = ((kids up k).map (gos up (mayF up wh m) i)).map .bool := by
            rw [List.filter_eq_self.mpr (fun _ _ => rfl), List.map_map, List.map_map]; rfl
          rw [e2]
          exact ⟨_, .mk _ _ rfl, rfl⟩
        · rw [h1]; rfl
      refine ⟨_, rfl, WE_name rfl ⟨k, rfl, by rw [boolsL_len]; assumption, ?_⟩⟩
      rw [boolsL_set]
      refine WS_end [("above", .D (.list (natsL up))), ("whose", .D (.list (natsL wh))), ("modes", .D (.list (natsL m))), ("heights", .M a1 (natsL (hts up (i + 1)))), ("goes", .M a2 (boolsL (gos up (mayF up wh m) (i + 1))))] ?_ rfl
      have e3 : hts up (i + 1) = fun j => if j = k then 1 + mx ((kids up k).map (hts up i)) else hts up i j := by rw [hts, hk]
      have e4 : gos up (mayF up wh m) (i + 1) = fun j => if j = k then mayF up wh m k && ((kids up k).map (gos up (mayF up wh m) i)).all id else gos up (mayF up wh m) i j := by rw [gos, hk]
      rw [e3, e4]
      exact ⟨rfl, rfl, rfl, rfl, rfl, trivial⟩
    · rintro hid st1 rfl
      refine WS_nil (WS_cons (WS_Return ?_))
      refine WE_ListComp (fun _ => true) (fun d => match d with | .int k => .int (turnsF up (mayF up wh m) k.toNat) | _ => .none) (cl := [("heights", κ.L + 1 + 1), ("goes", κ.L + 1 + 1 + 1)]) (by exact ⟨by rfl, by decide +kernel, rfl, by decide +kernel, rfl, (by repeat (first | exact List.forall_mem_nil _ | refine List.forall_mem_cons.mpr ⟨⟨rfl, rfl, rfl⟩, ?_⟩)), (by (try simp only [List.map_cons, List.map_nil]); decide +kernel)⟩) (WE_range1 (WE_int ⟨_, .one _, rangeDs 0 10 1, .range _ _ _ (by decide), by decide, ?_, ?_⟩))
      · intro hid' C i' d hd
        obtain ⟨rfl, hlt⟩ := rangeDs_at hd
        rw [show (0 : Int) + (i' : Int) = ((i' : Nat) : Int) by omega]
        refine ⟨rfl, fun _ => ?_⟩
        have hi10 : i' < 10 := by omega
        refine WE_IfExp (WB_plain (WE_Subscript (WE_name rfl (WE_name rfl ⟨_, itB (gos up (mayF up wh m) 9) _ i' rfl hi10, _, .bool _, ?_⟩))))
        refine ⟨fun h1 => ?_, fun h1 => ?_⟩
        · refine WE_Subscript ?_; refine WE_name rfl ?_; refine WE_name rfl ?_
          refine ⟨_, it (hts up 9) _ i' rfl hi10, ?_⟩
          show AV.D (.int (hts up 9 i')) = .D (.int (turnsF up (mayF up wh m) i'))
          unfold turnsF
          rw [if_pos h1]
        · refine WE_int ?_
          show AV.D (.int 0) = .D (.int (turnsF up (mayF up wh m) i'))
          unfold turnsF
          rw [if_neg (by rw [h1]; decide)]
          rfl
      · rw [List.filter_eq_self.mpr (fun _ _ => rfl), range10, List.map_map]; rfl
end
end Mine
end
section
open PySem PySem.Calls PyProof.Rows
namespace Mine
/-! slices of lists -/
theorem picks_drop {α : Type} (l : List α) (a n : Nat) (h : a + n = l.length) : ((List.range n).map fun (k : Nat) => ((a : Int) + 1 * (k : Int)).toNat).filterMap (l[·]?) = l.drop a := by
  have e : ((List.range n).map fun (k : Nat) => ((a : Int) + 1 * (k : Int)).toNat) = (List.range n).map fun k => a + k := List.map_congr_left fun k _ => by (clear h; omega)
  rw [e, StrLaws.picks l n a (by exact Nat.le_of_eq h), List.take_of_length_le (by simp; omega)]
theorem dpick_from (ds : List PyData) (n : Nat) : dpick ds (some (n : Int)) none none = ds.drop n := by
  unfold dpick
  have hb : sliceBounds (some (n : Int)) none none ds.length = (((min n ds.length : Nat) : Int), (ds.length : Int), 1) := by
    unfold sliceBounds
    simp
    omega
  rw [hb]
  unfold sliceRange
  have hc : (if (((min n ds.length : Nat) : Int)) < (ds.length : Int) then ((ds.length : Int) - ((min n ds.length : Nat) : Int) + 1 - 1) / 1 else 0).toNat = ds.length - min n ds.length := by
    split <;> simp <;> omega
  simp only [show (1 : Int) > 0 by decide, if_true, hc]
  rw [picks_drop ds (min n ds.length) _ (by (clear hb hc; omega))]
  by_cases h : n ≤ ds.length
  · rw [Nat.min_eq_left h]
  · rw [Nat.min_eq_right (by (clear hb hc; omega)), List.drop_of_length_le (Nat.le_refl _), List.drop_of_length_le (by omega)]
theorem dpick_to (ds : List PyData) (n : Nat) (hn : n ≤ ds.length) : dpick ds none (some (n : Int)) none = ds.take n := by
  unfold dpick
  have hb : sliceBounds none (some (n : Int)) none ds.length = (0, ((n : Nat) : Int), 1) := by
    unfold sliceBounds
    simp
    omega
  rw [hb]
  unfold sliceRange
  have hc : (if (0 : Int) < (n : Int) then ((n : Int) - 0 + 1 - 1) / 1 else 0).toNat = n := by
    split <;> simp <;> omega
  simp only [show (1 : Int) > 0 by decide, if_true, hc]
  have e : ((List.range n).map fun (k : Nat) => ((0 : Int) + 1 * (k : Int)).toNat) = (List.range n).map fun k => 0 + k := List.map_congr_left fun k _ => by (clear hn hb hc; omega)
  rw [e, StrLaws.picks ds n 0 (by (clear hb hc e; omega)), List.drop_zero]

/-! where two places meet -/
noncomputable def meet2 (up : Nat → Nat) (a b : Nat) : Nat := if a = b then a else if h : b < a ∧ up a < a then meet2 up (up a) b else if h : a < b ∧ up b < b then meet2 up a (up b) else 0
termination_by a + b
noncomputable def meetF (up : Nat → Nat) : List Nat → Nat
  | [] => 0
  | a :: r => r.foldl (meet2 up) a
noncomputable def intL (l : List Nat) : List PyData := l.map fun c => PyData.int (c : Nat)
theorem intL_len (l : List Nat) : (intL l).length = l.length := by simp [intL]
theorem intL_at {l : List Nat} {i : Nat} {d : PyData} (h : (intL l)[i]? = some d) : ∃ c, l[i]? = some c ∧ d = .int (c : Nat) := by
  unfold intL at h
  rw [List.getElem?_map, Option.map_eq_some_iff] at h
  obtain ⟨c, h1, rfl⟩ := h
  exact ⟨c, h1, rfl⟩
theorem meet2_lt (up : Nat → Nat) (N : Nat) : ∀ n a b, a + b = n → a < N → b < N → meet2 up a b < N := by
  intro n
  induction n using Nat.strongRecOn with
  | _ n ih =>
    intro a b hn ha hb
    rw [meet2]
    split
    · exact ha
    · split
      · rename_i h; exact ih (up a + b) (by omega) _ _ rfl (by (clear ih hn hb; omega)) hb
      · split
        · rename_i h; exact ih (a + up b) (by omega) _ _ rfl ha (by (clear ih hn ha; omega))
        · (clear ih hn ha; omega)

section
variable {Γ : Gx} {c : Cx} {st : St} {s : Shared}
theorem fn_law_meet : isFn "_law_meet" := by unfold isFn; decide +kernel
theorem con_law_meet (up : Nat → Nat) (hup : ∀ k, 0 < k → up k < k) (p : Nat) (ps : List Nat) (hp : p < 10) (hps : ∀ x ∈ ps, x < 10) (hl : ps.length < 100) :
    Con Γ 1 "_law_meet" [.D (.list (intL (p :: ps))), .D (.list (natsL up))] (.D (.int (meetF up (p :: ps) : Nat))) := by
  have hsl : sizeLine = 2 ^ 24 := rfl
  have it : ∀ (f : Nat → Nat) (i : Nat), i < 10 → Itm (.D (.list (natsL f))) (.D (.int i)) (.D (.int (f i))) := fun f i hi => .list _ (natsL f) _ (.int (f i)) rfl (by (clear hup hp hps hl hsl hi; omega)) (natsL_at f i hi) (by rw [natsL_len]; decide)
  refine con_fn (j := 22) ["places", "above"] (by rfl) rfl rfl rfl ?_ (by decide +kernel) (by decide +kernel) ?_ rfl rfl rfl
  · exact fun pm cd doc => len2 fun v u => rfl
  · intro κ
    have hlen : (intL (p :: ps)).length ≤ sizeLine := by rw [intL_len]; simp; exact Nat.le_trans hl (by decide)
    refine WS_cons (WS_Assign (WE_Subscript (WE_name rfl (WE_int ⟨_, .list _ (intL (p :: ps)) 0 (.int (p : Nat)) rfl (by decide) rfl hlen, rfl, ?_⟩))))
    have hfl : ∀ i, (ps.take i).foldl (meet2 up) p < 10 := fun i => by
      have : ∀ (l : List Nat) (a : Nat), a < 10 → (∀ x ∈ l, x < 10) → l.foldl (meet2 up) a < 10 := by
        intro l
        induction l with
        | nil => intro a h _; exact h
        | cons x l ih => intro a h hx; exact ih _ (meet2_lt up 10 _ a x rfl h (hx x (.head _))) fun y hy => hx y (.tail _ hy)
      exact this _ _ hp fun x hx => hps x (List.mem_of_mem_take hx)
    refine WS_cons (WS_For (fun ds i st => st = ([("places", .D (.list (intL (p :: ps)))), ("above", .D (.list (natsL up))), ("a", .D (.int ((ps.take i).foldl (meet2 up) p : Nat)))] : St)) ?_)
    refine WE_slice_from (WE_name rfl (WE_int ⟨_, _, rfl, rfl, hlen, ?_⟩))
    rw [show (1 : Int) = ((1 : Nat) : Int) from rfl, dpick_from]
    refine ⟨rfl, intL ps, .list _ _ rfl, rfl, fun i st1 h => h ▸ rfl, ?_, ?_⟩
    · rintro hid i d st1 hd rfl
      obtain ⟨x, hx, rfl⟩ := intL_at hd
      have hx10 := hps x (List.mem_of_getElem? hx)
      have htk : (ps.take (i + 1)).foldl (meet2 up) p = meet2 up ((ps.take i).foldl (meet2 up) p) x := by
        obtain ⟨hi, e⟩ := List.getElem?_eq_some_iff.mp hx
        rw [List.take_succ_eq_append_getElem hi, List.foldl_append, e]; rfl
      refine WS_cons ?_; refine WS_Assign ?_; refine WE_name rfl ?_; refine ⟨rfl, ?_⟩; refine WS_cons ?_
      refine WS_While (fun n st => ∃ a b : Nat, n = a + b ∧ a < 10 ∧ b < 10 ∧ meet2 up ((ps.take i).foldl (meet2 up) p) x = meet2 up a b ∧ st = ([("places", .D (.list (intL (p :: ps)))), ("above", .D (.list (natsL up))), ("a", .D (.int (a : Nat))), ("other", .D (.int (x : Nat))), ("b", .D (.int (b : Nat)))] : St)) ?_ _ ⟨_, x, rfl, hfl i, hx10, rfl, rfl⟩
      rintro n st ⟨a, b, rfl, ha, hb, hm, rfl⟩
      refine WB_Compare ?_; refine WE_name rfl ?_; refine WE_name rfl ?_; refine ⟨_, Cmp.neI _ _, ?_⟩
      refine ⟨fun h1 => ?_, fun h1 => ?_⟩
      · have h1 : a ≠ b := by have := bne_iff_ne.mp h1; (clear hup hp hps hl hsl it hlen hfl hx hd hx10 htk ha hb hm h1; omega)
        rw [meet2.eq_1 up a b, if_neg h1] at hm
        refine WS_cons ?_; refine WS_If ?_; refine WB_Compare ?_; refine WE_name rfl ?_; refine WE_name rfl ?_; refine ⟨_, Cmp.gtI _ _, ?_⟩
        refine ⟨fun h2 => ?_, fun h2 => ?_⟩
        · have h2 : b < a := by have := of_decide_eq_true h2; omega
          have hu := hup a (by omega)
          rw [dif_pos ⟨h2, hu⟩] at hm
          refine WS_cons ?_; refine WS_Assign ?_; refine WE_Subscript ?_; refine WE_name rfl ?_; refine WE_name rfl ?_
          refine ⟨_, it up a ha, rfl, ?_⟩
          exact WS_nil (WS_nil ⟨up a + b, by omega, up a, b, rfl, by omega, hb, hm, rfl⟩)
        · have h2 : a < b := by have := of_decide_eq_false h2; omega
          have hu := hup b (by omega)
          rw [dif_neg (by omega), dif_pos ⟨h2, hu⟩] at hm
          refine WS_cons ?_; refine WS_Assign ?_; refine WE_Subscript ?_; refine WE_name rfl ?_; refine WE_name rfl ?_
          refine ⟨_, it up b hb, rfl, ?_⟩
          exact WS_nil (WS_nil ⟨a + up b, by omega, a, up b, rfl, ha, by omega, hm, rfl⟩)
      · have h1 : a = b := by have := bne_eq_false_iff_eq.mp h1; (clear hup hp hps hl hsl it hlen hfl hx hd hx10 htk ha hb hm h1; omega)
        rw [meet2.eq_1 up a b, if_pos h1] at hm
        refine WS_nil (WS_end [("places", .D (.list (intL (p :: ps)))), ("above", .D (.list (natsL up))), ("a", .D (.int (a : Nat)))] ⟨rfl, rfl, rfl, trivial⟩ ?_)
        show _ = _
        rw [htk, hm]
    · rintro hid st1 rfl
      refine WS_nil ?_
      refine WS_cons ?_; refine WS_Return ?_; refine WE_name rfl ?_
      rw [intL_len, List.take_length]
      rfl
end
end Mine
end
section
open PySem PySem.Calls PyProof.Rows
namespace Mine
section
variable {Γ : Gx}
/-- the same where the binding makes things (a rest parameter) -/
theorem con_fnB {n : Nat} {f : Str} {args0 args : List AV} {res : AV} {j : Nat} {params : Arguments} {body : List Stmt} {scope : Scope} {pos : Pos} (names : List Str)
    (hd : (recsOf PySem.Challenge.pw_pd0153_01)[j]? = some ⟨f, params, body, scope, pos⟩)
    (hlen : args.length = names.length) (hnoM : args.all noM = true) (hres : noM res = true)
    (hbind : ∀ (pm cd doc : Value) (vs0 : List Value) (A : Around) (X : Addr → Prop) (s : Shared) (E : Value → Shared → Prop) (Q : List (Str × Value) → Shared → Prop), (∀ a, X a → ∃ o, s.heap.get? a = some o) → VRL Γ (fz s.heap X) s.heap args0 vs0 →
      (∀ vs s', Kp s s' → VRL Γ (fz s'.heap X) s'.heap args vs → Q (names.zip vs) s') → wpAny (mo Γ) A (bindArgs (docDef f params body scope pm cd doc) ⟨vs0, []⟩) Q E s)
    (hkind : (names.all fun x => scope.names.lookup x == some .local || scope.names.lookup x == some .cell) = true) (hnd : names.Nodup)
    (hb : ∀ κ : Fr, WS Γ (κ.cx scope n none) (names.zip args) (execs body (κ.cx scope n none).env) fun fl st' => fl = .ret res)
    (hco : scope.isCoroutine = false) (hgen : scope.isGenerator = false) (hk : scope.kind = .function) : Con Γ (n + 1) f args0 res := by
  intro A X s0 fa vs0 rm gd0 htab0 hgens0 hX0 hfa hv0
  obtain ⟨a, o, pm, code, doc, h1, h2, h3, h4⟩ := gd0.fn _ (List.mem_of_getElem? hd)
  simp only at h1 h3 h4
  rw [h1] at hfa
  obtain rfl : a = fa := by cases hfa; rfl
  refine wpAny_call (codeAny_call_function (fd := docDef f params body scope pm code doc) (by have := rm.depth; have : recursionLimit = 1000 := rfl; (clear hd hlen hnoM hres hbind hkind hb hco hgen hk hgens0 hX0 h1 h2 h3 hfa; omega)) h2 h3 hco hgen rfl h4 (hbind pm code doc vs0 _ X s0 _ _ hX0 hv0 fun vs s kp hv => ?_))
  have gd := gd0.mono kp.heap
  have hgens := kp.gens.trans hgens0
  have hX : ∀ a, X a → ∃ o, s.heap.get? a = some o := fun a h => let ⟨o, e⟩ := hX0 a h; ⟨o, kp.heap _ _ e⟩
  have hvl : vs.length = names.length := hv.length.trans hlen
  have hzk := zip_keys names vs hvl
  refine wpAny_newFunctionEnv_cells hk ?_ fun env0 he0 s₁ I => ?_
  · intro x hx
    have hm : x.1 ∈ names := by rw [← hzk]; exact List.mem_map_of_mem (f := (·.1)) hx
    have := List.all_eq_true.mp hkind _ hm
    rcases Bool.or_eq_true_iff.mp this with q | q
    · exact .inl (beq_iff_eq.mp q)
    · have q := beq_iff_eq.mp q
      exact .inr ⟨q, cellsFrom_lookup _ _ _ (.inl (mem_of_lookup q))⟩
  have he : env0 = fnEnv scope s.heap.objs.size (f ++ ".<locals>.") a code := he0
  subst he
  refine ⟨gd.nolimit.keeps I.toInCall.keep, codeAny_func ?_⟩
  generalize hL : s.heap.objs.size = L at I ⊢
  generalize hq : (f ++ ".<locals>." : Str) = q at I ⊢
  obtain ⟨I1, I2, I3, I4⟩ := I
  obtain ⟨⟨h₁, tk, rfl⟩, ns, keep, fresh⟩ := I1
  let env : Env := fnEnv scope L q a code
  let κ : Fr := ⟨L, a, q, code, fun b => X b ∨ own env b, s.heap, A.deeper env, s.os⟩
  let c : Cx := κ.cx scope n none
  have ownNew : ∀ b, own env b → s.heap.get? b = none := by
    intro b hb
    have hge : s.heap.objs.size ≤ b := by
      rcases hb with e | ⟨x, e⟩
      · rw [e, hL]; exact Nat.le_refl _
      · rw [hL]; exact Nat.le_of_lt (I4 x b (mem_of_lookup e))
    cases e : s.heap.get? b with
    | none => rfl
    | some o => exact absurd (Heap.lt_size e) (Nat.not_lt.mpr hge)
  have stM : ∀ x b ds, (x, AV.M b ds) ∉ names.zip args := fun x b ds h => by
    have := List.all_eq_true.mp hnoM _ (List.of_mem_zip h).2
    cases this
  have stV : ∀ x b ds, (x, AV.V b ds) ∉ names.zip args := fun x b ds h => by
    have := List.all_eq_true.mp hnoM _ (List.of_mem_zip h).2
    cases this
  have hHd : ∀ b, Hd c (names.zip args) b → X b ∨ own env b := by
    rintro b (h | ⟨x, ds, h⟩)
    · exact h
    · exact absurd h (stM x b ds)
  have sub : Sub (fz s.heap X) (fz h₁ (Hd c (names.zip args))) := fz_mono fun b o hx e => ⟨fun h => (hHd b h).elim hx fun h => (by rw [ownNew b h] at e; cases e), keep b o e⟩
  have r : R Γ c (names.zip args) { s with heap := h₁, toks := tk } := {
    gd := gd
    keep := keep
    rm := ⟨rm.handled, by have := rm.depth; show A.depth + 1 + n ≤ 900; (clear hd hlen hnoM hres hbind hkind hb hco hgen hk hgens0 hX0 h1 h2 h3 hfa hgens hX hvl hzk he0 hL hq I4 fresh I2 keep ownNew stM stV hHd; omega), by have := rm.units; show A.units + 3 + 4 * n ≤ 4000; (clear hd hlen hnoM hres hbind hkind hb hco hgen hk hgens0 hX0 h1 h2 h3 hfa hgens hX hvl hzk he0 hL hq I4 fresh I2 keep ownNew stM stV hHd; omega)⟩
    gens := hgens
    os := rfl
    hk := hk
    glob := rfl
    bns := rfl
    frame := ⟨_, ns⟩
    cells := fun x b e => ⟨_, I2 x b e⟩
    ownH := fun b h => .inr h
    ownB := ownNew
    apart := I3
    apartL := fun x b h => Nat.ne_of_gt (I4 x b h)
    low := fun b h => by
      rcases h with h | h | ⟨x, e⟩
      · obtain ⟨o, e⟩ := hX b h
        exact ⟨o, keep b o e⟩
      · obtain ⟨o, _, _, e, _⟩ := ns
        exact ⟨o, h ▸ e⟩
      · obtain ⟨o, e, _⟩ := I2 x b e
        exact ⟨o, e⟩
    tab := (htab0.mono (fz_keep kp.heap)).mono sub
    fo := fun _ e => (by cases e)
    bound := fun x av e => by
      obtain ⟨v, hm, hv'⟩ := hv.zip e hnd
      refine ⟨v, ?_, VR.noM_mono (List.all_eq_true.mp hnoM _ (List.of_mem_zip (mem_of_lookup e)).2) hv' sub⟩
      have hnm : x ∈ names := (List.of_mem_zip hm).1
      have hnd' : ((names.zip vs).map (·.1)).Nodup := by rw [hzk]; exact hnd
      rcases Bool.or_eq_true_iff.mp (List.all_eq_true.mp hkind _ hnm) with q | q
      · have q := beq_iff_eq.mp q
        exact .inl ⟨q, _, ns, bindL_get _ _ x v hnd' hm q⟩
      · have q := beq_iff_eq.mp q
        obtain ⟨b, hb⟩ := Option.isSome_iff_exists.mp (cellsFrom_lookup (x := x) scope.names (L + 1) [] (.inl (mem_of_lookup q)))
        refine .inr ⟨.inl q, b, hb, ?_⟩
        have := I2 x b hb
        rw [bindC_get _ _ x v hnd' hm q] at this
        exact this
    keys := by rw [zip_keys names args hlen]; exact hnd
    mHid := fun x b ds h => absurd h (stM x b ds)
    vOwn := fun x b ds h => absurd h (stV x b ds)
    mBase := fun x b ds h => absurd h (stM x b ds)
    mApart := fun x y b ds es h _ => absurd h (stM x b ds) }
  refine wpAny_mono (hb κ _ r) (fun fl s' ⟨st', fl', mv, r', hfl, e⟩ => ?_) fun _ _ x => x.elim
  subst e
  obtain ⟨v, rfl, hv'⟩ := hfl
  refine ⟨kp.trans ⟨r'.gens.trans hgens.symm, r'.os, r'.keep⟩, VR.noM_mono hres hv' (fz_mono fun b o hx e => ⟨fun h => hx (.inl (.inl h)), e⟩)⟩
end
end Mine
end
section
open PySem PySem.Calls PyProof.Rows
namespace Mine
section
variable {Γ : Gx} {c : Cx} {st : St} {s : Shared}
/-- a try whose body raises nothing -/
theorem WS_Try {body orelse : List Stmt} {h₀ : ExceptHandler} {hs : List ExceptHandler} {pos : Pos} {Q : Fl → St → Prop} (h : WS Γ c st (execs body c.env) (andThen Γ c orelse Q)) :
    WS Γ c st (exec (.Try body (h₀ :: hs) orelse [] pos) c.env) Q := fun s r =>
  wpAny_Try_except (wpAny_mono (h s r) (fun f s1 ⟨st1, fl, m1, r1, hf, hq⟩ => by
    cases fl with
    | next => cases hf; exact wpAny_mono (hq s1 r1) (fun _ _ x => x.pre m1) fun _ _ x => x
    | brk => cases hf; exact ⟨st1, .brk, m1, r1, rfl, hq⟩
    | cont => cases hf; exact ⟨st1, .cont, m1, r1, rfl, hq⟩
    | ret a => obtain ⟨v, rfl, hv⟩ := hf; exact ⟨st1, .ret a, m1, r1, ⟨v, rfl, hv⟩, hq⟩) fun _ _ x => x.elim)

theorem starts_one (a : Nat) (l : List Nat) : Txt.startswith (S (a :: l)) "/" = (a == 47) := by
  unfold Txt.startswith
  rw [slash_S, StrLaws.subAt_eq, S_cps, S_cps, S_length, S_length]
  simp
theorem ends_one (l : List Nat) (a : Nat) : Txt.endswith (S (l ++ [a])) "/" = (a == 47) := by
  unfold Txt.endswith
  rw [slash_S, StrLaws.subAt_eq, S_cps, S_cps, S_length, S_length]
  simp
theorem fn_join : isFn "join" := by unfold isFn; decide +kernel
theorem con_join (up : Nat → Nat) (hup : ∀ k, 0 < k → up k < k) (k : Nat) (hk0 : 0 < k) (hk : k < 10) :
    Con Γ 2 "join" [.D (.str (textF up (up k))), .D (.str (S [96 + k]))] (.D (.str (textF up k))) := by
  have hsl : sizeLine = 2 ^ 24 := rfl
  have huk := hup k hk0
  have hlen := textF_len up (up k) (by exact Nat.lt_trans huk hk)
  refine con_fnB (j := 6) (args := [.D (.str (textF up (up k))), .D (.tuple [.str (S [96 + k])])]) ["a", "p"] (by rfl) rfl rfl rfl ?_ (by decide +kernel) (by decide +kernel) ?_ rfl rfl rfl
  · intro pm cd doc vs0 A X s E Q hX hv h
    cases hv with
    | cons h1 t =>
      cases t with
      | cons h2 t =>
        cases t
        rename_i v1 v2
        show wpAny _ A (do let t ← newTuple [v2]; pure [(Str.ofString "a", v1), (Str.ofString "p", t)]) Q E s
        refine wpAny_bind (wpAny_newTuple (wpAny_pure ?_) (by show 1 ≤ sizeLine; decide))
        refine h [v1, .ref s.heap.objs.size] _ (Kp.new s _) (.cons (VR.mono h1 (fz_keep (Kp.new s _).heap) (Kp.new s _).heap) (.cons ?_ .nil))
        refine Rd.new_tuple (n := 0) (fun a ha => let ⟨o, e⟩ := hX a ha; Heap.lt_size e) (.one h2)
  · intro κ
    refine WS_cons (WS_Assign (WE_call1 fn_fspath (WE_name rfl ⟨_, con_fspath _, rfl, ?_⟩) (Nat.le_refl 1)))
    refine WS_cons (WS_Assign (WE_call1 fn_get_sep (WE_name rfl ⟨_, con_get_sep _, rfl, ?_⟩) (Nat.le_refl 1)))
    refine WS_cons ?_; refine WS_Assign ?_; refine WE_name rfl ?_; refine ⟨rfl, ?_⟩; refine WS_cons ?_
    refine WS_Try (WS_cons (WS_For (fun ds i st => st = ([("a", .D (.str (textF up (up k)))), ("p", .D (.tuple [.str (S [96 + k])])), ("sep", .D (.str "/")), ("path", .D (.str (if i = 0 then textF up (up k) else textF up k)))] : St)) (WE_name rfl ⟨rfl, [.str (S [96 + k])], .tup _, rfl, fun i st1 h => h ▸ rfl, ?_, ?_⟩)))
    · rintro hid i d st1 hd rfl
      have hi : i = 0 ∧ d = .str (S [96 + k]) := by
        match i, hd with
        | 0, hd => exact ⟨rfl, (Option.some.inj hd).symm⟩
      obtain ⟨rfl, rfl⟩ := hi
      rw [if_pos rfl]
      refine WS_cons (WS_Assign (WE_call1 fn_fspath (WE_name rfl ⟨_, con_fspath _, rfl, ?_⟩) (Nat.le_refl 1)))
      have hne : ((textF up (up k)).length : Int) ≠ 0 := by
        unfold textF
        split
        · rename_i h; rw [S_length, path_pos (hup _ h), List.length_append]; simp only [List.length_cons, List.length_nil]; omega
        · decide
      have hst : Txt.startswith (S [96 + k]) "/" = false := by rw [starts_one]; exact beq_eq_false_iff_ne.mpr (by (clear hup hk0 hk hsl huk hlen hd hne; omega))
      refine WS_cons (WS_If (WB_is false ?_ ?_))
      · refine WB_or (WB_plain (WE_startswith (WE_name rfl ⟨_, rfl, WE_name rfl ⟨_, .mk _ _, _, .bool _, ?_⟩⟩)))
        refine ⟨fun h => (by rw [hst] at h; cases h), fun _ => WB_or (WB_not (WB_plain (WE_name rfl ⟨_, .str _ (by exact Nat.le_trans hlen (by decide)), ?_⟩)))⟩
        rw [show (((textF up (up k)).length : Int) != 0) = true from bne_iff_ne.mpr hne]
        exact ⟨fun h => (by cases h), fun _ => WB_or_nil rfl⟩
      refine ⟨fun h => (by cases h), fun _ => ?_⟩
      refine WS_cons (WS_If (WB_is (decide (up k = 0)) ?_ ?_))
      · refine WB_plain (WE_endswith (WE_name rfl ⟨_, rfl, WE_name rfl ⟨_, .mk _ _, _, .bool _, ?_⟩⟩))
        unfold textF
        by_cases h : 0 < up k
        · rw [if_pos h, path_pos (hup _ h), show path up (up (up k)) ++ [47, 96 + up k] = (path up (up (up k)) ++ [47]) ++ [96 + up k] by simp, ends_one, decide_eq_false (by exact Nat.ne_of_gt h)]
          exact beq_eq_false_iff_ne.mpr (by (clear hup hk0 hk hsl huk hlen hd hne hst h; omega))
        · rw [if_neg h, decide_eq_true (by omega)]
          decide +kernel
      refine ⟨fun h => ?_, fun h => ?_⟩
      · have h := of_decide_eq_true h
        refine WS_cons (WS_AugAssign rfl (WE_name rfl ⟨_, .addS _ _ (by rw [S_length]; simp only [List.length_cons, List.length_nil]; exact Nat.lt_of_le_of_lt hlen (by decide)), ?_⟩))
        have e : textF up (up k) ++ S [96 + k] = textF up k := by
          rw [h]
          unfold textF
          rw [if_neg (by decide), if_pos hk0, slash_S, S_append, path_pos huk, h, path_zero]; rfl
        rw [e]
        exact WS_nil (WS_nil (WS_end [("a", .D (.str (textF up (up k)))), ("p", .D (.tuple [.str (S [96 + k])])), ("sep", .D (.str "/")), ("path", .D (.str (textF up k)))] ⟨rfl, rfl, rfl, rfl, trivial⟩ rfl))
      · have h := of_decide_eq_false h
        refine WS_cons (WS_AugAssign rfl (WE_BinOp (WE_name rfl (WE_name rfl ⟨_, .addS _ _ (by rw [slash_S, S_length, S_length]; simp only [List.length_cons, List.length_nil]; decide), ⟨_, .addS _ _ ?_, ?_⟩⟩))))
        · rw [slash_S, S_append, S_length]; simp only [List.length_append, List.length_cons, List.length_nil]; omega
        have e : textF up (up k) ++ (Str.ofString "/" ++ S [96 + k]) = textF up k := by
          unfold textF
          rw [if_pos (by exact Nat.pos_of_ne_zero h), if_pos hk0, slash_S, S_append, S_append, path_pos huk]
          rfl
        rw [e]
        exact WS_nil (WS_nil (WS_end [("a", .D (.str (textF up (up k)))), ("p", .D (.tuple [.str (S [96 + k])])), ("sep", .D (.str "/")), ("path", .D (.str (textF up k)))] ⟨rfl, rfl, rfl, rfl, trivial⟩ rfl))
    · rintro hid st1 rfl
      refine WS_nil (WS_nil (WS_nil ?_))
      refine WS_cons ?_; refine WS_Return ?_; refine WE_name rfl ?_
      rfl
end
end Mine
end
section
open PySem PySem.Calls PyProof.Rows
namespace Mine
noncomputable def preS (f : Nat → Str) (i : Nat) : List PyData := (List.range i).map fun k => PyData.str (f k)
theorem preS_succ (f : Nat → Str) (i : Nat) : preS f i ++ [.str (f i)] = preS f (i + 1) := by
  unfold preS; rw [List.range_succ, List.map_append]; rfl
theorem preS_len (f : Nat → Str) (i : Nat) : (preS f i).length = i := by simp [preS]
theorem preS_at (f : Nat → Str) (n k : Nat) (hk : k < n) : (preS f n)[k]? = some (.str (f k)) := by
  simp [preS, List.getElem?_map, List.getElem?_range hk]
section
variable {Γ : Gx} {c : Cx} {st : St} {s : Shared}
theorem fn_law_paths : isFn "_law_paths" := by unfold isFn; decide +kernel
theorem con_law_paths (up : Nat → Nat) (hup : ∀ k, 0 < k → up k < k) :
    Con Γ 3 "_law_paths" [.D (.list (natsL up))] (.D (.list (preS (textF up) 10))) := by
  have hsl : sizeLine = 2 ^ 24 := rfl
  have it : ∀ (f : Nat → Nat) (i : Nat), i < 10 → Itm (.D (.list (natsL f))) (.D (.int i)) (.D (.int (f i))) := fun f i hi => .list _ (natsL f) _ (.int (f i)) rfl (by (clear hup hsl hi; omega)) (natsL_at f i hi) (by rw [natsL_len]; decide)
  refine con_fn (j := 24) ["above"] (by rfl) rfl rfl rfl ?_ (by decide +kernel) (by decide +kernel) ?_ rfl rfl rfl
  · exact fun pm cd doc => len1 fun v => rfl
  · intro κ
    refine WS_cons (WS_AssignNew (WN_List (WA_cons (WE_str (WA_nil ⟨_, rfl, by decide, by simp [flat], fun a1 => ?_⟩)))))
    refine WS_cons (WS_For (fun ds i st => st = ([("above", .D (.list (natsL up))), ("paths", .M a1 (preS (textF up) (i + 1)))] : St)) ?_)
    refine WE_range2 ?_; refine WE_int ?_; refine WE_int ?_; refine ⟨_, BRange.two _ _, ?_⟩; refine ⟨rfl, ?_⟩
    refine ⟨rangeDs 1 10 1, .range _ _ _ (by decide), rfl, fun i st1 h => h ▸ rfl, ?_, ?_⟩
    · rintro hid i d st1 hd rfl
      obtain ⟨rfl, hi⟩ := rangeDs_at hd
      generalize hk : i + 1 = k
      rw [show (1 : Int) + (i : Int) = ((k : Nat) : Int) by omega]
      have hk0 : 0 < k := by (clear hup hsl it hi hd; omega)
      have hk9 : k < 10 := by omega
      have huk := hup k hk0
      obtain ⟨e1, e2, e3⟩ := letter_S (k - 1) (by (clear hup hsl it hi hd hk hk0 huk; omega))
      rw [show ((k - 1 : Nat) : Int) = (k : Int) - 1 by (clear hup hsl it hi hd hk hk0 hk9 e1 e2 e3; omega)] at e1 e2 e3
      refine WS_cons (WS_append rfl (by rw [preS_len]; exact Nat.le_of_lt (Nat.lt_of_lt_of_le hk9 (by decide))) rfl (WE_call2 fn_join ?_ (Nat.le_refl 2)))
      refine WE_Subscript ?_; refine WE_name rfl ?_; refine WE_Subscript ?_; refine WE_name rfl ?_; refine WE_name rfl ?_
      refine ⟨_, it up k hk9, _, .list _ (preS (textF up) k) _ (.str (textF up (up k))) rfl (by omega) (preS_at _ _ _ huk) (by rw [preS_len]; exact Nat.le_of_lt (Nat.lt_of_lt_of_le hk9 (by decide))), ?_⟩
      refine WE_Subscript ?_; refine WE_str ?_; refine WE_BinOp ?_; refine WE_name rfl ?_; refine WE_int ?_; refine ⟨_, Bin.subI _ _, ?_⟩
      refine ⟨_, .str _ _ e3 e2, ?_⟩
      rw [e1, show 97 + (k - 1) = 96 + k by (clear hup hsl it hi hd hk hk0 hk9 e1 e2 e3; omega)]
      refine ⟨_, con_join up hup k hk0 hk9, _, rfl, ?_⟩
      rw [preS_succ]
      exact WS_end [("above", .D (.list (natsL up))), ("paths", .M a1 (preS (textF up) (k + 1)))] ⟨rfl, rfl, trivial⟩ rfl
    · rintro hid st1 rfl
      refine WS_nil (WS_cons (WS_freeze (x := "paths") rfl ?_))
      refine WS_Return ?_; refine WE_name rfl ?_
      rfl
end
end Mine
end
section
open PySem PySem.Calls PyProof.Rows
namespace Mine

/-- an iteration over pairs -/
structure Walks2 (prog : Program) (w : World) (A : Around) (I : Addr) (fp wr : List Addr) (n : Nat) (P : Nat → Value → Value → Prop) (S : Nat → Heap → Prop) (M : Nat → Addr → Heap → Prop) : Prop where
  sub : ∀ b ∈ wr, b ∈ fp
  frame : ∀ i h h', S i h → (∀ b ∈ fp, ∀ o, h.get? b = some o → h'.get? b = some o) → S i h'
  item : ∀ i (s : Shared) (Q : Option Value → Shared → Prop) (E : Value → Shared → Prop), i < n → S i s.heap →
    (∀ T v1 v2 h' tk, P i v1 v2 → IsTup h' T #[v1, v2] → M i T h' → (∀ b o, b ∉ wr → s.heap.get? b = some o → h'.get? b = some o) → Q (some (.ref T)) { s with heap := h', toks := tk }) →
    wpAny (model prog w) A (pyNext (.ref I)) Q E s
  go : ∀ (elts : List Expr) (k : Nat) (pos : Pos) i T (s : Shared) (Q : Unit → Shared → Prop) (E : Value → Shared → Prop), M i T s.heap →
    (∀ h', S (i + 1) h' → (∀ b o, b ∉ wr → s.heap.get? b = some o → h'.get? b = some o) → Q () { s with heap := h' }) →
    wpAny (model prog w) A (letOwnedTupleGo (.Tuple elts k pos) (.ref I) (.ref T)) Q E s
  apart : ∀ i T h, M i T h → T ∉ wr
  done : ∀ (s : Shared) (Q : Option Value → Shared → Prop) (E : Value → Shared → Prop), S n s.heap →
    (∀ h' tk, (∀ b o, b ∉ wr → s.heap.get? b = some o → h'.get? b = some o) → Q none { s with heap := h', toks := tk }) → wpAny (model prog w) A (pyNext (.ref I)) Q E s

section
variable {Γ : Gx} {c : Cx} {st : St} {s : Shared}

theorem for2_loop {x y : Str} {px py tpos : Pos} {tk0 : Nat} {body orelse : List Stmt} {Q : Fl → St → Prop} {I : Addr} {fp wr : List Addr} {P : Nat → Value → Value → Prop} {S : Nat → Heap → Prop} {M : Nat → Addr → Heap → Prop} {s0 s1 s2 : Shared}
    (ps : List (PyData × PyData)) (Inv : Nat → St → Prop) (r0 : R Γ c st s0) (k1 : Kp s0 s1) (k2 : Kp s1 s2) (W : Walks2 Γ.prog Γ.w c.A I fp wr ps.length P S M) (hS0 : S 0 s2.heap)
    (hnew : ∀ b ∈ wr, s1.heap.get? b = none) (hliv : ∀ b ∈ wr, ∃ o, s2.heap.get? b = some o) (hSl : ∀ i h, S i h → ∀ b ∈ fp, ∃ o, h.get? b = some o) (hfro : ∀ b ∈ fp, ¬ Hd c st b)
    (hrd : ∀ i v1 v2, i < ps.length → P i v1 v2 → ∃ p, ps[i]? = some p ∧ Rd (fz s1.heap (Hd c st)) v1 p.1 ∧ Rd (fz s1.heap (Hd c st)) v2 p.2)
    (inv0 : Inv 0 st) (hV : ∀ i st1, Inv i st1 → st1.all (fun p => notV p.2) = true)
    (step : ∀ hid i p st1, ps[i]? = some p → Inv i st1 → WS Γ (c.wh hid) (upd (upd st1 x (.D p.1)) y (.D p.2)) (execs body c.env) (loopP (Inv (i + 1)) Q))
    (fin : ∀ hid st1, Inv ps.length st1 → WS Γ (c.wh hid) st1 (execs orelse c.env) Q)
    (hx : Stor c.env x) (hy : Stor c.env y) {RR : Result → Shared → Prop}
    (hRR : ∀ f s', WSp Γ c st Q s0 f s' → RR (.ok f) s')
    (hae : (assignEach [.Name x px, .Name y py] c.env) = [(false, assign (.Name x px) c.env), (false, assign (.Name y py) c.env)]) :
    codeAny (mo Γ) c.A (.forLoop (.Tuple [.Name x px, .Name y py] tk0 tpos) (.ref I) body orelse c.env) RR s2 := by
  have r1 := r0.kp k1
  let c' : Cx := c.wh fun b => c.hid b ∨ b ∈ wr
  obtain ⟨r2, sub2⟩ : R Γ c' st s2 ∧ Sub (fz s1.heap (Hd c st)) (fz s2.heap (Hd c' st)) := r1.fresh k2 hnew hliv
  have hwr : ∀ b, b ∈ wr → c'.hid b ∧ ¬ own c'.env b ∧ c'.base.get? b = none := fun b hb => by
    refine ⟨.inr hb, fun ho => ?_, ?_⟩
    · obtain ⟨o, e⟩ := r1.ownLive ho
      rw [hnew b hb] at e; cases e
    · cases e : c.base.get? b with
      | none => exact e
      | some o => have := r1.keep b o e; rw [hnew b hb] at this; cases this
  have hfh : ∀ b, fr c b → c.hid b := fun b h => (r0.fo.fr h).1
  have hwf : ∀ b, b ∈ wr → ¬ fr c' b := fun b hb hf => by
    obtain ⟨_, _, _, o, e, _⟩ := r1.fo.fr (c := c) hf
    rw [hnew b hb] at e; cases e
  have hidk : ∀ b o, c.hid b → ¬ own c.env b → s1.heap.get? b = some o → Sl (fr c b) o s2.heap b := fun b o _ _ e => .exact (k2.heap _ _ e)
  have finish : ∀ {st1 : St} {s' : Shared}, R Γ c' st1 s' → Sub (fz s1.heap (Hd c st)) (fz s'.heap (Hd c' st1)) → (∀ b o, c.hid b → ¬ own c.env b → s1.heap.get? b = some o → Sl (fr c b) o s'.heap b) →
      Mv c st s0 st1 s' ∧ R Γ c st1 s' := fun r' m' h' => ⟨k1.mv.trans ⟨m'.trans (fz_mono fun b o hb e => ⟨fun h => hb (h.elim (fun h => .inl (.inl h)) .inr), e⟩), h'⟩, r'.drop r0.ownH hfh⟩
  have flr : ∀ {st1 : St} {s' : Shared} {fl : Fl} {f : Flow}, FlR Γ (fz s'.heap (Hd c' st1)) s'.heap fl f → FlR Γ (fz s'.heap (Hd c st1)) s'.heap fl f := fun {st1 s' fl f} h => by
    cases fl with
    | next => exact h
    | brk => exact h
    | cont => exact h
    | ret a => obtain ⟨v, e, hv⟩ := h; exact ⟨v, e, hv.mono (fz_mono fun b o hb e => ⟨fun h => hb (h.elim (fun h => .inl (.inl h)) .inr), e⟩) (Sub.refl _)⟩
  refine codeAny_forLoop_any (LpI Γ c st s1 ps.length Inv S fp wr) ?_ (ps.length + 1)
    ⟨0, st, rfl, Nat.zero_le _, inv0, r2, hS0, sub2, fun b hb hw => ?_, hidk⟩
  · rintro n s' ⟨i, st1, rfl, hile, inv, r', hS, msub, hfp, hidk'⟩
    have hVs := hV i st1 inv
    have hidd : ∀ b, c.hid b → b ∉ wr := fun b hb hw => by
      obtain ⟨o, e⟩ := r1.low b hb
      rw [hnew b hw] at e; cases e
    by_cases hlt' : i < ps.length
    · refine W.item i s' _ _ hlt' hS fun T v1 v2 h' tk hP hT hM hk' => ?_
      obtain ⟨p, hd, rd1, rd2⟩ := hrd i v1 v2 hlt' hP
      refine W.go _ _ _ i T _ _ _ hM fun h'' hS' hk'' => ?_
      have hTw := W.apart i T h' hM
      have hT'' : IsTup h'' T #[v1, v2] := let ⟨o, e, q⟩ := hT; ⟨o, hk'' T o hTw e, q⟩
      have hk2 : ∀ b o, b ∉ wr → s'.heap.get? b = some o → h''.get? b = some o := fun b o hb e => hk'' b o hb (hk' b o hb e)
      obtain ⟨r3, sub3⟩ := r'.turned (s' := { s' with heap := h'', toks := tk }) (W := fun b => b ∈ wr) hwr hwf hVs hk2 (fun b hb => hSl _ _ hS' b (W.sub b hb)) rfl rfl
      refine assign_Tuple_tuple (show c.A.handled = none from r0.rm.handled) hT'' (by rw [hae]; rfl) (by rw [hae]; rfl) fun h3 hext => ?_
      have hext : ∀ b o, h''.get? b = some o → h3.get? b = some o := fun b o e => hext b o (Nat.ne_of_lt (Heap.lt_size e)) e
      have k3 : Kp { s' with heap := h'', toks := tk } { s' with heap := h3, toks := tk } := ⟨rfl, rfl, hext⟩
      have r3' := r3.kp k3
      have rd1' : Rd (fz h3 (Hd c' st1)) v1 p.1 := Rd.mono ((msub.trans sub3).trans (fz_keep hext)) rd1
      have rd2' : Rd (fz h3 (Hd c' st1)) v2 p.2 := Rd.mono ((msub.trans sub3).trans (fz_keep hext)) rd2
      rw [hae]
      show wpAny _ _ (assignInOrder [assign (.Name x px) c.env, assign (.Name y py) c.env] [v1, v2]) _ _ _
      unfold assignInOrder
      refine wpAny_bind (wpAny_holding (wpAny_assign_Name (store_name (c := c') r3' hx fun s4 hp hg ho hb hy' hf hc => ?_)))
      obtain ⟨r4, m4⟩ := r3'.stored (a := .D p.1) rd1' rfl hp hg ho hb hy' hf hc
      unfold assignInOrder
      refine wpAny_bind (wpAny_holding (wpAny_assign_Name (store_name (c := c') r4 hy fun s5 hp hg ho hb hy' hf hc => ?_)))
      obtain ⟨r5, m5⟩ := r4.stored (a := .D p.2) (Rd.mono m4.sub rd2') rfl hp hg ho hb hy' hf hc
      refine wpAny_pure ?_
      refine wpAny_mono (step (fun b => c.hid b ∨ b ∈ wr) i p st1 hd inv s5 r5) (fun f s6 ⟨st6, fl, m6, r6, hfl, q⟩ => ?_) fun _ _ x => x.elim
      have m36 := (k3.mv.trans (m4.trans m5)).trans m6
      have msub6 := msub.trans (sub3.trans m36.sub)
      have hidk6 : ∀ b o, c.hid b → ¬ own c.env b → s1.heap.get? b = some o → Sl (fr c b) o s6.heap b := fun b o h1 h2 e => (hidk' b o h1 h2 e).trans fun o' e' => m36.hid b o' (.inl h1) h2 (hk2 b o' (hidd b h1) e')
      have keepfp : ∀ b ∈ fp, ∀ o, h''.get? b = some o → s6.heap.get? b = some o := fun b hb o e => by
        by_cases hw : b ∈ wr
        · exact (m36.hid b o (.inr hw) (hwr b hw).2.1 e).get (hwf b hw)
        · exact (fz_some.mp (m36.sub b o (fz_some.mpr ⟨hfp b hb hw, e⟩))).2
      have next : Inv (i + 1) st6 → ∃ m, m < ps.length + 1 - i ∧ LpI Γ c st s1 ps.length Inv S fp wr m s6 := fun inv' =>
        ⟨ps.length + 1 - (i + 1), by omega, i + 1, st6, rfl, hlt', inv', r6, W.frame _ _ _ hS' keepfp, msub6, fun b hb hw => by
          obtain ⟨o, e⟩ := hSl _ _ hS' b hb
          exact (fz_some.mp (m36.sub b o (fz_some.mpr ⟨hfp b hb hw, e⟩))).1, hidk6⟩
      cases fl with
      | next => cases hfl; exact next q
      | cont => cases hfl; exact next q
      | brk => cases hfl; obtain ⟨m7, r7⟩ := finish r6 msub6 hidk6; exact hRR _ _ ⟨st6, .next, m7, r7, rfl, q⟩
      | ret b =>
        obtain ⟨m7, r7⟩ := finish r6 msub6 hidk6
        obtain ⟨v5, rfl, hv5⟩ := id hfl
        exact hRR _ _ ⟨st6, .ret b, m7, r7, flr hfl, q⟩
    · have hie : i = ps.length := by omega
      subst hie
      refine W.done s' _ _ hS fun h' tk hk' => ?_
      obtain ⟨r3, sub3⟩ := R.dropTurned (s' := { s' with heap := h', toks := tk }) r' r0.ownH hidd hfh (fun b hb => (hwr b hb).2.2) hVs hk' rfl rfl
      have mv3 : Mv c st s0 st1 { s' with heap := h', toks := tk } := k1.mv.trans ⟨msub.trans sub3, fun b o h1 h2 e => (hidk' b o h1 h2 e).trans fun o' e' => .exact (hk' b o' (hidd b h1) e')⟩
      exact wpAny_mono (fin c.hid st1 inv _ r3) (fun f s5 ⟨st5, fl, m5, r5, hfl, q⟩ => hRR _ _ ⟨st5, fl, mv3.trans m5, r5, hfl, q⟩) fun _ _ x => x.elim
  · rintro ((h | h) | ⟨y, es, h⟩)
    · exact hfro b hb (.inl h)
    · exact hw h
    · exact hfro b hb (.inr ⟨y, es, h⟩)
end
end Mine
end
section
open PySem PySem.Calls PyProof.Rows
namespace Mine
section
variable {prog : Program} {w : World} {A : Around} {E : Value → Shared → Prop} {s : Shared}

theorem nextOf_tup_item {it t : Addr} {i : Nat} {items} {x : Value} {Q : Value → Shared → Prop} (hit : IsTupIter s.heap it t i) (ht : IsTup s.heap t items) (hx : items[i]? = some x)
    (hQ : ∀ h', IsTupIter h' it t (i + 1) → Heap.SameBut it s.heap h' → Q x { s with heap := h' }) : wpAny (model prog w) A (Builtin.SmallTypes.nextOf (.ref it)) Q E s := by
  obtain ⟨o, ho, hc, hd⟩ := id hit
  obtain ⟨ol, hol, _, nl, hdl⟩ := ht
  unfold Builtin.SmallTypes.nextOf
  refine wpAny_bind (wpAny_callSpecial?_slot (name := Str.ofString "__next__") hit.typeIs slot_tupleiter_next
    (wpAny_call_entry slot_tupleiter_next hit.typeIs entry_tupleiter_next ?_ (args_tupleiter_next _)))
  show wpAny _ _ (field (.ref it) 0 >>= _) _ _ s
  refine wpAny_bind (wpAny_field ho hd (x := .ref t) rfl ?_)
  rw [if_neg (show ¬ ((Value.ref t == Value.none) = true) from Bool.false_ne_true)]
  refine wpAny_bind (wpAny_field ho hd (x := .int i 0) rfl ?_)
  show wpAny _ _ (seqItems? (.ref t) >>= _) _ _ s
  refine wpAny_bind (wpAny_seqItems hol hdl ?_)
  simp only [Int.toNat_natCast, hx]
  refine wpAny_bind (wpAny_setField ho hd (by simp) (wpAny_pure ⟨x, rfl, wpAny_pure (hQ _ ?_ (Heap.SameBut.update ..))⟩))
  exact ⟨_, Heap.get?_update_self _ ho (Obj.isFreed_of_fields (Obj.data_mapFields hd _)), (Obj.cls_mapFields ..).trans hc, by
    rw [Obj.data_mapFields hd]; simp [rawInt]⟩
theorem nextOf_tup_end {it t : Addr} {i : Nat} {items} {Q : Value → Shared → Prop} (hh : A.handled = none) (hit : IsTupIter s.heap it t i) (ht : IsTup s.heap t items) (hx : items[i]? = none)
    (hE : ∀ h' e, Heap.ExtBut it s.heap h' → (∃ o, h'.get? e = some o ∧ o.cls = .type "StopIteration") → E (.ref e) { s with heap := h' }) : wpAny (model prog w) A (Builtin.SmallTypes.nextOf (.ref it)) Q E s := by
  obtain ⟨o, ho, hc, hd⟩ := id hit
  obtain ⟨ol, hol, _, nl, hdl⟩ := ht
  unfold Builtin.SmallTypes.nextOf
  refine wpAny_bind (wpAny_callSpecial?_slot (name := Str.ofString "__next__") hit.typeIs slot_tupleiter_next
    (wpAny_call_entry slot_tupleiter_next hit.typeIs entry_tupleiter_next ?_ (args_tupleiter_next _)))
  show wpAny _ _ (field (.ref it) 0 >>= _) _ _ s
  refine wpAny_bind (wpAny_field ho hd (x := .ref t) rfl ?_)
  rw [if_neg (show ¬ ((Value.ref t == Value.none) = true) from Bool.false_ne_true)]
  refine wpAny_bind (wpAny_field ho hd (x := .int i 0) rfl ?_)
  show wpAny _ _ (seqItems? (.ref t) >>= _) _ _ s
  refine wpAny_bind (wpAny_seqItems hol hdl ?_)
  simp only [Int.toNat_natCast, hx]
  refine wpAny_bind (wpAny_rule (wpAny_bind (wpAny_setField ho hd (by simp) ?_)))
  show wpAny _ _ (newExc (.type "StopIteration") [] >>= _) _ _ _
  refine wpAny_bind ?_
  simp only [newExc, newTuple]
  refine wpAny_bind (wpAny_newObj_type ?_ (by size_fits))
  refine wpAny_bind (m := firstArgMember _ _) (wpAny_of_eq (a := Value.none) (by first | rfl | (simp only [firstArgMember]; rfl)) ?_)
  refine wpAny_newObj_type ?_ (by size_fits)
  simp only [raiseNew]
  refine wpAny_bind (wpAny_handled ?_)
  first | rw [show A.in1.handled = none from hh] | rw [hh]
  refine wpAny_bind (wpAny_pure (wpAny_throw ?_))
  exact hE _ _ (((Heap.SameBut.update ..).extBut.push _).push _) ⟨_, Heap.get?_push_size _ rfl, rfl⟩
end
theorem draws_tup {prog : Program} {w : World} {A : Around} (hh : A.handled = none) (it l : Addr) (hne : l ≠ it) (items : Array Value) :
    Draws prog w A it [it, l] items.size (fun i v => items[i]? = some v) (fun i h => IsTupIter h it l i ∧ IsTup h l items) where
  live := fun _ _ st => let ⟨o, ho, _⟩ := st.1; ⟨o, ho⟩
  frame := fun _ _ _ st hk => ⟨let ⟨o, ho, r⟩ := st.1; ⟨o, hk it (by simp) o ho, r⟩, let ⟨o, ho, r⟩ := st.2; ⟨o, hk l (by simp) o ho, r⟩⟩
  item := fun i s Q E hi st hQ => by
    refine nextOf_tup_item st.1 st.2 (x := items[i]) (by simp [hi]) fun h' hit' hs' => ?_
    exact hQ _ h' s.toks (by simp [hi]) ⟨hit', st.2.extBut hs'.extBut hne⟩ hs'
  done := fun s Q E st hE => nextOf_tup_end hh st.1 st.2 (by simp) hE

theorem enum_new_tup (l : Addr) (items : Array Value) (n : Nat) :
    Meets (Builtin.«enumerate.__new__» ⟨[.type "enumerate", .ref l], []⟩) (fun _ R s => s.heap.get? l = some (plainT items n) ∧
      R (.ok (.ret (.ref (s.heap.push { cls := .type "tuple_iterator", data := .fields #[.ref l, .int 0 0] }).objs.size)))
        { s with heap := (s.heap.push { cls := .type "tuple_iterator", data := .fields #[.ref l, .int 0 0] }).push { cls := .type "enumerate", data := .fields #[.none, .bool false, .ref s.heap.objs.size, rawInt 0, .none, .none] } }) :=
  .of_wp fun prog w A R s h => by
    obtain ⟨hp, g, d, tk, os⟩ := s; obtain ⟨hl, h⟩ := h
    have hsub := sub_enumerate
    have hL : IsTup (Shared.heap ⟨hp, g, d, tk, os⟩) l items := ⟨_, hl, rfl, n, rfl⟩
    wp_walk using AutoSeq1.wpAny_loadPart' hl
    refine wpAny_stack_any fun st => wpAny_pure ?_
    split
    · rename_i c _ _ _ _ _
      cases (c == Value.type "enumerate")
      · wp_walk using AutoSeq1.wpAny_loadPart' hl, iter_tuple hL
        exact ⟨_, rfl, h⟩
      · wp_walk using AutoSeq1.wpAny_loadPart' hl, iter_tuple hL
        exact ⟨_, rfl, h⟩
    · wp_walk using AutoSeq1.wpAny_loadPart' hl, iter_tuple hL
      exact ⟨_, rfl, h⟩
end Mine
end
section
open PySem PySem.Calls PyProof.Rows
namespace Mine
theorem Walks2.ofT {prog : Program} {w : World} {A : Around} {I : Addr} {fp wr : List Addr} {n : Nat} {Pt : Nat → Array Value → Prop} {S : Nat → Heap → Prop} {M : Nat → Addr → Heap → Prop} {P : Nat → Value → Value → Prop} (W : WalksT prog w A I fp wr n Pt S M)
    (hP : ∀ i vals, Pt i vals → ∃ v1 v2, P i v1 v2 ∧ vals = #[v1, v2]) : Walks2 prog w A I fp wr n P S M where
  sub := W.sub
  frame := W.frame
  item := fun i s Q E hi hs h => W.item i s Q E hi hs fun T vals h' tk hp _ hT hM hk => by
    obtain ⟨v1, v2, hp', rfl⟩ := hP i vals hp
    exact h T v1 v2 h' tk hp' hT hM hk
  go := W.go
  apart := W.apart
  done := W.done

/-- what enumerate goes over -/
inductive En : AV → List PyData → Prop
  | list (ds : List PyData) : En (.D (.list ds)) ds
  | tup (ds : List PyData) : En (.D (.tuple ds)) ds
noncomputable def enumDs (ds : List PyData) : List (PyData × PyData) := ds.zipIdx.map fun p => (.int (p.2 : Nat), p.1)
theorem enumDs_len (ds : List PyData) : (enumDs ds).length = ds.length := by simp [enumDs]
theorem enumDs_at (ds : List PyData) (i : Nat) (d : PyData) (h : ds[i]? = some d) : (enumDs ds)[i]? = some (.int (i : Nat), d) := by
  simp [enumDs, List.getElem?_map, List.getElem?_zipIdx, h]

section
variable {Γ : Gx} {c : Cx} {st : St} {s : Shared}

theorem enum_sound {a : AV} {ds : List PyData} {v : Value} {Q : Value → Shared → Prop} (he : En a ds) (r : R Γ c st s) (hv : VR Γ (fz s.heap (Hd c st)) s.heap a v)
    (h : ∀ s2 e it l P S M, Kp s s2 → Walks2 Γ.prog Γ.w c.A e [e, it, l] [e, it] ds.length P S M → S 0 s2.heap → s.heap.get? e = none → s.heap.get? it = none → (∃ o, s2.heap.get? e = some o) → (∃ o, s2.heap.get? it = some o) →
      (∀ i h, S i h → ∀ b ∈ [e, it, l], ∃ o, h.get? b = some o) → ¬ Hd c st l →
      (∀ i v1 v2, i < ds.length → P i v1 v2 → ∃ d t, ds[i]? = some d ∧ v1 = .int i t ∧ Rd (fz s.heap (Hd c st)) v2 d) →
      (∀ (s : Shared) (Q : Value → Shared → Prop) (E : Value → Shared → Prop), S 0 s.heap → Q (.ref e) s → wpAny (mo Γ) c.A (pyIter (.ref e)) Q E s) → Q (.ref e) s2) :
    wpAny (mo Γ) c.A (call (.type "enumerate") [v]) Q (fun _ _ => False) s := by
  have sizeNew : s.heap.get? s.heap.objs.size = none := get_none_size _
  have live : ∀ {b o}, s.heap.get? b = some o → b ≠ s.heap.objs.size ∧ b ≠ s.heap.objs.size + 1 := fun e => by
    have := Heap.lt_size e
    exact ⟨Nat.ne_of_lt this, Nat.ne_of_lt (Nat.lt_succ_of_lt this)⟩
  have none1 : s.heap.get? (s.heap.objs.size + 1) = none := by
    cases e : s.heap.get? (s.heap.objs.size + 1) with
    | none => rfl
    | some o => exact absurd rfl (live e).2
  have hei : s.heap.objs.size + 1 ≠ s.heap.objs.size := Nat.succ_ne_self _
  cases he with
  | list ds =>
    obtain ⟨l, vs, n, rfl, h1, h2⟩ := Rd.list_inv hv
    have hl := h2.length
    rw [Array.length_toList] at hl
    have h1' := fz_sub _ _ _ _ h1
    have hlive := live h1'
    refine callType_new F.called_enumerate (by decide) (F.typeCall_enumerate_1 _) (F.newCall_enumerate_1 _) (fun obj => F.args_object_init_2 obj _) F.entry_enumerate_new (meets_enumerate_new l vs n) ⟨h1', ⟨_, Heap.get?_push_size _ rfl, rfl⟩, ?_⟩
    rw [Heap.size_push]
    have W := WalksT.enumerateD (A := c.A) (Draws.list (prog := Γ.prog) (w := Γ.w) (A := c.A.in1) r.rm.handled s.heap.objs.size l hlive.1 vs) (s.heap.objs.size + 1) hei (by simp; exact Ne.symm hlive.2) (by simp)
    rw [hl] at W
    refine h _ _ s.heap.objs.size l (fun i v1 v2 => ∃ t, vs[i]? = some v2 ∧ v1 = .int i t) _ _ ⟨rfl, rfl, fun b o e => Heap.get?_push_of_some _ (Heap.get?_push_of_some _ e)⟩ (Walks2.ofT W ?_) ?_ none1 sizeNew ?_ ?_ ?_ (fz_some.mp h1).1 ?_ (fun s Q E hs hq => W.self 0 s Q E hs hq)
    · rintro i vals ⟨t, x, hx, rfl⟩; exact ⟨_, _, ⟨t, hx, rfl⟩, rfl⟩
    · refine ⟨⟨.none, ?_⟩, ⟨_, Heap.get?_push_of_some _ (Heap.get?_push_size _ rfl), rfl, rfl⟩, ((plainL_isList h1').push _).push _⟩
      have := Heap.get?_push_size (s.heap.push { cls := .type "list_iterator", data := .fields #[.ref l, .int 0 0] }) (o := { cls := .type "enumerate", data := .fields #[.none, .bool false, .ref s.heap.objs.size, rawInt 0, .none, .none] }) rfl
      rw [Heap.size_push] at this
      exact this
    · have := Heap.get?_push_size (s.heap.push { cls := .type "list_iterator", data := .fields #[.ref l, .int 0 0] }) (o := { cls := .type "enumerate", data := .fields #[.none, .bool false, .ref s.heap.objs.size, rawInt 0, .none, .none] }) rfl
      rw [Heap.size_push] at this
      exact ⟨_, this⟩
    · exact ⟨_, Heap.get?_push_of_some _ (Heap.get?_push_size _ rfl)⟩
    · rintro i h ⟨⟨old, e1⟩, ⟨o2, e2, _⟩, o3, e3, _⟩ b hb
      simp only [List.mem_cons, List.not_mem_nil, or_false] at hb
      rcases hb with rfl | rfl | rfl
      · exact ⟨_, e1⟩
      · exact ⟨_, e2⟩
      · exact ⟨_, e3⟩
    · rintro i v1 v2 hi ⟨t, hx, rfl⟩
      obtain ⟨d, hd, rd⟩ := h2.get' (i := i) (v := v2) (by simpa using hx)
      exact ⟨d, t, hd, rfl, rd⟩
  | tup ds =>
    obtain ⟨l, vs, n, rfl, h1, h2⟩ := Rd.tuple_inv hv
    have hl := h2.length
    rw [Array.length_toList] at hl
    have h1' := fz_sub _ _ _ _ h1
    have hlive := live h1'
    refine callType_new F.called_enumerate (by decide) (F.typeCall_enumerate_1 _) (F.newCall_enumerate_1 _) (fun obj => F.args_object_init_2 obj _) F.entry_enumerate_new (enum_new_tup l vs n) ⟨h1', ⟨_, Heap.get?_push_size _ rfl, rfl⟩, ?_⟩
    rw [Heap.size_push]
    have W := WalksT.enumerateD (A := c.A) (draws_tup (prog := Γ.prog) (w := Γ.w) (A := c.A.in1) r.rm.handled s.heap.objs.size l hlive.1 vs) (s.heap.objs.size + 1) hei (by simp; exact Ne.symm hlive.2) (by simp)
    rw [hl] at W
    refine h _ _ s.heap.objs.size l (fun i v1 v2 => ∃ t, vs[i]? = some v2 ∧ v1 = .int i t) _ _ ⟨rfl, rfl, fun b o e => Heap.get?_push_of_some _ (Heap.get?_push_of_some _ e)⟩ (Walks2.ofT W ?_) ?_ none1 sizeNew ?_ ?_ ?_ (fz_some.mp h1).1 ?_ (fun s Q E hs hq => W.self 0 s Q E hs hq)
    · rintro i vals ⟨t, x, hx, rfl⟩; exact ⟨_, _, ⟨t, hx, rfl⟩, rfl⟩
    · refine ⟨⟨.none, ?_⟩, ⟨_, Heap.get?_push_of_some _ (Heap.get?_push_size _ rfl), rfl, rfl⟩, ((plainT_isTup h1').push _).push _⟩
      have := Heap.get?_push_size (s.heap.push { cls := .type "tuple_iterator", data := .fields #[.ref l, .int 0 0] }) (o := { cls := .type "enumerate", data := .fields #[.none, .bool false, .ref s.heap.objs.size, rawInt 0, .none, .none] }) rfl
      rw [Heap.size_push] at this
      exact this
    · have := Heap.get?_push_size (s.heap.push { cls := .type "tuple_iterator", data := .fields #[.ref l, .int 0 0] }) (o := { cls := .type "enumerate", data := .fields #[.none, .bool false, .ref s.heap.objs.size, rawInt 0, .none, .none] }) rfl
      rw [Heap.size_push] at this
      exact ⟨_, this⟩
    · exact ⟨_, Heap.get?_push_of_some _ (Heap.get?_push_size _ rfl)⟩
    · rintro i h ⟨⟨old, e1⟩, ⟨o2, e2, _⟩, o3, e3, _⟩ b hb
      simp only [List.mem_cons, List.not_mem_nil, or_false] at hb
      rcases hb with rfl | rfl | rfl
      · exact ⟨_, e1⟩
      · exact ⟨_, e2⟩
      · exact ⟨_, e3⟩
    · rintro i v1 v2 hi ⟨t, hx, rfl⟩
      obtain ⟨d, hd, rd⟩ := h2.get' (i := i) (v := v2) (by simpa using hx)
      exact ⟨d, t, hd, rfl, rd⟩

/-- for x, y in enumerate(e) -/
theorem WS_ForEnum {x y : Str} {px py tpos np cpos pos : Pos} {tk0 : Nat} {e : Expr} {body orelse : List Stmt} {Q : Fl → St → Prop} (Inv : List PyData → Nat → St → Prop)
    (h : WE Γ c st (eval e c.env) fun a => ∃ ds, En a ds ∧ Inv ds 0 st ∧ (∀ i st1, Inv ds i st1 → st1.all (fun p => notV p.2) = true) ∧
      (∀ hid i d st1, ds[i]? = some d → Inv ds i st1 → WS Γ (c.wh hid) (upd (upd st1 x (.D (.int (i : Nat)))) y (.D d)) (execs body c.env) (loopP (Inv ds (i + 1)) Q)) ∧
      (∀ hid st1, Inv ds ds.length st1 → WS Γ (c.wh hid) st1 (execs orelse c.env) Q))
    (hx : Stor c.env x := by first | exact .inl rfl | exact .inr ⟨rfl, _, rfl⟩) (hy : Stor c.env y := by first | exact .inl rfl | exact .inr ⟨rfl, _, rfl⟩)
    (hae : (assignEach [.Name x px, .Name y py] c.env) = [(false, assign (.Name x px) c.env), (false, assign (.Name y py) c.env)] := by rfl)
    (hk : c.env.kindOf "enumerate" = some .globalImplicit := by rfl) (he : starEach [e] c.env = [(false, eval e c.env)] := by rfl)
    (hcall : eval (.Call (.Name "enumerate" np) [e] [] cpos) c.env = (do callWith cpos (← eval (.Name "enumerate" np) c.env) [] (backTo cpos (starEach [e] c.env)) (backToKw cpos (keywordEach [] c.env))) := by rfl)
    (hs : ∀ x, foldedSetIterable (.Call (.Name "enumerate" np) [e] [] cpos) c.env x = pure x := by intro _; rfl) :
    WS Γ c st (exec (.For (.Tuple [.Name x px, .Name y py] tk0 tpos) (.Call (.Name "enumerate" np) [e] [] cpos) body orelse pos) c.env) Q := fun s r => by
  have hA : WA Γ c st (spliced (backTo cpos (starEach [e] c.env))) fun avs => ∃ a, avs = [a] ∧ ∃ ds, En a ds ∧ Inv ds 0 st ∧ (∀ i st1, Inv ds i st1 → st1.all (fun p => notV p.2) = true) ∧
      (∀ hid i d st1, ds[i]? = some d → Inv ds i st1 → WS Γ (c.wh hid) (upd (upd st1 x (.D (.int (i : Nat)))) y (.D d)) (execs body c.env) (loopP (Inv ds (i + 1)) Q)) ∧
      (∀ hid st1, Inv ds ds.length st1 → WS Γ (c.wh hid) st1 (execs orelse c.env) Q) := WA_cons (h.mono fun a q => WA_nil ⟨a, rfl, q⟩) he
  refine wpAny_For (Call_ (name_builtin r hk (r.gd.free _ bi_enumerate.mem) bi_enumerate.boot bi_enumerate.ne bi_enumerate.nd (PyProof.Rows.callWith_type1 (wpAny_mono (hA s r) (fun vs s1 ⟨k1, avs, va, a, ea, ds, hen, inv0, hV, step, fin⟩ => ?_) fun _ _ x => x) he rfl)) hcall) hs
  subst ea
  cases va with
  | cons h1 t =>
    cases t
    refine enum_sound hen (r.kp k1) h1 fun s2 e it l P S M k2 W hS0 ne nit le lit hSl hfro hrd hself => ?_
    refine hself s2 _ _ hS0 ?_
    have hlen := enumDs_len ds
    have Wp : Walks2 Γ.prog Γ.w c.A e [e, it, l] [e, it] (enumDs ds).length P S M := by rw [hlen]; exact W
    refine for2_loop (enumDs ds) (Inv ds) r k1 k2 Wp hS0 ?_ ?_ hSl ?_ ?_ inv0 hV ?_ ?_ hx hy (fun f s' q => q) hae
    · intro b hb
      simp only [List.mem_cons, List.not_mem_nil, or_false] at hb
      rcases hb with rfl | rfl
      · exact ne
      · exact nit
    · intro b hb
      simp only [List.mem_cons, List.not_mem_nil, or_false] at hb
      rcases hb with rfl | rfl
      · exact le
      · exact lit
    · intro b hb hH
      obtain ⟨o, eo⟩ := (r.kp k1).low2 b hH
      simp only [List.mem_cons, List.not_mem_nil, or_false] at hb
      rcases hb with rfl | rfl | rfl
      · rw [ne] at eo; cases eo
      · rw [nit] at eo; cases eo
      · exact hfro hH
    · intro i v1 v2 hi hP
      obtain ⟨d, t, hd, rfl, rd⟩ := hrd i v1 v2 (by omega) hP
      exact ⟨_, enumDs_at ds i d hd, Rd.int _ _, rd⟩
    · intro hid i p st1 hp inv
      have hi := (List.getElem?_eq_some_iff.mp hp).1
      rw [hlen] at hi
      have hd := List.getElem?_eq_getElem hi
      rw [enumDs_at ds i _ hd] at hp
      cases hp
      exact step hid i _ st1 hd inv
    · intro hid st1 inv
      rw [hlen] at inv
      exact fin hid st1 inv
end
end Mine
end
section
open PySem PySem.Calls PyProof.Rows
namespace Mine
noncomputable def refsOf (vs : List Value) : List Addr := vs.filterMap fun | .ref a => some a | _ => none
theorem mem_refsOf {vs : List Value} {a : Addr} (h : Value.ref a ∈ vs) : a ∈ refsOf vs := List.mem_filterMap.mpr ⟨_, h, rfl⟩
theorem of_refsOf {vs : List Value} {a : Addr} (h : a ∈ refsOf vs) : Value.ref a ∈ vs := by
  obtain ⟨v, h1, h2⟩ := List.mem_filterMap.mp h
  cases v <;> simp at h2
  subst h2; exact h1
theorem go_tupiter {prog : Program} {w : World} {A : Around} {E : Value → Shared → Prop} {s : Shared} {elts : List Expr} {x1} {pos : Pos} {I l T : Addr} {i : Nat} {Q : Unit → Shared → Prop} (hit : IsTupIter s.heap I l i) (hQ : Q () s) :
    wpAny (model prog w) A (letOwnedTupleGo (.Tuple elts x1 pos) (.ref I) (.ref T)) Q E s := by
  obtain ⟨o, ho, hc, hd⟩ := hit
  unfold letOwnedTupleGo
  refine wpAny_bind (wpAny_load ho ?_)
  rw [hc, hd]
  show wpAny _ A (if (_ && _) = true then _ else _) Q E s
  rw [if_neg (by
    intro h
    rw [Bool.and_eq_true] at h
    exact absurd h.1 (by decide))]
  exact wpAny_pure hQ
theorem walks2_pairs {prog : Program} {w : World} {A : Around} (hh : A.handled = none) (h0 : Heap) (I l : Addr) (hne : l ≠ I) (vs : Array Value) (hI : ∀ T ∈ refsOf vs.toList, T ≠ I)
    (hp : ∀ i, i < vs.size → ∃ T a b, vs[i]? = some (.ref T) ∧ IsTup h0 T #[a, b]) :
    Walks2 prog w A I (I :: l :: refsOf vs.toList) [I] vs.size (fun i v1 v2 => ∃ T, vs[i]? = some (.ref T) ∧ IsTup h0 T #[v1, v2])
      (fun i h => IsTupIter h I l i ∧ IsTup h l vs ∧ ∀ T ∈ refsOf vs.toList, ∀ o, h0.get? T = some o → h.get? T = some o)
      (fun i T h => T ∈ refsOf vs.toList ∧ IsTupIter h I l (i + 1) ∧ IsTup h l vs ∧ ∀ T ∈ refsOf vs.toList, ∀ o, h0.get? T = some o → h.get? T = some o) where
  sub := fun b hb => by rw [List.mem_singleton.mp hb]; exact .head _
  frame := fun i h h' ⟨⟨o, e, q⟩, ⟨o2, e2, q2⟩, h3⟩ hk => ⟨⟨o, hk _ (.head _) _ e, q⟩, ⟨o2, hk _ (.tail _ (.head _)) _ e2, q2⟩, fun T hT o e => hk T (.tail _ (.tail _ hT)) o (h3 T hT o e)⟩
  item := fun i s Q E hi ⟨h1, h2, h3⟩ hQ => by
    obtain ⟨T, a, b, hT, ht⟩ := hp i hi
    have hm : T ∈ refsOf vs.toList := mem_refsOf (List.mem_of_getElem? (by simpa using hT))
    refine next_tuple_item h1 h2 hT fun h' hit hs => ?_
    have h3' : ∀ T ∈ refsOf vs.toList, ∀ o, h0.get? T = some o → h'.get? T = some o := fun T hT o e => hs.extBut T o (hI T hT) (h3 T hT o e)
    refine hQ T a b h' s.toks ⟨T, hT, ht⟩ ?_ ⟨hm, hit, h2.extBut hs.extBut hne, h3'⟩ fun b o hb e => hs.extBut b o (fun q => hb (by simp [q])) e
    obtain ⟨o, e, q⟩ := ht
    exact ⟨o, h3' T hm o e, q⟩
  go := fun elts k pos i T s Q E ⟨hm, h1, h2, h3⟩ hQ => go_tupiter h1 (hQ s.heap ⟨h1, h2, h3⟩ fun _ _ _ e => e)
  apart := fun i T h hM hT => hI T hM.1 (List.mem_singleton.mp hT)
  done := fun s Q E ⟨h1, h2, h3⟩ hQ => next_tuple_end hh h1 h2 (by simp) fun h' hext => hQ h' s.toks fun b o hb e => hext b o (fun q => hb (by simp [q])) e

section
variable {Γ : Gx} {c : Cx} {st : St} {s : Shared}
noncomputable def pairDs (ps : List (PyData × PyData)) : List PyData := ps.map fun p => .tuple [p.1, p.2]
/-- for x, y in e: a tuple of pairs -/
theorem WS_ForPairs {x y : Str} {px py tpos pos : Pos} {tk0 : Nat} {e : Expr} {body orelse : List Stmt} {Q : Fl → St → Prop} (Inv : Nat → St → Prop)
    (h : WE Γ c st (eval e c.env) fun a => ∃ ps, a = .D (.tuple (pairDs ps)) ∧ Inv 0 st ∧ (∀ i st1, Inv i st1 → st1.all (fun p => notV p.2) = true) ∧
      (∀ hid i p st1, ps[i]? = some p → Inv i st1 → WS Γ (c.wh hid) (upd (upd st1 x (.D p.1)) y (.D p.2)) (execs body c.env) (loopP (Inv (i + 1)) Q)) ∧
      (∀ hid st1, Inv ps.length st1 → WS Γ (c.wh hid) st1 (execs orelse c.env) Q))
    (hx : Stor c.env x := by first | exact .inl rfl | exact .inr ⟨rfl, _, rfl⟩) (hy : Stor c.env y := by first | exact .inl rfl | exact .inr ⟨rfl, _, rfl⟩)
    (hae : (assignEach [.Name x px, .Name y py] c.env) = [(false, assign (.Name x px) c.env), (false, assign (.Name y py) c.env)] := by rfl)
    (hs : ∀ x, foldedSetIterable e c.env x = pure x := by intro _; rfl) :
    WS Γ c st (exec (.For (.Tuple [.Name x px, .Name y py] tk0 tpos) e body orelse pos) c.env) Q := fun s r => by
  refine wpAny_For (wpAny_mono (h s r) (fun v s1 ⟨k1, a, va, ps, ea, inv0, hV, step, fin⟩ => ?_) fun _ _ x => x) hs
  subst ea
  have r1 := r.kp k1
  obtain ⟨l, vs, n, rfl, h1, h2⟩ := Rd.tuple_inv va
  have hl := h2.length
  rw [Array.length_toList] at hl
  have hpl : (pairDs ps).length = ps.length := by simp [pairDs]
  have h1' := fz_sub _ _ _ _ h1
  have hlt := Heap.lt_size h1'
  have sizeNew : s1.heap.get? s1.heap.objs.size = none := get_none_size _
  have rdp : ∀ i, i < vs.size → ∃ T vs2 n2 p, vs[i]? = some (.ref T) ∧ ps[i]? = some p ∧ (fz s1.heap (Hd c st)).get? T = some (plainT vs2 n2) ∧ RdL (fz s1.heap (Hd c st)) vs2.toList [p.1, p.2] := fun i hi => by
    have hi' : i < ps.length := by omega
    have hd : (pairDs ps)[i]? = some (.tuple [ps[i].1, ps[i].2]) := by simp [pairDs, List.getElem?_map, List.getElem?_eq_getElem hi']
    obtain ⟨v, hv, rd⟩ := h2.get i _ hd
    obtain ⟨T, vs2, n2, rfl, h3, h4⟩ := Rd.tuple_inv rd
    exact ⟨T, vs2, n2, ps[i], by simpa using hv, List.getElem?_eq_getElem hi', h3, h4⟩
  have pr : ∀ {vs2 : Array Value} {p : PyData × PyData}, RdL (fz s1.heap (Hd c st)) vs2.toList [p.1, p.2] → ∃ a b, vs2 = #[a, b] ∧ Rd (fz s1.heap (Hd c st)) a p.1 ∧ Rd (fz s1.heap (Hd c st)) b p.2 := fun {vs2 p} h => by
    obtain ⟨a, r1, e1, ra, h⟩ := h.cons_inv'
    obtain ⟨b, r2, e2, rb, h⟩ := h.cons_inv'
    have e3 := h.nil_inv
    subst e3 e2
    exact ⟨a, b, Array.toList_inj.mp e1, ra, rb⟩
  have refs : ∀ T ∈ refsOf vs.toList, (∃ o, (fz s1.heap (Hd c st)).get? T = some o) := fun T hT => by
    obtain ⟨i, hi⟩ := List.getElem?_of_mem (of_refsOf hT)
    have hi2 : i < vs.size := by have := (List.getElem?_eq_some_iff.mp hi).1; simpa using this
    obtain ⟨T', vs2, n2, p, e1, _, h3, _⟩ := rdp i hi2
    rw [show vs[i]? = some (.ref T) by simpa using hi] at e1
    cases e1
    exact ⟨_, h3⟩
  refine iter_tuple (plainT_isTup h1') ?_
  have W := walks2_pairs (prog := Γ.prog) (w := Γ.w) (A := c.A) r.rm.handled s1.heap s1.heap.objs.size l (Nat.ne_of_lt hlt) vs (fun T hT q => by
    obtain ⟨o, e⟩ := refs T hT
    exact absurd q (Nat.ne_of_lt (Heap.lt_size (fz_sub _ _ _ _ e)))) (fun i hi => by
      obtain ⟨T, vs2, n2, p, e1, _, h3, h4⟩ := rdp i hi
      obtain ⟨a, b, rfl, _, _⟩ := pr h4
      exact ⟨T, a, b, e1, plainT_isTup (fz_sub _ _ _ _ h3)⟩)
  rw [hl, hpl] at W
  refine for2_loop ps Inv r k1 (Kp.new s1 _) W ?_ ?_ ?_ ?_ ?_ ?_ inv0 hV step fin hx hy (fun f s' q => q) hae
  · exact ⟨⟨_, Heap.get?_push_size _ rfl, rfl, rfl⟩, (plainT_isTup h1').push _, fun T hT o e => Heap.get?_push_of_some _ e⟩
  · intro b hb; rw [List.mem_singleton.mp hb]; exact sizeNew
  · intro b hb; rw [List.mem_singleton.mp hb]; exact ⟨_, Heap.get?_push_size _ rfl⟩
  · rintro i h ⟨⟨o1, e1, _⟩, ⟨o2, e2, _⟩, h3⟩ b hb
    rcases List.mem_cons.mp hb with rfl | hb
    · exact ⟨_, e1⟩
    · rcases List.mem_cons.mp hb with rfl | hb
      · exact ⟨_, e2⟩
      · obtain ⟨o, e⟩ := refs b hb
        exact ⟨o, h3 b hb o (fz_sub _ _ _ _ e)⟩
  · intro b hb hH
    rcases List.mem_cons.mp hb with rfl | hb
    · exact Nat.lt_irrefl _ (r1.low' _ hH)
    · rcases List.mem_cons.mp hb with rfl | hb
      · exact (fz_some.mp h1).1 hH
      · obtain ⟨o, e⟩ := refs b hb
        exact (fz_some.mp e).1 hH
  · rintro i v1 v2 hi ⟨T, hT, ht⟩
    obtain ⟨T', vs2, n2, p, e1, e2, h3, h4⟩ := rdp i (by omega)
    rw [hT] at e1; cases e1
    obtain ⟨a, b, rfl, ra, rb⟩ := pr h4
    obtain ⟨o, e, hc, n3, hd⟩ := ht
    have := fz_sub _ _ _ _ h3
    rw [e] at this
    cases this
    simp only [Data.seq.injEq] at hd
    have hab := hd.1
    cases hab
    exact ⟨p, e2, ra, rb⟩
end
end Mine
end
section
open PySem PySem.Calls PyProof.Rows
namespace Mine
section
variable {Γ : Gx} {c : Cx} {st : St} {s : Shared}
inductive SmJoin : Str → AV → AV → Prop
  | mk (x : Str) (a : AV) (ys : List Str) (e : items a = some (ys.map .str)) (h : (ys.map (·.length)).sum + ys.length * x.length ≤ 16777216) : SmJoin x a (.D (.str (Txt.join x ys)))
theorem WE_join {o e : Expr} {apos pos : Pos} {Q : AV → Prop} (h : WE Γ c st (eval o c.env) (KS Γ c st e SmJoin Q))
    (hbase : attributeBase o "join" c.env (eval o c.env) = eval o c.env := by rfl) (hs : starEach [e] c.env = [(false, eval e c.env)] := by rfl) (hline : (apos.endLine == pos.line) = true := by rfl) :
    WE Γ c st (eval (.Call (.Attribute o "join" apos) [e] [] pos) c.env) Q :=
  WE_smeth SmJoin (fun s x t T r hb => SB.join (wpAny_mono hb (fun v s1 ⟨k, b, vb, z, hz, q⟩ => by
    cases hz with
    | mk ys he hok =>
      obtain ⟨l, vs, n, rfl, h1, h2⟩ := vb.items he
      obtain ⟨sv, hv, ht⟩ := strsAre_values (strsAre_of h2)
      refine ⟨l, sv, rfl, ?_, ys, ht, joinOk_of hok, fun t' k' => ⟨k.trans (Kp.toks _ _), .D (.str _), Rd.str _ _, q⟩⟩
      have e : vs = (strValues sv).toArray := by rw [← hv]
      rw [← e]
      exact plainL_isList h1) fun _ _ x => x)) h hbase hs hline
/-- the table's name -/
theorem WE_tab {pos : Pos} {Q : AV → Prop} (h : Q (.D fmTab)) (hx : c.env.kindOf "_filemode_table" = some .globalImplicit := by rfl) : WE Γ c st (eval (.Name "_filemode_table" pos) c.env) Q := fun s r => by
  obtain ⟨v, h1, h2⟩ := r.tab
  exact name_global r hx h1 (by decide) ⟨Kp.refl s, .D fmTab, h2, h⟩
end
end Mine
end
section
open PySem PySem.Calls PyProof.Rows
namespace Mine
/-! filemode's signs -/
noncomputable def fmMatch (i m : Nat) (b : Int) : Bool := if i = 0 then Builtin.bitAnd (m : Int) 61440 == b else Builtin.bitAnd (m : Int) b == b
noncomputable def fmPick (i m : Nat) : List (Int × Str) → Str
  | [] => if i = 0 then "?" else "-"
  | p :: r => if fmMatch i m p.1 then p.2 else fmPick i m r
noncomputable def fmOf (m i : Nat) : Str := fmPick i m (fmRows.getD i [])
theorem fmPick_drop {i m : Nat} {row : List (Int × Str)} {j : Nat} {p : Int × Str} (h : row[j]? = some p) : fmPick i m (row.drop j) = if fmMatch i m p.1 then p.2 else fmPick i m (row.drop (j + 1)) := by
  obtain ⟨hj, e⟩ := List.getElem?_eq_some_iff.mp h
  rw [List.drop_eq_getElem_cons hj, e]; rfl
theorem and_61440 (m : Nat) : m &&& 61440 = m / 4096 % 16 * 4096 := by
  have h : (61440 : Nat) = 15 * 2 ^ 12 := by decide
  apply Nat.eq_of_testBit_eq
  intro i
  rw [Nat.testBit_and, h, Nat.testBit_mul_two_pow, show (4096 : Nat) = 2 ^ 12 from rfl, Nat.testBit_mul_two_pow, show (15 : Nat) = 2 ^ 4 - 1 from rfl, show (16 : Nat) = 2 ^ 4 from rfl, Nat.testBit_mod_two_pow, Nat.testBit_two_pow_sub_one, Nat.testBit_div_two_pow]
  by_cases h1 : 12 ≤ i
  · simp [h1, Bool.and_comm]
  · simp [h1]
theorem bit_iff (m j : Nat) : (m &&& 2 ^ j = 2 ^ j) ↔ m / 2 ^ j % 2 = 1 := by
  have h2 : m.testBit j = decide (m / 2 ^ j % 2 = 1) := Nat.testBit_eq_decide_div_mod_eq
  rw [← decide_eq_true_iff (p := m / 2 ^ j % 2 = 1), ← h2]
  constructor
  · intro h
    have := congrArg (fun x => x.testBit j) h
    simpa [Nat.testBit_and, Nat.testBit_two_pow_self] using this
  · intro h
    apply Nat.eq_of_testBit_eq
    intro i
    rw [Nat.testBit_and, Nat.testBit_two_pow]
    by_cases e : j = i
    · subst e; simp [h]
    · simp [e]
theorem and_or_iff (m a b : Nat) : (m &&& (a ||| b) = (a ||| b)) ↔ (m &&& a = a ∧ m &&& b = b) := by
  constructor
  · intro h
    have key : ∀ i, (m.testBit i && (a.testBit i || b.testBit i)) = (a.testBit i || b.testBit i) := fun i => by
      rw [← Nat.testBit_or, ← Nat.testBit_and, h]
    constructor <;> apply Nat.eq_of_testBit_eq <;> intro i <;> have := key i <;> rw [Nat.testBit_and] <;> revert this <;>
      cases m.testBit i <;> cases a.testBit i <;> cases b.testBit i <;> decide
  · rintro ⟨h1, h2⟩
    apply Nat.eq_of_testBit_eq
    intro i
    have k1 : (m.testBit i && a.testBit i) = a.testBit i := by rw [← Nat.testBit_and, h1]
    have k2 : (m.testBit i && b.testBit i) = b.testBit i := by rw [← Nat.testBit_and, h2]
    rw [Nat.testBit_and, Nat.testBit_or]
    revert k1 k2
    cases m.testBit i <;> cases a.testBit i <;> cases b.testBit i <;> decide
theorem match_bit {i m : Nat} (hi : i ≠ 0) (j : Nat) : fmMatch i m ((2 ^ j : Nat) : Int) = decide (m / 2 ^ j % 2 = 1) := by
  unfold fmMatch
  rw [if_neg hi, bitAnd_nat, Bool.eq_iff_iff, beq_iff_eq, decide_eq_true_iff, ← bit_iff]
  omega
theorem match_two {i m : Nat} (hi : i ≠ 0) (j k : Nat) : fmMatch i m ((2 ^ j ||| 2 ^ k : Nat) : Int) = decide (m / 2 ^ j % 2 = 1 ∧ m / 2 ^ k % 2 = 1) := by
  unfold fmMatch
  rw [if_neg hi, bitAnd_nat, Bool.eq_iff_iff, beq_iff_eq, decide_eq_true_iff, ← bit_iff, ← bit_iff, ← and_or_iff]
  omega
theorem fmOf_zero (m : Nat) : fmOf m 0 = S [ftypes.getD (m / 4096 % 16) 0] := by
  have key : ∀ b : Int, fmMatch 0 m b = (((m / 4096 % 16 * 4096 : Nat) : Int) == b) := fun b => by
    unfold fmMatch
    rw [if_pos rfl, show (61440 : Int) = ((61440 : Nat) : Int) from rfl, bitAnd_nat, and_61440]
  have ht : m / 4096 % 16 < 16 := by omega
  unfold fmOf
  simp only [fmRows, List.getD_cons_zero, fmPick, key]
  revert ht
  generalize m / 4096 % 16 = t
  revert t
  decide +kernel
theorem pick_one {i m : Nat} (hi : i ≠ 0) (j : Nat) (x : Str) : fmPick i m [(((2 ^ j : Nat) : Int), x)] = if m / 2 ^ j % 2 = 1 then x else "-" := by
  simp only [fmPick, match_bit hi, if_neg hi]
  by_cases h : m / 2 ^ j % 2 = 1 <;> simp [h]
theorem pick_three {i m : Nat} (hi : i ≠ 0) (j k : Nat) (x y z : Str) : fmPick i m [(((2 ^ k ||| 2 ^ j : Nat) : Int), x), (((2 ^ j : Nat) : Int), y), (((2 ^ k : Nat) : Int), z)] =
    if m / 2 ^ j % 2 = 1 then (if m / 2 ^ k % 2 = 1 then x else y) else (if m / 2 ^ k % 2 = 1 then z else "-") := by
  simp only [fmPick, match_bit hi, match_two hi, if_neg hi]
  by_cases h : m / 2 ^ j % 2 = 1 <;> by_cases h' : m / 2 ^ k % 2 = 1 <;> simp [h, h']
theorem fmOf_row (m i : Nat) (hi : i < 10) : fmOf m i = S [(rowL m).getD i 0] := by
  have hs : ∀ p : Prop, ∀ [Decidable p] (a b : Nat), S [if p then a else b] = if p then S [a] else S [b] := by intro p _ a b; split <;> rfl
  have e45 : (Str.ofString "-") = S [45] := by decide +kernel
  have e114 : (Str.ofString "r") = S [114] := by decide +kernel
  have e119 : (Str.ofString "w") = S [119] := by decide +kernel
  have e120 : (Str.ofString "x") = S [120] := by decide +kernel
  have e115 : (Str.ofString "s") = S [115] := by decide +kernel
  have e83 : (Str.ofString "S") = S [83] := by decide +kernel
  have e116 : (Str.ofString "t") = S [116] := by decide +kernel
  have e84 : (Str.ofString "T") = S [84] := by decide +kernel
  rw [rowL_eq]
  have one : ∀ (i j : Nat) (x : Str) (a : Nat) (p : Prop) [Decidable p], i ≠ 0 → x = S [a] → (m / 2 ^ j % 2 = 1 ↔ p) → fmPick i m [(((2 ^ j : Nat) : Int), x)] = S [if p then a else 45] := by
    intro i j x a p _ hi hx hp
    rw [pick_one hi, hs, hx, ← e45]
    by_cases h : p
    · rw [if_pos h, if_pos (hp.mpr h)]
    · rw [if_neg h, if_neg (fun q => h (hp.mp q))]
  have three : ∀ (i j k : Nat) (x y : Str) (a b : Nat) (p : Prop) [Decidable p], i ≠ 0 → x = S [b] → y = S [a] → (m / 2 ^ k % 2 = 1 ↔ p) →
      fmPick i m [(((2 ^ k ||| 2 ^ j : Nat) : Int), x), (((2 ^ j : Nat) : Int), y), (((2 ^ k : Nat) : Int), "x")] = S [if m / 2 ^ j % 2 = 1 then (if p then b else a) else (if p then 120 else 45)] := by
    intro i j k x y a b p _ hi hx hy hp
    rw [pick_three hi, hs, hs, hs, hx, hy, e120, ← e45]
    by_cases h : p
    · simp only [if_pos h, if_pos (hp.mpr h)]
    · simp only [if_neg h, if_neg (fun q => h (hp.mp q))]
  match i, hi with
  | 0, _ => exact fmOf_zero m
  | 1, _ => exact one 1 8 "r" 114 (fig m 0 > 3) (by decide) e114 (by unfold fig; (clear hi hs e45 e114 e119 e120 e115 e83 e116 e84 one three; omega))
  | 2, _ => exact one 2 7 "w" 119 (fig m 0 % 4 > 1) (by decide) e119 (by unfold fig; (clear hi hs e45 e114 e119 e120 e115 e83 e116 e84 one three; omega))
  | 3, _ => exact three 3 11 6 "s" "S" 83 115 (fig m 0 % 2 = 1) (by decide) e115 e83 (by unfold fig; omega)
  | 4, _ => exact one 4 5 "r" 114 (fig m 1 > 3) (by decide) e114 (by unfold fig; (clear hi hs e45 e114 e119 e120 e115 e83 e116 e84 one three; omega))
  | 5, _ => exact one 5 4 "w" 119 (fig m 1 % 4 > 1) (by decide) e119 (by unfold fig; (clear hi hs e45 e114 e119 e120 e115 e83 e116 e84 one three; omega))
  | 6, _ => exact three 6 10 3 "s" "S" 83 115 (fig m 1 % 2 = 1) (by decide) e115 e83 (by unfold fig; omega)
  | 7, _ => exact one 7 2 "r" 114 (fig m 2 > 3) (by decide) e114 (by unfold fig; (clear hi hs e45 e114 e119 e120 e115 e83 e116 e84 one three; omega))
  | 8, _ => exact one 8 1 "w" 119 (fig m 2 % 4 > 1) (by decide) e119 (by unfold fig; (clear hi hs e45 e114 e119 e120 e115 e83 e116 e84 one three; omega))
  | 9, _ => exact three 9 9 0 "t" "T" 84 116 (fig m 2 % 2 = 1) (by decide) e116 e84 (by unfold fig; omega)
  | n + 10, h => omega
end Mine
end
section
open PySem PySem.Calls PyProof.Rows
namespace Mine
theorem join_signs : ∀ l : List Nat, Str.join "" (l.map fun a => S [a]) = S l
  | [] => rfl
  | [a] => rfl
  | a :: b :: r => by
    show S [a] ++ "" ++ Str.join "" ((b :: r).map fun a => S [a]) = _
    rw [join_signs (b :: r), show (Str.ofString "") = S [] from rfl, S_append, S_append]; rfl
section
variable {Γ : Gx} {c : Cx} {st : St} {s : Shared}
theorem fn_S_IFMT : isFn "S_IFMT" := by unfold isFn; decide +kernel
theorem con_S_IFMT (m : Int) : Con Γ 1 "S_IFMT" [.D (.int m)] (.D (.int (Builtin.bitAnd m 61440))) := by
  refine con_fn (j := 9) ["mode"] (by rfl) rfl rfl rfl ?_ (by decide +kernel) (by decide +kernel) ?_ rfl rfl rfl
  · exact fun pm cd doc => len1 fun v => rfl
  · intro κ
    refine WS_cons ?_; refine WS_Return ?_; refine WE_BinOp ?_; refine WE_name rfl ?_; refine WE_int ?_; refine ⟨_, Bin.andI _ _, ?_⟩
    rfl
theorem fn_filemode : isFn "filemode" := by unfold isFn; decide +kernel
theorem con_filemode (m : Nat) : Con Γ 2 "filemode" [.D (.int m)] (.D (.str (S (rowL m)))) := by
  have hsl : sizeLine = 2 ^ 24 := rfl
  refine con_fn (j := 10) ["mode"] (by rfl) rfl rfl rfl ?_ (by decide +kernel) (by decide +kernel) ?_ rfl rfl rfl
  · exact fun pm cd doc => len1 fun v => rfl
  · intro κ
    refine WS_cons (WS_AssignNew (WN_List (WA_nil ⟨[], rfl, by decide, by simp, fun a1 => ?_⟩)))
    refine WS_cons (WS_ForEnum (fun ds i st => st = ([("mode", .D (.int m)), ("perm", .M a1 (preS (fmOf m) i))] : St)) (WE_tab ⟨fmRows.map fmRow, .tup _, rfl, fun i st1 h => h ▸ rfl, ?_, ?_⟩))
    · rintro hid i d st1 hd rfl
      rw [List.getElem?_map, Option.map_eq_some_iff] at hd
      obtain ⟨row, hrow, rfl⟩ := hd
      have hi10 : i < 10 := (List.getElem?_eq_some_iff.mp hrow).1
      have hof : fmOf m i = fmPick i m row := by unfold fmOf; rw [List.getD_eq_getElem?_getD, hrow]; rfl
      refine WS_cons (WS_ForPairs (fun j st => fmPick i m row = fmPick i m (row.drop j) ∧ st = ([("mode", .D (.int m)), ("perm", .M a1 (preS (fmOf m) i)), ("index", .D (.int (i : Nat))), ("table", .D (fmRow row))] : St))
        (WE_name rfl ⟨row.map fun p => (.int p.1, .str p.2), (by unfold fmRow pairDs; rw [List.map_map]; rfl), ⟨by simp, rfl⟩, fun j st1 h => h.2 ▸ rfl, ?_, ?_⟩))
      · rintro hid j p st1 hp ⟨hpk, rfl⟩
        rw [List.getElem?_map, Option.map_eq_some_iff] at hp
        obtain ⟨pr, hpr, rfl⟩ := hp
        rw [fmPick_drop hpr] at hpk
        have happ : fmMatch i m pr.1 = true → pr.2 = fmOf m i := fun h => by rw [hof, hpk, if_pos h]
        have hnext : fmMatch i m pr.1 = false → fmPick i m row = fmPick i m (row.drop (j + 1)) := fun h => by rw [hpk, if_neg (by rw [h]; decide)]
        refine WS_cons (WS_If (WB_Compare (WE_name rfl (WE_int ⟨_, .eqI _ _, ?_⟩))))
        refine ⟨fun h0 => ?_, fun h0 => ?_⟩
        · have h0 : i = 0 := by have := beq_iff_eq.mp h0; omega
          refine WS_cons (WS_If (WB_Compare (WE_call1 fn_S_IFMT (WE_name rfl ⟨_, con_S_IFMT _, WE_name rfl ⟨_, .eqI _ _, ?_⟩⟩) (Nat.le_refl 1))))
          have hm : fmMatch i m pr.1 = (Builtin.bitAnd (m : Int) 61440 == pr.1) := by unfold fmMatch; rw [if_pos h0]
          refine ⟨fun h1 => ?_, fun h1 => ?_⟩
          · rw [← hm] at h1
            refine WS_cons (WS_append rfl (by rw [preS_len]; exact Nat.le_of_lt (Nat.lt_of_lt_of_le hi10 (by decide))) rfl (WE_name rfl ⟨_, rfl, ?_⟩))
            rw [happ h1, preS_succ]
            refine WS_cons (WS_weak [("mode", .D (.int m)), ("perm", .M a1 (preS (fmOf m) (i + 1)))] ⟨rfl, rfl, trivial⟩ (WS_Break ?_))
            exact WS_nil rfl
          · rw [← hm] at h1
            exact WS_nil (WS_nil (WS_end [("mode", .D (.int m)), ("perm", .M a1 (preS (fmOf m) i)), ("index", .D (.int (i : Nat))), ("table", .D (fmRow row))] ⟨rfl, rfl, rfl, rfl, trivial⟩ ⟨hnext h1, rfl⟩))
        · have h0 : i ≠ 0 := by have := beq_eq_false_iff_ne.mp h0; omega
          refine WS_cons (WS_If (WB_Compare (WE_BinOp (WE_name rfl (WE_name rfl ⟨_, .andI _ _, WE_name rfl ⟨_, .eqI _ _, ?_⟩⟩)))))
          have hm : fmMatch i m pr.1 = (Builtin.bitAnd (m : Int) pr.1 == pr.1) := by unfold fmMatch; rw [if_neg h0]
          refine ⟨fun h1 => ?_, fun h1 => ?_⟩
          · rw [← hm] at h1
            refine WS_cons (WS_append rfl (by rw [preS_len]; exact Nat.le_of_lt (Nat.lt_of_lt_of_le hi10 (by decide))) rfl (WE_name rfl ⟨_, rfl, ?_⟩))
            rw [happ h1, preS_succ]
            refine WS_cons (WS_weak [("mode", .D (.int m)), ("perm", .M a1 (preS (fmOf m) (i + 1)))] ⟨rfl, rfl, trivial⟩ (WS_Break ?_))
            exact WS_nil rfl
          · rw [← hm] at h1
            exact WS_nil (WS_nil (WS_end [("mode", .D (.int m)), ("perm", .M a1 (preS (fmOf m) i)), ("index", .D (.int (i : Nat))), ("table", .D (fmRow row))] ⟨rfl, rfl, rfl, rfl, trivial⟩ ⟨hnext h1, rfl⟩))
      · rintro hid st1 ⟨hpk, rfl⟩
        rw [List.length_map, List.drop_length] at hpk
        refine WS_cons (WS_If (WB_Compare (WE_name rfl (WE_int ⟨_, .eqI _ _, ?_⟩))))
        refine ⟨fun h0 => ?_, fun h0 => ?_⟩
        · have h0 : i = 0 := by have := beq_iff_eq.mp h0; omega
          have e : (Str.ofString "?") = fmOf m i := by rw [hof, hpk, fmPick, if_pos h0]
          refine WS_cons (WS_append rfl (by rw [preS_len]; exact Nat.le_of_lt (Nat.lt_of_lt_of_le hi10 (by decide))) rfl (WE_str ⟨_, rfl, ?_⟩))
          rw [e, preS_succ]
          exact WS_nil (WS_nil (WS_end [("mode", .D (.int m)), ("perm", .M a1 (preS (fmOf m) (i + 1)))] ⟨rfl, rfl, trivial⟩ rfl))
        · have h0 : i ≠ 0 := by have := beq_eq_false_iff_ne.mp h0; omega
          have e : (Str.ofString "-") = fmOf m i := by rw [hof, hpk, fmPick, if_neg h0]
          refine WS_cons (WS_append rfl (by rw [preS_len]; exact Nat.le_of_lt (Nat.lt_of_lt_of_le hi10 (by decide))) rfl (WE_str ⟨_, rfl, ?_⟩))
          rw [e, preS_succ]
          exact WS_nil (WS_nil (WS_end [("mode", .D (.int m)), ("perm", .M a1 (preS (fmOf m) (i + 1)))] ⟨rfl, rfl, trivial⟩ rfl))
    · rintro hid st1 rfl
      refine WS_nil (WS_cons (WS_Return (WE_join (WE_str ⟨_, rfl, WE_name rfl ⟨_, .mk _ _ ((List.range 10).map (fmOf m)) ?_ ?_, ?_⟩⟩))))
      · show some _ = some _
        rw [List.map_map]; rfl
      · have hl : ((List.range 10).map (fmOf m)).map (·.length) = (List.range 10).map fun _ => 1 := by
          rw [List.map_map]
          refine List.map_congr_left fun i hi => ?_
          show (fmOf m i).length = 1
          rw [fmOf_row m i (List.mem_range.mp hi), S_length]; rfl
        rw [hl, List.length_map]; decide
      · have e : (List.range 10).map (fmOf m) = (rowL m).map fun a => S [a] := by
          apply List.ext_getElem?
          intro i
          rw [List.getElem?_map, List.getElem?_map]
          by_cases hi : i < 10
          · rw [List.getElem?_range hi, List.getElem?_eq_getElem (by rw [rowL_len]; exact hi)]
            show some (fmOf m i) = some (S [(rowL m)[i]])
            rw [fmOf_row m i hi, List.getD_eq_getElem?_getD, List.getElem?_eq_getElem (by rw [rowL_len]; exact hi)]; rfl
          · rw [List.getElem?_eq_none (by simp; exact Nat.not_lt.mp hi), List.getElem?_eq_none (by rw [rowL_len]; exact Nat.not_lt.mp hi)]; rfl
        show Fl.ret (.D (.str (Txt.join "" ((List.range 10).map (fmOf m))))) = _
        have e2 : Txt.join "" ((List.range 10).map (fmOf m)) = S (rowL m) := by
          rw [e]; exact (StrLaws.glued_eq_join _ _).trans (join_signs _)
        rw [e2]
end
end Mine
end
section
open PySem PySem.Calls PyProof.Rows
namespace Mine

/-! raising, also while another one is handled -/
theorem entry_unchain : entryFor table "proto.unchain" = some Builtin.«proto.unchain» := entryFor_of_tree (by kernel_rfl)

structure NewX (h h' : Heap) (e : Addr) (cls : String) (cx : Value) : Prop where
  keeps : Sub h h'
  new : h.get? e = none
  there : ∃ ob t, h'.get? e = some ob ∧ ob.cls = .type cls ∧ ob.data = .fields #[t, .none, cx, .none, .bool false, .none]

/-- what is handled: nothing, or an exception of no context -/
noncomputable def Hx (own : Addr → Prop) (A : Around) (h : Heap) : Prop := A.handled = none ∨ ∃ e0 o vs, A.handled = some (.ref e0) ∧ ¬ own e0 ∧ h.get? e0 = some o ∧ o.data = .fields vs ∧ vs[2]? = some .none
theorem Hx.keeps {P : Addr → Prop} {A : Around} {h h' : Heap} (x : Hx P A h) (k : ∀ b o, ¬ P b → h.get? b = some o → h'.get? b = some o) : Hx P A h' :=
  x.imp id fun ⟨e0, o, vs, h1, h2, h3, h4⟩ => ⟨e0, o, vs, h1, h2, k e0 o h2 h3, h4⟩
theorem Hx.sub {P : Addr → Prop} {A : Around} {h h' : Heap} (x : Hx P A h) (k : Sub h h') : Hx P A h' := x.keeps fun b o _ e => k b o e

section
variable {prog : Program} {w : World} {A : Around} {E : Value → Shared → Prop} {s : Shared} {P : Addr → Prop}

theorem raiseNew_in {α : Type} {e : Addr} {cls : String} {t : Value} {ob : Obj} {h0 : Heap} {Q : α → Shared → Prop} (hx : Hx P A h0) (hk : Sub h0 s.heap) (hn : h0.get? e = none)
    (he : s.heap.get? e = some ob) (hc : ob.cls = .type cls) (hd : ob.data = .fields #[t, .none, .none, .none, .bool false, .none])
    (h : ∀ h' cx, (A.handled = none → cx = .none) → NewX h0 h' e cls cx → E (.ref e) { s with heap := h' }) : wpAny (model prog w) A (raiseNew (.ref e) : Sem α) Q E s := by
  rcases hx with hh | ⟨e0, o, vs, hh, _, h0', hd0, h2⟩
  · exact wpAny_raiseNew_none hh (h _ .none (fun _ => rfl) ⟨hk, hn, ob, t, he, hc, hd⟩)
  · unfold raiseNew
    refine wpAny_bind (wpAny_handled ?_)
    rw [hh]
    have hne : (Value.ref e0 != Value.ref e) = true := by
      rw [bne_iff_ne]; intro q; cases q; rw [h0'] at hn; cases hn
    dsimp only
    rw [if_pos hne]
    refine wpAny_bind (wpAny_holding (wpAny_runValue (codeAny_builtin entry_unchain ?_)))
    unfold Builtin.«proto.unchain»
    dsimp only
    refine wpAny_bind (wpAny_field (hk _ _ h0') hd0 h2 ?_)
    rw [if_pos (by rfl)]
    refine wpAny_bind (wpAny_pure (wpAny_pure ?_))
    refine wpAny_bind ?_
    unfold updateField
    refine wpAny_bind (wpAny_load he ?_)
    rw [hd]
    dsimp only
    rw [if_pos (by show 2 < 6; decide)]
    refine wpAny_update he (wpAny_throw ?_)
    refine h _ (.ref e0) (fun q => by rw [hh] at q; cases q) ⟨fun b o' eb => ?_, hn, _, t, Heap.get?_update_self _ he (Obj.isFreed_of_fields (Obj.data_mapFields hd _)), (Obj.cls_mapFields ..).trans hc, Obj.data_mapFields hd _⟩
    have hbe : e ≠ b := fun q => by rw [← q, hn] at eb; cases eb
    rw [Heap.get?_update_other _ _ hbe]
    exact hk _ _ eb
theorem raiseWords_in {α : Type} {cls msg : String} {Q : α → Shared → Prop} (hp : PlainExc cls) (hx : Hx P A s.heap)
    (h : ∀ h' tk e cx, (A.handled = none → cx = .none) → NewX s.heap h' e cls cx → E (.ref e) { s with heap := h', toks := tk }) : wpAny (model prog w) A (raiseErrorWords cls msg : Sem α) Q E s := by
  unfold raiseErrorWords
  refine wpAny_bind (wpAny_mkText (wpAny_bind ?_))
  unfold newExc newTuple
  refine wpAny_bind (wpAny_newObj_type ?_)
  refine wpAny_bind (m := firstArgMember _ _) (wpAny_of_eq (a := Value.none) (by simp only [firstArgMember, hp.first]; rfl) ?_)
  rw [hp.own]
  refine wpAny_newObj_type ?_
  refine raiseNew_in (h0 := s.heap) (t := .ref s.heap.objs.size) hx (fun b o hb => Heap.get?_push_of_some _ (Heap.get?_push_of_some _ hb)) (Heap.get?_none_of_le (by simp)) (Heap.get?_push_size _ rfl) rfl rfl fun h' cx hc hN => h h' _ _ cx hc hN
theorem item_out {l : Addr} {items : Array Value} {k : Int} {n : Nat} {t : Tok} {Q : Value → Shared → Prop} (hx : Hx P A s.heap) (hl : s.heap.get? l = some (plainL items n)) (hout : (items.size : Int) ≤ k) (hlo : -(2 ^ 63) ≤ k) (hhi : k < 2 ^ 63)
    (hE : ∀ h' tk e cx, (A.handled = none → cx = .none) → NewX s.heap h' e "IndexError" cx → E (.ref e) { s with heap := h', toks := tk }) :
    wpAny (model prog w) A (getItem (.ref l) (.int k t)) Q E s := by
  have hl' := plainL_isList hl
  unfold getItem
  try with_reducible refine wpAny_holding ?_
  first | refine wpAny_bind (wpAny_pure ?_) | skip
  refine wpAny_bind (wpAny_sequenceKey hl'.typeIs (by decide) ?_)
  refine wpAny_bind (wpAny_callSpecial?_slot (name := Str.ofString "__getitem__") hl'.typeIs slot_list_getitem
    (wpAny_call_entry slot_list_getitem hl'.typeIs entry_list_getitem ?_ (args_list_getitem _ _)))
  show wpAny _ _ (Builtin.List.listSubscript? (.int k t) >>= _) _ _ s
  refine wpAny_bind (wpAny_listSubscript_int (fitsIndex_both hlo hhi) ?_)
  clear hlo hhi
  cases k with
  | ofNat j =>
    have hx' : items[j]? = none := Array.getElem?_eq_none (by have : (items.size : Int) ≤ (j : Int) := hout; omega)
    show wpAny _ _ ((seqItemAt l j >>= fun r => pure (r.map (j, ·))) >>= _) _ _ s
    refine wpAny_bind (wpAny_bind (wpAny_seqItemAt hl rfl (wpAny_pure ?_)))
    rw [hx']
    have hx1 : Hx P A.in1 s.heap := hx
    first
      | exact wpAny_bind (wpAny_rule (raiseWords_in plainExc_IndexError hx1 hE))
      | exact wpAny_bind (wpAny_rule (wpAny_bind (raiseWords_in plainExc_IndexError hx1 hE)))
      | exact wpAny_bind (wpAny_bind (wpAny_rule (raiseWords_in plainExc_IndexError hx1 hE)))
      | exact wpAny_rule (raiseWords_in plainExc_IndexError hx1 hE)
  | negSucc j => exact absurd hout (by have := Int.negSucc_lt_zero j; omega)
end

/-! the state while an exception is under way -/
/-- kept but for the slots of the frames' own places -/
structure Kf (c : Cx) (s s' : Shared) : Prop where
  gens : s'.gens = s.gens
  os : s'.os = s.os
  heap : ∀ b o, s.heap.get? b = some o → Sl (fr c b ∨ b = c.env.locals) o s'.heap b
/-- an exception made since -/
structure Xc (h0 h : Heap) (e : Addr) (cls : String) (cx : Value) (noted : Bool) : Prop where
  new : h0.get? e = none
  there : ∃ oe vs, h.get? e = some oe ∧ oe.cls = .type cls ∧ oe.data = .fields vs ∧ (5 < vs.size ∧ vs[2]? = some cx) ∧
    ((noted = false ∧ vs[1]? = some .none) ∨ ∃ T oT ts, vs[1]? = some (.ref T) ∧ h0.get? T = none ∧ T ≠ e ∧ h.get? T = some oT ∧ oT.data = .fields ts ∧ 3 < ts.size)
section
variable {Γ : Gx} {c : Cx} {st : St} {s s0 s1 : Shared} {A : Around} {E : Value → Shared → Prop}
theorem Kp.kf {s' : Shared} (k : Kp s s') : Kf c s s' := ⟨k.gens, k.os, fun b o e => .exact (k.heap b o e)⟩
theorem Kf.refl : Kf c s s := (Kp.refl s).kf
theorem Kf.trans {s' s'' : Shared} (x : Kf c s s') (y : Kf c s' s'') : Kf c s s'' := ⟨y.gens.trans x.gens, y.os.trans x.os, fun b o e => (x.heap b o e).trans fun o' e' => y.heap b o' e'⟩
theorem NewX.xc {h h' : Heap} {e : Addr} {cls : String} {cx : Value} (x : NewX h h' e cls cx) : Xc h h' e cls cx false :=
  ⟨x.new, let ⟨ob, t, h1, h2, h3⟩ := x.there; ⟨ob, _, h1, h2, h3, ⟨(by show 5 < 6; decide), rfl⟩, .inl ⟨rfl, rfl⟩⟩⟩
/-- a step that touches the new things alone -/
theorem Kf.upd {s' : Shared} (k : Kf c s0 s) (hg : s'.gens = s.gens) (ho : s'.os = s.os) (a : Addr) (hn : s0.heap.get? a = none) (hh : ∀ b, b ≠ a → s'.heap.get? b = s.heap.get? b) : Kf c s0 s' :=
  ⟨hg.trans k.gens, ho.trans k.os, fun b o e => (k.heap b o e).trans fun o' e' => .exact ((hh b fun q => by rw [q, hn] at e; cases e).trans e')⟩

theorem R.ffs (r : R Γ c st s0) {outer : List Env} (ho : c.out = some outer) (k : Kf c s0 s) : s.heap.FunFrames c.base (c.env :: outer) := by
  obtain ⟨h1, h2, h3, h4⟩ := r.fo outer ho
  obtain ⟨m, o, es, ep, e, hd, hq⟩ := r.frame
  refine ⟨by rw [r.hk]; decide, ?_, funFrames_keeps (fun b hb o ho' => (k.heap b o ho').live) h3⟩
  obtain ⟨o', e', hd'⟩ := (k.heap _ _ e).live
  exact ⟨c.env.locals, o', h2, r.ownB _ (.inl rfl), e', fun vs q => by rw [hd', hd] at q; cases q⟩

theorem slots_kf {outer : List Env} {h' : Heap} (r : R Γ c st s0) (ho : c.out = some outer) (k : Kf c s0 s) (hs : Heap.SlotsOnly ((c.env :: outer).filterMap (·.frame)) s.heap h') : Kf c s0 { s with heap := h' } := by
  refine k.trans ⟨rfl, rfl, fun b o e => ?_⟩
  obtain ⟨sl, e'⟩ := hs.2.2 b o e
  refine ⟨sl, e', fun hn => ?_⟩
  have hb : b ∉ (c.env :: outer).filterMap (·.frame) := fun hb => by
    rw [List.filterMap_cons, (r.fo outer ho).2.1] at hb
    rcases List.mem_cons.mp hb with q | hb
    · exact hn (.inr q)
    · exact hn (.inl ⟨outer, ho, hb⟩)
  have := hs.2.1 b hb
  rw [e, e'] at this
  exact congrArg Obj.slots (Option.some.inj this)

theorem x_field {e : Addr} {cls : String} {cx : Value} {nt : Bool} {Q : Value → Shared → Prop} (x : Xc s0.heap s.heap e cls cx nt) (h : ∀ v, (nt = true → v ≠ .none) → Q v s) : wpAny (mo Γ) A (field (.ref e) 1) Q E s := by
  obtain ⟨oe, vs, h1, h2, h3, h4, h5⟩ := x.there
  rcases h5 with ⟨hn, h5⟩ | ⟨T, oT, ts, h5, _⟩
  · exact wpAny_field h1 h3 h5 (h _ fun q => by rw [hn] at q; cases q)
  · exact wpAny_field h1 h3 h5 (h _ fun _ q => by cases q)
theorem x_flight {e : Addr} {cls : String} {cx : Value} {nt : Bool} {L : Option Addr} {Q : Unit → Shared → Prop} (k : Kf c s0 s) (x : Xc s0.heap s.heap e cls cx nt) (h : ∀ h', Kf c s0 { s with heap := h' } → Xc s0.heap h' e cls cx nt → Q () { s with heap := h' }) :
    wpAny (mo Γ) A (setFlight (.ref e) L) Q E s := by
  obtain ⟨oe, vs, h1, h2, h3, h4, h5⟩ := x.there
  unfold setFlight
  rcases h5 with ⟨hn, h5⟩ | ⟨T, oT, ts, h5, h6, h7, h8, h9, h10⟩
  · refine wpAny_bind (wpAny_field h1 h3 h5 ?_)
    rw [if_neg (by decide)]
    exact wpAny_pure (h s.heap k x)
  · refine wpAny_bind (wpAny_field h1 h3 h5 ?_)
    rw [if_pos (show (Value.ref T != Value.none) = true from by simp)]
    refine wpAny_setField h8 h9 h10 (h _ (k.upd rfl rfl T h6 fun b hb => Heap.get?_update_other _ _ (Ne.symm hb)) ⟨x.new, oe, vs, (Heap.get?_update_other _ _ h7).trans h1, h2, h3, h4, .inr ⟨T, _, _, h5, h6, h7, Heap.get?_update_self _ h8 (Obj.isFreed_of_fields (Obj.data_mapFields h9 _)), Obj.data_mapFields h9 _, by simpa using h10⟩⟩)
theorem kf_new {k : Kf c s0 s} {a : Addr} (h : s.heap.get? a = none) : s0.heap.get? a = none := by
  cases e : s0.heap.get? a with
  | none => rfl
  | some o => obtain ⟨o', e', _⟩ := (k.heap a o e).live; rw [h] at e'; cases e'
theorem x_entry {e : Addr} {cls : String} {cx : Value} {nt : Bool} {outer : List Env} {head : Value} {L : Addr} {hn : Bool} {Q : Unit → Shared → Prop} (r : R Γ c st s0) (ho : c.out = some outer) (hA : A.frames = c.A.frames) (k : Kf c s0 s) (x : Xc s0.heap s.heap e cls cx nt)
    (h : ∀ h', Kf c s0 { s with heap := h' } → Xc s0.heap h' e cls cx true → Q () { s with heap := h' }) :
    wpAny (mo Γ) A (do let a ← frameOf c.env; let pl ← entryPlaceOf L hn; let b ← EntryCells.newEntry head a .none (rawInt L) .none pl; setField (.ref e) 1 b) Q E s := by
  obtain ⟨f1, f2, f3, f4⟩ := r.fo outer ho
  have ff := r.ffs ho k
  obtain ⟨oe, vs, h1, h2, h3, h4, _⟩ := x.there
  refine wpAny_bind (wpAny_frameOf_fun (hA.trans f1) ff f2 fun h₁ hs₁ => ?_)
  have hen : e ∉ (c.env :: outer).filterMap (·.frame) := fun hm => by
    obtain ⟨_, o, ho', hnf⟩ := ff.mem hm
    rw [h1] at ho'; cases ho'; exact hnf vs h3
  have he₁ : h₁.get? e = some oe := (hs₁.2.1 e hen).trans h1
  have k1 := slots_kf r ho k hs₁
  refine wpAny_bind (wpAny_entryPlaceOf fun pl hpl => ?_)
  unfold EntryCells.newEntry newFields
  refine wpAny_bind (wpAny_newObj_type ?_ (hpl.sizeOk5 _ _ _ _ _))
  have he₂ := Heap.get?_push_of_some (h := h₁) { cls := .type "traceback", dict := none, data := .fields ([head, .ref c.env.locals, .none, rawInt L, .none] ++ (if pl.isEmpty then List.replicate 6 Value.none else pl)).toArray } he₁
  refine wpAny_setField he₂ h3 (by have := h4.1; (clear ho hA h f1 f2 f4 h1 h2 h3 h4 hen he₁ he₂; omega)) ?_
  have hTn : s0.heap.get? h₁.objs.size = none := kf_new (k := k1) (get_none_size h₁)
  have hTe : h₁.objs.size ≠ e := Nat.ne_of_gt (Heap.lt_size he₁)
  have hd₃ := Obj.data_mapFields h3 (·.setIfInBounds 1 (Value.ref h₁.objs.size))
  have k2 : Kf c s0 { s with heap := h₁.push { cls := .type "traceback", dict := none, data := .fields ([head, .ref c.env.locals, .none, rawInt L, .none] ++ (if pl.isEmpty then List.replicate 6 Value.none else pl)).toArray } } := k1.trans (Kp.kf (Kp.new _ _))
  refine h _ (k2.upd rfl rfl e x.new fun b hb => Heap.get?_update_other _ _ (Ne.symm hb)) ⟨x.new, _, _, Heap.get?_update_self _ he₂ (Obj.isFreed_of_fields hd₃), (Obj.cls_mapFields ..).trans h2, hd₃, by simpa using h4, .inr ⟨h₁.objs.size, { cls := .type "traceback", dict := none, data := .fields ([head, .ref c.env.locals, .none, rawInt L, .none] ++ (if pl.isEmpty then List.replicate 6 Value.none else pl)).toArray }, _, by simp [show 1 < vs.size by have := h4.1; (clear ho hA h f1 f2 f4 h1 h2 h3 h4 hen he₁ he₂ hTn hTe hd₃; omega)], hTn, hTe, ?_, rfl, ?_⟩⟩
  · rw [Heap.get?_update_other _ _ (Ne.symm hTe)]
    exact Heap.get?_push_size h₁ rfl
  · simp only [List.size_toArray, List.length_append, List.length_cons, List.length_nil]; omega
theorem x_note {e : Addr} {cls : String} {cx : Value} {nt : Bool} {outer : List Env} {Q : Unit → Shared → Prop} (r : R Γ c st s0) (ho : c.out = some outer) (hA : A.frames = c.A.frames) (k : Kf c s0 s) (x : Xc s0.heap s.heap e cls cx nt)
    (h : ∀ h', Kf c s0 { s with heap := h' } → Xc s0.heap h' e cls cx true → Q () { s with heap := h' }) : wpAny (mo Γ) A (noteFrame (.ref e) c.env) Q E s := by
  obtain ⟨f1, f2, f3, f4⟩ := r.fo outer ho
  unfold noteFrame
  simp only [f2]
  obtain ⟨oe, vs, h1, h2, h3, h4, h5⟩ := id x.there
  rcases h5 with ⟨hn, h5⟩ | ⟨T, oT, ts, h5, h6, h7, h8, h9, h10⟩
  · refine wpAny_bind (wpAny_field h1 h3 h5 ?_)
    rw [if_neg (by decide)]
    exact x_entry r ho hA k x h
  · refine wpAny_bind (wpAny_field h1 h3 h5 ?_)
    rw [if_pos (show (Value.ref T != Value.none) = true from by simp)]
    refine wpAny_bind (wpAny_field h8 h9 (x := ts[3]) (by simp [h10]) ?_)
    split
    · exact wpAny_pure (h s.heap k ⟨x.new, oe, vs, h1, h2, h3, h4, .inr ⟨T, oT, ts, h5, h6, h7, h8, h9, h10⟩⟩)
    · refine wpAny_bind (wpAny_setField h8 h9 h10 ?_)
      refine x_entry r ho hA (nt := nt) (k.upd rfl rfl T h6 fun b hb => Heap.get?_update_other _ _ (Ne.symm hb)) ⟨x.new, oe, vs, (Heap.get?_update_other _ _ h7).trans h1, h2, h3, h4, .inr ⟨T, _, _, h5, h6, h7, Heap.get?_update_self _ h8 (Obj.isFreed_of_fields (Obj.data_mapFields h9 _)), Obj.data_mapFields h9 _, by simpa using h10⟩⟩ ?_
      exact fun h' k' x' => h h' k' x'
end
end Mine
end
section
open PySem PySem.Calls PyProof.Rows
namespace Mine
section
variable {Γ : Gx} {c : Cx} {st : St} {s s0 s1 : Shared} {A : Around} {E : Value → Shared → Prop} {K : Prop}

/-- behind an exception: the frame's state stands -/
theorem R.kf (r : R Γ c st s0) (k : Kf c s0 s) (hV : st.all (fun p => notV p.2) = true) : R Γ c st s ∧ Mv c st s0 st s := by
  have hfl : ∀ b, fr c b ∨ b = c.env.locals → c.hid b ∧ c.base.get? b = none := fun b h => h.elim (fun h => ⟨(r.fo.fr h).1, (r.fo.fr h).2.2.1⟩) fun h => ⟨r.ownH b (.inl h), r.ownB b (.inl h)⟩
  have ex : ∀ b o, ¬ c.hid b → s0.heap.get? b = some o → s.heap.get? b = some o := fun b o hb e => (k.heap b o e).get fun h => hb (hfl b h).1
  have sub : Sub (fz s0.heap (Hd c st)) (fz s.heap (Hd c st)) := fz_mono fun b o hb e => ⟨hb, ex b o (fun h => hb (.inl h)) e⟩
  have noV : ∀ x a ds, (x, AV.V a ds) ∉ st := fun x a ds h => by have := List.all_eq_true.mp hV _ h; cases this
  have hcell : ∀ x a v, c.env.cells.lookup x = some a → s0.heap.IsCell a v → s.heap.IsCell a v := fun x a v e ⟨o, e', q⟩ => by
    obtain ⟨o', e2, hd⟩ := (k.heap a o e').live
    exact ⟨o', e2, hd.trans q⟩
  have hns : ∀ m, s0.heap.Ns c.env.locals m → s.heap.Ns c.env.locals m := fun m ⟨o, es, ep, e, hd, q⟩ => by
    obtain ⟨o', e2, hd2⟩ := (k.heap _ o e).live
    exact ⟨o', es, ep, e2, hd2.trans hd, q⟩
  refine ⟨{
    gd := r.gd
    keep := fun b o e => (k.heap b o (r.keep b o e)).get fun h => by have := (hfl b h).2; rw [e] at this; cases this
    rm := r.rm
    gens := k.gens.trans r.gens
    os := k.os.trans r.os
    hk := r.hk
    glob := r.glob
    bns := r.bns
    frame := let ⟨m, h⟩ := r.frame; ⟨m, hns m h⟩
    cells := fun x a e => let ⟨v, h⟩ := r.cells x a e; ⟨v, hcell x a v e h⟩
    ownH := r.ownH
    ownB := r.ownB
    apart := r.apart
    apartL := r.apartL
    low := fun b h => let ⟨o, e⟩ := r.low b h; let ⟨o', e', _⟩ := (k.heap b o e).live; ⟨o', e'⟩
    tab := r.tab.mono sub
    fo := r.fo.keeps fun b o _ e => (k.heap b o e).live
    bound := fun x av e => by
      obtain ⟨v, h1, h2⟩ := r.bound x av e
      refine ⟨v, ?_, ?_⟩
      · rcases h1 with ⟨kk, m, hm, em⟩ | ⟨kk, a, ea, hc⟩
        · exact .inl ⟨kk, m, hns m hm, em⟩
        · exact .inr ⟨kk, a, ea, hcell x a _ ea hc⟩
      · exact h2.step sub fun l ds e' o eo => e'.elim (fun e' => ex _ _ (r.mHid x l ds (mem_of_lookup (e' ▸ e))) eo) fun e' => absurd (mem_of_lookup (e' ▸ e)) (noV x l ds)
    keys := r.keys
    mHid := r.mHid
    vOwn := r.vOwn
    mBase := r.mBase
    mApart := r.mApart }, sub, fun b o h1 h2 e => ?_⟩
  obtain ⟨sl, e', h⟩ := k.heap b o e
  exact ⟨sl, e', fun hn => h fun q => q.elim hn fun q => h2 (.inl q)⟩

/-- a statement that may raise -/
inductive XE (Γ : Gx) (A : Around) (K : Prop) (cls : String) (c : Cx) (st : St) (s : Shared) (QE : St → Prop) (nt : Bool) (x : Value) (s' : Shared) : Prop
  | mk (e : Addr) (st' : St) (s1 : Shared) (cx : Value) (ex : x = .ref e) (m : Mv c st s st' s1) (r : R Γ c st' s1) (hV : st'.all (fun p => notV p.2) = true) (k : Kf c s1 s') (hK : K → A.handled = none → cx = .none) (hx : Xc s1.heap s'.heap e cls cx nt) (q : QE st')
inductive WXp (Γ : Gx) (A : Around) (c : Cx) (st : St) (Q : Fl → St → Prop) (s : Shared) (f : Flow) (s' : Shared) : Prop
  | mk (st' : St) (fl : Fl) (m : Mv c st s st' s') (r : R Γ c st' s') (hf : FlR Γ (fz s'.heap (Hd c st')) s'.heap fl f) (q : Q fl st') (hx : Hx (own c.env) A s'.heap)
theorem WXp.pre {Γ : Gx} {A : Around} {c : Cx} {st st0 : St} {Q : Fl → St → Prop} {s s0 s' : Shared} {f : Flow} (m : Mv c st0 s0 st s) (x : WXp Γ A c st Q s f s') : WXp Γ A c st0 Q s0 f s' := by cases x with | mk st' fl m' r hf q hx => exact ⟨st', fl, m.trans m', r, hf, q, hx⟩
noncomputable def WX (Γ : Gx) (A : Around) (K : Prop) (cls : String) (c : Cx) (st : St) (t : Sem Flow) (Q : Fl → St → Prop) (QE : St → Prop) : Prop :=
  ∀ s, R Γ c st s → Hx (own c.env) A s.heap → wpAny (mo Γ) A t
    (WXp Γ A c st Q s)
    (fun x s' => ∃ nt, XE Γ A K cls c st s QE nt x s') s
/-- a statement in another state of handling, that raises nothing -/
noncomputable def WSA (Γ : Gx) (A : Around) (c : Cx) (st : St) (t : Sem Flow) (Q : Fl → St → Prop) : Prop :=
  ∀ s, R Γ c st s → wpAny (mo Γ) A t (WSp Γ c st Q s) (fun _ _ => False) s

theorem XE.noted {cls : String} {QE : St → Prop} {nt : Bool} {x : Value} {s' : Shared} {outer : List Env} {A' : Around} (ho : c.out = some outer) (hA : A'.frames = c.A.frames) (y : XE Γ A K cls c st s QE nt x s')
    (h : ∀ s'', XE Γ A K cls c st s QE true x s'' → E x s'') : notedBy (mo Γ) A' c.env E x s' := by
  obtain ⟨e, st', s1, cx, rfl, m, r, hV, k, hc, xc, q⟩ := y
  exact x_note r ho hA k xc fun h' k' x' => h _ ⟨e, st', s1, cx, rfl, m, r, hV, k', hc, x', q⟩
theorem XE.note {cls : String} {QE : St → Prop} {nt : Bool} {x : Value} {s' : Shared} {outer : List Env} {A' : Around} {Q : Unit → Shared → Prop} (ho : c.out = some outer) (hA : A'.frames = c.A.frames) (y : XE Γ A K cls c st s QE nt x s')
    (h : ∀ s'', XE Γ A K cls c st s QE true x s'' → Q () s'') : wpAny (mo Γ) A' (noteFrame x c.env) Q E s' := by
  obtain ⟨e, st', s1, cx, rfl, m, r, hV, k, hc, xc, q⟩ := y
  exact x_note r ho hA k xc fun h' k' x' => h _ ⟨e, st', s1, cx, rfl, m, r, hV, k', hc, x', q⟩
theorem XE.flight {cls : String} {QE : St → Prop} {nt : Bool} {x : Value} {s' : Shared} {A' : Around} {L : Option Addr} {Q : Unit → Shared → Prop} (y : XE Γ A K cls c st s QE nt x s')
    (h : ∀ s'', XE Γ A K cls c st s QE nt x s'' → Q () s'') : wpAny (mo Γ) A' (setFlight x L) Q E s' := by
  obtain ⟨e, st', s1, cx, rfl, m, r, hV, k, hc, xc, q⟩ := y
  exact x_flight k xc fun h' k' x' => h _ ⟨e, st', s1, cx, rfl, m, r, hV, k', hc, x', q⟩
theorem XE.back {cls : String} {QE : St → Prop} {x : Value} {s' : Shared} {A' : Around} (y : XE Γ A K cls c st s QE true x s')
    (h : ∀ s'', XE Γ A K cls c st s QE true x s'' → E x s'') : cameBackBy (mo Γ) A' c.env E x s' := by
  obtain ⟨e, st', s1, cx, rfl, m, r, hV, k, hc, xc, q⟩ := y
  unfold cameBackBy
  refine wpAny_bind (x_field xc fun v hv => ?_)
  have hne : (v == Value.none) = false := beq_eq_false_iff_ne.mpr (hv rfl)
  rw [hne, if_neg (by decide)]
  exact x_flight k xc fun h' k' x' => h _ ⟨e, st', s1, cx, rfl, m, r, hV, k', hc, x', q⟩
theorem XE.pre {cls : String} {QE : St → Prop} {nt : Bool} {x : Value} {s' : Shared} {st1 : St} (m : Mv c st s st1 s1) (y : XE Γ A K cls c st1 s1 QE nt x s') : XE Γ A K cls c st s QE nt x s' := by
  cases y with | mk e st' s2 cx h1 m' r hV k hK xc q => exact ⟨e, st', s2, cx, h1, m.trans m', r, hV, k, hK, xc, q⟩
theorem XE.mono {cls : String} {QE QE' : St → Prop} {nt : Bool} {x : Value} {s' : Shared} (he : ∀ st, QE st → QE' st) (y : XE Γ A K cls c st s QE nt x s') : XE Γ A K cls c st s QE' nt x s' := by
  cases y with | mk e st' s2 cx h1 m' r hV k hK xc q => exact ⟨e, st', s2, cx, h1, m', r, hV, k, hK, xc, he _ q⟩
/-- the state in which the exception is met -/
theorem XE.met {cls : String} {QE : St → Prop} {nt : Bool} {x : Value} {s' : Shared} (y : XE Γ A K cls c st s QE nt x s') :
    ∃ e st', x = .ref e ∧ QE st' ∧ R Γ c st' s' ∧ Mv c st s st' s' ∧ st'.all (fun p => notV p.2) = true ∧ s'.TypeIs (.ref e) cls ∧ (K → A.handled = none → Hx (own c.env) (A.mark (some (.ref e))) s'.heap) := by
  obtain ⟨e, st', s1, cx, rfl, m, r, hV, k, hc, xc, q⟩ := y
  obtain ⟨r', m'⟩ := r.kf k hV
  obtain ⟨oe, vs, h1, h2, h3, ⟨h4, h5⟩, _⟩ := xc.there
  refine ⟨e, st', rfl, q, r', m.trans m', hV, ⟨oe, h1, h2⟩, fun hK hn => .inr ⟨e, oe, vs, by simp [Around.mark], fun ho => ?_, h1, h3, by rw [h5, hc hK hn]⟩⟩
  obtain ⟨o, e'⟩ := r.ownLive (c := c) ho
  rw [xc.new] at e'; cases e'

theorem WX_ofWS {cls : String} {t : Sem Flow} {Q : Fl → St → Prop} {QE : St → Prop} (h : WS Γ c st t Q) : WX Γ c.A K cls c st t Q QE := fun s r hx =>
  wpAny_mono (h s r) (fun _ _ ⟨st', fl, h1, h2, h3, h4⟩ => ⟨st', fl, h1, h2, h3, h4, .inl h2.rm.handled⟩) fun _ _ x => x.elim
theorem WX.mono {cls : String} {t : Sem Flow} {Q Q' : Fl → St → Prop} {QE QE' : St → Prop} (h : WX Γ A K cls c st t Q QE) (hq : ∀ f st, Q f st → Q' f st) (he : ∀ st, QE st → QE' st) : WX Γ A K cls c st t Q' QE' := fun s r hx =>
  wpAny_mono (h s r hx) (fun _ _ ⟨st', fl, h1, h2, h3, h4, h5⟩ => ⟨st', fl, h1, h2, h3, hq _ _ h4, h5⟩) fun _ _ ⟨nt, y⟩ => ⟨nt, y.mono he⟩
theorem WX_nil {cls : String} {Q : Fl → St → Prop} {QE : St → Prop} (h : Q .next st) : WX Γ A K cls c st (execs [] c.env) Q QE := fun s r hx => wpAny_execs_nil ⟨st, .next, .refl, r, rfl, h, hx⟩
noncomputable def andThenX (Γ : Gx) (A : Around) (K : Prop) (cls : String) (c : Cx) (rest : List Stmt) (Q : Fl → St → Prop) (QE : St → Prop) : Fl → St → Prop
  | .next, st => WX Γ A K cls c st (execs rest c.env) Q QE
  | f, st => Q f st
theorem WX_cons {cls : String} {x : Stmt} {rest : List Stmt} {Q : Fl → St → Prop} {QE : St → Prop} (h : WX Γ A K cls c st (exec x c.env) (andThenX Γ A K cls c rest Q QE) QE) : WX Γ A K cls c st (execs (x :: rest) c.env) Q QE := fun s r hx =>
  wpAny_execs_cons (wpAny_mono (h s r hx) (fun f s1 ⟨st1, fl, m1, r1, hf, hq, hx1⟩ => by
    cases fl with
    | next =>
      cases hf
      exact wpAny_mono (hq s1 r1 hx1) (fun _ _ x => x.pre m1) fun _ _ ⟨nt, y⟩ => ⟨nt, y.pre m1⟩
    | brk => cases hf; exact ⟨st1, .brk, m1, r1, rfl, hq, hx1⟩
    | cont => cases hf; exact ⟨st1, .cont, m1, r1, rfl, hq, hx1⟩
    | ret a => obtain ⟨v, rfl, hv⟩ := hf; exact ⟨st1, .ret a, m1, r1, ⟨v, rfl, hv⟩, hq, hx1⟩) fun _ _ x => x)
theorem WX_If {cls : String} {test : Expr} {body orelse : List Stmt} {pos : Pos} {Q : Fl → St → Prop} {QE : St → Prop} (h : WB Γ c st (isTrue test c.env (eval test c.env)) fun b => (b = true → WX Γ c.A K cls c st (execs body c.env) Q QE) ∧ (b = false → WX Γ c.A K cls c st (execs orelse c.env) Q QE)) :
    WX Γ c.A K cls c st (exec (.If test body orelse pos) c.env) Q QE := fun s r hx =>
  wpAny_If (wpAny_mono (h s r) (fun b s1 ⟨k1, ht, hf⟩ => by
    cases b with
    | true => exact wpAny_mono (ht rfl s1 (r.kp k1) (hx.sub k1.heap)) (fun _ _ x => x.pre (k1.mv)) fun _ _ ⟨nt, y⟩ => ⟨nt, y.pre k1.mv⟩
    | false => exact wpAny_mono (hf rfl s1 (r.kp k1) (hx.sub k1.heap)) (fun _ _ x => x.pre (k1.mv)) fun _ _ ⟨nt, y⟩ => ⟨nt, y.pre k1.mv⟩) fun _ _ x => x.elim)

/-- l[i] of a list of texts -/
theorem x_item {l i : Str} {pl pi p : Pos} {a : AV} {ds : List Str} {n : Nat} {Q : Value → Shared → Prop} (r : R Γ c st s) (hx : Hx (own c.env) A s.heap) (hl : st.lookup l = some a) (ha : items a = some (ds.map .str)) (hi : st.lookup i = some (.D (.int (n : Nat)))) (hn : n ≤ ds.length) (hz : ds.length ≤ sizeLine)
    (h : ∀ y t, ds[n]? = some y → Q (.str y t) s) (hE : n = ds.length → ∀ h' tk e cx, (A.handled = none → cx = .none) → NewX s.heap h' e "IndexError" cx → E (.ref e) { s with heap := h', toks := tk })
    (hdl : (l == ("__debug__" : Str)) = false) (hdi : (i == ("__debug__" : Str)) = false) (hnl : (l == ("__classdict__" : Str)) = false) (hni : (i == ("__classdict__" : Str)) = false) :
    wpAny (mo Γ) A (eval (.Subscript (.Name l pl) (.Name i pi) p) c.env) Q E s := by
  have hsl : sizeLine = 2 ^ 24 := rfl
  obtain ⟨v, hb, hv⟩ := r.bound l _ hl
  obtain ⟨u, hb2, hv2⟩ := r.bound i _ hi
  obtain ⟨t, rfl⟩ := Rd.int_inv hv2
  obtain ⟨o, vs, k, rfl, h1, h2⟩ := hv.items ha
  have hlen := h2.length
  rw [Array.length_toList, List.length_map] at hlen
  refine Subscript_ (wpAny_Name (loadName_Bd r.hk hb (wpAny_Name (loadName_Bd r.hk hb2 ?_ hni) hdi) hnl) hdl)
  refine tail_any (ops := [.ref o, .int (n : Nat) t]) (plainL_isList h1).typeIs slot_list_getitem.lookup ?_ rfl
  by_cases hlt : n < ds.length
  · obtain ⟨x, hx1, hx2⟩ := h2.get n (.str ds[n]) (by simp [List.getElem?_map, List.getElem?_eq_getElem hlt])
    obtain ⟨t', rfl⟩ := hx2.str_inv
    exact wpAny_getItem_list (plainL_isList h1) (by omega) (by omega) (by simpa using hx1) (h _ t' (List.getElem?_eq_getElem hlt))
  · exact item_out hx h1 (by (clear hl ha hi hn hz h hE hdl hdi hnl hni hsl h1; omega)) (by (clear hl ha hi hn hz h hE hdl hdi hnl hni hsl h1 hlen hlt; omega)) (by (clear hl ha hi h hE hdl hdi hnl hni h1 hlen hlt; omega)) (hE (by (clear hl ha hi hz h hE hdl hdi hnl hni hsl h1 hlen; omega)))

theorem x_raise {cls : String} {QE : St → Prop} {h' : Heap} {tk : Tok} {e : Addr} {cx : Value} (r : R Γ c st s) (hV : st.all (fun p => notV p.2) = true) (hc : A.handled = none → cx = .none) (hN : NewX s.heap h' e cls cx) (q : QE st) :
    ∃ nt, XE Γ A K cls c st s QE nt (.ref e) { s with heap := h', toks := tk } :=
  ⟨false, e, st, s, cx, rfl, .refl, r, hV, Kp.kf ⟨rfl, rfl, hN.keeps⟩, fun _ => hc, hN.xc, q⟩

/-- x = l[i] -/
theorem WX_item {x l i : Str} {px pl pi p pos : Pos} {a : AV} {ds : List Str} {n : Nat} {Q : Fl → St → Prop} {QE : St → Prop} (hl : st.lookup l = some a) (ha : items a = some (ds.map .str)) (hi : st.lookup i = some (.D (.int (n : Nat)))) (hn : n ≤ ds.length) (hz : ds.length ≤ sizeLine)
    (hV : st.all (fun p => notV p.2) = true) (h : ∀ y, ds[n]? = some y → Q .next (upd st x (.D (.str y)))) (hE : n = ds.length → QE st)
    (hx : Stor c.env x := by first | exact .inl rfl | exact .inr ⟨rfl, _, rfl⟩) (hs : swapsWith (.Subscript (.Name l pl) (.Name i pi) p) (some (.Name x px)) pos.line c.env = pure false := by rfl)
    (hdl : (l == ("__debug__" : Str)) = false := by decide) (hdi : (i == ("__debug__" : Str)) = false := by decide) (hnl : (l == ("__classdict__" : Str)) = false := by decide) (hni : (i == ("__classdict__" : Str)) = false := by decide) :
    WX Γ A K "IndexError" c st (exec (.Assign [.Name x px] (.Subscript (.Name l pl) (.Name i pi) p) pos) c.env) Q QE := fun s r hh =>
  wpAny_Assign_Name (x_item r hh hl ha hi hn hz (fun y t hy => store_name r hx fun s2 hp hg ho hb hy' hf hc => by
    obtain ⟨r2, m2⟩ := r.stored (a := .D (.str y)) (Rd.str y t) rfl hp hg ho hb hy' hf hc
    obtain ⟨p', hp1, hp2, hp3⟩ := hp
    exact ⟨_, .next, m2, r2, rfl, h y hy, hh.keeps fun b o hb e => (hp3 b fun q => hb (q ▸ hp1)).trans e⟩)
    (fun hl h' tk e cx hc hN => x_raise r hV hc hN (hE hl)) hdl hdi hnl hni) hs

/-- x += 1 -/
theorem WX_incr {cls : String} {x : Str} {px p2 pos : Pos} {kk : Nat} {n : Nat} {Q : Fl → St → Prop} {QE : St → Prop} (e : st.lookup x = some (.D (.int (n : Nat)))) (h : Q .next (upd st x (.D (.int ((n + 1 : Nat) : Int)))))
    (hx : Stor c.env x := by first | exact .inl rfl | exact .inr ⟨rfl, _, rfl⟩) (hn : (x == ("__classdict__" : Str)) = false := by decide) :
    WX Γ A K cls c st (exec (.AugAssign (.Name x px) .Add (.Constant (.int 1) kk p2) pos) c.env) Q QE := fun s r hh => by
  obtain ⟨v, hb, hv⟩ := r.bound x _ e
  obtain ⟨t, rfl⟩ := Rd.int_inv hv
  refine wpAny_AugAssign_Name (loadName_Bd r.hk hb (wpAny_Constant_int (PyProof.Rows.iadd_int ?_)) hn)
  have r1 : R Γ c st { { s with toks := s.toks + 1 } with toks := s.toks + 1 + 1 } := (r.kp (Kp.toks s _)).kp (Kp.toks _ _)
  refine store_name r1 hx fun s3 hp hg ho hb hy hf hc => ?_
  obtain ⟨r3, m3⟩ := r1.stored (a := .D (.int ((n + 1 : Nat) : Int))) (by rw [Int.natCast_add]; exact Rd.int _ _) rfl hp hg ho hb hy hf hc
  obtain ⟨p', hp1, hp2, hp3⟩ := hp
  exact ⟨_, .next, ((Kp.toks s _).mv.trans (Kp.toks _ _).mv).trans m3, r3, rfl, h, hh.keeps fun b o hb e => (hp3 b fun q => hb (q ▸ hp1)).trans e⟩

/-- while l[i] == x: that is not so, or there is no l[i] -/
theorem WX_while0 {l i x : Str} {pl pi p px cp pos : Pos} {body : List Stmt} {a : AV} {ds : List Str} {n : Nat} {z : Str} {outer : List Env} {Q : Fl → St → Prop} {QE : St → Prop} (ho : c.out = some outer) (hA : A.frames = c.A.frames)
    (hl : st.lookup l = some a) (ha : items a = some (ds.map .str)) (hi : st.lookup i = some (.D (.int (n : Nat)))) (hx : st.lookup x = some (.D (.str z))) (hn : n ≤ ds.length) (hz : ds.length ≤ sizeLine)
    (hV : st.all (fun p => notV p.2) = true) (hne : ds[n]? ≠ some z) (h : n < ds.length → Q .next st) (hE : n = ds.length → QE st)
    (hdl : (l == ("__debug__" : Str)) = false := by decide) (hdi : (i == ("__debug__" : Str)) = false := by decide) (hnl : (l == ("__classdict__" : Str)) = false := by decide) (hni : (i == ("__classdict__" : Str)) = false := by decide)
    (hdx : (x == ("__debug__" : Str)) = false := by decide) (hnx : (x == ("__classdict__" : Str)) = false := by decide) :
    WX Γ A K "IndexError" c st (exec (.While (.Compare (.Subscript (.Name l pl) (.Name i pi) p) [.Eq] [.Name x px] cp) body [] pos) c.env) Q QE := fun s r hh => by
  refine wpAny_While (codeAny_whileLoop (fun _ s' => s' = s) ?_ 0 rfl)
  rintro _ s' rfl
  refine wpAny_isTrue_Compare1 (x_item r hh hl ha hi hn hz (fun y t hy => ?_) (fun hlen h' tk e cx hc hN => ?_) hdl hdi hnl hni)
  · obtain ⟨v, hb, hv⟩ := r.bound x _ hx
    obtain ⟨t', rfl⟩ := Rd.str_inv hv
    refine wpAny_Name (loadName_Bd r.hk hb (PyProof.Rows.eq_str (wpAny_truthy_bool ?_)) hnx) hdx
    have hyz : (y == z) = false := beq_eq_false_iff_ne.mpr fun q => hne (q ▸ hy)
    rw [hyz]
    simp only [Bool.false_eq_true, if_false]
    exact wpAny_execs_nil ⟨st, .next, .refl, r, rfl, h (List.getElem?_eq_some_iff.mp hy).1, hh⟩
  · obtain ⟨nt, y⟩ := x_raise (QE := QE) r hV hc hN (hE hlen)
    exact y.noted ho hA fun s'' y2 => y2.back fun s3 y3 => ⟨true, y3⟩

/-- try: .. finally: .. where the body either goes on or raises, and what is behind it does not end if it raised -/
theorem WX_TryFinally {cls : String} {body : List Stmt} {f₀ : Stmt} {fs : List Stmt} {pos : Pos} {outer : List Env} {Q1 Q : Fl → St → Prop} {QE1 QE : St → Prop} (ho : c.out = some outer)
    (hb : WX Γ c.A True cls c st (execs body c.env) (fun fl st' => fl = .next ∧ Q1 fl st') QE1)
    (h1 : ∀ st1, Q1 .next st1 → WX Γ c.A False cls c st1 (execs (f₀ :: fs) c.env) (fun fl st' => fl = .next ∧ Q fl st') QE)
    (h2 : ∀ st1 e, QE1 st1 → WX Γ (c.A.mark (some (.ref e))) False cls c st1 (execs (f₀ :: fs) c.env) (fun _ _ => False) QE) :
    WX Γ c.A False cls c st (exec (.Try body [] [] (f₀ :: fs) pos) c.env) Q QE := fun s r hh => by
  have hnone := r.rm.handled
  refine wpAny_Try_finally (wpAny_mono (hb s r hh) (fun f s1 ⟨st1, fl, m1, r1, hf, ⟨hnx, hq⟩, hx1⟩ => ?_) fun x s1 ⟨nt, y⟩ => ?_)
  · subst hnx
    cases hf
    refine wpAny_execs_nil ?_
    refine wpAny_mono (h1 st1 hq s1 r1 hx1) (fun g s2 ⟨st2, fl2, m2, r2, hf2, ⟨hnx2, q2⟩, hx2⟩ => ?_) fun x s2 ⟨nt, y⟩ => ?_
    · subst hnx2
      cases hf2
      exact ⟨st2, .next, m1.trans m2, r2, rfl, q2, hx2⟩
    · exact (y.pre m1).noted ho rfl fun s'' y2 => y2.back fun s3 y3 => ⟨true, y3⟩
  · refine y.note ho rfl fun s2 y2 => ?_
    refine ⟨by obtain ⟨e, _, _, _, rfl, _⟩ := y2; exact ref_ne_byPass e, y2.note ho rfl fun s3 y3 => y3.flight fun s4 y4 => ?_⟩
    obtain ⟨e, st1, rfl, q1, r4, m4, hV, hT, hH⟩ := y4.met
    refine wpAny_mono (h2 st1 e q1 s4 r4 (hH trivial hnone)) (fun g s5 ⟨_, _, _, _, _, hf, _⟩ => hf.elim) fun x s5 ⟨nt, y5⟩ => ?_
    exact (y5.pre m4).noted ho rfl fun s6 y6 => y6.back fun s7 y7 => ⟨true, (by
      obtain ⟨e', st', s1', cx, hh1, mm, rr, hV', k, hc, xc, q⟩ := y7
      exact ⟨e', st', s1', cx, hh1, mm, rr, hV', k, fun q => q.elim, xc, q⟩)⟩
end
end Mine
end
section
open PySem PySem.Calls PyProof.Rows
namespace Mine
section
variable {Γ : Gx} {c : Cx} {st : St} {s s0 s1 : Shared} {A : Around} {E : Value → Shared → Prop} {K : Prop}

theorem WSA_nil {Q : Fl → St → Prop} (h : Q .next st) : WSA Γ A c st (execs [] c.env) Q := fun s r => wpAny_execs_nil ⟨st, .next, .refl, r, rfl, h⟩
noncomputable def andThenA (Γ : Gx) (A : Around) (c : Cx) (rest : List Stmt) (Q : Fl → St → Prop) : Fl → St → Prop
  | .next, st => WSA Γ A c st (execs rest c.env) Q
  | f, st => Q f st
theorem WSA_cons {x : Stmt} {rest : List Stmt} {Q : Fl → St → Prop} (h : WSA Γ A c st (exec x c.env) (andThenA Γ A c rest Q)) : WSA Γ A c st (execs (x :: rest) c.env) Q := fun s r =>
  wpAny_execs_cons (wpAny_mono (h s r) (fun f s1 ⟨st1, fl, m1, r1, hf, hq⟩ => by
    cases fl with
    | next =>
      cases hf
      exact wpAny_mono (hq s1 r1) (fun _ _ x => x.pre m1) fun _ _ x => x
    | brk => cases hf; exact ⟨st1, .brk, m1, r1, rfl, hq⟩
    | cont => cases hf; exact ⟨st1, .cont, m1, r1, rfl, hq⟩
    | ret a => obtain ⟨v, rfl, hv⟩ := hf; exact ⟨st1, .ret a, m1, r1, ⟨v, rfl, hv⟩, hq⟩) fun _ _ x => x)
theorem WSA_Break {pos : Pos} {Q : Fl → St → Prop} (h : Q .brk st) : WSA Γ A c st (exec (.Break pos) c.env) Q := fun s r => wpAny_Break ⟨st, .brk, .refl, r, rfl, h⟩

/-- x.append(y), y a name -/
theorem WSA_append {x y : Str} {np yp apos pos p' : Pos} {a : Addr} {ds : List PyData} {d : PyData} {Q : Fl → St → Prop} (hl : st.lookup x = some (.M a ds)) (hy : st.lookup y = some (.D d)) (hz : ds.length ≤ sizeLine) (hV : st.all (fun p => notV p.2) = true)
    (h : Q .next (upd st x (.M a (ds ++ [d]))))
    (hbase : attributeBase (.Name x np) "append" c.env (eval (.Name x np) c.env) = eval (.Name x np) c.env := by rfl) (hs : starEach [.Name y yp] c.env = [(false, eval (.Name y yp) c.env)] := by rfl) (hline : (apos.endLine == pos.line) = true := by rfl)
    (hd : (x == ("__debug__" : Str)) = false := by decide) (hn : (x == ("__classdict__" : Str)) = false := by decide) (hd2 : (y == ("__debug__" : Str)) = false := by decide) (hn2 : (y == ("__classdict__" : Str)) = false := by decide) (hi : interactive c.env = false := by rfl)
    (hsw : swapsWith (.Call (.Attribute (.Name x np) "append" apos) [.Name y yp] [] pos) none p'.line c.env = pure false := by rfl) :
    WSA Γ A c st (exec (.Expr (.Call (.Attribute (.Name x np) "append" apos) [.Name y yp] [] pos) p') c.env) Q := fun s r => by
  obtain ⟨v, hb, rfl, vs, n, h1, h2⟩ := r.bound x _ hl
  obtain ⟨u, hb2, hv2⟩ := r.bound y _ hy
  have hlen := h2.length
  rw [Array.length_toList] at hlen
  refine wpAny_Expr_any (Call_method1 hbase hs hline (wpAny_Name (loadName_Bd r.hk hb ?_ hn) hd)) hi hsw
  refine ⟨"list", "list.append", F.plainAttrs_list, F.slot_list_append, F.type_list_append, ⟨_, h1, rfl⟩, (fun b e => by cases e; exact ⟨_, h1, rfl⟩), ?_⟩
  refine P.append_list (wpAny_Name (loadName_Bd r.hk hb2 ⟨vs, n, by omega, h1, ?_⟩ hn2) hd2)
  obtain ⟨r3, m3⟩ := r.mset (s' := { s with heap := s.heap.update a (Obj.mapSeq fun xs => xs.push u) }) (ds' := ds ++ [d]) hl hV (fun b hb => Heap.get?_update_other _ _ (Ne.symm hb)) (IsL.update h1 _)
    (by rw [Array.toList_push]; exact RdL.append h2 (.one hv2)) rfl rfl
  exact ⟨_, .next, m3, r3, rfl, h⟩

theorem slice_listA {a : AV} {ds : List PyData} {u vl vu vs : Value} {lo hi sp : Option Int} (r : R Γ c st s) (ha : VR Γ (fz s.heap (Hd c st)) s.heap a u) (e : items a = some ds) (hz : ds.length ≤ sizeLine)
    (pl : IsPart vl lo) (pu : IsPart vu hi) (ps : IsPart vs sp) (h0 : sp ≠ some 0) :
    let s2 : Shared := { s with heap := s.heap.push { cls := .type "slice", data := .fields #[vl, vu, vs] } }
    s2.TypeIs u "list" ∧ wpAny (mo Γ) A (getItem u (.ref s.heap.objs.size)) (fun x s' => Kp s s' ∧ Rd (fz s'.heap (Hd c st)) x (.list (dpick ds lo hi sp))) (fun _ _ => False) s2 := by
  intro s2
  obtain ⟨l, its, n, rfl, h1, h2⟩ := ha.items e
  have hl := h2.length
  rw [Array.length_toList] at hl
  have h1' : s2.heap.get? l = some (plainL its n) := Heap.get?_push_of_some _ h1
  have k : Kp s s2 := Kp.new s _
  refine ⟨(plainL_isList h1').typeIs, wpAny_getItem_list_slice (plainL_isList h1') ⟨_, Heap.get?_push_size _ rfl, rfl, rfl⟩ pl pu ps h0 ⟨k.trans (Kp.new s2 _), ?_⟩ (by rw [hl]; exact hz)⟩
  have h2' : RdL (fz s2.heap (Hd c st)) its.toList ds := RdL.mono (fz_keep k.heap) h2
  have := h2'.pick (sliceRange (sliceBounds lo hi sp ds.length).1 (sliceBounds lo hi sp ds.length).2.1 (sliceBounds lo hi sp ds.length).2.2)
  have e2 : slicePick its lo hi sp = ((sliceRange (sliceBounds lo hi sp ds.length).1 (sliceBounds lo hi sp ds.length).2.1 (sliceBounds lo hi sp ds.length).2.2).filterMap (its.toList[·]?)).toArray := by
    unfold slicePick; rw [hl]; simp
  rw [e2]
  exact Rd.new_list (r.kp k).low' this
/-- x.extend(l[i:]) -/
theorem WSA_extend {x l i : Str} {np lp ip apos sp sp2 pos p' : Pos} {a : Addr} {b : AV} {ds es : List PyData} {n : Nat} {Q : Fl → St → Prop} (hl : st.lookup x = some (.M a ds)) (hb : st.lookup l = some b) (he : items b = some es) (hi : st.lookup i = some (.D (.int (n : Nat)))) (hn' : n ≤ es.length)
    (hz : ds.length + es.length ≤ 1000) (hV : st.all (fun p => notV p.2) = true)
    (h : Q .next (upd st x (.M a (ds ++ dpick es (some (n : Nat)) none none)))) (hpl : (dpick es (some (n : Nat)) none none).length ≤ es.length)
    (hbase : attributeBase (.Name x np) "extend" c.env (eval (.Name x np) c.env) = eval (.Name x np) c.env := by rfl) (hs : starEach [.Subscript (.Name l lp) (.Slice (some (.Name i ip)) none none sp) sp2] c.env = [(false, eval (.Subscript (.Name l lp) (.Slice (some (.Name i ip)) none none sp) sp2) c.env)] := by rfl) (hline : (apos.endLine == pos.line) = true := by rfl)
    (ht : ∀ o r, letTemporaryGo (.Name l lp) o r = pure () := by intro _ _; rfl)
    (hd : (x == ("__debug__" : Str)) = false := by decide) (hn : (x == ("__classdict__" : Str)) = false := by decide) (hd2 : (l == ("__debug__" : Str)) = false := by decide) (hn2 : (l == ("__classdict__" : Str)) = false := by decide)
    (hd3 : (i == ("__debug__" : Str)) = false := by decide) (hn3 : (i == ("__classdict__" : Str)) = false := by decide) (hit : interactive c.env = false := by rfl)
    (hsw : swapsWith (.Call (.Attribute (.Name x np) "extend" apos) [.Subscript (.Name l lp) (.Slice (some (.Name i ip)) none none sp) sp2] [] pos) none p'.line c.env = pure false := by rfl) :
    WSA Γ A c st (exec (.Expr (.Call (.Attribute (.Name x np) "extend" apos) [.Subscript (.Name l lp) (.Slice (some (.Name i ip)) none none sp) sp2] [] pos) p') c.env) Q := fun s r => by
  have hsl : sizeLine = 2 ^ 24 := rfl
  obtain ⟨v, hbx, rfl, vs, nn, h1, h2⟩ := r.bound x _ hl
  obtain ⟨u, hbl, hvl⟩ := r.bound l _ hb
  obtain ⟨z, hbi, hvi⟩ := r.bound i _ hi
  obtain ⟨t, rfl⟩ := Rd.int_inv hvi
  have hlen := h2.length
  rw [Array.length_toList] at hlen
  refine wpAny_Expr_any (Call_method1 hbase hs hline (wpAny_Name (loadName_Bd r.hk hbx ?_ hn) hd)) hit hsw
  refine ⟨"list", "list.extend", F.plainAttrs_list, F.slot_list_extend, F.type_list_extend, ⟨_, h1, rfl⟩, (fun b e => by cases e; exact ⟨_, h1, rfl⟩), ?_⟩
  refine P.extend_list (wpAny_Subscript_Slice (T := "list") slot_list_getitem.lookup (wpAny_Name (loadName_Bd r.hk hbl (wpAny_Slice (wpAny_Name (loadName_Bd r.hk hbi ?_ hn3) hd3)) hn2) hd2) ht)
  rw [evalPart_none]
  refine wpAny_pure (wpAny_pure ?_)
  have sl := slice_listA (A := A) (vl := .int (n : Nat) t) (vu := .none) (vs := .none) (lo := some (n : Nat)) (hi := none) (sp := none) r hvl he (by (clear hl hb he hi hn' hV hpl hbase hs hline ht hd hn hd2 hn2 hd3 hn3 hit hsw h1 hlen; omega)) (.int (n : Nat) t) .none .none (by simp)
  refine ⟨sl.1, wpAny_mono sl.2 (fun y s3 ⟨k3, rd⟩ => ?_) fun _ _ x => x.elim⟩
  obtain ⟨o, its, k, rfl, g1, g2⟩ := Rd.list_inv rd
  have hlen2 := g2.length
  rw [Array.length_toList] at hlen2
  have h1' := k3.heap _ _ h1
  have r3 := r.kp k3
  refine ⟨o, vs, its, nn, k, by (clear hl hb he hi hn' hV hpl hbase hs hline ht hd hn hd2 hn2 hd3 hn3 hit hsw h1 sl g1 hlen2 h1'; omega), by omega, extend_door (by omega), rfl, h1', fz_sub _ _ _ _ g1, ?_⟩
  obtain ⟨r4, m4⟩ := r3.mset (s' := { s3 with heap := s3.heap.update a (Obj.mapSeq fun xs => xs ++ its) }) (ds' := ds ++ dpick es (some (n : Nat)) none none) hl hV (fun b hb => Heap.get?_update_other _ _ (Ne.symm hb)) (IsL.update h1' _)
    (by rw [Array.toList_append]; exact RdL.append (RdL.mono (fz_keep k3.heap) h2) g2) rfl rfl
  exact ⟨_, .next, k3.mv.trans m4, r4, rfl, h⟩

/-- try: .. except X: .. -/
theorem WS_TryExcept {cls : String} {X : Str} {xp pos hpos : Pos} {body suite : List Stmt} {b₀ : Stmt} {outer : List Env} {Q : Fl → St → Prop} {QE : St → Prop} (ho : c.out = some outer) (hbi : BI X (.type cls))
    (hexc : isSubtype (.type cls) (.type "BaseException") = pure true) (hnt : isSubtype (.type ((Manifest.find? cls).elim "type" fun x => x.metatype)) (.type "tuple") = pure false) (hself : isSubtype (.type cls) (.type cls) = pure true)
    (hb : WX Γ c.A K cls c st (execs body c.env) Q QE)
    (hh : ∀ st1 e, QE st1 → WSA Γ (c.A.mark (some (.ref e))) c st1 (execs (b₀ :: suite) c.env) Q)
    (hx : c.env.kindOf X = some .globalImplicit := by rfl) :
    WS Γ c st (exec (.Try body [.ExceptHandler (some (.Name X xp)) none (b₀ :: suite) hpos] [] [] pos) c.env) Q := fun s r => by
  refine wpAny_Try_except (wpAny_mono (hb s r (.inl r.rm.handled)) (fun f s1 ⟨st1, fl, m1, r1, hf, hq, hx1⟩ => ?_) fun x s1 ⟨nt, y⟩ => ?_)
  · cases fl with
    | next => cases hf; exact wpAny_execs_nil ⟨st1, .next, m1, r1, rfl, hq⟩
    | brk => cases hf; exact ⟨st1, .brk, m1, r1, rfl, hq⟩
    | cont => cases hf; exact ⟨st1, .cont, m1, r1, rfl, hq⟩
    | ret a => obtain ⟨v, rfl, hv⟩ := hf; exact ⟨st1, .ret a, m1, r1, ⟨v, rfl, hv⟩, hq⟩
  · refine y.note ho rfl fun s2 y2 => y2.flight fun s3 y3 => ?_
    obtain ⟨e, st3, rfl, q3, r3, m3, hV, hT, _⟩ := y3.met
    refine wpAny_handleBy_builtin hexc hnt hself (name_builtin r3 hx (r3.gd.free X hbi.mem) hbi.boot hbi.ne hbi.nd ⟨rfl, hT, ?_⟩)
    simp only [if_true]
    refine y3.flight fun s4 y4 => ?_
    obtain ⟨e', st4, he', q4, r4, m4, hV4, _⟩ := y4.met
    cases he'
    exact wpAny_mono (hh st4 e q4 s4 r4) (fun f s5 ⟨st5, fl, m5, r5, hf, hq⟩ => ⟨st5, fl, m4.trans m5, r5, hf, hq⟩) fun _ _ x => x.elim
end
end Mine
end
section
open PySem PySem.Calls PyProof.Rows
namespace Mine
/-- what a call may turn: the slots of the frames further out -/
structure KpS (outer : List Env) (s s' : Shared) : Prop where
  gens : s'.gens = s.gens
  os : s'.os = s.os
  heap : ∀ b o, s.heap.get? b = some o → Sl (b ∈ outer.filterMap (·.frame)) o s'.heap b
/-- the contract of a def that raises within itself -/
noncomputable def ConS (Γ : Gx) (n : Nat) (f : Str) (args : List AV) (res : AV) : Prop :=
  ∀ (A : Around) (X : Addr → Prop) (B : Heap) (outer : List Env) (s : Shared) (fa : Addr) (vs : List Value), Rm n A → A.frames = some outer → Gd Γ B → Sub B s.heap → s.heap.FunFrames B outer → (∀ b ∈ outer.filterMap (·.frame), X b) →
    Tab Γ (fz s.heap X) → s.gens = #[] → (∀ a, X a → ∃ o, s.heap.get? a = some o) → Γ.mg f = some (.ref fa) →
    VRL Γ (fz s.heap X) s.heap args vs → wpAny (mo Γ) A (call (.ref fa) vs) (fun v s' => KpS outer s s' ∧ VR Γ (fz s'.heap X) s'.heap res v) (fun _ _ => False) s
section
variable {Γ : Gx} {c : Cx} {st : St} {s s0 s1 : Shared} {A : Around} {E : Value → Shared → Prop} {K : Prop}

theorem con_fnS {n : Nat} {f : Str} {args : List AV} {res : AV} {j : Nat} {params : Arguments} {body : List Stmt} {scope : Scope} {pos : Pos} (names : List Str)
    (hd : (recsOf PySem.Challenge.pw_pd0153_01)[j]? = some ⟨f, params, body, scope, pos⟩)
    (hlen : args.length = names.length) (hnoM : args.all noM = true) (hres : noM res = true)
    (hbind : ∀ (pm cd doc : Value) (vs : List Value), vs.length = names.length → bindArgs (docDef f params body scope pm cd doc) ⟨vs, []⟩ = pure (names.zip vs))
    (hkind : (names.all fun x => scope.names.lookup x == some .local || scope.names.lookup x == some .cell) = true) (hnd : names.Nodup)
    (hb : ∀ (κ : Fr) (outer : List Env), WS Γ (κ.cx scope n (some outer)) (names.zip args) (execs body (κ.cx scope n (some outer)).env) fun fl st' => fl = .ret res)
    (hco : scope.isCoroutine = false) (hgen : scope.isGenerator = false) (hk : scope.kind = .function) : ConS Γ (n + 1) f args res := by
  intro A X B outer s fa vs rm hfr gdB hB hff hfX htab hgens hX hfa hv
  have gd := gdB.mono hB
  obtain ⟨a, o, pm, code, doc, h1, h2, h3, h4⟩ := gd.fn _ (List.mem_of_getElem? hd)
  simp only at h1 h3 h4
  rw [h1] at hfa
  obtain rfl : a = fa := by cases hfa; rfl
  have hvl : vs.length = names.length := hv.length.trans hlen
  have hzk := zip_keys names vs hvl
  refine wpAny_call (codeAny_call_cells (fd := docDef f params body scope pm code doc) (binds := names.zip vs) (by have := rm.depth; have : recursionLimit = 1000 := rfl; (clear hd hlen hnoM hres hbind hkind hb hco hgen hk hfr hfX hgens hX h1 h2 h3 hfa hvl hzk; omega)) h2 h3 gd.nolimit h4 rfl (hbind pm code doc vs hvl) rfl ?_ ?_ hco hgen hk)
  · intro x hx
    have hm : x.1 ∈ names := by rw [← hzk]; exact List.mem_map_of_mem (f := (·.1)) hx
    have := List.all_eq_true.mp hkind _ hm
    rcases Bool.or_eq_true_iff.mp this with q | q
    · exact .inl (beq_iff_eq.mp q)
    · have q := beq_iff_eq.mp q
      exact .inr ⟨q, cellsFrom_lookup _ _ _ (.inl (mem_of_lookup q))⟩
  intro s₁ I
  have he : callEnvC (docDef f params body scope pm code doc) s.heap.objs.size a = fnEnv scope s.heap.objs.size (f ++ ".<locals>.") a code := rfl
  rw [he] at I ⊢
  generalize hL : s.heap.objs.size = L at I ⊢
  generalize hq : (f ++ ".<locals>." : Str) = q at I ⊢
  obtain ⟨I1, I2, I3, I4⟩ := I
  obtain ⟨⟨h₁, tk, rfl⟩, ns, keep, fresh⟩ := I1
  let env : Env := fnEnv scope L q a code
  let κ : Fr := ⟨L, a, q, code, fun b => X b ∨ own env b, B, A.deeper env, s.os⟩
  let c : Cx := κ.cx scope n (some outer)
  have ownNew : ∀ b, own env b → s.heap.get? b = none := by
    intro b hb
    have hge : s.heap.objs.size ≤ b := by
      rcases hb with e | ⟨x, e⟩
      · rw [e, hL]; exact Nat.le_refl _
      · rw [hL]; exact Nat.le_of_lt (I4 x b (mem_of_lookup e))
    cases e : s.heap.get? b with
    | none => rfl
    | some o => exact absurd (Heap.lt_size e) (Nat.not_lt.mpr hge)
  have stM : ∀ x b ds, (x, AV.M b ds) ∉ names.zip args := fun x b ds h => by
    have := List.all_eq_true.mp hnoM _ (List.of_mem_zip h).2
    cases this
  have stV : ∀ x b ds, (x, AV.V b ds) ∉ names.zip args := fun x b ds h => by
    have := List.all_eq_true.mp hnoM _ (List.of_mem_zip h).2
    cases this
  have hHd : ∀ b, Hd c (names.zip args) b → X b ∨ own env b := by
    rintro b (h | ⟨x, ds, h⟩)
    · exact h
    · exact absurd h (stM x b ds)
  have sub : Sub (fz s.heap X) (fz h₁ (Hd c (names.zip args))) := fz_mono fun b o hx e => ⟨fun h => (hHd b h).elim hx fun h => (by rw [ownNew b h] at e; cases e), keep b o e⟩
  have r : R Γ c (names.zip args) { s with heap := h₁, toks := tk } := {
    gd := gdB
    keep := hB.trans keep
    rm := ⟨rm.handled, by have := rm.depth; show A.depth + 1 + n ≤ 900; (clear hd hlen hnoM hres hbind hkind hb hco hgen hk hfr hfX hgens hX h1 h2 h3 hfa hvl hzk he hL hq I4 fresh I2 keep ownNew stM stV hHd; omega), by have := rm.units; show A.units + 3 + 4 * n ≤ 4000; (clear hd hlen hnoM hres hbind hkind hb hco hgen hk hfr hfX hgens hX h1 h2 h3 hfa hvl hzk he hL hq I4 fresh I2 keep ownNew stM stV hHd; omega)⟩
    gens := hgens
    os := rfl
    hk := hk
    glob := rfl
    bns := rfl
    frame := ⟨_, ns⟩
    cells := fun x b e => ⟨_, I2 x b e⟩
    ownH := fun b h => .inr h
    ownB := fun b h => by
      cases e : B.get? b with
      | none => rfl
      | some o => have := hB b o e; rw [ownNew b h] at this; cases this
    apart := I3
    apartL := fun x b h => Nat.ne_of_gt (I4 x b h)
    low := fun b h => by
      rcases h with h | h | ⟨x, e⟩
      · obtain ⟨o, e⟩ := hX b h
        exact ⟨o, keep b o e⟩
      · obtain ⟨o, _, _, e, _⟩ := ns
        exact ⟨o, h ▸ e⟩
      · obtain ⟨o, e, _⟩ := I2 x b e
        exact ⟨o, e⟩
    tab := htab.mono sub
    fo := fun l e => by
      cases e
      refine ⟨Around.frames_deeper hfr, rfl, funFrames_keeps (fun b _ o ho => ⟨o, keep b o ho, rfl⟩) hff, fun b hb => ⟨.inl (hfX b hb), fun ho => ?_⟩⟩
      obtain ⟨o, e⟩ := hX b (hfX b hb)
      rw [ownNew b ho] at e; cases e
    bound := fun x av e => by
      obtain ⟨v, hm, hv'⟩ := hv.zip e hnd
      refine ⟨v, ?_, VR.noM_mono (List.all_eq_true.mp hnoM _ (List.of_mem_zip (mem_of_lookup e)).2) hv' sub⟩
      have hnm : x ∈ names := (List.of_mem_zip hm).1
      have hnd' : ((names.zip vs).map (·.1)).Nodup := by rw [hzk]; exact hnd
      rcases Bool.or_eq_true_iff.mp (List.all_eq_true.mp hkind _ hnm) with q | q
      · have q := beq_iff_eq.mp q
        exact .inl ⟨q, _, ns, bindL_get _ _ x v hnd' hm q⟩
      · have q := beq_iff_eq.mp q
        obtain ⟨b, hb⟩ := Option.isSome_iff_exists.mp (cellsFrom_lookup (x := x) scope.names (L + 1) [] (.inl (mem_of_lookup q)))
        refine .inr ⟨.inl q, b, hb, ?_⟩
        have := I2 x b hb
        rw [bindC_get _ _ x v hnd' hm q] at this
        exact this
    keys := by rw [zip_keys names args hlen]; exact hnd
    mHid := fun x b ds h => absurd h (stM x b ds)
    vOwn := fun x b ds h => absurd h (stV x b ds)
    mBase := fun x b ds h => absurd h (stM x b ds)
    mApart := fun x y b ds es h _ => absurd h (stM x b ds) }
  refine wpAny_mono (hb κ outer _ r) (fun fl s' ⟨st', fl', mv, r', hfl, e⟩ => ?_) fun _ _ x => x.elim
  subst e
  obtain ⟨v, rfl, hv'⟩ := hfl
  refine ⟨⟨r'.gens.trans hgens.symm, r'.os, fun b o e => ?_⟩, VR.noM_mono hres hv' (fz_mono fun b o hx e => ⟨fun h => hx (.inl (.inl h)), e⟩)⟩
  have e1 := keep b o e
  have hno : ¬ own env b := fun h => by rw [ownNew b h] at e; cases e
  by_cases hx : X b
  · obtain ⟨sl, e2, h⟩ := mv.hid b o (.inl hx) hno e1
    exact ⟨sl, e2, fun hn => h fun ⟨l, hl, hm⟩ => hn (by cases hl; exact hm)⟩
  · exact .exact (fz_some.mp (mv.sub b o (fz_some.mpr ⟨fun h => (hHd b h).elim hx hno, e1⟩))).2

inductive WESp (Γ : Gx) (c : Cx) (st : St) (Q : AV → Prop) (s : Shared) (v : Value) (s' : Shared) : Prop
  | mk (r : R Γ c st s') (m : Mv c st s st s') (av : AV) (hv : VR Γ (fz s'.heap (Hd c st)) s'.heap av v) (q : Q av)
/-- an expression within which frames' slots may turn -/
noncomputable def WES (Γ : Gx) (c : Cx) (st : St) (t : Sem Value) (Q : AV → Prop) : Prop :=
  ∀ s, R Γ c st s → wpAny (mo Γ) c.A t (WESp Γ c st Q s) (fun _ _ => False) s
theorem WES_of {t : Sem Value} {Q : AV → Prop} (h : WE Γ c st t Q) : WES Γ c st t Q := fun s r =>
  wpAny_mono (h s r) (fun _ _ ⟨k, av, h1, h2⟩ => ⟨r.kp k, k.mv, av, h1, h2⟩) fun _ _ x => x
theorem WES_callS {f : Str} {np pos : Pos} {e : Expr} {rest : List Expr} {n : Nat} {outer : List Env} {Q : AV → Prop} (ho : c.out = some outer) (hf : isFn f) (hV : st.all (fun p => notV p.2) = true)
    (h : WA Γ c st (spliced (backTo pos (starEach (e :: rest) c.env))) (Kn (ConS Γ n f) Q)) (hn : n ≤ c.n)
    (hx : c.env.kindOf f = some .globalImplicit := by rfl) (hd : (f == ("__debug__" : Str)) = false := by decide)
    (he : starEach (e :: rest) c.env = (false, eval e c.env) :: starEach rest c.env := by rfl)
    (hcall : eval (.Call (.Name f np) (e :: rest) [] pos) c.env = (do callWith pos (← eval (.Name f np) c.env) [] (backTo pos (starEach (e :: rest) c.env)) (backToKw pos (keywordEach [] c.env))) := by rfl) :
    WES Γ c st (eval (.Call (.Name f np) (e :: rest) [] pos) c.env) Q := fun s r => by
  obtain ⟨a, o, fd, h1, h2, h3⟩ := r.gdH.fnAt hf
  refine Call_ (name_global r hx h1 hd (callWith_def h3 (wpAny_mono (h s r) (fun vs s1 ⟨k1, avs, va, z, hz, q⟩ => ⟨k1.heap _ _ h2, ?_⟩) fun _ _ x => x) he)) hcall
  have r1 := r.kp k1
  obtain ⟨f1, f2, f3, f4⟩ := r1.fo outer ho
  refine wpAny_mono (hz c.A (Hd c st) c.base (c.env :: outer) s1 a vs (r1.rm.le hn) f1 r1.gd r1.keep (r1.ffs ho Kf.refl) (fun b hb => ?_) r1.tab r1.gens r1.low2 h1 va) (fun v s2 ⟨k2, vz⟩ => ?_) fun _ _ x => x
  · rw [List.filterMap_cons, f2] at hb
    rcases List.mem_cons.mp hb with e | hb
    · exact .inl (r1.ownH b (.inl e))
    · exact .inl (f4 b hb).1
  · have kf : Kf c s1 s2 := ⟨k2.gens, k2.os, fun b o e => by
      obtain ⟨sl, e2, hh⟩ := k2.heap b o e
      refine ⟨sl, e2, fun hn => hh fun hb => ?_⟩
      rw [List.filterMap_cons, f2] at hb
      rcases List.mem_cons.mp hb with e | hb
      · exact hn (.inr e)
      · exact hn (.inl ⟨outer, ho, hb⟩)⟩
    obtain ⟨r2, m2⟩ := r1.kf kf hV
    exact ⟨r2, k1.mv.trans m2, z, vz, q⟩

theorem WS_AssignS {x : Str} {px pos : Pos} {value : Expr} {Q : Fl → St → Prop} (h : WES Γ c st (eval value c.env) (KSt st x Q))
    (hx : Stor c.env x := by first | exact .inl rfl | exact .inr ⟨rfl, _, rfl⟩) (hs : swapsWith value (some (.Name x px)) pos.line c.env = pure false := by rfl) :
    WS Γ c st (exec (.Assign [.Name x px] value pos) c.env) Q := fun s r =>
  wpAny_Assign_Name (wpAny_mono (h s r) (fun v s1 ⟨r1, m1, a, va, hm, q⟩ => store_name r1 hx fun s2 hp hg ho hb hy hf hc => by
    obtain ⟨r2, m2⟩ := r1.stored va hm hp hg ho hb hy hf hc
    exact ⟨_, .next, m1.trans m2, r2, rfl, q⟩) fun _ _ x => x) hs
theorem WS_ReturnS {e : Expr} {pos : Pos} {Q : Fl → St → Prop} (h : WES Γ c st (eval e c.env) (KRet st Q)) : WS Γ c st (exec (.Return (some e) pos) c.env) Q := fun s r =>
  wpAny_Return_some (wpAny_mono (h s r) (fun v s1 ⟨r1, m1, a, va, q⟩ => ⟨st, .ret a, m1, r1, ⟨v, rfl, va⟩, q⟩) fun _ _ x => x)
theorem WES_And {e₁ e₂ : Expr} {rest : List Expr} {pos} {Q : AV → Prop} (h : WES Γ c st (eval e₁ c.env) fun a => ∃ b, a = .D (.bool b) ∧ (b = true → WES Γ c st (eval (.BoolOp .And (e₂ :: rest) pos) c.env) Q) ∧ (b = false → Q a)) :
    WES Γ c st (eval (.BoolOp .And (e₁ :: e₂ :: rest) pos) c.env) Q := fun s R =>
  BoolOp_and (wpAny_mono (h s R) (fun v s1 ⟨r1, m1, a, va, b, hb, ht, hf⟩ => by
    subst hb
    rw [Rd.bool_inv va]
    refine wpAny_truthy_bool ?_
    cases b with
    | true => exact wpAny_mono (ht rfl s1 r1) (fun _ _ ⟨r2, m2, av2, hv2, q⟩ => ⟨r2, m1.trans m2, av2, hv2, q⟩) fun _ _ x => x
    | false => exact ⟨r1, m1, .D (.bool false), Rd.bool _, hf rfl⟩) fun _ _ x => x)
theorem WES_one {e : Expr} {op pos} {Q : AV → Prop} (h : WES Γ c st (eval e c.env) Q) : WES Γ c st (eval (.BoolOp op [e] pos) c.env) Q := fun s R => BoolOp_one (h s R)
theorem WES_Compare {l r : Expr} {op : CmpOp} {pos} {Q : AV → Prop} (h : WES Γ c st (eval l c.env) fun a => noM a = true ∧ K2B Γ c st r (Cmp op) Q a)
    (hm : behindInMarks op r = false := by with_unfolding_all rfl) : WES Γ c st (eval (.Compare l [op] [r] pos) c.env) Q := fun s R =>
  wpAny_Compare1 (wpAny_mono (h s R) (fun _ s1 ⟨r1, m1, _, va, hnm, ha⟩ => wpAny_mono (ha s1 r1) (fun _ _ ⟨k2, _, vb, z, hz, hq⟩ =>
    wpAny_mono (cmp_sound hz (r1.kp k2) (va.mono (fz_keep k2.heap) k2.heap) vb) (fun _ _ ⟨k3, vz⟩ => ⟨(r1.kp k2).kp k3, m1.trans (k2.trans k3).mv, .D (.bool z), vz ▸ Rd.bool z, hq⟩) fun _ _ x => x) fun _ _ x => x) fun _ _ x => x) hm

/-! x, y, .. = a tuple -/
noncomputable def updL : St → List (Str × Pos) → List PyData → St
  | st, p :: ps, d :: ds => updL (upd st p.1 (.D d)) ps ds
  | st, _, _ => st
theorem assign_names : ∀ (tg : List (Str × Pos)) (vs : List Value) (ds : List PyData) (st : St) (s : Shared) (Q : Unit → Shared → Prop), RdL (fz s.heap (Hd c st)) vs ds → tg.length = ds.length → (∀ p ∈ tg, Stor c.env p.1) → R Γ c st s →
    (∀ s', R Γ c (updL st tg ds) s' → Mv c st s (updL st tg ds) s' → Q () s') → wpAny (mo Γ) A (assignInOrder (tg.map fun p => assign (.Name p.1 p.2) c.env) vs) Q E s
  | [], vs, ds, st, s, Q, hr, hl, hs, r, h => by
    have : ds = [] := List.eq_nil_of_length_eq_zero hl.symm
    subst this
    rw [hr.nil_inv]
    unfold assignInOrder
    exact wpAny_pure (h s r .refl)
  | p :: ps, vs, [], st, s, Q, hr, hl, hs, r, h => by simp at hl
  | p :: ps, vs, d :: ds, st, s, Q, hr, hl, hs, r, h => by
    obtain ⟨v, vs', rfl, h1, h2⟩ := hr.cons_inv'
    rw [List.map_cons]
    unfold assignInOrder
    refine wpAny_bind (wpAny_holding (wpAny_assign_Name (store_name r (hs p (.head _)) fun s2 hp hg ho hb hy hf hc => ?_)))
    obtain ⟨r2, m2⟩ := r.stored (a := .D d) h1 rfl hp hg ho hb hy hf hc
    exact assign_names ps vs' ds _ s2 Q (RdL.mono m2.sub h2) (by simpa using hl) (fun q hq => hs q (.tail _ hq)) r2 fun s' r' m' => h s' r' (m2.trans m')
theorem WS_AssignTup (tg : List (Str × Pos)) {k : Nat} {tpos pos : Pos} {value : Expr} {Q : Fl → St → Prop} (h : WES Γ c st (eval value c.env) fun a => ∃ ds, a = .D (.tuple ds) ∧ tg.length = ds.length ∧ Q .next (updL st tg ds))
    (hs : ∀ p ∈ tg, Stor c.env p.1) (hae : assignEach (tg.map fun p => .Name p.1 p.2) c.env = tg.map fun p => (false, assign (.Name p.1 p.2) c.env))
    (hs1 : swapsWithSole [.Tuple (tg.map fun p => .Name p.1 p.2) k tpos] value pos.line c.env = pure false) (hw : swappedStores [.Tuple (tg.map fun p => .Name p.1 p.2) k tpos] value c.env = pure none) :
    WS Γ c st (exec (.Assign [.Tuple (tg.map fun p => .Name p.1 p.2) k tpos] value pos) c.env) Q := fun s r =>
  Assign_Tuple (wpAny_mono (h s r) (fun v s1 ⟨r1, m1, a, va, ds, ea, hl, q⟩ => by
    subst ea
    obtain ⟨l, vs, n, rfl, h1, h2⟩ := Rd.tuple_inv va
    have hlen := h2.length
    rw [Array.length_toList] at hlen
    refine assign_Tuple_tuple r1.rm.handled (plainT_isTup (fz_sub _ _ _ _ h1)) ?_ ?_ fun h' hext => ?_
    · rw [hae, List.length_map]; omega
    · rw [hae, List.findIdx?_map, List.findIdx?_eq_none_iff]; intro _ _; rfl
    · have k2 : Kp s1 { s1 with heap := h' } := ⟨rfl, rfl, fun b o e => hext b o (Nat.ne_of_lt (Heap.lt_size e)) e⟩
      rw [hae, List.map_map]
      exact assign_names tg vs.toList ds st _ _ (RdL.mono (fz_keep k2.heap) h2) hl hs (r1.kp k2) fun s' r' m' => ⟨_, .next, m1.trans (k2.mv.trans m'), r', rfl, q⟩) fun _ _ x => x) hs1 hw
end
end Mine
end
section
open PySem PySem.Calls PyProof.Rows
namespace Mine
/-! sorted_list_difference, of a rising list and a part of it -/
noncomputable def ltS (a b : Str) : Prop := a.cps.toList < b.cps.toList
noncomputable def sldSt (ex ac : List Str) (i j : Nat) (a1 a2 : Addr) (ms : List Str) : St :=
  [("expected", .D (.list (ex.map .str))), ("actual", .D (.list (ac.map .str))), ("i", .D (.int (i : Nat))), ("j", .D (.int (j : Nat))), ("missing", .M a1 (ms.map .str)), ("unexpected", .M a2 [])]
/-- the pair of places between two turns -/
noncomputable def sldAt (ex : List Str) (p : Str → Bool) (i j : Nat) (ms : List Str) : Prop := i ≤ ex.length ∧ j = ((ex.take i).filter p).length ∧ ms = (ex.take i).filter fun x => !p x
/-- where the walk ends -/
noncomputable def sldEnd (ex : List Str) (p : Str → Bool) (i j : Nat) (ms : List Str) : Prop := i ≤ ex.length ∧ j = (ex.filter p).length ∧ ms ++ ex.drop i = ex.filter fun x => !p x
theorem sld_split (ex : List Str) (p : Str → Bool) (i : Nat) : ex.filter p = (ex.take i).filter p ++ (ex.drop i).filter p := by
  rw [← List.filter_append, List.take_append_drop]
theorem sldAt.le {ex : List Str} {p : Str → Bool} {i j : Nat} {ms : List Str} (h : sldAt ex p i j ms) : j ≤ (ex.filter p).length := by
  rw [sld_split ex p i, List.length_append, ← h.2.1]; exact Nat.le_add_right _ _
theorem sldAt.rest {ex : List Str} {p : Str → Bool} {i j : Nat} {ms : List Str} (h : sldAt ex p i j ms) : (ex.filter p).drop j = (ex.drop i).filter p := by
  rw [sld_split ex p i, h.2.1, List.drop_left']; rfl
theorem sldAt.ends {ex : List Str} {p : Str → Bool} {i j : Nat} {ms : List Str} (h : sldAt ex p i j ms) (hj : j = (ex.filter p).length) : sldEnd ex p i j ms := by
  refine ⟨h.1, hj, ?_⟩
  have h0 := h.rest
  rw [hj, List.drop_length] at h0
  have h1 : (ex.drop i).filter (fun x => !p x) = ex.drop i := by
    rw [List.filter_eq_self]
    intro x hx
    have := List.filter_eq_nil_iff.mp h0.symm x hx
    simpa using this
  rw [sld_split ex (fun x => !p x) i, h.2.2, h1]
theorem sldAt.done {ex : List Str} {p : Str → Bool} {i j : Nat} {ms : List Str} (h : sldAt ex p i j ms) (hi : i = ex.length) : sldEnd ex p i j ms := by
  refine h.ends ?_
  rw [h.2.1, hi, List.take_length]
theorem sldAt.miss {ex : List Str} {p : Str → Bool} {i j : Nat} {ms : List Str} {e : Str} (h : sldAt ex p i j ms) (he : ex[i]? = some e) (hp : p e = false) : sldAt ex p (i + 1) j (ms ++ [e]) := by
  obtain ⟨hi, e'⟩ := List.getElem?_eq_some_iff.mp he
  have ht : ex.take (i + 1) = ex.take i ++ [e] := by rw [List.take_succ_eq_append_getElem hi, e']
  refine ⟨hi, ?_, ?_⟩
  · rw [ht, List.filter_append, List.filter_cons_of_neg (by simp [hp]), List.filter_nil, List.append_nil]; exact h.2.1
  · rw [ht, List.filter_append, List.filter_cons_of_pos (by simp [hp]), List.filter_nil, h.2.2]
theorem sldAt.hit {ex : List Str} {p : Str → Bool} {i j : Nat} {ms : List Str} {e : Str} (h : sldAt ex p i j ms) (he : ex[i]? = some e) (hp : p e = true) : sldAt ex p (i + 1) (j + 1) ms := by
  obtain ⟨hi, e'⟩ := List.getElem?_eq_some_iff.mp he
  have ht : ex.take (i + 1) = ex.take i ++ [e] := by rw [List.take_succ_eq_append_getElem hi, e']
  refine ⟨hi, ?_, ?_⟩
  · rw [ht, List.filter_append, List.filter_cons_of_pos (by simp [hp]), List.filter_nil, List.length_append, ← h.2.1]; rfl
  · rw [ht, List.filter_append, List.filter_cons_of_neg (by simp [hp]), List.filter_nil, List.append_nil]; exact h.2.2
theorem ltS_ne {a b : Str} (h : ltS a b) : a ≠ b := fun e => by subst e; exact List.lt_irrefl _ h
theorem pw_next {ex : List Str} (hs : ex.Pairwise ltS) {i : Nat} {e : Str} (he : ex[i]? = some e) : ∀ x ∈ ex.drop (i + 1), ltS e x := by
  obtain ⟨hi, e'⟩ := List.getElem?_eq_some_iff.mp he
  have h1 : (ex.drop i).Pairwise ltS := hs.sublist (List.drop_sublist _ _)
  rw [List.drop_eq_getElem_cons hi, e'] at h1
  exact (List.pairwise_cons.mp h1).1
theorem pw_ne {ex : List Str} (hs : ex.Pairwise ltS) {i : Nat} {e : Str} (he : ex[i]? = some e) : ex[i + 1]? ≠ some e := fun h => by
  have hm : e ∈ ex.drop (i + 1) := by
    obtain ⟨hi, e'⟩ := List.getElem?_eq_some_iff.mp h
    rw [List.drop_eq_getElem_cons hi, e']; exact .head _
  exact ltS_ne (pw_next hs he e hm) rfl
section
variable {Γ : Gx} {c : Cx} {st : St} {s : Shared} {A : Around}
theorem WSA_weak (st' : St) {t : Sem Flow} {Q : Fl → St → Prop} (hk : Wk st st') (h : WSA Γ A c st' t Q) (hn : (st'.map (·.1)).Nodup) : WSA Γ A c st t Q := fun s r => by
  obtain ⟨r', m'⟩ := r.weak hk hn
  exact wpAny_mono (h s r') (fun _ _ x => x.pre (m')) fun _ _ x => x
theorem WX_weak {K : Prop} {cls : String} (st' : St) {t : Sem Flow} {Q : Fl → St → Prop} {QE : St → Prop} (hk : Wk st st') (h : WX Γ A K cls c st' t Q QE) (hn : (st'.map (·.1)).Nodup) : WX Γ A K cls c st t Q QE := fun s r hh => by
  obtain ⟨r', m'⟩ := r.weak hk hn
  exact wpAny_mono (h s r' hh) (fun _ _ x => x.pre (m')) fun _ _ ⟨nt, y⟩ => ⟨nt, y.pre m'⟩
theorem sldSt_keys (ex ac : List Str) (i j : Nat) (a1 a2 : Addr) (ms : List Str) : ((sldSt ex ac i j a1 a2 ms).map (·.1)).Nodup := by
  show (["expected", "actual", "i", "j", "missing", "unexpected"] : List Str).Nodup
  decide +kernel
theorem fn_sld : isFn "sorted_list_difference" := by unfold isFn; decide +kernel
theorem con_sld (ex : List Str) (p : Str → Bool) (hs : ex.Pairwise ltS) (hlen : ex.length ≤ 100) :
    ConS Γ 1 "sorted_list_difference" [.D (.list (ex.map .str)), .D (.list ((ex.filter p).map .str))] (.D (.tuple [.list ((ex.filter fun x => !p x).map .str), .list []])) := by
  have hsl : sizeLine = 2 ^ 24 := rfl
  have hfl : (ex.filter p).length ≤ ex.length := List.length_filter_le _ _
  have hs2 : (ex.filter p).Pairwise ltS := hs.sublist List.filter_sublist
  refine con_fnS (j := 11) ["expected", "actual"] (by rfl) rfl rfl rfl ?_ (by decide +kernel) (by decide +kernel) ?_ rfl rfl rfl
  · exact fun pm cd doc => len2 fun v u => rfl
  · intro κ outer
    refine WS_cons (WS_Assign2 (WE_int ⟨rfl, ?_⟩))
    refine WS_cons (WS_AssignNew (WN_List (WA_nil ⟨[], rfl, by decide, by simp, fun a1 => ?_⟩)))
    refine WS_cons (WS_AssignNew (WN_List (WA_nil ⟨[], rfl, by decide, by simp, fun a2 => ?_⟩)))
    refine WS_cons (WS_While (fun n st => ∃ i j ms, n = ex.length - i ∧ sldAt ex p i j ms ∧ st = sldSt ex (ex.filter p) i j a1 a2 ms) ?_ _ ⟨0, 0, [], rfl, ⟨Nat.zero_le _, by simp, by simp⟩, rfl⟩)
    rintro _ st ⟨i, j, ms, rfl, hat, rfl⟩
    refine WB_plain (WE_bool ⟨_, .bool _, fun _ => ?_, fun h => by cases h⟩)
    have hjl := hat.le
    refine WS_cons (WS_TryExcept (outer := outer) (K := False) (QE := fun st1 => ∃ i j ms tl, sldEnd ex p i j ms ∧ st1 = sldSt ex (ex.filter p) i j a1 a2 ms ++ tl) rfl bi_IndexError F.isExc_IndexError F.notTuple_IndexError F.self_IndexError ?_ ?_)
    · refine WX_cons (WX_item rfl rfl rfl hat.1 (by exact Nat.le_trans hlen (by decide)) rfl (fun e he => ?_) (fun hi => ⟨i, j, ms, [], hat.done hi, (List.append_nil _).symm⟩))
      show WX _ _ _ _ _ _ (execs _ _) _ _
      have hil := (List.getElem?_eq_some_iff.mp he).1
      refine WX_cons (WX_item rfl rfl rfl hjl (by omega) rfl (fun a ha => ?_) (fun hj => ⟨i, j, ms, _, hat.ends hj, rfl⟩))
      show WX _ _ _ _ _ _ (execs _ _) _ _
      have hjl2 := (List.getElem?_eq_some_iff.mp ha).1
      have hrest := hat.rest
      rw [List.drop_eq_getElem_cons hil, List.drop_eq_getElem_cons hjl2, (List.getElem?_eq_some_iff.mp he).2, (List.getElem?_eq_some_iff.mp ha).2] at hrest
      refine WX_cons (WX_If (WB_Compare (WE_name rfl (WE_name rfl ⟨_, .ltS _ _, ?_⟩))))
      cases hp : p e with
      | false =>
        rw [List.filter_cons_of_neg (by simp [hp])] at hrest
        have ham : a ∈ ex.drop (i + 1) := (List.mem_filter.mp (show a ∈ (ex.drop (i + 1)).filter p by rw [← hrest]; exact .head _)).1
        have hlt := pw_next hs he a ham
        refine ⟨fun _ => ?_, fun h => by rw [decide_eq_true (show e.cps.toList < a.cps.toList from hlt)] at h; cases h⟩
        have hm := hat.miss he hp
        have hi1 : i + 1 < ex.length := by
          cases h0 : ex.drop (i + 1) with
          | nil => rw [h0] at ham; cases ham
          | cons x r => have := congrArg List.length h0; simp at this; (clear hlen hsl hfl hjl he hil ha hjl2 hrest hp h0; omega)
        refine WX_cons (WX_ofWS (WS_append rfl ?_ rfl (WE_name rfl ⟨_, rfl, ?_⟩)))
        · rw [List.length_map, hat.2.2]; have := List.length_filter_le (fun x => !p x) (ex.take i); have : (ex.take i).length ≤ ex.length := List.length_take_le' ..; omega
        show WX _ _ _ _ _ _ (execs _ _) _ _
        refine WX_cons (WX_incr rfl ?_)
        show WX _ _ _ _ _ _ (execs _ _) _ _
        refine WX_cons (WX_while0 (outer := outer) rfl rfl rfl rfl rfl rfl (Nat.le_of_lt hi1) (by exact Nat.le_trans hlen (by decide)) rfl (pw_ne hs he) (fun _ => ?_) (fun h => by omega))
        refine WX_nil ?_
        show WX _ _ _ _ _ _ (execs _ _) _ _
        refine WX_weak (sldSt ex (ex.filter p) (i + 1) j a1 a2 (ms ++ [e])) ⟨rfl, rfl, rfl, rfl, (by rw [List.map_append]; rfl), rfl, trivial⟩ (WX_nil ?_) (sldSt_keys ..)
        exact WS_nil ⟨_, by (clear hlen hsl hfl hjl he hil ha hjl2 hrest hp hi1; omega), i + 1, j, ms ++ [e], rfl, hm, rfl⟩
      | true =>
        rw [List.filter_cons_of_pos hp] at hrest
        have hae : a = e := (List.cons.inj hrest).1
        subst hae
        refine ⟨fun h => absurd (of_decide_eq_true h) (List.lt_irrefl _), fun _ => ?_⟩
        refine WX_cons (WX_If (WB_Compare (WE_name rfl (WE_name rfl ⟨_, .gtS _ _, ?_⟩))))
        refine ⟨fun h => absurd (of_decide_eq_true h) (List.lt_irrefl _), fun _ => ?_⟩
        have hm := hat.hit he hp
        have hjl3 := hm.le
        refine WX_cons (WX_incr rfl ?_)
        show WX _ _ _ _ _ _ (execs _ _) _ _
        refine WX_cons (WX_TryFinally (outer := outer) (Q1 := fun fl st1 => i + 1 < ex.length ∧ st1 = sldSt ex (ex.filter p) (i + 1) j a1 a2 ms ++ ([("e", .D (.str a)), ("a", .D (.str a))] : St))
          (QE1 := fun st1 => i + 1 = ex.length ∧ st1 = sldSt ex (ex.filter p) (i + 1) j a1 a2 ms ++ ([("e", .D (.str a)), ("a", .D (.str a))] : St)) rfl ?_ ?_ ?_)
        · refine WX_cons (WX_while0 (outer := outer) rfl rfl rfl rfl rfl rfl hm.1 (by exact Nat.le_trans hlen (by decide)) rfl (pw_ne hs he) (fun h => ?_) (fun h => ⟨h, rfl⟩))
          exact WX_nil ⟨rfl, h, rfl⟩
        · rintro st1 ⟨h, rfl⟩
          refine WX_cons (WX_incr rfl ?_)
          show WX _ _ _ _ _ _ (execs _ _) _ _
          refine WX_cons (WX_while0 (outer := outer) rfl rfl rfl rfl rfl rfl hjl3 (by omega) rfl (pw_ne hs2 ha) (fun h2 => ?_) (fun h2 => ⟨i + 1, j + 1, ms, _, hm.ends h2, rfl⟩))
          refine WX_nil ⟨rfl, ?_⟩
          show WX _ _ _ _ _ _ (execs _ _) _ _
          refine WX_nil ?_
          refine WX_nil ?_
          show WX _ _ _ _ _ _ (execs _ _) _ _
          refine WX_weak (sldSt ex (ex.filter p) (i + 1) (j + 1) a1 a2 ms) ⟨rfl, rfl, rfl, rfl, rfl, rfl, trivial⟩ (WX_nil ?_) (sldSt_keys ..)
          exact WS_nil ⟨_, by (clear hlen hsl hfl hjl hil ha hjl2 he hrest hp hjl3 h2; omega), i + 1, j + 1, ms, rfl, hm, rfl⟩
        · rintro st1 ee ⟨h, rfl⟩
          have hend := hm.done h
          refine WX_cons (WX_incr rfl ?_)
          show WX _ _ _ _ _ _ (execs _ _) _ _
          refine WX_cons (WX_while0 (outer := outer) rfl rfl rfl rfl rfl rfl hjl3 (by (clear hjl hil ha hjl2 he hrest hp hjl3 h; omega)) rfl (pw_ne hs2 ha) (fun h2 => ?_) (fun h2 => ⟨i + 1, j + 1, ms, _, hend, rfl⟩))
          exact absurd hend.2.1 (by exact Nat.ne_of_lt h2)
    · rintro st1 ee ⟨i, j, ms, tl, hend, rfl⟩
      refine WSA_weak (sldSt ex (ex.filter p) i j a1 a2 ms) ⟨rfl, rfl, rfl, rfl, rfl, rfl, trivial⟩ ?_ (sldSt_keys ..)
      have hml : ms.length + (ex.length - i) ≤ ex.length := by
        have := congrArg List.length hend.2.2
        rw [List.length_append, List.length_drop] at this
        have := List.length_filter_le (fun x => !p x) ex
        (clear hlen hsl hfl hjl; omega)
      refine WSA_cons (WSA_extend rfl rfl rfl rfl (by rw [List.length_map]; exact hend.1) (by rw [List.length_map, List.length_map]; (clear hsl hfl hjl; omega)) rfl ?_ (by rw [dpick_from, List.length_drop]; exact Nat.sub_le _ _))
      show WSA _ _ _ _ (execs _ _) _
      refine WSA_cons (WSA_extend rfl rfl rfl rfl (by rw [List.length_map, hend.2.1]; exact Nat.le_refl _) (by rw [List.length_map]; show 0 + _ ≤ _; (clear hsl hjl hml; omega)) rfl ?_ (by rw [dpick_from, List.length_drop]; exact Nat.sub_le _ _))
      show WSA _ _ _ _ (execs _ _) _
      refine WSA_cons (WSA_Break ?_)
      rw [dpick_from, dpick_from, hend.2.1, ← List.map_drop, ← List.map_drop, List.drop_length, ← List.map_append, hend.2.2]
      show WS _ _ _ (execs _ _) _
      refine WS_cons (WS_freeze (x := "missing") rfl (WS_freeze (x := "unexpected") rfl ?_))
      refine WS_Return ?_; refine WE_Tuple ?_; refine WA_cons ?_; refine WE_name rfl ?_; refine WA_cons ?_; refine WE_name rfl ?_; refine WA_nil ?_; refine ⟨_, rfl, by (dsimp only [List.length]; decide), ?_⟩
      rfl
end
end Mine
end
section
open PySem PySem.Calls PyProof.Rows
namespace Mine
theorem erase_idx (z : Str) : ∀ ls : List Str, z ∈ ls → ∃ j, j < ls.length ∧ ls[j]? = some z ∧ (∀ m, m < j → ls[m]? ≠ some z) ∧ ls.erase z = ls.eraseIdx j
  | [], h => nomatch h
  | x :: r, h => by
    by_cases e : x = z
    · subst e; exact ⟨0, by simp, by simp, fun m hm => absurd hm (Nat.not_lt_zero _), by simp⟩
    · obtain ⟨j, h1, h2, h3, h4⟩ := erase_idx z r ((List.mem_cons.mp h).resolve_left fun q => e q.symm)
      refine ⟨j + 1, by simpa using h1, by simpa using h2, fun m hm => ?_, ?_⟩
      · cases m with
        | zero => simpa using e
        | succ m => simpa using h3 m (by exact Nat.le_of_lt_succ hm)
      · rw [List.erase_cons_tail (by simpa using e), h4]; rfl
theorem isStrOf_at (k : Str) : ∀ {vs : List Value} {ys : List Str}, StrsAre vs ys → ∀ i (h : i < vs.length), isStrOf k vs[i] = decide (ys[i]? = some k)
  | _, _, .nil, i, h => absurd h (Nat.not_lt_zero _)
  | _, _, .cons n t r, 0, h => by
    show (n == k) = decide (some n = some k)
    by_cases e : n = k <;> simp [e]
  | _, _, .cons n t r, i + 1, h => by simpa using isStrOf_at k r i (by simpa using h)
theorem map_eraseIdx {α β : Type} (f : α → β) : ∀ (l : List α) (j : Nat), (l.map f).eraseIdx j = (l.eraseIdx j).map f
  | [], _ => rfl
  | _ :: _, 0 => rfl
  | x :: r, j + 1 => by simp [map_eraseIdx f r j]
section
variable {Γ : Gx} {c : Cx} {st : St} {s s0 s1 : Shared} {A : Around} {E : Value → Shared → Prop} {K : Prop}

theorem plainL_notFreed (vs : Array Value) (n : Nat) : (plainL vs n).isFreed = false := rfl
/-- two lists of the frame's own turn, and frames' slots -/
theorem R.two {x y : Str} {g l : Addr} {gs ls gs' ls' : List PyData} {s' : Shared} {v1 v2 : Array Value} {n1 n2 : Nat} (r : R Γ c st s) (hx : st.lookup x = some (.M g gs)) (hy : st.lookup y = some (.M l ls)) (hxy : y ≠ x) (hV : st.all (fun p => notV p.2) = true)
    (hg : s'.gens = s.gens) (ho : s'.os = s.os) (k : ∀ b o, b ≠ g → b ≠ l → s.heap.get? b = some o → Sl (fr c b ∨ b = c.env.locals) o s'.heap b)
    (h1 : s'.heap.get? g = some (plainL v1 n1)) (d1 : RdL (fz s.heap (Hd c st)) v1.toList gs') (h2 : s'.heap.get? l = some (plainL v2 n2)) (d2 : RdL (fz s.heap (Hd c st)) v2.toList ls')
    (hV' : (upd (upd st x (.M g gs')) y (.M l ls')).all (fun p => notV p.2) = true) (hV1 : (upd st x (.M g gs')).all (fun p => notV p.2) = true) :
    R Γ c (upd (upd st x (.M g gs')) y (.M l ls')) s' ∧ Mv c st s (upd (upd st x (.M g gs')) y (.M l ls')) s' := by
  have hgl : l ≠ g := fun e => hxy (r.mApart y x g ls gs (e ▸ mem_of_lookup hy) (mem_of_lookup hx))
  obtain ⟨_, _, rfl, u1, m1, q1, q2⟩ := r.bound x _ hx
  obtain ⟨_, _, rfl, u2, m2, q3, q4⟩ := r.bound y _ hy
  have e1 : (s.heap.update g fun _ => plainL v1 n1).get? g = some (plainL v1 n1) := Heap.get?_update_self _ q1 rfl
  obtain ⟨rA, mA⟩ := r.mset (s' := { s with heap := s.heap.update g fun _ => plainL v1 n1 }) (ds' := gs') hx hV (fun b hb => Heap.get?_update_other _ _ (Ne.symm hb)) e1 d1 rfl rfl
  have hy' : (upd st x (.M g gs')).lookup y = some (.M l ls) := (upd_look_ne st _ hxy).trans hy
  have q3' : (s.heap.update g fun _ => plainL v1 n1).get? l = some (plainL u2 m2) := (Heap.get?_update_other _ _ (Ne.symm hgl)).trans q3
  have e2 : ((s.heap.update g fun _ => plainL v1 n1).update l fun _ => plainL v2 n2).get? l = some (plainL v2 n2) := Heap.get?_update_self _ q3' rfl
  obtain ⟨rB, mB⟩ := rA.mset (s' := { s with heap := (s.heap.update g fun _ => plainL v1 n1).update l fun _ => plainL v2 n2 }) (ds' := ls') hy' hV1 (fun b hb => Heap.get?_update_other _ _ (Ne.symm hb)) e2 (RdL.mono mA.sub d2) rfl rfl
  have kf : Kf c { s with heap := (s.heap.update g fun _ => plainL v1 n1).update l fun _ => plainL v2 n2 } s' := by
    refine ⟨hg, ho, fun b o e => ?_⟩
    by_cases hbl : b = l
    · subst hbl
      rw [e2] at e; cases e
      exact .exact h2
    · rw [Heap.get?_update_other _ _ (Ne.symm hbl)] at e
      by_cases hbg : b = g
      · subst hbg
        rw [e1] at e; cases e
        exact .exact h1
      · rw [Heap.get?_update_other _ _ (Ne.symm hbg)] at e
        exact k b o hbg hbl e
  obtain ⟨rC, mC⟩ := rB.kf kf hV'
  exact ⟨rC, (mA.trans mB).trans mC⟩

/-- y = x.pop() -/
theorem WS_pop {x y : Str} {py np apos pos spos : Pos} {a : Addr} {ds : List PyData} {d : PyData} {Q : Fl → St → Prop} (hl : st.lookup x = some (.M a (ds ++ [d]))) (hz : ds.length < sizeLine) (hV : st.all (fun p => notV p.2) = true)
    (h : Q .next (upd (upd st x (.M a ds)) y (.D d)))
    (hbase : attributeBase (.Name x np) "pop" c.env (eval (.Name x np) c.env) = eval (.Name x np) c.env := by rfl) (hline : (apos.endLine == pos.line) = true := by rfl)
    (hd : (x == ("__debug__" : Str)) = false := by decide) (hn : (x == ("__classdict__" : Str)) = false := by decide)
    (hy : Stor c.env y := by first | exact .inl rfl | exact .inr ⟨rfl, _, rfl⟩) (hs : swapsWith (.Call (.Attribute (.Name x np) "pop" apos) [] [] pos) (some (.Name y py)) spos.line c.env = pure false := by rfl) :
    WS Γ c st (exec (.Assign [.Name y py] (.Call (.Attribute (.Name x np) "pop" apos) [] [] pos) spos) c.env) Q := fun s r => by
  obtain ⟨v, hb, rfl, vs, n, h1, h2⟩ := r.bound x _ hl
  have hlen := h2.length
  rw [Array.length_toList, List.length_append, List.length_singleton] at hlen
  refine wpAny_Assign_Name (Call_method0 hbase hline (wpAny_Name (loadName_Bd r.hk hb ?_ hn) hd)) hs
  refine ⟨"list", "list.pop", F.plainAttrs_list, F.slot_list_pop, by show builtinType _ = _; rw [builtinType_eq_fast]; kernel_rfl, ⟨_, h1, rfl⟩, (fun b e => by cases e; exact ⟨_, h1, rfl⟩), ?_⟩
  obtain ⟨u, hu, rd⟩ := h2.get ds.length d (by simp)
  rw [Array.getElem?_toList] at hu
  refine P.pop_list h1 (y := u) (by rw [hlen]; simpa using hu) ?_ (by omega)
  obtain ⟨r3, m3⟩ := r.mset (s' := { s with heap := s.heap.update a (Obj.mapSeq fun xs => xs.eraseIdxIfInBounds (vs.size - 1)) }) (ds' := ds) hl hV (fun b hb => Heap.get?_update_other _ _ (Ne.symm hb)) (IsL.update h1 _)
    (by
      have e : (vs.eraseIdxIfInBounds (vs.size - 1)).toList = vs.toList.eraseIdx (vs.size - 1) := by simp
      rw [e, hlen]
      have := RdL.eraseIdx (ds.length + 1 - 1) h2
      simpa [List.eraseIdx_append_of_length_le] using this) rfl rfl
  refine store_name r3 hy fun s2 hp hg ho hb2 hy2 hf hc => ?_
  obtain ⟨r4, m4⟩ := r3.stored (a := .D d) (Rd.mono m3.sub rd) rfl hp hg ho hb2 hy2 hf hc
  exact ⟨_, .next, m3.trans m4, r4, rfl, h⟩

/-- x.remove(y) -/
theorem WX_remove {x y : Str} {np yp apos pos p' : Pos} {a : Addr} {ls : List Str} {z : Str} {Q : Fl → St → Prop} {QE : St → Prop} (hl : st.lookup x = some (.M a (ls.map .str))) (hy : st.lookup y = some (.D (.str z))) (hz : ls.length ≤ sizeLine) (hV : st.all (fun p => notV p.2) = true)
    (h : z ∈ ls → Q .next (upd st x (.M a ((ls.erase z).map .str)))) (hE : z ∉ ls → QE st)
    (hbase : attributeBase (.Name x np) "remove" c.env (eval (.Name x np) c.env) = eval (.Name x np) c.env := by rfl) (hs : starEach [.Name y yp] c.env = [(false, eval (.Name y yp) c.env)] := by rfl) (hline : (apos.endLine == pos.line) = true := by rfl)
    (hd : (x == ("__debug__" : Str)) = false := by decide) (hn : (x == ("__classdict__" : Str)) = false := by decide) (hd2 : (y == ("__debug__" : Str)) = false := by decide) (hn2 : (y == ("__classdict__" : Str)) = false := by decide) (hi : interactive c.env = false := by rfl)
    (hsw : swapsWith (.Call (.Attribute (.Name x np) "remove" apos) [.Name y yp] [] pos) none p'.line c.env = pure false := by rfl) :
    WX Γ c.A K "ValueError" c st (exec (.Expr (.Call (.Attribute (.Name x np) "remove" apos) [.Name y yp] [] pos) p') c.env) Q QE := fun s r hh => by
  obtain ⟨v, hb, rfl, vs, n, h1, h2⟩ := r.bound x _ hl
  obtain ⟨u, hb2, hv2⟩ := r.bound y _ hy
  obtain ⟨t, rfl⟩ := Rd.str_inv hv2
  have hlen := h2.length
  rw [Array.length_toList, List.length_map] at hlen
  have hst := strsAre_of h2
  refine wpAny_Expr_any (Call_method1 hbase hs hline (wpAny_Name (loadName_Bd r.hk hb ?_ hn) hd)) hi hsw
  refine ⟨"list", "list.remove", F.plainAttrs_list, F.slot_list_remove, F.type_list_remove, ⟨_, h1, rfl⟩, (fun b e => by cases e; exact ⟨_, h1, rfl⟩), ?_⟩
  have he : ∀ y, y ∈ vs → MeetsSeq.EqGives y (.str z t) (isStrOf z y) := fun y hy => eq_isStrOf z t hst y (by simpa using hy)
  have hat : ∀ m (hm : m < vs.size), isStrOf z vs[m] = decide (ls[m]? = some z) := fun m hm => by
    have := isStrOf_at z hst m (by simpa using hm)
    simpa using this
  by_cases hm : z ∈ ls
  · obtain ⟨j, j1, j2, j3, j4⟩ := erase_idx z ls hm
    refine P.remove_list (wpAny_Name (loadName_Bd r.hk hb2 ⟨vs, n, isStrOf z, j, by omega, by omega, h1, he, ?_, fun m hm hmj => ?_, ?_⟩ hn2) hd2)
    · rw [hat j (by omega)]; exact decide_eq_true j2
    · rw [hat m hm]; exact decide_eq_false (j3 m hmj)
    · obtain ⟨r3, m3⟩ := r.mset (s' := { s with heap := s.heap.update a (Obj.mapSeq fun xs => xs.eraseIdxIfInBounds j) }) (ds' := (ls.erase z).map .str) hl hV (fun b hb => Heap.get?_update_other _ _ (Ne.symm hb)) (IsL.update h1 _)
        (by
          have e : (vs.eraseIdxIfInBounds j).toList = vs.toList.eraseIdx j := by simp
          rw [e, j4]
          have := RdL.eraseIdx j h2
          have e2 : (ls.map PyData.str).eraseIdx j = (ls.eraseIdx j).map .str := map_eraseIdx _ ls j
          rw [e2] at this
          exact this) rfl rfl
      exact ⟨_, .next, m3, r3, rfl, h hm, .inl r3.rm.handled⟩
  · refine seqMethod1_meets F.slot_list_remove F.entry_list_remove (wpAny_Name (loadName_Bd r.hk hb2 ⟨⟨_, h1, rfl⟩, F.args_list_remove_2 _ _, _, MeetsSeq.list_remove_none a vs n (.str z t) (isStrOf z) he (fun m hm' => ?_), h1, r.rm.handled, fun h' tk e hN => ?_⟩ hn2) hd2)
    · rw [hat m hm']
      exact decide_eq_false fun q => hm (List.mem_of_getElem? q)
    · obtain ⟨ob, t0, q1, q2, q3⟩ := hN.there
      exact x_raise r hV (fun _ => rfl) ⟨hN.keeps, hN.new, ob, t0, q1, q2, q3⟩ (hE hm)
end
end Mine
end
section
open PySem PySem.Calls PyProof.Rows
namespace Mine
/-- what unorderable_list_difference makes of the list (from its end) and the other one -/
noncomputable def uldR : List Str → List Str → List Str → List Str × List Str
  | [], ls, ms => (ms, ls)
  | y :: r, ls, ms => if y ∈ ls then uldR r (ls.erase y) ms else uldR r ls (ms ++ [y])
theorem strs_flat (l : List Str) : ∀ d ∈ l.map PyData.str, flat d = true := by
  intro d hd
  obtain ⟨x, _, rfl⟩ := List.mem_map.mp hd
  rfl
noncomputable def uldSt (g l m : Addr) (r ls ms : List Str) : St := [("expected", .M g (r.reverse.map .str)), ("actual", .M l (ls.map .str)), ("missing", .M m (ms.map .str))]
section
variable {Γ : Gx} {c : Cx} {st : St} {s s0 s1 : Shared} {A : Around} {E : Value → Shared → Prop} {K : Prop}
theorem WS_then {x : Stmt} {rest : List Stmt} {P : Flow → Shared → Prop} {Q : St → Prop} (r : R Γ c st s) (h : WS Γ c st (exec x c.env) fun fl st' => fl = .next ∧ Q st')
    (k : ∀ s' st', Q st' → R Γ c st' s' → Mv c st s st' s' → wpAny (mo Γ) c.A (execs rest c.env) P E s') : wpAny (mo Γ) c.A (execs (x :: rest) c.env) P E s :=
  wpAny_execs_cons (wpAny_mono (h s r) (fun f s1 ⟨st1, fl, m1, r1, hf, hn, hq⟩ => by
    subst hn
    cases hf
    exact k s1 st1 hq r1 m1) fun _ _ x => x.elim)
theorem fn_uld : isFn "unorderable_list_difference" := by unfold isFn; decide +kernel

/-- what such a call leaves behind -/
inductive M2Q (Γ : Gx) (c : Cx) (st2 : St) (x1 x2 : Str) (g l : Addr) (gs ls : List PyData) (P : Addr → Addr → Shared → Prop) (s2 : Shared) (f : Flow) (s3 : Shared) : Prop
  | mk (T m : Addr) (st3 : St) (ef : f = .ret (.ref T)) (mv : Mv c st2 s2 st3 s3) (r3 : R Γ c st3 s3) (e1 : st3.lookup x1 = some (.M g gs)) (e2 : st3.lookup x2 = some (.M l ls)) (hP : P T m s3)
    (hT : T ≠ g ∧ T ≠ l ∧ ¬ c.hid T) (hm : m ≠ g ∧ m ≠ l ∧ ¬ c.hid m)
theorem ret_last {e : Expr} {pos : Pos} {rest : List Stmt} {env : Env} {P : Flow → Shared → Prop} (h : wpAny (mo Γ) A (eval e env) (fun v => P (.ret v)) E s) : wpAny (mo Γ) A (execs (.Return (some e) pos :: rest) env) P E s :=
  wpAny_execs_cons (wpAny_Return_some h)
/-- a call that is handed two lists of the frame's own -/
theorem call_M2 {n : Nat} {f : Str} {j : Nat} {params : Arguments} {body : List Stmt} {scope : Scope} {pos : Pos} {x y x1 x2 : Str} {g l fa : Addr} {gs ls gs' ls' : List PyData} {outer : List Env} {P : Addr → Addr → Shared → Prop} {Q : Value → Shared → Prop}
    (hd : (recsOf PySem.Challenge.pw_pd0153_01)[j]? = some ⟨f, params, body, scope, pos⟩)
    (hbind : ∀ (pm cd doc : Value) (vs : List Value), vs.length = 2 → bindArgs (docDef f params body scope pm cd doc) ⟨vs, []⟩ = pure ([x1, x2].zip vs))
    (hk1 : scope.names.lookup x1 = some .local) (hk2 : scope.names.lookup x2 = some .local) (h12 : x1 ≠ x2)
    (hco : scope.isCoroutine = false) (hgen : scope.isGenerator = false) (hk : scope.kind = .function)
    (r : R Γ c st s) (ho : c.out = some outer) (hx : st.lookup x = some (.M g gs)) (hy : st.lookup y = some (.M l ls)) (hxy : y ≠ x) (hV : st.all (fun p => notV p.2) = true) (hn : n + 1 ≤ c.n) (hfa : Γ.mg f = some (.ref fa))
    (hb : ∀ (κ : Fr) (outer2 : List Env) (s2 : Shared), R Γ (κ.cx scope n (some outer2)) [(x1, .M g gs), (x2, .M l ls)] s2 →
      wpAny (mo Γ) κ.A (execs body (κ.cx scope n (some outer2)).env) (M2Q Γ (κ.cx scope n (some outer2)) [(x1, .M g gs), (x2, .M l ls)] x1 x2 g l gs' ls' P s2) (fun _ _ => False) s2)
    (hf1 : ∀ d ∈ gs', flat d = true) (hf2 : ∀ d ∈ ls', flat d = true)
    (hV1 : (upd st x (.M g gs')).all (fun p => notV p.2) = true) (hV2 : (upd (upd st x (.M g gs')) y (.M l ls')).all (fun p => notV p.2) = true)
    (h : ∀ s3 T m, P T m s3 → ¬ Hd c st T → ¬ Hd c st m → R Γ c (upd (upd st x (.M g gs')) y (.M l ls')) s3 → Mv c st s (upd (upd st x (.M g gs')) y (.M l ls')) s3 → Q (.ref T) s3) :
    wpAny (mo Γ) c.A (call (.ref fa) [.ref g, .ref l]) Q (fun _ _ => False) s := by
  have gd := r.gdH
  obtain ⟨f1, f2, f3, f4⟩ := r.fo outer ho
  have hgl : g ≠ l := fun e => hxy (r.mApart y x l ls gs (mem_of_lookup hy) (e ▸ mem_of_lookup hx))
  obtain ⟨_, _, rfl, u1, m1, q1, q2⟩ := r.bound x _ hx
  obtain ⟨_, _, rfl, u2, m2, q3, q4⟩ := r.bound y _ hy
  obtain ⟨a, o, pm, code, doc, h1, h2, h3, h4⟩ := gd.fn _ (List.mem_of_getElem? hd)
  simp only at h1 h3 h4
  rw [h1] at hfa
  obtain rfl : a = fa := by cases hfa; rfl
  refine wpAny_call (codeAny_call_cells (fd := docDef f params body scope pm code doc) (binds := [x1, x2].zip [.ref g, .ref l]) (by have := r.rm.depth; have : recursionLimit = 1000 := rfl; (clear hd hbind hk1 hk2 h12 hco hgen hk ho hx hy hxy hV hn hb hf1 hf2 hV1 hV2 h f1 f2 f4 hgl q1 q3 h1 h2 h3 hfa; omega)) h2 h3 gd.nolimit h4 rfl (hbind pm code doc _ rfl) rfl ?_ ?_ hco hgen hk)
  · intro z hz
    rcases List.mem_cons.mp hz with e | hz
    · rw [e]; exact .inl hk1
    · rcases List.mem_cons.mp hz with e | hz
      · rw [e]; exact .inl hk2
      · cases hz
  intro s₁ I
  have he : callEnvC (docDef f params body scope pm code doc) s.heap.objs.size a = fnEnv scope s.heap.objs.size (f ++ ".<locals>.") a code := rfl
  rw [he] at I ⊢
  generalize hL : s.heap.objs.size = L at I ⊢
  generalize hq : (f ++ ".<locals>." : Str) = q at I ⊢
  obtain ⟨I1, I2, I3, I4⟩ := I
  obtain ⟨⟨h₁, tk, rfl⟩, ns, keep, fresh⟩ := I1
  let env : Env := fnEnv scope L q a code
  let X : Addr → Prop := fun b => Hd c st b ∧ b ≠ g ∧ b ≠ l
  let κ : Fr := ⟨L, a, q, code, fun b => X b ∨ own env b, c.base, c.A.deeper env, s.os⟩
  let c2 : Cx := κ.cx scope n (some (c.env :: outer))
  have ownNew : ∀ b, own env b → s.heap.get? b = none := by
    intro b hb
    have hge : s.heap.objs.size ≤ b := by
      rcases hb with e | ⟨x, e⟩
      · rw [e, hL]; exact Nat.le_refl _
      · rw [hL]; exact Nat.le_of_lt (I4 x b (mem_of_lookup e))
    cases e : s.heap.get? b with
    | none => rfl
    | some o => exact absurd (Heap.lt_size e) (Nat.not_lt.mpr hge)
  have gHd : Hd c st g := .inr ⟨x, gs, mem_of_lookup hx⟩
  have lHd : Hd c st l := .inr ⟨y, ls, mem_of_lookup hy⟩
  have gl_nown : ∀ b, own env b → b ≠ g ∧ b ≠ l := fun b hb => ⟨fun e => (by have := ownNew b hb; rw [e, q1] at this; cases this), fun e => (by have := ownNew b hb; rw [e, q3] at this; cases this)⟩
  let st2 : St := [(x1, .M g gs), (x2, .M l ls)]
  have mem2 : ∀ {z : Str} {b : Addr} {ds : List PyData}, (z, AV.M b ds) ∈ st2 → (z = x1 ∧ b = g ∧ ds = gs) ∨ (z = x2 ∧ b = l ∧ ds = ls) := fun h => by
    rcases List.mem_cons.mp h with e | h
    · cases e; exact .inl ⟨rfl, rfl, rfl⟩
    · rcases List.mem_cons.mp h with e | h
      · cases e; exact .inr ⟨rfl, rfl, rfl⟩
      · cases h
  have hHd : ∀ b, Hd c2 st2 b → Hd c st b ∨ own env b := by
    rintro b ((h | h) | ⟨z, ds, h⟩)
    · exact .inl h.1
    · exact .inr h
    · rcases mem2 h with ⟨_, e, _⟩ | ⟨_, e, _⟩
      · exact .inl (e ▸ gHd)
      · exact .inl (e ▸ lHd)
  have sub : Sub (fz s.heap (Hd c st)) (fz h₁ (Hd c2 st2)) := fz_mono fun b o hx e => ⟨fun h => (hHd b h).elim hx fun h => (by rw [ownNew b h] at e; cases e), keep b o e⟩
  have key21 : (x2 == x1) = false := beq_eq_false_iff_ne.mpr (Ne.symm h12)
  have r2 : R Γ c2 st2 { s with heap := h₁, toks := tk } := {
    gd := r.gd
    keep := r.keep.trans keep
    rm := ⟨r.rm.handled, by have := r.rm.depth; show c.A.depth + 1 + n ≤ 900; (clear hd hbind hk1 hk2 h12 hco hgen hk ho hx hy hxy hV hb hf1 hf2 hV1 hV2 h f1 f2 f4 hgl q1 q3 h1 h2 h3 hfa he hL hq I4 fresh I2 keep ownNew gl_nown mem2 hHd key21; omega), by have := r.rm.units; show c.A.units + 3 + 4 * n ≤ 4000; (clear hd hbind hk1 hk2 h12 hco hgen hk ho hx hy hxy hV hb hf1 hf2 hV1 hV2 h f1 f2 f4 hgl q1 q3 h1 h2 h3 hfa he hL hq I4 fresh I2 keep ownNew gl_nown mem2 hHd key21; omega)⟩
    gens := r.gens
    os := rfl
    hk := hk
    glob := rfl
    bns := rfl
    frame := ⟨_, ns⟩
    cells := fun x b e => ⟨_, I2 x b e⟩
    ownH := fun b h => .inr h
    ownB := fun b h => by
      cases e : c.base.get? b with
      | none => rfl
      | some o => have := r.keep b o e; rw [ownNew b h] at this; cases this
    apart := I3
    apartL := fun x b h => Nat.ne_of_gt (I4 x b h)
    low := fun b h => by
      rcases h with h | h | ⟨x, e⟩
      · obtain ⟨o, e⟩ := r.low2 b h.1
        exact ⟨o, keep b o e⟩
      · obtain ⟨o, _, _, e, _⟩ := ns
        exact ⟨o, h ▸ e⟩
      · obtain ⟨o, e, _⟩ := I2 x b e
        exact ⟨o, e⟩
    tab := r.tab.mono sub
    fo := fun l' e => by
      cases e
      refine ⟨Around.frames_deeper f1, rfl, funFrames_keeps (fun b _ o ho => ⟨o, keep b o ho, rfl⟩) (r.ffs ho Kf.refl), fun b hb => ?_⟩
      have hc : c.hid b := by
        rw [List.filterMap_cons, f2] at hb
        rcases List.mem_cons.mp hb with e | hb
        · exact r.ownH b (.inl e)
        · exact (f4 b hb).1
      refine ⟨.inl ⟨.inl hc, fun e => r.mHid x g gs (mem_of_lookup hx) (e ▸ hc), fun e => r.mHid y l ls (mem_of_lookup hy) (e ▸ hc)⟩, fun ho' => ?_⟩
      obtain ⟨o, e⟩ := r.low b hc
      rw [ownNew b ho'] at e; cases e
    bound := fun z av e => by
      rw [List.lookup_cons] at e
      cases hz : z == x1 with
      | true =>
        rw [hz] at e; cases e
        rw [beq_iff_eq.mp hz]
        refine ⟨.ref g, .inl ⟨hk1, _, ns, bindL_get _ _ x1 _ ?_ (.head _) hk1⟩, rfl, u1, m1, keep _ _ q1, RdL.mono sub q2⟩
        show ([x1, x2] : List Str).Nodup
        simp [h12]
      | false =>
        rw [hz] at e
        rw [List.lookup_cons] at e
        cases hz2 : z == x2 with
        | true =>
          rw [hz2] at e; cases e
          rw [beq_iff_eq.mp hz2]
          refine ⟨.ref l, .inl ⟨hk2, _, ns, bindL_get _ _ x2 _ ?_ (.tail _ (.head _)) hk2⟩, rfl, u2, m2, keep _ _ q3, RdL.mono sub q4⟩
          show ([x1, x2] : List Str).Nodup
          simp [h12]
        | false => rw [hz2] at e; cases e
    keys := by
      show ([x1, x2] : List Str).Nodup
      simp [h12]
    mHid := fun z b ds h hh => by
      rcases hh with hh | hh
      · rcases mem2 h with ⟨_, e, _⟩ | ⟨_, e, _⟩
        · exact hh.2.1 e
        · exact hh.2.2 e
      · rcases mem2 h with ⟨_, e, _⟩ | ⟨_, e, _⟩
        · exact (gl_nown b hh).1 e
        · exact (gl_nown b hh).2 e
    vOwn := fun z b ds h => by
      rcases List.mem_cons.mp h with e | h
      · cases e
      · rcases List.mem_cons.mp h with e | h
        · cases e
        · cases h
    mBase := fun z b ds h => by
      rcases mem2 h with ⟨_, e, _⟩ | ⟨_, e, _⟩
      · rw [e]; exact r.mBase x g gs (mem_of_lookup hx)
      · rw [e]; exact r.mBase y l ls (mem_of_lookup hy)
    mApart := fun z z' b ds es h h' => by
      rcases mem2 h with ⟨e1, e, _⟩ | ⟨e1, e, _⟩ <;> rcases mem2 h' with ⟨e2, e', _⟩ | ⟨e2, e', _⟩
      · rw [e1, e2]
      · exact absurd (e.symm.trans e') hgl
      · exact absurd (e'.symm.trans e) hgl
      · rw [e1, e2] }
  refine wpAny_mono (hb κ (c.env :: outer) _ r2) (fun fl s3 ⟨T, m, st3, efl, mv, r3, e1, e2, hP, hT, hm⟩ => ?_) fun _ _ x => x.elim
  subst efl
  obtain ⟨_, _, rfl, v1, k1, w1, w2⟩ := r3.bound x1 _ e1
  obtain ⟨_, _, rfl, v2, k2, w3, w4⟩ := r3.bound x2 _ e2
  have nh : ∀ b, (b ≠ g ∧ b ≠ l ∧ ¬ c2.hid b) → ¬ Hd c st b := fun b hb hh => hb.2.2 (.inl ⟨hh, hb.1, hb.2.1⟩)
  obtain ⟨r4, m4⟩ := r.two (s' := s3) hx hy hxy hV (r3.gens.trans r.gens.symm) r3.os (fun b o hbg hbl e => by
    have e1 := keep b o e
    have hno : ¬ own env b := fun h => by rw [ownNew b h] at e; cases e
    by_cases hh : Hd c st b
    · obtain ⟨sl, e2, hs⟩ := mv.hid b o (.inl ⟨hh, hbg, hbl⟩) hno e1
      refine ⟨sl, e2, fun hn => hs fun ⟨l', hl, hm⟩ => ?_⟩
      have hl : some (c.env :: outer) = some l' := hl
      cases hl
      rw [List.filterMap_cons, f2] at hm
      rcases List.mem_cons.mp hm with q | hm
      · exact hn (.inr q)
      · exact hn (.inl ⟨outer, ho, hm⟩)
    · exact .exact (fz_some.mp (mv.sub b o (fz_some.mpr ⟨fun h => (hHd b h).elim hh hno, e1⟩))).2) w1 (RdL.flat_any w2 hf1 _) w3 (RdL.flat_any w4 hf2 _) hV2 hV1
  exact h s3 T m hP (nh T hT) (nh m hm) r4 m4
end
end Mine
end
section
open PySem PySem.Calls PyProof.Rows
namespace Mine
/-! data that may be compared -/
noncomputable def shp (n : Nat) (d : PyData) : Prop := d.canLay0 = true ∧ PyData.depth d ≤ n
theorem shp.shaped {n : Nat} {d : PyData} (h : shp n d) (hn : n ≤ 64) : SeqAt.shaped d = true := by
  unfold SeqAt.shaped
  rw [h.1, decide_eq_true (Nat.le_trans h.2 hn)]; rfl
theorem shp.mono {n m : Nat} {d : PyData} (h : shp n d) (hn : n ≤ m) : shp m d := ⟨h.1, Nat.le_trans h.2 hn⟩
theorem canLayAll0_of {l : List PyData} (h : ∀ d ∈ l, d.canLay0 = true) : PyData.canLayAll0 l = true := by
  induction l with
  | nil => rfl
  | cons x r ih => simp only [PyData.canLayAll0, h x (.head _), ih fun d hd => h d (.tail _ hd), Bool.and_self]
theorem depthAll_of {n : Nat} {l : List PyData} (h : ∀ d ∈ l, PyData.depth d ≤ n) : PyData.depthAll l ≤ n := by
  induction l with
  | nil => simp [PyData.depthAll]
  | cons x r ih =>
    simp only [PyData.depthAll]
    exact Nat.max_le.mpr ⟨h x (.head _), ih fun d hd => h d (.tail _ hd)⟩
theorem shp_list {n : Nat} {l : List PyData} (h : ∀ d ∈ l, shp n d) : shp (n + 1) (.list l) := by
  refine ⟨by simp only [PyData.canLay0]; exact canLayAll0_of fun d hd => (h d hd).1, ?_⟩
  have := depthAll_of fun d hd => (h d hd).2
  simp only [PyData.depth]; exact Nat.lt_succ_of_le this
theorem shp_tuple {n : Nat} {l : List PyData} (h : ∀ d ∈ l, shp n d) : shp (n + 1) (.tuple l) := by
  refine ⟨by simp only [PyData.canLay0]; exact canLayAll0_of fun d hd => (h d hd).1, ?_⟩
  have := depthAll_of fun d hd => (h d hd).2
  simp only [PyData.depth]; exact Nat.lt_succ_of_le this
theorem shp_str {x : Str} (h : PyData.strOk x = true) : shp 1 (.str x) := ⟨h, by simp [PyData.depth]⟩
theorem shp_strs {l : List Str} (h : ∀ x ∈ l, PyData.strOk x = true) : shp 2 (.list (l.map .str)) := shp_list fun d hd => by
  obtain ⟨x, hx, rfl⟩ := List.mem_map.mp hd
  exact shp_str (h x hx)
theorem eqv_self {n : Nat} {d : PyData} (h : shp n d) : PyData.eqv d d = true := SeqAt.eqv_refl d h.1
theorem strOk_S {l : List Nat} (h : ∀ a ∈ l, a < 1114112) : PyData.strOk (S l) = true := by
  unfold PyData.strOk S
  simpa using h
theorem strOk_slash : PyData.strOk "/" = true := by decide +kernel

section
variable {Γ : Gx} {c : Cx} {st : St} {s s0 s1 : Shared} {A : Around} {E : Value → Shared → Prop} {K : Prop}
/-- a store of a name that is not followed -/
theorem R.unt {x : Str} {s' : Shared} (r : R Γ c st s) (hx : st.lookup x = none)
    (hp : ∃ p, own c.env p ∧ (∃ o, s'.heap.get? p = some o) ∧ ∀ b, b ≠ p → s'.heap.get? b = s.heap.get? b) (hg : s'.gens = s.gens) (ho : s'.os = s.os) (hy : ∀ y u, y ≠ x → Bd c.env s.heap y u → Bd c.env s'.heap y u)
    (hf : ∃ m, s'.heap.Ns c.env.locals m) (hc : ∀ y a, c.env.cells.lookup y = some a → ∃ u, s'.heap.IsCell a u) : R Γ c st s' ∧ Mv c st s st s' := by
  obtain ⟨p, hp, hpo, hs⟩ := hp
  have mv' : Mv c st s st s' := .ex (fz_mono fun b o hx e => ⟨hx, (hs b fun q => hx (.inl (r.ownH b (q ▸ hp)))).trans e⟩) fun b o _ hno e => (hs b fun q => hno (q ▸ hp)).trans e
  have mv := mv'.sub
  refine ⟨?_, mv'⟩
  exact {
    gd := r.gd
    keep := fun b o e => (hs b fun q => by have := r.ownB b (q ▸ hp); rw [e] at this; cases this).trans (r.keep b o e)
    rm := r.rm
    gens := hg.trans r.gens
    os := ho.trans r.os
    hk := r.hk
    glob := r.glob
    bns := r.bns
    frame := hf
    cells := hc
    ownH := r.ownH
    ownB := r.ownB
    apart := r.apart
    apartL := r.apartL
    low := fun b h => by
      obtain ⟨o, e⟩ := r.low b h
      by_cases q : b = p
      · subst q; exact hpo
      · exact ⟨o, (hs b q).trans e⟩
    tab := r.tab.mono mv
    fo := mv'.fo r.fo
    bound := fun y av e => by
      have q : y ≠ x := fun q => by rw [q, hx] at e; cases e
      obtain ⟨u, h1, h2⟩ := r.bound y av e
      exact ⟨u, hy y u q h1, h2.step mv fun l ds e' o eo => (hs l fun e2 => e'.elim (fun e' => r.mOwn y l ds (mem_of_lookup (e' ▸ e)) (e2 ▸ hp)) fun e' => r.vOwn y l ds (mem_of_lookup (e' ▸ e)) (e2 ▸ hp)).trans eo⟩
    keys := r.keys
    mHid := r.mHid
    vOwn := r.vOwn
    mBase := r.mBase
    mApart := r.mApart }

theorem uldR_two (z : Str) (ls : List Str) (hz : z ∈ ls) (hs : Str.ofString "/" ∉ ls) : uldR [Str.ofString "/", z] ls [] = ([Str.ofString "/"], ls.erase z) := by
  simp only [uldR, if_neg hs, if_pos hz, List.nil_append]

theorem WA_names2 {x y : Str} {px py pos : Pos} {a b : AV} (hx : st.lookup x = some a) (hy : st.lookup y = some b)
    (hdx : (x == ("__debug__" : Str)) = false := by decide) (hnx : (x == ("__classdict__" : Str)) = false := by decide) (hdy : (y == ("__debug__" : Str)) = false := by decide) (hny : (y == ("__classdict__" : Str)) = false := by decide)
    (he : starEach [.Name x px, .Name y py] c.env = (false, eval (.Name x px) c.env) :: starEach [.Name y py] c.env := by rfl) (he2 : starEach [.Name y py] c.env = (false, eval (.Name y py) c.env) :: starEach [] c.env := by rfl) :
    WA Γ c st (spliced (backTo pos (starEach [.Name x px, .Name y py] c.env))) fun avs => avs = [a, b] :=
  WA_cons (WE_name hx (WA_cons (WE_name hy (WA_nil rfl) hdy hny) he2) hdx hnx) he
theorem WA.run {t : Sem (List Value)} {Q : List AV → Prop} (r : R Γ c st s) (h : WA Γ c st t Q) :
    wpAny (mo Γ) c.A t (WAp Γ c st Q s) (fun _ _ => False) s := h s r
inductive UlI (g l m : Addr) (ms' ls' : List Str) (n : Nat) (st : St) : Prop
  | mk (r ls1 ms1 : List Str) (hn : n = r.length) (h : r.length + ms1.length ≤ 100 ∧ ls1.length ≤ 100) (hu : uldR r ls1 ms1 = (ms', ls')) (e : st = uldSt g l m r ls1 ms1)
/-- the body of unorderable_list_difference -/
theorem call_uld {x y : Str} {g l fa : Addr} {gs ls : List Str} {outer : List Env} {Q : Value → Shared → Prop}
    (r : R Γ c st s) (ho : c.out = some outer) (hx : st.lookup x = some (.M g (gs.map .str))) (hy : st.lookup y = some (.M l (ls.map .str))) (hxy : y ≠ x) (hV : st.all (fun p => notV p.2) = true) (hn : 1 ≤ c.n) (hfa : Γ.mg "unorderable_list_difference" = some (.ref fa))
    (hgl : gs.length ≤ 100) (hll : ls.length ≤ 100) {ms' ls' : List Str} (hres : uldR gs.reverse ls [] = (ms', ls'))
    (hV1 : (upd st x (.M g [])).all (fun p => notV p.2) = true) (hV2 : (upd (upd st x (.M g [])) y (.M l (ls'.map .str))).all (fun p => notV p.2) = true)
    (h : ∀ s3 T m k1 vsm k2, s3.heap.get? T = some (plainT #[.ref m, .ref l] k1) → s3.heap.get? m = some (plainL vsm k2) → RdL s3.heap vsm.toList (ms'.map .str) → ¬ Hd c st T → ¬ Hd c st m →
      R Γ c (upd (upd st x (.M g [])) y (.M l (ls'.map .str))) s3 → Mv c st s (upd (upd st x (.M g [])) y (.M l (ls'.map .str))) s3 → Q (.ref T) s3) :
    wpAny (mo Γ) c.A (call (.ref fa) [.ref g, .ref l]) Q (fun _ _ => False) s := by
  have hsl : sizeLine = 2 ^ 24 := rfl
  refine call_M2 (j := 12) (n := 0) (x1 := "expected") (x2 := "actual") (gs' := []) (ls' := ls'.map .str) (P := fun T m s3 => ∃ k1 vsm k2, s3.heap.get? T = some (plainT #[.ref m, .ref l] k1) ∧ s3.heap.get? m = some (plainL vsm k2) ∧ RdL s3.heap vsm.toList (ms'.map .str))
    (by rfl) ?_ (by decide +kernel) (by decide +kernel) (by decide) rfl rfl rfl r ho hx hy hxy hV hn hfa ?_ (by intro d hd; cases hd) (strs_flat _) hV1 hV2 (fun s3 T m ⟨k1, vsm, k2, p1, p2, p3⟩ hT hm r3 m3 => h s3 T m k1 vsm k2 p1 p2 p3 hT hm r3 m3)
  · exact fun pm cd doc => len2 fun v u => rfl
  · intro κ outer2 s2 r2
    refine WS_then (Q := fun st' => ∃ m, st' = uldSt g l m gs.reverse ls []) r2 (WS_AssignNew (WN_List (WA_nil ⟨[], rfl, by decide, by simp, fun m => ⟨rfl, m, by rw [uldSt, List.reverse_reverse]; rfl⟩⟩))) ?_
    rintro s3 _ ⟨m, rfl⟩ r3 m3
    refine WS_then (Q := fun st' => st' = uldSt g l m [] ls' ms') r3 (WS_While (UlI g l m ms' ls') ?_ _ ⟨gs.reverse, ls, [], rfl, ⟨by simpa using hgl, hll⟩, hres, rfl⟩) ?_
    · rintro _ st ⟨rr, ls1, ms1, rfl, ⟨hz1, hz2⟩, hu, rfl⟩
      refine WB_plain (WE_name rfl ⟨_, .list _ _ rfl (by simp; (clear ho hx hy hxy hV hn hfa hgl hll hres hV1 hV2 h hz2 hu; omega)), ?_⟩)
      cases rr with
      | nil =>
        refine ⟨fun h => (by cases h), fun _ => WS_nil ⟨rfl, ?_⟩⟩
        unfold uldR at hu
        cases hu
        rfl
      | cons z rr =>
        refine ⟨fun _ => ?_, fun h => ?_⟩
        · have e0 : uldSt g l m (z :: rr) ls1 ms1 = ([("expected", .M g (rr.reverse.map .str ++ [.str z])), ("actual", .M l (ls1.map .str)), ("missing", .M m (ms1.map .str))] : St) := by
            unfold uldSt; simp
          rw [e0]
          simp only [List.length_cons] at hz1
          refine WS_cons (WS_pop rfl (by simp; (clear ho hx hy hxy hV hn hfa hgl hll hres hV1 hV2 h hz2 hu e0; omega)) rfl ?_)
          show WS _ _ _ (execs _ _) _
          unfold uldR at hu
          refine WS_cons (WS_TryExcept (outer := outer2) (K := True) (QE := fun st1 => z ∉ ls1 ∧ st1 = uldSt g l m rr ls1 ms1 ++ ([("item", .D (.str z))] : St)) rfl bi_ValueError F.isExc_ValueError F.notTuple_ValueError F.self_ValueError ?_ ?_)
          · refine WX_cons (WX_remove rfl rfl (by (clear ho hx hy hxy hV hn hfa hgl hll hres hV1 hV2 h hz1 e0 hu; omega)) rfl (fun hm => ?_) (fun hm => ⟨hm, rfl⟩))
            rw [if_pos hm] at hu
            refine WX_nil ?_
            refine WS_end (uldSt g l m rr (ls1.erase z) ms1) ⟨rfl, rfl, rfl, trivial⟩ ⟨_, by simp, rr, ls1.erase z, ms1, rfl, ⟨by (clear ho hx hy hxy hV hn hfa hgl hll hres hV1 hV2 h hsl hz2 e0 hu; omega), ?_⟩, hu, rfl⟩ (by show (["expected", "actual", "missing"] : List Str).Nodup; decide +kernel)
            have := List.length_erase_le (a := z) (l := ls1); (clear ho hx hy hxy hV hn hfa hgl hll hres hV1 hV2 h hsl hz1 e0 hu; omega)
          · rintro st1 e ⟨hm, rfl⟩
            rw [if_neg hm] at hu
            refine WSA_cons (WSA_append rfl rfl (by simp; (clear ho hx hy hxy hV hn hfa hgl hll hres hV1 hV2 h hz2 e0 hu hm; omega)) rfl ?_)
            refine WSA_nil ?_
            refine WS_end (uldSt g l m rr ls1 (ms1 ++ [z])) ⟨rfl, rfl, by rw [List.map_append]; rfl, trivial⟩ ⟨_, by simp, rr, ls1, ms1 ++ [z], rfl, ⟨by simp; (clear ho hx hy hxy hV hn hfa hgl hll hres hV1 hV2 h hsl hz2 e0 hu hm; omega), hz2⟩, hu, rfl⟩ (by show (["expected", "actual", "missing"] : List Str).Nodup; decide +kernel)
        · simp at h
    · rintro s4 _ rfl r4 m4
      refine ret_last (Tuple_ (wpAny_mono (WA.run r4 (WA_names2 (a := .M m (ms'.map .str)) (b := .M l (ls'.map .str)) rfl rfl)) (fun vs s5 ⟨k5, avs, va, ea⟩ => ?_) fun _ _ x => x))
      subst ea
      have r5 := r4.kp k5
      cases va with
      | cons h1 t =>
        cases t with
        | cons h2 t =>
          cases t
          obtain ⟨rfl, vsm, k2, g1, g2⟩ := h1
          obtain ⟨rfl, vsl, k3, g3, g4⟩ := h2
          refine wpAny_newObj_type ?_ (by show 2 ≤ sizeLine; decide)
          have k6 : Kp s5 { s5 with heap := s5.heap.push (plainT #[.ref m, .ref l] 0) } := Kp.new s5 _
          have r6 := r5.kp k6
          have live : ∀ {b o}, s5.heap.get? b = some o → b ≠ s5.heap.objs.size := fun e => Nat.ne_of_lt (Heap.lt_size e)
          obtain ⟨_, _, rfl, vsg, k7, g5, _⟩ := r5.bound "expected" _ rfl
          have hmm : m ≠ g ∧ m ≠ l := by
            refine ⟨fun e => ?_, fun e => ?_⟩
            · subst e; exact absurd (r5.mApart "missing" "expected" m _ _ (.tail _ (.tail _ (.head _))) (.head _)) (by decide)
            · subst e; exact absurd (r5.mApart "missing" "actual" m _ _ (.tail _ (.tail _ (.head _))) (.tail _ (.head _))) (by decide)
          refine ⟨s5.heap.objs.size, m, _, rfl, m3.trans (m4.trans (k5.trans k6).mv), r6, rfl, rfl, ⟨0, vsm, k2, Heap.get?_push_size _ rfl, k6.heap _ _ g1, RdL.flat_any g2 (strs_flat _) _⟩, ⟨Ne.symm (live g5), Ne.symm (live g3), fun hh => ?_⟩, hmm.1, hmm.2, r5.mHid "missing" m _ (.tail _ (.tail _ (.head _)))⟩
          obtain ⟨o, e⟩ := r5.low _ hh
          exact live e rfl
end
end Mine
end
section
open PySem PySem.Calls PyProof.Rows
namespace Mine
section
variable {Γ : Gx} {c : Cx} {st : St} {s s0 s1 : Shared} {A : Around} {E : Value → Shared → Prop} {K : Prop}
theorem WB.run {t : Sem Bool} {Q : Bool → Prop} (r : R Γ c st s) (h : WB Γ c st t Q) : wpAny (mo Γ) c.A t (WBp Q s) (fun _ _ => False) s := h s r
theorem WS.run {t : Sem Flow} {Q : Fl → St → Prop} (r : R Γ c st s) (h : WS Γ c st t Q) :
    wpAny (mo Γ) c.A t (WSp Γ c st Q s) (fun _ _ => False) s := h s r
theorem shp_answer {ls : List Str} (h : ∀ x ∈ ls, PyData.strOk x = true) : shp 3 (.tuple [.list [.str "/"], .list (ls.map .str)]) := shp_tuple fun d hd => by
  rcases List.mem_cons.mp hd with e | hd
  · rw [e]; exact shp_list fun d hd => by rw [List.mem_singleton.mp hd]; exact shp_str strOk_slash
  · rw [List.mem_singleton.mp hd]; exact shp_strs h
theorem seq_next {x : Stmt} {rest : List Stmt} {env : Env} {P : Flow → Shared → Prop} {I : Shared → Prop}
    (h : wpAny (mo Γ) A (exec x env) (fun f s1 => f = .next ∧ I s1) E s) (k : ∀ s1, I s1 → wpAny (mo Γ) A (execs rest env) P E s1) : wpAny (mo Γ) A (execs (x :: rest) env) P E s :=
  wpAny_execs_cons (wpAny_mono h (fun f s1 hf => by rw [hf.1]; exact k s1 hf.2) fun _ _ x => x)
theorem or_step {e : Expr} {rest : List Expr} {pos : Pos} {whole : Sem Value} {env : Env} {Q : Bool → Shared → Prop} {I : Shared → Prop} (h : wpAny (mo Γ) A (isTrue e env (eval e env)) (fun b s1 => b = false ∧ I s1) E s)
    (k : ∀ s1, I s1 → wpAny (mo Γ) A (isTrue (.BoolOp .Or rest pos) env whole) Q E s1) : wpAny (mo Γ) A (isTrue (.BoolOp .Or (e :: rest) pos) env whole) Q E s :=
  isTrue_or (wpAny_mono h (fun b s1 hb => by rw [hb.1]; exact k s1 hb.2) fun _ _ x => x)
theorem ifF_step {test : Expr} {body rest : List Stmt} {pos : Pos} {env : Env} {P : Flow → Shared → Prop} {I : Shared → Prop} (h : wpAny (mo Γ) A (isTrue test env (eval test env)) (fun b s1 => b = false ∧ I s1) E s)
    (k : ∀ s1, I s1 → wpAny (mo Γ) A (execs rest env) P E s1) : wpAny (mo Γ) A (execs (.If test body [] pos :: rest) env) P E s :=
  wpAny_execs_cons (wpAny_If (wpAny_mono h (fun b s1 hb => by rw [hb.1]; exact wpAny_execs_nil (k s1 hb.2)) fun _ _ x => x))
/-- what unorderable_list_difference's answer stands on -/
inductive UldA (Γ : Gx) (c : Cx) (st st' : St) (s : Shared) (l : Addr) (s4 : Shared) : Prop
  | mk (T m : Addr) (k1 : Nat) (vsm : Array Value) (k2 : Nat) (hb : Bd c.env s4.heap "answer" (.ref T)) (b1 : s4.heap.get? T = some (plainT #[.ref m, .ref l] k1)) (b2 : s4.heap.get? m = some (plainL vsm k2))
    (a3 : RdL s4.heap vsm.toList [.str "/"]) (r4 : R Γ c st' s4) (m4 : Mv c st s st' s4)
theorem uld_cmp {l T m : Addr} {kT km : Nat} {vsm : Array Value} {ys : List Str} {p7 p8 p9 p10 p11 p12 : Pos} {k1 k2 : Nat} (hb : Bd c.env s.heap "answer" (.ref T)) (b1 : s.heap.get? T = some (plainT #[.ref m, .ref l] kT)) (b2 : s.heap.get? m = some (plainL vsm km))
    (a3 : RdL s.heap vsm.toList [.str "/"]) (r4 : R Γ c st s) (hlL : st.lookup ("left" : Str) = some (.M l (ys.map .str))) (ok' : ∀ x ∈ ys, PyData.strOk x = true) :
    wpAny (mo Γ) c.A (isTrue (.Compare (.Name "answer" p7) [.NotEq] [.Tuple [.List [.Constant (.str "/") k1 p8] p9, .Name "left" p10] k2 p11] p12) c.env (eval (.Compare (.Name "answer" p7) [.NotEq] [.Tuple [.List [.Constant (.str "/") k1 p8] p9, .Name "left" p10] k2 p11] p12) c.env))
      (fun b s' => b = false ∧ Kp s s') (fun _ _ => False) s := by
  have hsl : sizeLine = 2 ^ 24 := rfl
  have hflat : ∀ d ∈ ([.str "/"] : List PyData), flat d = true := by intro d hd; rw [List.mem_singleton.mp hd]; rfl
  have hu : c.A.units + 64 < cLine := by have := r4.rm.units; have : cLine = 9900 := rfl; omega
  refine wpAny_isTrue_Compare1 (wpAny_Name (loadName_Bd r4.hk hb (Tuple_ (wpAny_mono (WA.run r4 (Q := fun avs => avs = [.D (.list [.str "/"]), .M l (ys.map .str)]) (WA_cons (WE_List (WA_cons (WE_str (WA_nil ⟨_, rfl, by decide, WA_cons (WE_name hlL (WA_nil rfl))⟩)))))) (fun vs s5 ⟨k5, avs, va, ea⟩ => ?_) fun _ _ x => x)) (by decide)) (by decide))
  subst ea
  have r5 := r4.kp k5
  cases va with
  | cons w1 t =>
    cases t with
    | cons w2 t =>
      cases t
      obtain ⟨rfl, vsl, kl, g1, g2⟩ := w2
      refine wpAny_newObj_type ?_ (by show 2 ≤ sizeLine; decide)
      rename_i w1v _
      have k6 : Kp s5 { s5 with heap := s5.heap.push (plainT #[w1v, .ref l] 0) } := Kp.new s5 _
      have k56 := k5.trans k6
      have rdl : Rd (s5.heap.push (plainT #[w1v, .ref l] 0)) (.ref l) (.list (ys.map .str)) := .list (k6.heap _ _ g1) (RdL.flat_any g2 (strs_flat _) _)
      have rT : Rd (s5.heap.push (plainT #[w1v, .ref l] 0)) (.ref T) (.tuple [.list [.str "/"], .list (ys.map .str)]) :=
        .tuple (vs := #[.ref m, .ref l]) (k56.heap _ _ b1) (.cons (.list (k56.heap _ _ b2) (RdL.flat_any a3 hflat _)) (.cons rdl .nil))
      have rT2 : Rd (s5.heap.push (plainT #[w1v, .ref l] 0)) (.ref s5.heap.objs.size) (.tuple [.list [.str "/"], .list (ys.map .str)]) :=
        .tuple (vs := #[w1v, .ref l]) (Heap.get?_push_size _ rfl) (.cons (Rd.mono (Sub.trans (fz_sub _ _) k6.heap) w1) (.cons rdl .nil))
      obtain ⟨as, ra⟩ := rT.reads
      obtain ⟨bs, rb⟩ := rT2.reads
      have hsh := shp_answer ok'
      refine SeqAt.compareNe_shaped ra rb (hsh.shaped (by decide)) (hsh.shaped (by decide)) hu (wpAny_truthy_bool ⟨?_, k56⟩)
      rw [eqv_self hsh]; rfl
/-- answer = unorderable_list_difference(given, left), and the test behind it -/
theorem WS_uld {g l : Addr} {z : Str} {ls : List Str} {outer : List Env} {rest body : List Stmt} {Q : Fl → St → Prop} {p1 p2 p3 p4 p5 p6 p7 p8 p9 p10 p11 p12 p13 p14 p15 p16 p17 p18 p19 p20 p21 p22 : Pos} {k1 k2 k3 : Nat}
    (ho : c.out = some outer) (hx : st.lookup ("given" : Str) = some (.M g [.str z, .str "/"])) (hy : st.lookup ("left" : Str) = some (.M l (ls.map .str))) (hna : st.lookup ("answer" : Str) = none) (hV : st.all (fun p => notV p.2) = true) (hn : 1 ≤ c.n)
    (hll : ls.length ≤ 100) (hz : z ∈ ls) (hs : Str.ofString "/" ∉ ls) (hok : ∀ x ∈ ls, PyData.strOk x = true)
    (hV1 : (upd st "given" (.M g [])).all (fun p => notV p.2) = true) (hV2 : (upd (upd st "given" (.M g [])) "left" (.M l ((ls.erase z).map .str))).all (fun p => notV p.2) = true)
    (h : WS Γ c (upd (upd st "given" (.M g [])) "left" (.M l ((ls.erase z).map .str))) (execs rest c.env) Q)
    (hkA : Stor c.env "answer" := by exact .inl rfl) (hkf : c.env.kindOf "unorderable_list_difference" = some .globalImplicit := by rfl)
    (hsw : swapsWith (.Call (.Name "unorderable_list_difference" p2) [.Name "given" p3, .Name "left" p4] [] p5) (some (.Name "answer" p1)) p6.line c.env = pure false := by rfl) :
    WS Γ c st (execs (.Assign [.Name "answer" p1] (.Call (.Name "unorderable_list_difference" p2) [.Name "given" p3, .Name "left" p4] [] p5) p6 ::
      .If (.BoolOp .Or [.Compare (.Name "answer" p7) [.NotEq] [.Tuple [.List [.Constant (.str "/") k1 p8] p9, .Name "left" p10] k2 p11] p12,
        .Compare (.Subscript (.Name "answer" p13) (.Constant (.int 1) k3 p14) p15) [.IsNot] [.Name "left" p16] p17,
        .Compare (.Name "given" p18) [.NotEq] [.List [] p19] p20] p21) body [] p22 :: rest) c.env) Q := fun s r => by
  obtain ⟨fa, o, fd, h1, h2, h3⟩ := r.gdH.fnAt fn_uld
  refine seq_next (I := UldA Γ c st (upd (upd st "given" (.M g [])) "left" (.M l ((ls.erase z).map .str))) s l) (wpAny_Assign_Name (Call_ (name_global r hkf h1 (by decide) (callWith_def h3 (wpAny_mono (WA.run r (WA_names2 hx hy)) (fun vs s1 ⟨k1, avs, va, ea⟩ => ⟨k1.heap _ _ h2, ?_⟩) fun _ _ x => x.elim) rfl)) rfl) hsw)
    fun s4 ⟨T, m, kT, vsm, km, hb, b1, b2, a3, r4, m4⟩ => ?_
  · subst ea
    have r1 := r.kp k1
    cases va with
    | cons v1 t =>
      cases t with
      | cons v2 t =>
        cases t
        obtain ⟨rfl, _⟩ := v1
        obtain ⟨rfl, _⟩ := v2
        refine call_uld (gs := [z, "/"]) (ms' := ["/"]) r1 ho hx hy (by decide) hV hn h1 (by simp) hll (uldR_two z ls hz hs) hV1 hV2 fun s3 T m k1' vsm k2' a1 a2 a3 a4 a5 r3 m3 => ?_
        have hlA : (upd (upd st "given" (.M g [])) "left" (.M l ((ls.erase z).map .str))).lookup ("answer" : Str) = none := by
          rw [upd_look_ne _ _ (by decide), upd_look_ne _ _ (by decide)]; exact hna
        refine store_name r3 hkA fun s4 hp hg ho' hb hyy hf hc => ?_
        obtain ⟨r4, m4⟩ := r3.unt hlA hp hg ho' hyy hf hc
        obtain ⟨p, hp1, hp2, hp3⟩ := hp
        have nown : ∀ b, ¬ Hd c st b → b ≠ p := fun b hb e => hb (.inl (r.ownH b (e ▸ hp1)))
        exact ⟨rfl, T, m, k1', vsm, k2', hb, (hp3 T (nown T a4)).trans a1, (hp3 m (nown m a5)).trans a2, RdL.flat_any a3 (fun d hd => by rw [List.mem_singleton.mp hd]; rfl) _, r4, k1.mv.trans (m3.trans m4)⟩
  · generalize hst : upd (upd st "given" (.M g [])) "left" (.M l ((ls.erase z).map .str)) = st' at r4 m4 h hV2
    have hlL : st'.lookup ("left" : Str) = some (.M l ((ls.erase z).map .str)) := by rw [← hst, upd_look_self]
    have hlG : st'.lookup ("given" : Str) = some (.M g []) := by rw [← hst, upd_look_ne _ _ (by decide), upd_look_self]
    clear hst
    refine ifF_step (I := Kp s4) (or_step (uld_cmp hb b1 b2 a3 r4 hlL fun x hx => hok x (List.mem_of_mem_erase hx)) fun s5 k5 => ?_) fun s7 k =>
      wpAny_mono (WS.run (r4.kp k) h) (fun f s8 ⟨st8, fl, m8, q⟩ => ⟨st8, fl, m4.trans (k.mv.trans m8), q⟩) fun _ _ x => x
    have r5 := r4.kp k5
    have b1' := k5.heap _ _ b1
    have hb5 := hb.mono k5.heap
    refine or_step (I := Kp s4) ?_ fun s6 k6 => or_step (I := Kp s4) ?_ fun s7 k7 => isTrue_or_nil ⟨rfl, k7⟩
    · obtain ⟨_, hbl, rfl, vsl, kl, g1, g2⟩ := r5.bound "left" _ hlL
      refine wpAny_isTrue_Compare1 (Subscript_ (wpAny_Name (loadName_Bd r5.hk hb5 (wpAny_Constant_int ?_) (by decide)) (by decide)))
      refine item_tupleT (l := [.ref m, .ref l]) (j := 1) (plainT_isTup b1') (by decide) (by decide) (by show seqIndex? 1 2 = some 1; decide) rfl ?_ rfl
      exact wpAny_Name (loadName_Bd r5.hk hbl (isnot_ref_same (wpAny_truthy_bool ⟨rfl, k5.trans (Kp.toks _ _)⟩)) (by decide)) (by decide)
    · refine wpAny_mono (WB.run (r4.kp k6) (Q := fun b => b = false) (WB_Compare (WE_name hlG (WE_List (WA_nil ⟨[], rfl, by decide, _, .neD _ _ (.list []) (.list []) rfl rfl (by decide) (by decide), ?_⟩))))) (fun b s7 ⟨k, e⟩ => ⟨e, k6.trans k⟩) fun _ _ x => x
      decide
end
end Mine
end
section
open PySem PySem.Calls PyProof.Rows
namespace Mine
/-! one by one -/
noncomputable def txL (up : Nat → Nat) (ks : List Nat) : List Str := ks.map (textF up)
noncomputable def ready (up : Nat → Nat) (may : Nat → Bool) (l : List Nat) : List Nat := l.filter fun k => may k && !((l.map up).any (· == k))
noncomputable def obo (up : Nat → Nat) (may : Nat → Bool) : Nat → List Nat → List Nat
  | 0, l => l
  | n + 1, l => match (ready up may l).getLast? with
    | none => l
    | some z => obo up may n (l.erase z)
noncomputable def frL (up : Nat → Nat) (may : Nat → Bool) : List (Str × PyData) := (upto 1 10).map fun k => (textF up k, .bool (may k))
theorem frL_look (up : Nat → Nat) (hup : ∀ k, 0 < k → up k < k) (may : Nat → Bool) (k : Nat) (h0 : 0 < k) (h9 : k < 10) : (frL up may).lookup (textF up k) = some (.bool (may k)) :=
  look_map (textF up) (fun k => .bool (may k)) (fun _ _ h => textF_inj up hup h) k _ (mem_upto.mpr ⟨h0, h9⟩)
theorem any_tx (up : Nat → Nat) (hup : ∀ k, 0 < k → up k < k) (l : List Nat) (k : Nat) : (txL up l).any (· == textF up k) = l.any (· == k) := by
  unfold txL
  rw [List.any_map]
  congr 1
  funext j
  show (textF up j == textF up k) = (j == k)
  by_cases h : j = k
  · rw [h]; simp
  · rw [beq_eq_false_iff_ne.mpr h, beq_eq_false_iff_ne.mpr fun e => h (textF_inj up hup e)]
theorem filter_tx (up : Nat → Nat) (p : PyData → Bool) (l : List Nat) : (((txL up l).map PyData.str).filter p).map id = (txL up (l.filter fun k => p (.str (textF up k)))).map .str := by
  rw [List.map_id, txL, txL, List.map_map, List.filter_map, List.map_map]; rfl
theorem txL_erase (up : Nat → Nat) (hup : ∀ k, 0 < k → up k < k) (z : Nat) : ∀ l : List Nat, (txL up l).erase (textF up z) = txL up (l.erase z)
  | [] => rfl
  | x :: r => by
    unfold txL
    rw [List.map_cons, List.erase_cons, List.erase_cons]
    by_cases h : x = z
    · subst h; simp
    · have h1 : (textF up x == textF up z) = false := beq_eq_false_iff_ne.mpr fun e => h (textF_inj up hup e)
      have h2 : (x == z) = false := beq_eq_false_iff_ne.mpr h
      rw [h1, h2]
      simp only [Bool.false_eq_true, if_false, List.map_cons]
      have := txL_erase up hup z r
      unfold txL at this
      rw [this]
theorem path_ok (up : Nat → Nat) : ∀ k, k < 1000 → ∀ a ∈ path up k, a < 1114112 := by
  intro k
  induction k using Nat.strongRecOn with
  | _ k ih =>
    intro hk a ha
    rw [path] at ha
    split at ha
    · rename_i h
      rcases List.mem_append.mp ha with ha | ha
      · exact ih (up k) h (by exact Nat.lt_trans h hk) a ha
      · simp only [List.mem_cons, List.not_mem_nil, or_false] at ha
        omega
    · cases ha
theorem textF_ok (up : Nat → Nat) (k : Nat) (hk : k < 10) : PyData.strOk (textF up k) = true := by
  unfold textF
  split
  · exact strOk_S (path_ok up k (by exact Nat.le_trans hk (by decide)))
  · exact strOk_slash
theorem slash_textF (up : Nat → Nat) : Str.ofString "/" = textF up 0 := rfl
section
variable {Γ : Gx} {c : Cx} {st : St} {s s0 s1 : Shared} {A : Around} {E : Value → Shared → Prop} {K : Prop}
theorem fn_law_obo : isFn "_law_one_by_one" := by unfold isFn; decide +kernel
noncomputable def obSt (up : Nat → Nat) (may : Nat → Bool) (a1 : Addr) (l : List Nat) : St := [("paths", .D (.list ((txL up (upto 1 10)).map .str))), ("free", .K (frL up may)), ("left", .M a1 ((txL up l).map .str))]
inductive ObI (up : Nat → Nat) (may : Nat → Bool) (a1 : Addr) (i : Nat) (st : St) : Prop
  | mk (l : List Nat) (h : l.length + i ≤ 9 ∧ (∀ k ∈ l, 0 < k ∧ k < 10)) (h1 : obo up may (10 - i) l = obo up may 10 (upto 1 10)) (e : st = obSt up may a1 l)
theorem con_law_obo (up : Nat → Nat) (hup : ∀ k, 0 < k → up k < k) (may : Nat → Bool) :
    ConS Γ 3 "_law_one_by_one" [.D (.list ((txL up (upto 1 10)).map .str)), .K (frL up may)] (.D (.list ((txL up (obo up may 10 (upto 1 10))).map .str))) := by
  have hsl : sizeLine = 2 ^ 24 := rfl
  refine con_fnS (j := 17) ["paths", "free"] (by rfl) rfl rfl rfl ?_ (by decide +kernel) (by decide +kernel) ?_ rfl rfl rfl
  · exact fun pm cd doc => len2 fun v u => rfl
  · intro κ outer
    refine WS_cons (WS_AssignNew (WN_list (WE_name rfl ⟨_, rfl, by simp [txL, upto]; decide, strs_flat _, fun a1 => ?_⟩)))
    refine WS_cons (WS_For (fun _ => ObI up may a1) ?_)
    refine WE_range1 (WE_int ⟨_, .one _, rfl, rangeDs 0 10 1, .range _ _ _ (by decide), ?_, ?_, ?_, ?_⟩)
    · exact ⟨upto 1 10, ⟨by decide, fun k hk => by have := mem_upto.mp hk; assumption⟩, rfl, rfl⟩
    · rintro i st1 ⟨l, _, _, rfl⟩; rfl
    · rintro hid' i d st1 hd ⟨l, ⟨hl1, hl2⟩, hobo, rfl⟩
      obtain ⟨rfl, hi⟩ := rangeDs_at hd
      have hll : (txL up l).length = l.length := by simp [txL]
      have hlz : ((txL up l).map PyData.str).length ≤ sizeLine := by rw [List.length_map, hll]; (clear hup hl2 hobo hi hd hll; omega)
      have atL : ∀ (j : Nat) (d : PyData), ((txL up l).map PyData.str)[j]? = some d → ∃ k, k ∈ l ∧ d = .str (textF up k) := fun j d h => by
        rw [txL, List.map_map, List.getElem?_map, Option.map_eq_some_iff] at h
        obtain ⟨k, hk, rfl⟩ := h
        exact ⟨k, List.mem_of_getElem? hk, rfl⟩
      refine WS_cons (WS_Assign (WE_ListComp (fun _ => true) (fun d => match d with | .str x => .str (dirnameF x) | _ => .none) (cl := []) (by exact ⟨by rfl, by decide +kernel, rfl, by decide +kernel, rfl, (by repeat (first | exact List.forall_mem_nil _ | refine List.forall_mem_cons.mpr ⟨⟨rfl, rfl, rfl⟩, ?_⟩)), (by (try simp only [List.map_cons, List.map_nil]); decide +kernel)⟩) (WE_name rfl ⟨_, .list _ _ rfl, hlz, ?_, ?_⟩)))
      · intro hid2 C j d hd
        obtain ⟨k, hk, rfl⟩ := atL j d hd
        refine ⟨rfl, fun _ => WE_call1 fn_dirname (WE_name rfl ⟨_, con_dirname _ (by have := textF_len up k (hl2 k hk).2; exact Nat.le_trans this (by decide)), rfl⟩) (Nat.le_refl 2)⟩
      have e1 : (((txL up l).map PyData.str).filter fun _ => true).map (fun d => match d with | .str x => PyData.str (dirnameF x) | _ => .none) = (txL up (l.map up)).map .str := by
        rw [List.filter_eq_self.mpr (fun _ _ => rfl), txL, txL, List.map_map, List.map_map, List.map_map, List.map_map]
        refine List.map_congr_left fun k hk => ?_
        show PyData.str (dirnameF (textF up k)) = PyData.str (textF up (up k))
        rw [dirname_text up hup k (hl2 k hk).1 (hl2 k hk).2]
      rw [e1]
      refine ⟨rfl, ?_⟩
      show WS _ _ _ (execs _ _) _
      refine WS_cons (WS_AssignComp (fun d => match d with | .str x => (match (frL up may).lookup x with | some (.bool b) => b | _ => false) && !((txL up (l.map up)).any (· == x)) | _ => false) id (cl := [("holders", κ.L + 1 + 1), ("free", κ.L + 1)]) (by exact ⟨by rfl, by decide +kernel, rfl, by decide +kernel, rfl, (by repeat (first | exact List.forall_mem_nil _ | refine List.forall_mem_cons.mpr ⟨⟨rfl, rfl, rfl⟩, ?_⟩)), (by (try simp only [List.map_cons, List.map_nil]); decide +kernel)⟩) (WE_name rfl ⟨_, .list _ _ rfl, hlz, ?_, ?_⟩))
      · intro hid2 C j d hd
        obtain ⟨k, hk, rfl⟩ := atL j d hd
        have hlook := frL_look up hup may k (hl2 k hk).1 (hl2 k hk).2
        refine WB_and (WB_plain (WE_Subscript (WE_name rfl (WE_name rfl ⟨_, .dict _ _ _ hlook, _, .bool _, ?_⟩))))
        refine ⟨fun hb => ?_, fun hb => ?_⟩
        · refine WB_and (WB_Compare (WE_name rfl (WE_name rfl ⟨_, .notInL _ _ (txL up (l.map up)) rfl, ?_⟩)))
          refine ⟨fun h2 => WB_and_nil ⟨?_, fun _ => WE_name rfl rfl⟩, fun h2 => ⟨?_, fun h => (by cases h)⟩⟩
          · show true = ((match (frL up may).lookup (textF up k) with | some (.bool b) => b | _ => false) && _)
            rw [hlook]; dsimp only; rw [hb, Bool.true_and]; exact h2.symm
          · show false = ((match (frL up may).lookup (textF up k) with | some (.bool b) => b | _ => false) && _)
            rw [hlook]; dsimp only; rw [hb, Bool.true_and]; exact h2.symm
        · refine ⟨?_, fun h => (by cases h)⟩
          show false = ((match (frL up may).lookup (textF up k) with | some (.bool b) => b | _ => false) && _)
          rw [hlook]; dsimp only; rw [hb, Bool.false_and]
      rw [filter_tx]
      have e2 : (l.filter fun k => (match PyData.str (textF up k) with | .str x => (match (frL up may).lookup x with | some (.bool b) => b | _ => false) && !((txL up (l.map up)).any (· == x)) | _ => false)) = ready up may l := by
        unfold ready
        refine List.filter_congr fun k hk => ?_
        dsimp only
        rw [frL_look up hup may k (hl2 k hk).1 (hl2 k hk).2, any_tx up hup]
      rw [e2]
      refine ⟨rfl, ?_⟩
      show WS _ _ _ (execs _ _) _
      have hrl : (ready up may l).length ≤ l.length := List.length_filter_le _ _
      refine WS_cons (WS_If (WB_not (WB_plain (WE_name rfl ⟨_, .list _ _ rfl (by simp [txL]; (clear hup hl2 hobo hi hd hll hlz atL e1 e2; omega)), ?_⟩))))
      have hstep : obo up may (10 - i) l = match (ready up may l).getLast? with | none => l | some z => obo up may (10 - (i + 1)) (l.erase z) := by
        rw [show 10 - i = (10 - (i + 1)) + 1 by (clear hup hsl hl1 hl2 hobo hd hll hlz atL e1 e2 hrl; omega), obo]
      cases hlast : (ready up may l).getLast? with
      | none =>
        have hr0 : ready up may l = [] := List.getLast?_eq_none_iff.mp hlast
        rw [hlast] at hstep
        refine ⟨fun _ => ?_, fun h => (by rw [hr0] at h; cases h)⟩
        refine WS_cons (WS_freeze (x := "left") rfl (WS_Return (WE_name rfl ?_)))
        rw [← hobo, hstep]; rfl
      | some z =>
        rw [hlast] at hstep
        have hzr : z ∈ ready up may l := List.mem_of_getLast? hlast
        have hzl : z ∈ l := (List.mem_filter.mp hzr).1
        have hne : ready up may l ≠ [] := fun e => by rw [e] at hzr; cases hzr
        have hpos : 0 < (ready up may l).length := List.length_pos_iff.mpr hne
        refine ⟨fun h => ?_, fun _ => ?_⟩
        · exfalso
          cases hh : ready up may l with
          | nil => exact hne hh
          | cons a b => rw [hh] at h; cases h
        refine WS_nil ?_
        show WS _ _ _ (execs _ _) _
        have hlen2 : ((txL up (ready up may l)).map PyData.str).length = (ready up may l).length := by simp [txL]
        refine WS_cons (WS_AssignNew (WN_List (WA_cons (WE_Subscript (WE_name rfl (WE_Neg (WE_int ⟨1, rfl, _, .listN _ _ _ (.str (textF up z)) rfl (by decide) (by rw [hlen2]; (clear hup hsl hl1 hl2 hobo hi hd hll hlz atL e1 e2 hrl hstep hlast hne hlen2; omega)) ?_ (by rw [hlen2]; (clear hup hl2 hobo hi hd hll hlz atL e1 e2 hstep hlast hne hpos hlen2; omega)), WA_cons (WE_str (WA_nil ⟨_, rfl, (by show 2 ≤ sizeLine; decide), ?_, fun a2 => ?_⟩))⟩)))))))
        · rw [hlen2, show ((-1 : Int) + ((ready up may l).length : Nat)).toNat = (ready up may l).length - 1 by (clear hup hsl hl1 hl2 hobo hi hd hll hlz atL e1 e2 hrl hstep hlast hne hpos hlen2; omega)]
          rw [List.getLast?_eq_getElem?] at hlast
          rw [txL, List.map_map, List.getElem?_map, hlast]; rfl
        · intro d hd
          rcases List.mem_cons.mp hd with e | hd
          · rw [e]; rfl
          · rw [List.mem_singleton.mp hd]; rfl
        show WS _ _ _ (execs _ _) _
        refine WS_uld (outer := outer) rfl rfl rfl rfl rfl (by show 1 ≤ 2; decide) (by rw [hll]; (clear hup hsl hl2 hobo hi hd hll hlz atL e1 e2 hrl hstep hlast hne hpos hlen2; omega)) ?_ ?_ ?_ rfl rfl ?_
        · exact List.mem_map.mpr ⟨z, hzl, rfl⟩
        · intro hm
          obtain ⟨k, hk, e⟩ := List.mem_map.mp hm
          rw [slash_textF up] at e
          have := textF_inj up hup e
          have := hl2 k hk
          (clear hup hsl hl1 hl2 hobo hi hd hll hlz atL e1 e2 hrl hstep hlast hne hpos hlen2 e; omega)
        · intro x hx
          obtain ⟨k, hk, rfl⟩ := List.mem_map.mp hx
          exact textF_ok up k (hl2 k hk).2
        refine WS_end [("paths", .D (.list ((txL up (upto 1 10)).map .str))), ("free", .K (frL up may)), ("left", .M a1 ((txL up (l.erase z)).map .str))] ⟨rfl, rfl, ?_, trivial⟩ ⟨l.erase z, ⟨?_, fun k hk => hl2 k (List.mem_of_mem_erase hk)⟩, hstep.symm.trans hobo, rfl⟩
        · rw [← txL_erase up hup]; rfl
        · rw [List.length_erase_of_mem hzl]
          have := List.length_pos_of_mem hzl
          (clear hup hsl hl2 hobo hi hd hll hlz atL e1 e2 hrl hstep hlast hne hpos hlen2; omega)
    · rintro hid' st1 ⟨l, ⟨hl1, _⟩, _, _⟩
      exfalso
      have : (rangeDs 0 10 1).length = 10 := by decide
      omega
end
end Mine
end
section
open PySem PySem.Calls PyProof.Rows
namespace Mine
/-! two lists of texts in order -/
noncomputable def lexL (lt : Bool) : List Str → List Str → Bool
  | [], [] => false
  | [], _ :: _ => lt
  | _ :: _, [] => !lt
  | x :: xs, y :: ys => if x = y then lexL lt xs ys else if lt then decide (x.cps.toList < y.cps.toList) else decide (y.cps.toList < x.cps.toList)
theorem strs_at {vs : List Value} {ys : List Str} (h : StrsAre vs ys) : ∀ (i : Nat), i < vs.length → ∃ y t, vs[i]? = some (.str y t) ∧ ys[i]? = some y := by
  induction h with
  | nil => intro i hi; exact absurd hi (Nat.not_lt_zero _)
  | cons n t r ih =>
    intro i hi
    cases i with
    | zero => exact ⟨n, t, rfl, rfl⟩
    | succ j => obtain ⟨y, t', h1, h2⟩ := ih j (by simpa using hi); exact ⟨y, t', by simpa using h1, by simpa using h2⟩
theorem rc_gt {prog : Program} {w : World} {A : Around} {E : Value → Shared → Prop} {s : Shared} {x y : Str} {t u : Tok} {Q : Value → Shared → Prop} (h : Q (.bool (decide (y.cps.toList < x.cps.toList))) s) : wpAny (model prog w) A (richCompare .Gt (.str x t) (.str y u)) Q E s :=
  richCompare_gives (op := .Gt) (T := "str") rfl rfl F.slot_str_gt F.entry_str_gt (F.args_str_gt_2 _ _) (gives_str_gt x y t u) (fun x => nomatch x) h
theorem rc_lt {prog : Program} {w : World} {A : Around} {E : Value → Shared → Prop} {s : Shared} {x y : Str} {t u : Tok} {Q : Value → Shared → Prop} (h : Q (.bool (decide (x.cps.toList < y.cps.toList))) s) : wpAny (model prog w) A (richCompare .Lt (.str x t) (.str y u)) Q E s :=
  richCompare_gives (op := .Lt) (T := "str") rfl rfl F.slot_str_lt F.entry_str_lt (F.args_str_lt_2 _ _) (gives_str_lt x y t u) (fun x => nomatch x) h
open AutoSeq1 (wpAny_loadPart') in
set_option maxHeartbeats 1000000 in
theorem cmp_loop (lt : Bool) (l b : Addr) (items items2 : Array Value) (n n2 : Nat) (xs ys : List Str) (hx : StrsAre items.toList xs) (hy : StrsAre items2.toList ys) (lx : items.size = xs.length) (ly : items2.size = ys.length) (k : Nat) :
    ∀ i : Nat, items.size - i = k → i ≤ items.size → i ≤ items2.size → Meets (Builtin.«list.__eq__.loop» ⟨[.ref l, .ref b, rawInt i, rawInt (if lt then 0 else 4)], []⟩)
      (fun _ R s => s.heap.get? l = some (plainL items n) ∧ s.heap.get? b = some (plainL items2 n2) ∧ R (.ok (.ret (.bool (lexL lt (xs.drop i) (ys.drop i))))) s) := by
  induction k with
  | zero =>
    intro i hk hi1 hi2 prog w A R s h
    obtain ⟨hp, g, d, tk, os⟩ := s; obtain ⟨hl, hb, h⟩ := h
    have e1 : items[((i : Nat) : Int).toNat]? = none := by simp; (clear lx ly hi1 hi2 hl hb; omega)
    have d1 : xs.drop i = [] := by simp; omega
    rw [d1] at h
    cases lt
    all_goals
      wp_walk using wpAny_loadPart' hl, wpAny_loadPart' hb
      rw [e1]
      wp_walk using wpAny_loadPart' hl, wpAny_loadPart' hb
    · show R (.ok (.ret (.bool (decide (items.size > items2.size))))) _
      have : decide (items.size > items2.size) = lexL false [] (ys.drop i) := by
        rw [decide_eq_false (by (clear lx ly hi1 hl hb e1 d1; omega))]
        cases ys.drop i <;> rfl
      rw [this]; exact h
    · show R (.ok (.ret (.bool (decide (items.size < items2.size))))) _
      have : decide (items.size < items2.size) = lexL true [] (ys.drop i) := by
        by_cases hlt : i < items2.size
        · rw [decide_eq_true (by (clear lx ly hi1 hi2 hl hb e1 d1; omega))]
          cases hd : ys.drop i with
          | nil => have := congrArg List.length hd; simp at this; (clear lx hk hi1 hi2 hl hb e1 d1 hd; omega)
          | cons y r => rfl
        · have : ys.drop i = [] := by simp; (clear lx hk hi1 hi2 hl hb e1 d1; omega)
          rw [this, decide_eq_false (by (clear lx ly hk hi2 hl hb e1 d1 this; omega))]; rfl
      rw [this]; exact h
  | succ k ih =>
    intro i hk hi1 hi2 prog w A R s h
    obtain ⟨hp, g, d, tk, os⟩ := s; obtain ⟨hl, hb, h⟩ := h
    have hlt : i < items.size := by (clear lx ly ih hi1 hi2 hl hb; omega)
    obtain ⟨x, t, x1, x2⟩ := strs_at hx i (by simpa using hlt)
    have e1 : items[((i : Nat) : Int).toNat]? = some (.str x t) := by simpa using x1
    have hxi : i < xs.length := by (clear ly ih hk hi1 hi2 hl hb x1 x2 e1; omega)
    have d1 : xs.drop i = x :: xs.drop (i + 1) := by
      rw [List.drop_eq_getElem_cons hxi, (List.getElem?_eq_some_iff.mp x2).2]
    by_cases hlt2 : i < items2.size
    · obtain ⟨y, u, y1, y2⟩ := strs_at hy i (by simpa using hlt2)
      have e2 : items2[((i : Nat) : Int).toNat]? = some (.str y u) := by simpa using y1
      have d2 : ys.drop i = y :: ys.drop (i + 1) := by
        rw [List.drop_eq_getElem_cons (by (clear lx ih hk hi1 hi2 hl hb hlt x1 x2 e1 hxi d1 y1 y2 e2; omega)), (List.getElem?_eq_some_iff.mp y2).2]
      rw [d1, d2, lexL] at h
      have hc : ((i : Int) + 1) = ((i + 1 : Nat) : Int) := by push_cast; rfl
      cases lt
      · wp_walk using wpAny_loadPart' hl, wpAny_loadPart' hb
        rw [e1, e2]
        refine wpAny_bind (eqGives_str x y t u prog w _ _ _ _ ?_)
        by_cases hxy : x = y
        · rw [beq_iff_eq.mpr hxy]
          rw [if_pos hxy] at h
          wp_walk
          rw [hc]
          exact ⟨plainId_quiet MeetsSeq3.plain_eq_loop _, codeAny_builtin MeetsSeq3.entry_eq_loop (by
            rw [Around.under_plainId MeetsSeq3.plain_eq_loop _]
            exact ih (i + 1) (by omega) (by assumption) (by assumption) prog w A R _ ⟨hl, hb, h⟩)⟩
        · rw [beq_eq_false_iff_ne.mpr hxy]
          rw [if_neg hxy, if_neg (by decide)] at h
          wp_walk using wpAny_loadPart' hl, wpAny_loadPart' hb
          rw [e1, e2]
          dsimp only
          refine wpAny_bind ?_
          refine rc_gt ?_
          refine wpAny_pure ?_
          exact h
      · wp_walk using wpAny_loadPart' hl, wpAny_loadPart' hb
        rw [e1, e2]
        refine wpAny_bind (eqGives_str x y t u prog w _ _ _ _ ?_)
        by_cases hxy : x = y
        · rw [beq_iff_eq.mpr hxy]
          rw [if_pos hxy] at h
          wp_walk
          rw [hc]
          exact ⟨plainId_quiet MeetsSeq3.plain_eq_loop _, codeAny_builtin MeetsSeq3.entry_eq_loop (by
            rw [Around.under_plainId MeetsSeq3.plain_eq_loop _]
            exact ih (i + 1) (by omega) (by assumption) (by assumption) prog w A R _ ⟨hl, hb, h⟩)⟩
        · rw [beq_eq_false_iff_ne.mpr hxy]
          rw [if_neg hxy, if_pos rfl] at h
          wp_walk using wpAny_loadPart' hl, wpAny_loadPart' hb
          rw [e1, e2]
          dsimp only
          refine wpAny_bind ?_
          refine rc_lt ?_
          refine wpAny_pure ?_
          exact h
    · have e2 : items2[((i : Nat) : Int).toNat]? = none := by simp; exact Nat.not_lt.mp hlt2
      have d2 : ys.drop i = [] := by simp; (clear lx ih hk hi1 hi2 hl hb hlt x1 x2 e1 hxi d1 e2; omega)
      rw [d1, d2, lexL] at h
      cases lt
      all_goals
        wp_walk using wpAny_loadPart' hl, wpAny_loadPart' hb
        rw [e1, e2]
        wp_walk using wpAny_loadPart' hl, wpAny_loadPart' hb
      · show R (.ok (.ret (.bool (decide (items.size > items2.size))))) _
        rw [decide_eq_true (by (clear lx ly hk hi1 hi2 hl hb x1 x2 e1 hxi d1 e2 d2 ih; omega))]; exact h
      · show R (.ok (.ret (.bool (decide (items.size < items2.size))))) _
        rw [decide_eq_false (by (clear lx ly hk hi1 hi2 hl hb x1 x2 e1 hxi d1 e2 d2 ih; omega))]; exact h
end Mine
end
section
open PySem PySem.Calls PyProof.Rows
namespace Mine
section
open AutoSeq1 (wpAny_loadPart')
theorem meets_list_lt (l b : Addr) (items items2 : Array Value) (n n2 : Nat) (xs ys : List Str) (hx : StrsAre items.toList xs) (hy : StrsAre items2.toList ys) (lx : items.size = xs.length) (ly : items2.size = ys.length) :
    Meets (Builtin.«list.__lt__» ⟨[.ref l, .ref b], []⟩) (fun _ R s => s.heap.get? l = some (plainL items n) ∧ s.heap.get? b = some (plainL items2 n2) ∧ R (.ok (.ret (.bool (lexL true xs ys)))) s) := by
  intro prog w A R s h
  obtain ⟨hp, g, d, tk, os⟩ := s; obtain ⟨hl, hb, h⟩ := h
  have f3 := AutoSeq1.sub_list_list
  wp_walk using wpAny_loadPart' hl, wpAny_loadPart' hb
  exact ⟨plainId_quiet MeetsSeq3.plain_eq_loop _, codeAny_builtin MeetsSeq3.entry_eq_loop (by
    rw [Around.under_plainId MeetsSeq3.plain_eq_loop _]
    exact cmp_loop true l b items items2 n n2 xs ys hx hy lx ly _ 0 rfl (Nat.zero_le _) (Nat.zero_le _) prog w A R _ ⟨hl, hb, h⟩)⟩
theorem rc_lists_lt {prog : Program} {w : World} {A : Around} {E : Value → Shared → Prop} {s : Shared} {l b : Addr} {items items2 : Array Value} {n n2 : Nat} {xs ys : List Str} {Q : Value → Shared → Prop} (h1 : s.heap.get? l = some (plainL items n)) (h2 : s.heap.get? b = some (plainL items2 n2))
    (hx : StrsAre items.toList xs) (hy : StrsAre items2.toList ys) (lx : items.size = xs.length) (ly : items2.size = ys.length) (hu : A.units < cLine) (h : Q (.bool (lexL true xs ys)) s) : wpAny (model prog w) A (richCompare .Lt (.ref l) (.ref b)) Q E s :=
  richCompare_meets_room (op := .Lt) ⟨_, h1, rfl⟩ ⟨_, h2, rfl⟩ F.slot_list_lt F.entry_list_lt (F.args_list_lt_2 _ _) (meets_list_lt l b items items2 n n2 xs ys hx hy lx ly)
    ⟨h1, h2, show Value.bool (lexL true xs ys) ≠ Value.notImplemented ∧ Q (.bool (lexL true xs ys)) s from ⟨(fun x => nomatch x), h⟩⟩ hu
theorem meets_list_gt (l b : Addr) (items items2 : Array Value) (n n2 : Nat) (xs ys : List Str) (hx : StrsAre items.toList xs) (hy : StrsAre items2.toList ys) (lx : items.size = xs.length) (ly : items2.size = ys.length) :
    Meets (Builtin.«list.__gt__» ⟨[.ref l, .ref b], []⟩) (fun _ R s => s.heap.get? l = some (plainL items n) ∧ s.heap.get? b = some (plainL items2 n2) ∧ R (.ok (.ret (.bool (lexL false xs ys)))) s) := by
  intro prog w A R s h
  obtain ⟨hp, g, d, tk, os⟩ := s; obtain ⟨hl, hb, h⟩ := h
  have f3 := AutoSeq1.sub_list_list
  wp_walk using wpAny_loadPart' hl, wpAny_loadPart' hb
  exact ⟨plainId_quiet MeetsSeq3.plain_eq_loop _, codeAny_builtin MeetsSeq3.entry_eq_loop (by
    rw [Around.under_plainId MeetsSeq3.plain_eq_loop _]
    exact cmp_loop false l b items items2 n n2 xs ys hx hy lx ly _ 0 rfl (Nat.zero_le _) (Nat.zero_le _) prog w A R _ ⟨hl, hb, h⟩)⟩
theorem rc_lists_gt {prog : Program} {w : World} {A : Around} {E : Value → Shared → Prop} {s : Shared} {l b : Addr} {items items2 : Array Value} {n n2 : Nat} {xs ys : List Str} {Q : Value → Shared → Prop} (h1 : s.heap.get? l = some (plainL items n)) (h2 : s.heap.get? b = some (plainL items2 n2))
    (hx : StrsAre items.toList xs) (hy : StrsAre items2.toList ys) (lx : items.size = xs.length) (ly : items2.size = ys.length) (hu : A.units < cLine) (h : Q (.bool (lexL false xs ys)) s) : wpAny (model prog w) A (richCompare .Gt (.ref l) (.ref b)) Q E s :=
  richCompare_meets_room (op := .Gt) ⟨_, h1, rfl⟩ ⟨_, h2, rfl⟩ F.slot_list_gt F.entry_list_gt (F.args_list_gt_2 _ _) (meets_list_gt l b items items2 n n2 xs ys hx hy lx ly)
    ⟨h1, h2, show Value.bool (lexL false xs ys) ≠ Value.notImplemented ∧ Q (.bool (lexL false xs ys)) s from ⟨(fun x => nomatch x), h⟩⟩ hu
end
section
variable {prog : Program} {w : World} {A : Around} {R : Result → Shared → Prop} {I : Addr} {fp wr : List Addr} {n : Nat} {P : Nat → Value → Prop} {St : Nat → Heap → Prop}
/-- the best of an iteration whose comparisons read the heap -/
theorem max_turns (W : Walks prog w A.in1 I fp wr n P St) (bt : Nat → Nat → Bool) (g : Heap) (hcmp : ∀ i j vi vj (s : Shared) (Q : Value → Shared → Prop) (E : Value → Shared → Prop), Sub g s.heap → P i vi → P j vj → Q (.bool (bt i j)) s → wpAny (model prog w) A.in1 (richCompare .Gt vi vj) Q E s)
    (S : Addr) (hSf : S ∉ fp) (hgS : g.get? S = none) (hgw : ∀ b ∈ wr, g.get? b = none) :
    ∀ (k j : Nat) (s : Shared) (vb : Value) (c : Nat), n - (j + 1) = k → j + 1 ≤ n → Sub g s.heap → St (j + 1) s.heap → P (argBest bt j) vb → s.heap.get? S = some (plainL #[vb, vb] c) →
    (∀ v h' tk, P (argBest bt (n - 1)) v → (∀ b o, b ∉ wr → b ≠ S → s.heap.get? b = some o → h'.get? b = some o) → R (.ok (.ret v)) { s with heap := h', toks := tk }) →
    codeAny (model prog w) A (.builtin "max.loop" ⟨[.ref I, .none, .ref S], []⟩) R s := by
  have hSw : S ∉ wr := fun h => hSf (W.sub _ h)
  have hname : (toString "max" ++ toString ".loop" : String) = "max.loop" := by decide
  have gk : ∀ {s1 : Heap} {h' : Heap}, Sub g s1 → (∀ b o, b ∉ wr → s1.get? b = some o → h'.get? b = some o) → Sub g h' := fun hg hk b o e => hk b o (fun hw => by rw [hgw b hw] at e; cases e) (hg b o e)
  have gS : ∀ {h' : Heap} {f : Obj → Obj}, Sub g h' → Sub g (h'.update S f) := fun hg b o e => (Heap.get?_update_other _ _ (fun q : S = b => by rw [← q, hgS] at e; cases e)).trans (hg b o e)
  intro k
  induction k with
  | zero =>
    intro j s vb c hk hj hg hst hPb hS hR
    have hin : j + 1 = n := by omega
    refine codeAny_builtin F.entry_max_loop ?_
    rw [Around.under_plainId F.plain_max_loop _]
    show wpAny _ A.in1 (seqItems? (.ref S) >>= _) _ _ s
    refine wpAny_bind (wpAny_seqItems hS rfl ?_)
    show wpAny _ A.in1 (tryCatch (pyNext (.ref I)) _ >>= _) _ _ s
    refine wpAny_bind (wpAny_tryCatch (W.done s _ _ (hin ▸ hst) fun h' tk hk' => ?_))
    have hS' := hk' S _ hSw hS
    show wpAny _ A.in1 (updateSeq S (fun _ => #[]) >>= _) _ _ _
    refine wpAny_bind (wpAny_updateSeq hS' rfl (wpAny_bind (wpAny_letGo (wpAny_pure ?_))))
    exact hR vb _ tk (by rw [← hin]; exact hPb) fun b o hbw hbS e => (Heap.get?_update_other _ _ (Ne.symm hbS)).trans (hk' b o hbw e)
  | succ k ih =>
    intro j s vb c hk hj hg hst hPb hS hR
    have hlt : j + 1 < n := by (clear hcmp hSf hgS hgw hSw hname gk gS ih hj hS hR; omega)
    refine codeAny_builtin F.entry_max_loop ?_
    rw [Around.under_plainId F.plain_max_loop _]
    show wpAny _ A.in1 (seqItems? (.ref S) >>= _) _ _ s
    refine wpAny_bind (wpAny_seqItems hS rfl ?_)
    show wpAny _ A.in1 (tryCatch (pyNext (.ref I)) _ >>= _) _ _ s
    refine wpAny_bind (wpAny_tryCatch (W.item (j + 1) s _ _ hlt hst fun v h' tk hP hst' hk' => ?_))
    have hS' := hk' S _ hSw hS
    have hg' := gk hg hk'
    show wpAny _ A.in1 (tryCatch (holding [v, v] (richCompare .Gt v vb >>= _)) _ >>= _) _ _ _
    refine wpAny_bind (wpAny_tryCatch (wpAny_holding (wpAny_bind (hcmp (j + 1) (argBest bt j) v vb _ _ _ hg' hP hPb ?_))))
    refine wpAny_bind (wpAny_holding (wpAny_truthy_bool ?_))
    refine wpAny_bind (wpAny_letGo (wpAny_pure ?_))
    cases hb : bt (j + 1) (argBest bt j) with
    | true =>
      simp only [if_true]
      refine wpAny_bind (wpAny_updateSeq hS' rfl (wpAny_bind (wpAny_letGo ?_)))
      rw [hname]
      refine wpAny_pure ⟨plainId_quiet F.plain_max_loop _, ih (j + 1) _ v _ (by omega) hlt (gS hg') (W.frame _ _ _ hst' fun b hbf o e => (Heap.get?_update_other _ _ (fun h : S = b => hSf (by rw [h]; exact hbf))).trans e)
        (by simp only [argBest, hb, if_true]; exact hP) (Heap.get?_update_self _ hS' rfl) fun v' h'' tk'' hP' hk'' => hR v' h'' tk'' hP' fun b o hbw hbS e => hk'' b o hbw hbS ((Heap.get?_update_other _ _ (Ne.symm hbS)).trans (hk' b o hbw e))⟩
    | false =>
      simp only [Bool.false_eq_true, if_false]
      refine wpAny_bind (wpAny_letGo ?_)
      rw [hname]
      refine wpAny_pure ⟨plainId_quiet F.plain_max_loop _, ih (j + 1) _ vb c (by omega) hlt hg' hst' (by simp only [argBest, hb, Bool.false_eq_true, if_false]; exact hPb) hS' fun v' h'' tk'' hP' hk'' => hR v' h'' tk'' hP' fun b o hbw hbS e => hk'' b o hbw hbS (hk' b o hbw e)⟩
end
section
variable {prog : Program} {w : World} {A : Around} {E : Value → Shared → Prop} {s : Shared}
inductive MxS (prog : Program) (w : World) (A : Around) (op : CmpOp) (Q : Value → Shared → Prop) (it : Value) (s₂ : Shared) : Prop
  | mk (I : Addr) (fp wr : List Addr) (n : Nat) (P : Nat → Value → Prop) (St : Nat → Heap → Prop) (bt : Nat → Nat → Bool) (g : Heap) (e : it = .ref I) (W : Walks prog w A I fp wr n P St) (hst : St 0 s₂.heap) (hfp : ∀ b ∈ fp, b < s₂.heap.objs.size) (hn : 0 < n)
    (hg : Sub g s₂.heap) (hgw : ∀ b ∈ wr, g.get? b = none)
    (hcmp : ∀ i j vi vj (s : Shared) (Q : Value → Shared → Prop) (E : Value → Shared → Prop), Sub g s.heap → P i vi → P j vj → Q (.bool (bt i j)) s → wpAny (model prog w) A (richCompare op vi vj) Q E s)
    (hQ : ∀ v h' tk, P (argBest bt (n - 1)) v → (∀ b o, b ∉ wr → s₂.heap.get? b = some o → h'.get? b = some o) → Q v { s₂ with heap := h', toks := tk })
theorem call_max_heap {x : Value} {Q : Value → Shared → Prop}
    (h : wpAny (model prog w) A.in1 (pyIter x) (MxS prog w A.in1 .Gt Q) E s) :
    wpAny (model prog w) A (call (.builtin "max") [x]) Q E s := by
  have hname : (toString "max" ++ toString ".loop" : String) = "max.loop" := by decide
  refine call_function_tree F.kind_max F.plain_max F.entry_max (F.args_max1 _) ?_
  show wpAny _ A.in1 (Builtin.Builtins.bindParams "max" ["key", "default"] 0 ⟨[], []⟩ >>= _) _ _ s
  refine wpAny_bind (wpAny_of_eq (show Builtin.Builtins.bindParams "max" ["key", "default"] 0 ⟨[], []⟩ = pure [none, none] from rfl) (wpAny_bind (wpAny_pure ?_)))
  refine wpAny_bind (wpAny_mono h (fun it s₂ h₂ => ?_) fun _ _ e => e)
  obtain ⟨I, fp, wr, n, P, St, bt, g, rfl, W, hst, hfp, hn, hg, hgw, hcmp, hQ⟩ := h₂
  refine wpAny_bind (wpAny_newObj_type ?_)
  have hSf : s₂.heap.objs.size ∉ fp := fun hm => Nat.lt_irrefl _ (hfp _ hm)
  have hSw : s₂.heap.objs.size ∉ wr := fun h => hSf (W.sub _ h)
  have hgS : g.get? s₂.heap.objs.size = none := by
    cases e : g.get? s₂.heap.objs.size with
    | none => rfl
    | some o => exact absurd (Heap.lt_size (hg _ _ e)) (Nat.lt_irrefl _)
  rw [hname]
  refine wpAny_pure ⟨plainId_quiet F.plain_max_loop _, ?_⟩
  have hg1 : Sub g (s₂.heap.push { cls := .type "list", data := .seq ([] : List Value).toArray }) := fun b o e => Heap.get?_push_of_some _ (hg b o e)
  have hS1 : (s₂.heap.push { cls := .type "list", data := .seq ([] : List Value).toArray }).get? s₂.heap.objs.size = some (plainL #[] 0) := Heap.get?_push_size _ rfl
  refine codeAny_builtin F.entry_max_loop ?_
  rw [Around.under_plainId F.plain_max_loop _]
  show wpAny _ A.in1 (seqItems? (.ref s₂.heap.objs.size) >>= _) _ _ _
  refine wpAny_bind (wpAny_seqItems hS1 rfl ?_)
  show wpAny _ A.in1 (tryCatch (pyNext (.ref I)) _ >>= _) _ _ _
  refine wpAny_bind (wpAny_tryCatch (W.item 0 _ _ _ hn (W.frame _ _ _ hst fun b _ o e => Heap.get?_push_of_some _ e) fun v h' tk hP hst' hk' => ?_))
  have hS' := hk' _ _ hSw hS1
  show wpAny _ A.in1 (updateSeq s₂.heap.objs.size (fun _ => #[v, v]) >>= _) _ _ _
  refine wpAny_bind (wpAny_updateSeq hS' rfl ?_)
  rw [hname]
  have hg2 : Sub g h' := fun b o e => hk' b o (fun hw => by rw [hgw b hw] at e; cases e) (hg1 b o e)
  refine wpAny_pure ⟨plainId_quiet F.plain_max_loop _, max_turns W bt g hcmp s₂.heap.objs.size hSf hgS hgw _ 0 _ v _ rfl hn (fun b o e => (Heap.get?_update_other _ _ (fun q : s₂.heap.objs.size = b => by rw [← q, hgS] at e; cases e)).trans (hg2 b o e))
    (W.frame _ _ _ hst' fun b hbf o e => (Heap.get?_update_other _ _ (fun h : s₂.heap.objs.size = b => hSf (by rw [h]; exact hbf))).trans e) hP (Heap.get?_update_self _ hS' rfl) fun v' h'' tk'' hP' hk'' => ?_⟩
  exact hQ v' h'' tk'' hP' fun b o hbw e => hk'' b o hbw (Nat.ne_of_lt (Heap.lt_size e)) ((Heap.get?_update_other _ _ (Ne.symm (Nat.ne_of_lt (Heap.lt_size e)))).trans (hk' b o hbw (Heap.get?_push_of_some _ e)))
end
section
variable {prog : Program} {w : World} {A : Around} {R : Result → Shared → Prop} {I : Addr} {fp wr : List Addr} {n : Nat} {P : Nat → Value → Prop} {St : Nat → Heap → Prop}
/-- the best of an iteration whose comparisons read the heap -/
theorem min_turns (W : Walks prog w A.in1 I fp wr n P St) (bt : Nat → Nat → Bool) (g : Heap) (hcmp : ∀ i j vi vj (s : Shared) (Q : Value → Shared → Prop) (E : Value → Shared → Prop), Sub g s.heap → P i vi → P j vj → Q (.bool (bt i j)) s → wpAny (model prog w) A.in1 (richCompare .Lt vi vj) Q E s)
    (S : Addr) (hSf : S ∉ fp) (hgS : g.get? S = none) (hgw : ∀ b ∈ wr, g.get? b = none) :
    ∀ (k j : Nat) (s : Shared) (vb : Value) (c : Nat), n - (j + 1) = k → j + 1 ≤ n → Sub g s.heap → St (j + 1) s.heap → P (argBest bt j) vb → s.heap.get? S = some (plainL #[vb, vb] c) →
    (∀ v h' tk, P (argBest bt (n - 1)) v → (∀ b o, b ∉ wr → b ≠ S → s.heap.get? b = some o → h'.get? b = some o) → R (.ok (.ret v)) { s with heap := h', toks := tk }) →
    codeAny (model prog w) A (.builtin "min.loop" ⟨[.ref I, .none, .ref S], []⟩) R s := by
  have hSw : S ∉ wr := fun h => hSf (W.sub _ h)
  have hname : (toString "min" ++ toString ".loop" : String) = "min.loop" := by decide
  have gk : ∀ {s1 : Heap} {h' : Heap}, Sub g s1 → (∀ b o, b ∉ wr → s1.get? b = some o → h'.get? b = some o) → Sub g h' := fun hg hk b o e => hk b o (fun hw => by rw [hgw b hw] at e; cases e) (hg b o e)
  have gS : ∀ {h' : Heap} {f : Obj → Obj}, Sub g h' → Sub g (h'.update S f) := fun hg b o e => (Heap.get?_update_other _ _ (fun q : S = b => by rw [← q, hgS] at e; cases e)).trans (hg b o e)
  intro k
  induction k with
  | zero =>
    intro j s vb c hk hj hg hst hPb hS hR
    have hin : j + 1 = n := by omega
    refine codeAny_builtin F.entry_min_loop ?_
    rw [Around.under_plainId F.plain_min_loop _]
    show wpAny _ A.in1 (seqItems? (.ref S) >>= _) _ _ s
    refine wpAny_bind (wpAny_seqItems hS rfl ?_)
    show wpAny _ A.in1 (tryCatch (pyNext (.ref I)) _ >>= _) _ _ s
    refine wpAny_bind (wpAny_tryCatch (W.done s _ _ (hin ▸ hst) fun h' tk hk' => ?_))
    have hS' := hk' S _ hSw hS
    show wpAny _ A.in1 (updateSeq S (fun _ => #[]) >>= _) _ _ _
    refine wpAny_bind (wpAny_updateSeq hS' rfl (wpAny_bind (wpAny_letGo (wpAny_pure ?_))))
    exact hR vb _ tk (by rw [← hin]; exact hPb) fun b o hbw hbS e => (Heap.get?_update_other _ _ (Ne.symm hbS)).trans (hk' b o hbw e)
  | succ k ih =>
    intro j s vb c hk hj hg hst hPb hS hR
    have hlt : j + 1 < n := by (clear hcmp hSf hgS hgw hSw hname gk gS ih hj hS hR; omega)
    refine codeAny_builtin F.entry_min_loop ?_
    rw [Around.under_plainId F.plain_min_loop _]
    show wpAny _ A.in1 (seqItems? (.ref S) >>= _) _ _ s
    refine wpAny_bind (wpAny_seqItems hS rfl ?_)
    show wpAny _ A.in1 (tryCatch (pyNext (.ref I)) _ >>= _) _ _ s
    refine wpAny_bind (wpAny_tryCatch (W.item (j + 1) s _ _ hlt hst fun v h' tk hP hst' hk' => ?_))
    have hS' := hk' S _ hSw hS
    have hg' := gk hg hk'
    show wpAny _ A.in1 (tryCatch (holding [v, v] (richCompare .Lt v vb >>= _)) _ >>= _) _ _ _
    refine wpAny_bind (wpAny_tryCatch (wpAny_holding (wpAny_bind (hcmp (j + 1) (argBest bt j) v vb _ _ _ hg' hP hPb ?_))))
    refine wpAny_bind (wpAny_holding (wpAny_truthy_bool ?_))
    refine wpAny_bind (wpAny_letGo (wpAny_pure ?_))
    cases hb : bt (j + 1) (argBest bt j) with
    | true =>
      simp only [if_true]
      refine wpAny_bind (wpAny_updateSeq hS' rfl (wpAny_bind (wpAny_letGo ?_)))
      rw [hname]
      refine wpAny_pure ⟨plainId_quiet F.plain_min_loop _, ih (j + 1) _ v _ (by omega) hlt (gS hg') (W.frame _ _ _ hst' fun b hbf o e => (Heap.get?_update_other _ _ (fun h : S = b => hSf (by rw [h]; exact hbf))).trans e)
        (by simp only [argBest, hb, if_true]; exact hP) (Heap.get?_update_self _ hS' rfl) fun v' h'' tk'' hP' hk'' => hR v' h'' tk'' hP' fun b o hbw hbS e => hk'' b o hbw hbS ((Heap.get?_update_other _ _ (Ne.symm hbS)).trans (hk' b o hbw e))⟩
    | false =>
      simp only [Bool.false_eq_true, if_false]
      refine wpAny_bind (wpAny_letGo ?_)
      rw [hname]
      refine wpAny_pure ⟨plainId_quiet F.plain_min_loop _, ih (j + 1) _ vb c (by omega) hlt hg' hst' (by simp only [argBest, hb, Bool.false_eq_true, if_false]; exact hPb) hS' fun v' h'' tk'' hP' hk'' => hR v' h'' tk'' hP' fun b o hbw hbS e => hk'' b o hbw hbS (hk' b o hbw e)⟩
end
section
variable {prog : Program} {w : World} {A : Around} {E : Value → Shared → Prop} {s : Shared}
theorem call_min_heap {x : Value} {Q : Value → Shared → Prop}
    (h : wpAny (model prog w) A.in1 (pyIter x) (MxS prog w A.in1 .Lt Q) E s) :
    wpAny (model prog w) A (call (.builtin "min") [x]) Q E s := by
  have hname : (toString "min" ++ toString ".loop" : String) = "min.loop" := by decide
  refine call_function_tree F.kind_min F.plain_min F.entry_min (F.args_min1 _) ?_
  show wpAny _ A.in1 (Builtin.Builtins.bindParams "min" ["key", "default"] 0 ⟨[], []⟩ >>= _) _ _ s
  refine wpAny_bind (wpAny_of_eq (show Builtin.Builtins.bindParams "min" ["key", "default"] 0 ⟨[], []⟩ = pure [none, none] from rfl) (wpAny_bind (wpAny_pure ?_)))
  refine wpAny_bind (wpAny_mono h (fun it s₂ h₂ => ?_) fun _ _ e => e)
  obtain ⟨I, fp, wr, n, P, St, bt, g, rfl, W, hst, hfp, hn, hg, hgw, hcmp, hQ⟩ := h₂
  refine wpAny_bind (wpAny_newObj_type ?_)
  have hSf : s₂.heap.objs.size ∉ fp := fun hm => Nat.lt_irrefl _ (hfp _ hm)
  have hSw : s₂.heap.objs.size ∉ wr := fun h => hSf (W.sub _ h)
  have hgS : g.get? s₂.heap.objs.size = none := by
    cases e : g.get? s₂.heap.objs.size with
    | none => rfl
    | some o => exact absurd (Heap.lt_size (hg _ _ e)) (Nat.lt_irrefl _)
  rw [hname]
  refine wpAny_pure ⟨plainId_quiet F.plain_min_loop _, ?_⟩
  have hg1 : Sub g (s₂.heap.push { cls := .type "list", data := .seq ([] : List Value).toArray }) := fun b o e => Heap.get?_push_of_some _ (hg b o e)
  have hS1 : (s₂.heap.push { cls := .type "list", data := .seq ([] : List Value).toArray }).get? s₂.heap.objs.size = some (plainL #[] 0) := Heap.get?_push_size _ rfl
  refine codeAny_builtin F.entry_min_loop ?_
  rw [Around.under_plainId F.plain_min_loop _]
  show wpAny _ A.in1 (seqItems? (.ref s₂.heap.objs.size) >>= _) _ _ _
  refine wpAny_bind (wpAny_seqItems hS1 rfl ?_)
  show wpAny _ A.in1 (tryCatch (pyNext (.ref I)) _ >>= _) _ _ _
  refine wpAny_bind (wpAny_tryCatch (W.item 0 _ _ _ hn (W.frame _ _ _ hst fun b _ o e => Heap.get?_push_of_some _ e) fun v h' tk hP hst' hk' => ?_))
  have hS' := hk' _ _ hSw hS1
  show wpAny _ A.in1 (updateSeq s₂.heap.objs.size (fun _ => #[v, v]) >>= _) _ _ _
  refine wpAny_bind (wpAny_updateSeq hS' rfl ?_)
  rw [hname]
  have hg2 : Sub g h' := fun b o e => hk' b o (fun hw => by rw [hgw b hw] at e; cases e) (hg1 b o e)
  refine wpAny_pure ⟨plainId_quiet F.plain_min_loop _, min_turns W bt g hcmp s₂.heap.objs.size hSf hgS hgw _ 0 _ v _ rfl hn (fun b o e => (Heap.get?_update_other _ _ (fun q : s₂.heap.objs.size = b => by rw [← q, hgS] at e; cases e)).trans (hg2 b o e))
    (W.frame _ _ _ hst' fun b hbf o e => (Heap.get?_update_other _ _ (fun h : s₂.heap.objs.size = b => hSf (by rw [h]; exact hbf))).trans e) hP (Heap.get?_update_self _ hS' rfl) fun v' h'' tk'' hP' hk'' => ?_⟩
  exact hQ v' h'' tk'' hP' fun b o hbw e => hk'' b o hbw (Nat.ne_of_lt (Heap.lt_size e)) ((Heap.get?_update_other _ _ (Ne.symm (Nat.ne_of_lt (Heap.lt_size e)))).trans (hk' b o hbw (Heap.get?_push_of_some _ e)))
end
end Mine
end
section
open PySem PySem.Calls PyProof.Rows
namespace Mine
theorem lexL_flip : ∀ a b : List Str, lexL false a b = lexL true b a
  | [], [] => rfl
  | [], _ :: _ => rfl
  | _ :: _, [] => rfl
  | x :: xs, y :: ys => by
    rw [lexL, lexL]
    by_cases h : x = y
    · rw [if_pos h, if_pos h.symm]; exact lexL_flip xs ys
    · rw [if_neg h, if_neg (show ¬ y = x from fun e => h e.symm)]; simp
theorem lexL_trans : ∀ a b c : List Str, lexL true a b = true → lexL true b c = true → lexL true a c = true
  | [], [], c, h, _ => by cases h
  | [], y :: ys, [], _, h => by cases h
  | [], y :: ys, z :: zs, _, _ => rfl
  | x :: xs, [], c, h, _ => by cases h
  | x :: xs, y :: ys, [], _, h => by cases h
  | x :: xs, y :: ys, z :: zs, h1, h2 => by
    simp only [lexL] at h1 h2 ⊢
    by_cases hxy : x = y
    · subst hxy
      rw [if_pos rfl] at h1
      by_cases hxz : x = z
      · subst hxz
        rw [if_pos rfl] at h2 ⊢
        exact lexL_trans xs ys zs h1 h2
      · rw [if_neg hxz] at h2 ⊢; exact h2
    · rw [if_neg hxy] at h1
      have l1 : x.cps.toList < y.cps.toList := by simpa using h1
      by_cases hyz : y = z
      · subst hyz
        rw [if_neg hxy]; simpa using l1
      · rw [if_neg hyz] at h2
        have l2 : y.cps.toList < z.cps.toList := by simpa using h2
        have l3 := List.lt_trans l1 l2
        have hxz : x ≠ z := fun e => by subst e; exact List.lt_irrefl _ l3
        rw [if_neg hxz]; simpa using l3
theorem lexL_irrefl : ∀ a : List Str, lexL true a a = false
  | [] => rfl
  | x :: xs => by simp only [lexL, if_true]; exact lexL_irrefl xs
theorem lexL_tr (lt : Bool) (a b c : List Str) (h1 : lexL lt a b = true) (h2 : lexL lt b c = true) : lexL lt a c = true := by
  cases lt
  · rw [lexL_flip] at *; exact lexL_trans c b a h2 h1
  · exact lexL_trans a b c h1 h2
theorem lexL_ir (lt : Bool) (a : List Str) : lexL lt a a = false := by
  cases lt
  · rw [lexL_flip]; exact lexL_irrefl a
  · exact lexL_irrefl a
noncomputable def bestL (lt : Bool) (xss : List (List Str)) : List Str := xss.getD (argBest (fun i j => lexL lt (xss.getD i []) (xss.getD j [])) (xss.length - 1)) []
theorem argBest_none (lt : Bool) (f : Nat → List Str) : ∀ n i, i ≤ n → lexL lt (f i) (f (argBest (fun i j => lexL lt (f i) (f j)) n)) = false
  | 0, i, h => by
    obtain rfl : i = 0 := by omega
    exact lexL_ir lt _
  | n + 1, i, h => by
    have ih := argBest_none lt f n
    rw [argBest]
    by_cases hc : lexL lt (f (n + 1)) (f (argBest (fun i j => lexL lt (f i) (f j)) n)) = true
    · rw [if_pos hc]
      by_cases hi : i = n + 1
      · rw [hi]; exact lexL_ir lt _
      · cases hq : lexL lt (f i) (f (n + 1)) with
        | false => rfl
        | true =>
          have := ih i (by omega)
          rw [lexL_tr lt _ _ _ hq hc] at this
          cases this
    · rw [if_neg hc]
      by_cases hi : i = n + 1
      · rw [hi]; simpa using hc
      · exact ih i (by omega)
theorem bestL_mem (lt : Bool) (xss : List (List Str)) (h : xss ≠ []) : bestL lt xss ∈ xss := by
  have hpos : 0 < xss.length := List.length_pos_iff.mpr h
  have hlt := argBest_lt (fun i j => lexL lt (xss.getD i []) (xss.getD j [])) (xss.length - 1)
  unfold bestL
  rw [List.getD_eq_getElem?_getD, List.getElem?_eq_getElem (by omega)]
  exact List.getElem_mem _
theorem bestL_best (lt : Bool) (xss : List (List Str)) (xs : List Str) (h : xs ∈ xss) : lexL lt xs (bestL lt xss) = false := by
  obtain ⟨i, hi, e⟩ := List.getElem_of_mem h
  have := argBest_none lt (fun i => xss.getD i []) (xss.length - 1) i (by omega)
  rw [show xss.getD i [] = xs by rw [List.getD_eq_getElem?_getD, List.getElem?_eq_getElem hi, e]; rfl] at this
  exact this

section
variable {Γ : Gx} {c : Cx} {st : St} {s : Shared}
noncomputable def llD (xss : List (List Str)) : List PyData := xss.map fun xs => .list (xs.map .str)
inductive BBest (lt : Bool) : List AV → AV → Prop
  | mk (xss : List (List Str)) (h : xss ≠ []) : BBest lt [.D (.list (llD xss))] (.D (.list ((bestL lt xss).map .str)))
theorem best_src {l : Addr} {its : Array Value} {n : Nat} {xss : List (List Str)} (r : R Γ c st s) (h2 : (fz s.heap (Hd c st)).get? l = some (plainL its n)) (h3 : RdL (fz s.heap (Hd c st)) its.toList (llD xss)) {A : Around} {E : Value → Shared → Prop} (hh : A.handled = none)
    {K : Value → Shared → Prop} (k : ∀ I s2, s2 = { s with heap := s.heap.push { cls := .type "list_iterator", data := .fields #[.ref l, .int 0 0] } } → I = s.heap.objs.size →
      Walks Γ.prog Γ.w A I [I, l] [I] xss.length (fun i v => Rd (fz s.heap (Hd c st)) v (.list ((xss.getD i []).map .str)) ∧ i < xss.length) (fun i h => h.IsListIter I l i ∧ h.IsList l its) → s2.heap.IsListIter I l 0 ∧ s2.heap.IsList l its → (∀ b ∈ [I, l], b < s2.heap.objs.size) →
      Sub (fz s.heap (Hd c st)) s2.heap → (∀ b ∈ [I], (fz s.heap (Hd c st)).get? b = none) →
      (∀ h', (∀ b o, b ∉ [I] → s2.heap.get? b = some o → h'.get? b = some o) → Sub s.heap h') → K (.ref I) s2) : wpAny (mo Γ) A (pyIter (.ref l)) K E s := by
  have hl := h3.length
  rw [Array.length_toList] at hl
  have hll : (llD xss).length = xss.length := by simp [llD]
  refine iter_list hh (fz_sub _ _ _ _ h2) fun I s2 es2 eI W hst hfp hk => k I s2 es2 eI ?_ hst hfp ?_ ?_ hk
  · rw [hl, hll] at W
    exact {
      sub := W.sub
      frame := W.frame
      item := fun i s Q E hi st hQ => W.item i s Q E hi st fun v h' tk hP hst' hk' => hQ v h' tk (by
        obtain ⟨d, hd, rd⟩ := h3.get' (i := i) (v := v) (by simpa using hP)
        rw [llD, List.getElem?_map, List.getElem?_eq_getElem hi] at hd
        cases hd
        refine ⟨?_, hi⟩
        rw [List.getD_eq_getElem?_getD, List.getElem?_eq_getElem hi]
        exact rd) hst' hk'
      done := W.done
      self := W.self }
  · subst es2
    exact fun b o e => Heap.get?_push_of_some _ (fz_sub _ _ _ _ e)
  · intro b hb
    rw [List.mem_singleton.mp hb, eI]
    cases e : (fz s.heap (Hd c st)).get? s.heap.objs.size with
    | none => rfl
    | some o => exact absurd (Heap.lt_size (fz_sub _ _ _ _ e)) (Nat.lt_irrefl _)
theorem bestMax_sound {avs : List AV} {vs : List Value} {z : AV} (r : R Γ c st s) (va : VRL Γ (fz s.heap (Hd c st)) s.heap avs vs) (hz : BBest false avs z) :
    wpAny (mo Γ) c.A (call (.builtin "max") vs) (fun x s' => Kp s s' ∧ VR Γ (fz s'.heap (Hd c st)) s'.heap z x) (fun _ _ => False) s := by
  have hu : c.A.units + 100 < cLine := by have := r.rm.units; have : cLine = 9900 := rfl; omega
  cases hz with
  | mk xss hne =>
    cases va with
    | cons h1 t =>
      cases t
      obtain ⟨l, its, n, rfl, h2, h3⟩ := Rd.list_inv h1
      refine call_max_heap (best_src r h2 h3 (by exact r.rm.handled) fun I s2 es2 eI W hst hfp hg hgw hk => ?_)
      refine ⟨I, _, _, _, _, _, fun i j => lexL false (xss.getD i []) (xss.getD j []), fz s.heap (Hd c st), rfl, W, hst, hfp, List.length_pos_iff.mpr hne, hg, hgw, ?_, fun v h' tk hP hk' => ?_⟩
      · rintro i j vi vj s' Q' E' hgs ⟨ri, _⟩ ⟨rj, _⟩ hq
        obtain ⟨a, ia, na, rfl, a1, a2⟩ := Rd.list_inv ri
        obtain ⟨b, ib, nb, rfl, b1, b2⟩ := Rd.list_inv rj
        have la := a2.length; have lb := b2.length
        rw [Array.length_toList, List.length_map] at la lb
        exact rc_lists_gt (hgs _ _ a1) (hgs _ _ b1) (strsAre_of a2) (strsAre_of b2) la lb (by show c.A.units + 1 < cLine; (clear hne h2 es2 eI hst hfp hgw hk a1 b1 la lb; omega)) hq
      · subst es2
        have kp : Kp s { s with heap := h', toks := tk } := ⟨rfl, rfl, hk h' hk'⟩
        exact ⟨kp, Rd.mono (fz_keep kp.heap) hP.1⟩
theorem bestMin_sound {avs : List AV} {vs : List Value} {z : AV} (r : R Γ c st s) (va : VRL Γ (fz s.heap (Hd c st)) s.heap avs vs) (hz : BBest true avs z) :
    wpAny (mo Γ) c.A (call (.builtin "min") vs) (fun x s' => Kp s s' ∧ VR Γ (fz s'.heap (Hd c st)) s'.heap z x) (fun _ _ => False) s := by
  have hu : c.A.units + 100 < cLine := by have := r.rm.units; have : cLine = 9900 := rfl; omega
  cases hz with
  | mk xss hne =>
    cases va with
    | cons h1 t =>
      cases t
      obtain ⟨l, its, n, rfl, h2, h3⟩ := Rd.list_inv h1
      refine call_min_heap (best_src r h2 h3 (by exact r.rm.handled) fun I s2 es2 eI W hst hfp hg hgw hk => ?_)
      refine ⟨I, _, _, _, _, _, fun i j => lexL true (xss.getD i []) (xss.getD j []), fz s.heap (Hd c st), rfl, W, hst, hfp, List.length_pos_iff.mpr hne, hg, hgw, ?_, fun v h' tk hP hk' => ?_⟩
      · rintro i j vi vj s' Q' E' hgs ⟨ri, _⟩ ⟨rj, _⟩ hq
        obtain ⟨a, ia, na, rfl, a1, a2⟩ := Rd.list_inv ri
        obtain ⟨b, ib, nb, rfl, b1, b2⟩ := Rd.list_inv rj
        have la := a2.length; have lb := b2.length
        rw [Array.length_toList, List.length_map] at la lb
        exact rc_lists_lt (hgs _ _ a1) (hgs _ _ b1) (strsAre_of a2) (strsAre_of b2) la lb (by show c.A.units + 1 < cLine; (clear hne h2 es2 eI hst hfp hgw hk a1 b1 la lb; omega)) hq
      · subst es2
        have kp : Kp s { s with heap := h', toks := tk } := ⟨rfl, rfl, hk h' hk'⟩
        exact ⟨kp, Rd.mono (fz_keep kp.heap) hP.1⟩
theorem WE_maxLL {np pos : Pos} {e : Expr} {Q : AV → Prop} (h : WE Γ c st (eval e c.env) (K1l (BBest false) Q))
    (hx : c.env.kindOf "max" = some .globalImplicit := by rfl) (he : starEach [e] c.env = [(false, eval e c.env)] := by rfl)
    (hcall : eval (.Call (.Name "max" np) [e] [] pos) c.env = (do callWith pos (← eval (.Name "max" np) c.env) [] (backTo pos (starEach [e] c.env)) (backToKw pos (keywordEach [] c.env))) := by rfl) :
    WE Γ c st (eval (.Call (.Name "max" np) [e] [] pos) c.env) Q := WE_b1 (BBest false) bi_max (fun _ _ _ _ => bestMax_sound) h hx he hcall
theorem WE_minLL {np pos : Pos} {e : Expr} {Q : AV → Prop} (h : WE Γ c st (eval e c.env) (K1l (BBest true) Q))
    (hx : c.env.kindOf "min" = some .globalImplicit := by rfl) (he : starEach [e] c.env = [(false, eval e c.env)] := by rfl)
    (hcall : eval (.Call (.Name "min" np) [e] [] pos) c.env = (do callWith pos (← eval (.Name "min" np) c.env) [] (backTo pos (starEach [e] c.env)) (backToKw pos (keywordEach [] c.env))) := by rfl) :
    WE Γ c st (eval (.Call (.Name "min" np) [e] [] pos) c.env) Q := WE_b1 (BBest true) bi_min (fun _ _ _ _ => bestMin_sound) h hx he hcall
end
end Mine
end
section
open PySem PySem.Calls PyProof.Rows
namespace Mine
/-! map: what the table says of it -/
theorem sub_map : isSubtype (.type "map") (.type "map") = pure true := by rw [isSubtype_type]; kernel_rfl
theorem mro_map : mroOf (.type "map") = pure [.type "map", .type "object"] := by rw [mroOf_type]; kernel_rfl
theorem lookup_map_new : typeLookup (.type "map") "__new__" = pure (some (.builtin "map.__new__")) := by rw [typeLookup_type, builtinLookup_eq_fast]; kernel_rfl
theorem slot_map_init : Slot "map" "__init__" "object.__init__" :=
  .of (owner := "object") (n := "__init__") (by rw [typeLookup_type, builtinLookup_eq_fast]; kernel_rfl) (by decide +kernel) (by decide +kernel) (by decide +kernel)
    (by first | exact .inl (by decide +kernel) | exact .inr (by decide +kernel)) (by rw [isSubtype_type]; kernel_rfl)
theorem called_map : TypeCalled "map" "map.__new__" "object.__init__" :=
  ⟨by decide +kernel, by decide +kernel, ⟨_, _, mro_map⟩, madeBy_type mro_map lookup_map_new (by decide +kernel), by decide +kernel, by rw [isSubtype_type]; kernel_rfl, slot_map_init⟩
theorem typeCall_map_2 (a b : Value) : checkTypeCall "map" ⟨[a, b], []⟩ = pure () := by kernel_rfl
theorem newCall_map_2 (a b : Value) : checkBuiltinCall "map.__new__" ⟨[.type "map", a, b], []⟩ = pure () := by kernel_rfl
theorem entry_map_new : entryFor table "map.__new__" = some Builtin.«map.__new__» := entryFor_of_tree (by kernel_rfl)
theorem slot_map_next : Slot "map" "__next__" "map.__next__" :=
  .of (owner := "map") (n := "__next__") (by rw [typeLookup_type, builtinLookup_eq_fast]; kernel_rfl) (by decide +kernel) (by decide +kernel) (by decide +kernel)
    (by first | exact .inl (by decide +kernel) | exact .inr (by decide +kernel)) (by rw [isSubtype_type]; kernel_rfl)
theorem entry_map_next : entryFor table "map.__next__" = some Builtin.«map.__next__» := entryFor_of_tree (by kernel_rfl)
theorem args_map_next_1 (a : Value) : argsOk "map.__next__" ⟨[a], []⟩ := by unfold argsOk; kernel_rfl
theorem slot_map_iter : Slot "map" "__iter__" "map.__iter__" :=
  .of (owner := "map") (n := "__iter__") (by rw [typeLookup_type, builtinLookup_eq_fast]; kernel_rfl) (by decide +kernel) (by decide +kernel) (by decide +kernel)
    (by first | exact .inl (by decide +kernel) | exact .inr (by decide +kernel)) (by rw [isSubtype_type]; kernel_rfl)
theorem entry_map_iter : entryFor table "map.__iter__" = some Builtin.«dict_keyiterator.__iter__» :=
  entryFor_alias (id' := "dict_keyiterator.__iter__") (by kernel_rfl) (by first | rfl | decide +kernel | (unfold String.splitOn; simp +decide [String.splitOnAux])) (by decide +kernel) (by kernel_rfl)
theorem args_map_iter_1 (a : Value) : argsOk "map.__iter__" ⟨[a], []⟩ := by unfold argsOk; kernel_rfl
theorem map_no_len : typeLookup (.type "map") "__len__" = pure none := by rw [typeLookup_type, builtinLookup_eq_fast]; kernel_rfl
theorem map_no_hint : typeLookup (.type "map") "__length_hint__" = pure none := by rw [typeLookup_type, builtinLookup_eq_fast]; kernel_rfl

noncomputable abbrev mapO (tp : Addr) (f : Value) : Obj := { cls := .type "map", dict := none, data := .fields #[.ref tp, f], slots := #[] }
noncomputable abbrev liO (l : Addr) : Obj := { cls := .type "list_iterator", data := .fields #[.ref l, .int 0 0] }
open AutoSeq1 (wpAny_loadPart') in
theorem map_new (l : Addr) (f : Value) (items : Array Value) (n : Nat) :
    Meets (Builtin.«map.__new__» ⟨[.type "map", f, .ref l], []⟩) (fun _ R s => s.heap.get? l = some (plainL items n) ∧
      R (.ok (.ret (.ref (s.heap.objs.size + 2)))) { s with heap := ((s.heap.push (liO l)).push (plainT #[.ref s.heap.objs.size] 0)).push (mapO (s.heap.objs.size + 1) f) }) :=
  .of_wp fun prog w A R s h => by
    obtain ⟨hp, g, d, tk, os⟩ := s; obtain ⟨hl, h⟩ := h
    have hsub := sub_map
    have hL : Heap.IsList (Shared.heap ⟨hp, g, d, tk, os⟩) l items := ⟨_, hl, rfl, n, rfl⟩
    wp_walk using wpAny_loadPart' hl, wpAny_pyIter_list hL
    refine ⟨_, rfl, ?_⟩
    simpa [Heap.size_push] using h
end Mine
end
section
open PySem PySem.Calls PyProof.Rows
namespace Mine
section
variable {prog : Program} {w : World} {A : Around} {E : Value → Shared → Prop} {s : Shared}
theorem map_body {M tp it : Addr} {f : Value} {Q : Value → Shared → Prop} (hM : s.heap.get? M = some (mapO tp f)) (ht : s.heap.get? tp = some (plainT #[.ref it] 0))
    (h : wpAny (model prog w) A (Builtin.SmallTypes.nextOf (.ref it)) (fun x s1 => s1.heap.get? M = some (mapO tp f) ∧ wpAny (model prog w) A (call f [x]) Q E s1) E s) :
    wpAny (model prog w) A (Builtin.«map.__next__» ⟨[.ref M], []⟩) (fun fin s' => ∃ v, fin = .done (.ret v) ∧ Q v s') E s := by
  show wpAny _ _ (field (.ref M) 0 >>= _) _ _ s
  refine wpAny_bind (wpAny_field hM rfl (x := .ref tp) rfl ?_)
  show wpAny _ _ (seqItems? (.ref tp) >>= _) _ _ s
  refine wpAny_bind (wpAny_seqItems ht rfl ?_)
  dsimp only
  simp only [List.forIn_cons, List.forIn_nil, List.forIn_toArray]
  refine wpAny_bind (wpAny_bind (wpAny_bind (wpAny_holding (wpAny_mono h (fun x s1 ⟨h1, h2⟩ => wpAny_pure (wpAny_pure ?_)) fun _ _ e => e))))
  show wpAny _ _ (field (.ref M) 1 >>= _) _ _ s1
  refine wpAny_bind (wpAny_field h1 rfl (x := f) rfl ?_)
  refine wpAny_bind (wpAny_holding (wpAny_mono h2 (fun v s2 q => ?_) fun _ _ e => e))
  refine wpAny_bind (wpAny_letGo (wpAny_pure ⟨v, rfl, q⟩))
theorem map_next {M tp it : Addr} {f : Value} {Q : Option Value → Shared → Prop} (hM : s.heap.get? M = some (mapO tp f)) (ht : s.heap.get? tp = some (plainT #[.ref it] 0))
    (h : wpAny (model prog w) A.in1 (Builtin.SmallTypes.nextOf (.ref it)) (fun x s1 => s1.heap.get? M = some (mapO tp f) ∧ wpAny (model prog w) A.in1 (call f [x]) (fun v s2 => Q (some v) s2) (fun _ _ => False) s1) (fun _ _ => False) s) :
    wpAny (model prog w) A (pyNext (.ref M)) Q E s := by
  have hT : s.TypeIs (.ref M) "map" := ⟨_, hM, rfl⟩
  unfold pyNext
  exact wpAny_bind (wpAny_attempt (wpAny_callSpecial?_slot (name := Str.ofString "__next__") hT slot_map_next
    (wpAny_call_entry slot_map_next hT entry_map_next
      (map_body hM ht (wpAny_mono h (fun x s1 ⟨h1, h2⟩ => ⟨h1, wpAny_mono h2 (fun v s2 q => wpAny_pure q) fun _ _ e => e.elim⟩) fun _ _ e => e.elim)) (args_map_next_1 _))))
theorem map_end {M tp it : Addr} {f : Value} {Q : Option Value → Shared → Prop} (hM : s.heap.get? M = some (mapO tp f)) (ht : s.heap.get? tp = some (plainT #[.ref it] 0))
    (h : wpAny (model prog w) A.in1 (Builtin.SmallTypes.nextOf (.ref it)) (fun _ _ => False) (fun e s1 => ∃ a, e = .ref a ∧ (∃ o, s1.heap.get? a = some o ∧ o.cls = .type "StopIteration") ∧ Q none s1) s) :
    wpAny (model prog w) A (pyNext (.ref M)) Q E s := by
  have hT : s.TypeIs (.ref M) "map" := ⟨_, hM, rfl⟩
  unfold pyNext
  refine wpAny_bind (wpAny_attempt (wpAny_callSpecial?_slot (name := Str.ofString "__next__") hT slot_map_next
    (wpAny_call_entry slot_map_next hT entry_map_next
      (map_body hM ht (wpAny_mono h (fun _ _ x => x.elim) fun e s1 ⟨a, ea, ⟨o, ho, hc⟩, q⟩ => ?_)) (args_map_next_1 _))))
  subst ea
  refine wpAny_bind (wpAny_isInstance (T := "StopIteration") (b := true) ⟨o, ho, hc⟩ isSubtype_stop ?_)
  exact wpAny_pure q
theorem map_iter {M tp : Addr} {f : Value} {Q : Value → Shared → Prop} (hM : s.heap.get? M = some (mapO tp f)) (h : Q (.ref M) s) : wpAny (model prog w) A (pyIter (.ref M)) Q E s := by
  have hT : s.TypeIs (.ref M) "map" := ⟨_, hM, rfl⟩
  refine wpAny_pyIter_slot hT slot_map_iter (wpAny_call_entry slot_map_iter hT entry_map_iter ?_ (args_map_iter_1 _))
  show wpAny _ _ (ret (.ref M)) _ _ s
  exact wpAny_pure ⟨_, rfl, "map", _, hT, slot_map_next.lookup, h⟩

/-- a list filled from an iterator -/
theorem ext_loop {RR : Result → Shared → Prop} (J : Nat → List Value → Shared → Prop) (JE : List Value → Shared → Prop) {S M : Addr} {n : Nat} {res : Value} (hn : n ≤ 1000) (hlen : ∀ i acc s, J i acc s → acc.length = i)
    (item : ∀ i acc s, i < n → J i acc s → wpAny (model prog w) A.in1 (pyNext (.ref M)) (fun r s' => ∃ v c, r = some v ∧ s'.heap.get? S = some (plainL acc.toArray c) ∧ J (i + 1) (acc ++ [v]) { s' with heap := s'.heap.update S (Obj.mapSeq (·.push v)) }) (fun _ _ => False) s)
    (done : ∀ acc s, J n acc s → wpAny (model prog w) A.in1 (pyNext (.ref M)) (fun r s' => r = none ∧ JE acc s') (fun _ _ => False) s)
    (hR : ∀ acc s', JE acc s' → RR (.ok (.ret res)) s') :
    ∀ (k i : Nat) (acc : List Value) (s : Shared), n - i = k → i ≤ n → J i acc s → codeAny (model prog w) A (.builtin "list.extend.loop" ⟨[.ref S, .ref M, res], []⟩) RR s := by
  have hsl : sizeLine = 2 ^ 24 := rfl
  intro k
  induction k with
  | zero =>
    intro i acc s hk hi hJ
    obtain rfl : i = n := by omega
    refine codeAny_builtin F.entry_extend_loop ?_
    rw [Around.under_plainId F.plain_extend_loop _]
    show wpAny _ A.in1 (pyNext (.ref M) >>= _) _ _ s
    refine wpAny_bind (wpAny_mono (done acc s hJ) (fun r s' ⟨er, hJ'⟩ => ?_) fun _ _ x => x.elim)
    subst er
    exact wpAny_pure (hR acc s' hJ')
  | succ k ih =>
    intro i acc s hk hi hJ
    have hlt : i < n := by (clear hn hlen item done hR hsl ih hi; omega)
    have hl := hlen i acc s hJ
    refine codeAny_builtin F.entry_extend_loop ?_
    rw [Around.under_plainId F.plain_extend_loop _]
    show wpAny _ A.in1 (pyNext (.ref M) >>= _) _ _ s
    refine wpAny_bind (wpAny_mono (item i acc s hlt hJ) (fun r s' ⟨v, c, er, hS, hJ'⟩ => ?_) fun _ _ x => x.elim)
    subst er
    show wpAny _ A.in1 (updateSeq S (·.push v) >>= _) _ _ _
    refine wpAny_bind (wpAny_updateSeq hS rfl (wpAny_pure ⟨plainId_quiet F.plain_extend_loop _, ih (i + 1) (acc ++ [v]) _ (by omega) hlt hJ'⟩) ?_ ?_)
    · show acc.toArray.size ≤ sizeLine
      rw [List.size_toArray, hl]; (clear hlen item done hR ih hk hi hl hS; omega)
    · show (acc.toArray.push v).size ≤ sizeLine + 1
      rw [Array.size_push, List.size_toArray, hl]; (clear hlen item done hR ih hk hi hl hS; omega)
/-- collect: what an iterator of a class without a length gives -/
theorem collect_map (J : Nat → List Value → Shared → Prop) (JE : List Value → Shared → Prop) {M tp : Addr} {f : Value} {n : Nat} (hn : n ≤ 1000) (hlen : ∀ i acc s, J i acc s → acc.length = i) (hM : s.heap.get? M = some (mapO tp f))
    (start : ∀ h', h'.get? s.heap.objs.size = some (plainL #[] 2) → (∀ b o, b ≠ s.heap.objs.size → (s.heap.push (plainL #[] 0)).get? b = some o → h'.get? b = some o) → J 0 [] { s with heap := h' })
    (item : ∀ i acc s', i < n → J i acc s' → wpAny (model prog w) A.in1 (pyNext (.ref M)) (fun r s'' => ∃ v c, r = some v ∧ s''.heap.get? s.heap.objs.size = some (plainL acc.toArray c) ∧ J (i + 1) (acc ++ [v]) { s'' with heap := s''.heap.update s.heap.objs.size (Obj.mapSeq (·.push v)) }) (fun _ _ => False) s')
    (done : ∀ acc s', J n acc s' → wpAny (model prog w) A.in1 (pyNext (.ref M)) (fun r s'' => r = none ∧ JE acc s'') (fun _ _ => False) s')
    {Q : List Value → Shared → Prop} (hat : ∀ acc s', JE acc s' → ∃ c, s'.heap.get? s.heap.objs.size = some (plainL acc.toArray c)) (hQ : ∀ acc s', JE acc s' → Q acc s') :
    wpAny (model prog w) A (collect (.ref M)) Q E s := by
  have hsl : sizeLine = 2 ^ 24 := rfl
  have hSM : s.heap.objs.size ≠ M := Nat.ne_of_gt (Heap.lt_size hM)
  unfold collect
  refine wpAny_bind (wpAny_runValue (codeAny_builtin F.entry_proto_collect ?_))
  rw [Around.under_plainId F.plain_proto_collect _]
  show wpAny _ A.in1 (newList [] >>= fun l => again (.builtin "list.__iadd__" ⟨[l, .ref M], []⟩)) _ _ s
  refine wpAny_bind (wpAny_newObj_type ?_)
  refine wpAny_pure ⟨plainId_quiet F.plain_list_iadd _, codeAny_builtin F.entry_list_iadd ?_⟩
  rw [Around.under_plainId F.plain_list_iadd _]
  have hM1 : (s.heap.push (plainL #[] 0)).get? M = some (mapO tp f) := Heap.get?_push_of_some _ hM
  have hT : Shared.TypeIs { s with heap := s.heap.push (plainL #[] 0) } (.ref M) "map" := ⟨_, hM1, rfl⟩
  show wpAny _ A.in1 (Builtin.List.listExtendWith (.ref s.heap.objs.size) (.ref M) (.ref s.heap.objs.size)) _ _ { s with heap := s.heap.push (plainL #[] 0) }
  unfold Builtin.List.listExtendWith
  refine wpAny_bind (wpAny_typeOf hT ?_)
  have h1 : Builtin.List.listSameRef (.ref s.heap.objs.size) (.ref M) = false := by simp [Builtin.List.listSameRef, hSM]
  have h2 : (Value.type "map" == Value.type "list") = false := by decide
  have h3 : (Value.type "map" == Value.type "tuple") = false := by decide
  simp only [h1, h2, h3, Bool.or_false, Bool.false_eq_true, if_false]
  refine wpAny_bind (map_iter hM1 ?_)
  refine wpAny_bind (wpAny_holding ?_)
  unfold Builtin.List.listLengthHint
  refine wpAny_bind (wpAny_specialOf hT map_no_len ?_)
  show wpAny _ A.in1 (specialOf (Value.ref M) (Str.ofString "__length_hint__") >>= _) _ _ _
  refine wpAny_bind (wpAny_specialOf hT map_no_hint (wpAny_pure ?_))
  show wpAny _ A.in1 (rule "list.extend.makes-room" >>= fun _ => Builtin.List.listTouch (.ref s.heap.objs.size) >>= fun _ =>
    again (.builtin "list.extend.loop" ⟨[.ref s.heap.objs.size, .ref M, .ref s.heap.objs.size], []⟩)) _ _ _
  refine wpAny_bind (wpAny_rule ?_)
  have hS₁ : (s.heap.push (plainL #[] 0)).get? s.heap.objs.size = some (plainL #[] 0) := Heap.get?_push_size _ rfl
  refine wpAny_bind ?_
  show wpAny _ A.in1 (updateSeq s.heap.objs.size (·.push .none) >>= fun _ => updateSeq s.heap.objs.size (·.pop)) _ _ _
  refine wpAny_bind (wpAny_updateSeq hS₁ rfl ?_)
  have hS₂ := Heap.get?_update_self (Obj.mapSeq (·.push Value.none)) hS₁ rfl
  refine wpAny_updateSeq hS₂ rfl ?_
  have hS₃ := Heap.get?_update_self (Obj.mapSeq (·.pop)) hS₂ rfl
  refine wpAny_pure ⟨plainId_quiet F.plain_extend_loop _, ext_loop J JE hn hlen item done (fun acc s' hJ => ?_) n 0 [] _ rfl (Nat.zero_le _) (start _ hS₃ fun b o hb e => (Heap.get?_update_other _ _ (Ne.symm hb)).trans ((Heap.get?_update_other _ _ (Ne.symm hb)).trans e))⟩
  obtain ⟨c, hc⟩ := hat acc s' hJ
  show wpAny _ A (load s.heap.objs.size >>= _) _ _ s'
  refine wpAny_bind (wpAny_load hc ?_)
  exact wpAny_pure (hQ acc s' hJ)
end
end Mine
end
section
open PySem PySem.Calls PyProof.Rows
namespace Mine
section
variable {prog : Program} {w : World} {A : Around} {E : Value → Shared → Prop} {s : Shared}
theorem code_tuple_map {Q₁ : Value → Shared → Prop} (J : Nat → List Value → Shared → Prop) (JE : List Value → Shared → Prop) {M tp : Addr} {f : Value} {n : Nat} (hn : n ≤ 1000) (hlen : ∀ i acc s, J i acc s → acc.length = i) (hM : s.heap.get? M = some (mapO tp f))
    (start : ∀ h', h'.get? s.heap.objs.size = some (plainL #[] 2) → (∀ b o, b ≠ s.heap.objs.size → (s.heap.push (plainL #[] 0)).get? b = some o → h'.get? b = some o) → J 0 [] { s with heap := h' })
    (item : ∀ i acc s', i < n → J i acc s' → wpAny (model prog w) A.in1.in1 (pyNext (.ref M)) (fun r s'' => ∃ v c, r = some v ∧ s''.heap.get? s.heap.objs.size = some (plainL acc.toArray c) ∧ J (i + 1) (acc ++ [v]) { s'' with heap := s''.heap.update s.heap.objs.size (Obj.mapSeq (·.push v)) }) (fun _ _ => False) s')
    (done : ∀ acc s', J n acc s' → wpAny (model prog w) A.in1.in1 (pyNext (.ref M)) (fun r s'' => r = none ∧ JE acc s'') (fun _ _ => False) s')
    (hlenE : ∀ acc s', JE acc s' → acc.length = n) (hat : ∀ acc s', JE acc s' → ∃ c, s'.heap.get? s.heap.objs.size = some (plainL acc.toArray c))
    (h : ∀ s' acc, JE acc s' → Q₁ (.ref s'.heap.objs.size) { s' with heap := s'.heap.push (plainT acc.toArray 0) }) :
    codeAny (model prog w) A (.call (.builtin "tuple.__new__") ⟨[.type "tuple", .ref M], []⟩) (wants Q₁ E) s := by
  have hsl : sizeLine = 2 ^ 24 := rfl
  refine codeAny_of_tree ?_
  show wpAny _ A.in1 (do checkBuiltinCall "tuple.__new__" ⟨[.type "tuple", .ref M], []⟩; again (.builtin "tuple.__new__" ⟨[.type "tuple", .ref M], []⟩)) _ _ s
  refine wpAny_bind (wpAny_of_eq (F.newCall_tuple_1 _) (wpAny_pure ⟨plainId_quiet F.plain_tuple_new _, codeAny_builtin F.entry_tuple_new ?_⟩))
  rw [Around.under_plainId F.plain_tuple_new _]
  have hsub := sub_tuple_self
  have hinit := init_tuple_lookup
  have hmh := madeHere_tuple
  have hTI : s.TypeIs (.ref M) "map" := ⟨_, hM, rfl⟩
  wp_walk using wpAny_typeOf hTI, collect_map J JE hn hlen hM start item done hat
  intro acc s' hJ
  show wpAny _ _ (Builtin.Tuple.tupleExact acc.toArray >>= fun v => ret v) _ _ _
  unfold Builtin.Tuple.tupleExact
  refine wpAny_bind (wpAny_newObj_type ?_ (by show acc.toArray.size ≤ sizeLine; rw [List.size_toArray, hlenE acc s' hJ]; exact Nat.le_trans hn (by decide)))
  exact wpAny_pure (h s' acc hJ)
theorem call_tuple_map {Q : Value → Shared → Prop} (J : Nat → List Value → Shared → Prop) (JE : List Value → Shared → Prop) {M tp : Addr} {f : Value} {n : Nat} (hn : n ≤ 1000) (hlen : ∀ i acc s, J i acc s → acc.length = i) (hM : s.heap.get? M = some (mapO tp f))
    (start : ∀ h', h'.get? s.heap.objs.size = some (plainL #[] 2) → (∀ b o, b ≠ s.heap.objs.size → (s.heap.push (plainL #[] 0)).get? b = some o → h'.get? b = some o) → J 0 [] { s with heap := h' })
    (item : ∀ i acc s', i < n → J i acc s' → wpAny (model prog w) A.in1.in1.in1 (pyNext (.ref M)) (fun r s'' => ∃ v c, r = some v ∧ s''.heap.get? s.heap.objs.size = some (plainL acc.toArray c) ∧ J (i + 1) (acc ++ [v]) { s'' with heap := s''.heap.update s.heap.objs.size (Obj.mapSeq (·.push v)) }) (fun _ _ => False) s')
    (done : ∀ acc s', J n acc s' → wpAny (model prog w) A.in1.in1.in1 (pyNext (.ref M)) (fun r s'' => r = none ∧ JE acc s'') (fun _ _ => False) s')
    (hlenE : ∀ acc s', JE acc s' → acc.length = n) (hat : ∀ acc s', JE acc s' → ∃ c, s'.heap.get? s.heap.objs.size = some (plainL acc.toArray c))
    (h : ∀ s' acc, JE acc s' → Q (.ref s'.heap.objs.size) { s' with heap := s'.heap.push (plainT acc.toArray 0) }) :
    wpAny (model prog w) A (call (.type "tuple") [.ref M]) Q E s := by
  refine callType_codes (Q₁ := fun obj s₁ => s₁.TypeIs obj "tuple" ∧ Q obj s₁) F.called_tuple (F.typeCall_tuple_1 _) F.entry_object_init
    (code_tuple_map J JE hn hlen hM start item done hlenE hat fun s' acc hJ => ⟨⟨_, Heap.get?_push_size _ rfl, rfl⟩, h s' acc hJ⟩) fun obj s₁ h₁ => ?_
  exact ⟨h₁.1, F.args_object_init_2 obj _, object_init_meets F.called_tuple.init.lookup F.called_tuple.made (by decide) prog w A.in1 _ s₁ ⟨h₁.1, rfl, h₁.2⟩⟩
end
section
variable {Γ : Gx} {c : Cx} {st : St} {s : Shared}
theorem Rm.in4 {n : Nat} {A : Around} (h : Rm (n + 4) A) : Rm n A.in1.in1.in1.in1 := ⟨h.handled, by have := h.depth; show A.depth + n ≤ 900; omega, by have := h.units; show A.units + 1 + 1 + 1 + 1 + 4 * n ≤ 4000; omega⟩
/-- tuple(map(f, xs)) behind the making of the map -/
theorem tupleMap_sound {f : Str} {fa l : Addr} {ds : List PyData} {F : PyData → PyData} {n : Nat} {s0 : Shared} (r : R Γ c st s0) (hn : n + 4 ≤ c.n) (hfa : Γ.mg f = some (.ref fa)) (hv : VR Γ (fz s0.heap (Hd c st)) s0.heap (.D (.list ds)) (.ref l)) (hlen : ds.length ≤ 1000)
    (hcon : ∀ d ∈ ds, Con Γ n f [.D d] (.D (F d))) (hflat : ∀ d ∈ ds, flat (F d) = true) (hs : s = { s0 with heap := ((s0.heap.push (liO l)).push (plainT #[.ref s0.heap.objs.size] 0)).push (mapO (s0.heap.objs.size + 1) (.ref fa)) }) :
    wpAny (mo Γ) c.A (call (.type "tuple") [.ref (s0.heap.objs.size + 2)]) (fun v s' => Kp s0 s' ∧ Rd (fz s'.heap (Hd c st)) v (.tuple (ds.map F))) (fun _ _ => False) s := by
  obtain ⟨l', vs, nn, e, h1, h2⟩ := Rd.list_inv hv
  cases e
  have h1' := fz_sub _ _ _ _ h1
  have hvl := h2.length
  rw [Array.length_toList] at hvl
  have hll := Heap.lt_size h1'
  generalize hit : s0.heap.objs.size = it at hs ⊢
  have z1 : (s0.heap.push (liO l)).objs.size = it + 1 := by rw [Heap.size_push, hit]
  have z2 : ((s0.heap.push (liO l)).push (plainT #[.ref it] 0)).objs.size = it + 2 := by rw [Heap.size_push, z1]
  have z3 : s.heap.objs.size = it + 3 := by rw [hs]; show (Heap.push _ _).objs.size = _; rw [Heap.size_push, z2]
  have oM : s.heap.get? (it + 2) = some (mapO (it + 1) (.ref fa)) := by rw [hs]; have := Heap.get?_push_size ((s0.heap.push (liO l)).push (plainT #[.ref it] 0)) (o := mapO (it + 1) (.ref fa)) rfl; rw [z2] at this; exact this
  have oT : s.heap.get? (it + 1) = some (plainT #[.ref it] 0) := by rw [hs]; refine Heap.get?_push_of_some _ ?_; have := Heap.get?_push_size (s0.heap.push (liO l)) (o := plainT #[.ref it] 0) rfl; rw [z1] at this; exact this
  have oI : s.heap.get? it = some (liO l) := by rw [hs]; refine Heap.get?_push_of_some _ (Heap.get?_push_of_some _ ?_); have := Heap.get?_push_size s0.heap (o := liO l) rfl; rw [hit] at this; exact this
  have kS : Sub s0.heap s.heap := by rw [hs]; exact fun b o e => Heap.get?_push_of_some _ (Heap.get?_push_of_some _ (Heap.get?_push_of_some _ e))
  have gens0 : s.gens = s0.gens := by rw [hs]
  have os0 : s.os = s0.os := by rw [hs]
  have old : ∀ {b o}, s0.heap.get? b = some o → b ≠ it ∧ b ≠ it + 1 ∧ b ≠ it + 2 ∧ b ≠ it + 3 := fun e => by
    have h := Heap.lt_size e
    rw [hit] at h
    have h : (_ : Nat) < (it : Nat) := h
    refine ⟨Nat.ne_of_lt h, Nat.ne_of_lt (Nat.lt_succ_of_lt h), Nat.ne_of_lt (Nat.lt_succ_of_lt (Nat.lt_succ_of_lt h)), Nat.ne_of_lt (Nat.lt_succ_of_lt (Nat.lt_succ_of_lt (Nat.lt_succ_of_lt h)))⟩
  have n1 : it + 1 ≠ it ∧ it + 2 ≠ it ∧ it + 3 ≠ it := ⟨Nat.ne_of_gt (Nat.lt_succ_self _), Nat.ne_of_gt (Nat.lt_succ_of_lt (Nat.lt_succ_self _)), Nat.ne_of_gt (Nat.lt_succ_of_lt (Nat.lt_succ_of_lt (Nat.lt_succ_self _)))⟩
  have n2 : it + 2 ≠ it + 1 ∧ it + 3 ≠ it + 1 ∧ it + 3 ≠ it + 2 := ⟨Nat.ne_of_gt (Nat.lt_succ_self _), Nat.ne_of_gt (Nat.lt_succ_of_lt (Nat.lt_succ_self _)), Nat.ne_of_gt (Nat.lt_succ_self _)⟩
  let X : Addr → Prop := fun a => Hd c st a ∨ a = it ∨ a = it + 3
  have hXold : ∀ {b o}, s0.heap.get? b = some o → ¬ Hd c st b → ¬ X b := fun e hb h => h.elim hb fun h => h.elim (old e).1 (old e).2.2.2
  let J : Nat → List Value → Shared → Prop := fun i acc s' => s'.gens = s0.gens ∧ s'.os = s0.os ∧ Sub s0.heap s'.heap ∧ s'.heap.get? (it + 2) = some (mapO (it + 1) (.ref fa)) ∧ s'.heap.get? (it + 1) = some (plainT #[.ref it] 0) ∧
    s'.heap.IsListIter it l i ∧ (∃ cc, s'.heap.get? (it + 3) = some (plainL acc.toArray cc)) ∧ i ≤ ds.length ∧ RdL s'.heap acc ((ds.take i).map F)
  let JE : List Value → Shared → Prop := fun acc s' => s'.gens = s0.gens ∧ s'.os = s0.os ∧ Sub s0.heap s'.heap ∧ (∃ cc, s'.heap.get? (it + 3) = some (plainL acc.toArray cc)) ∧ RdL s'.heap acc (ds.map F)
  have hh : c.A.handled = none := r.rm.handled
  have D := Draws.list (prog := Γ.prog) (w := Γ.w) (A := c.A.in1.in1.in1.in1) hh it l (Nat.ne_of_lt (by rw [← hit]; exact hll)) vs
  have flatF : ∀ i, ∀ d ∈ (ds.take i).map F, flat d = true := fun i d hd => by
    obtain ⟨x, hx, rfl⟩ := List.mem_map.mp hd
    exact hflat x (List.mem_of_mem_take hx)
  have hIL : ∀ {h' : Heap}, Sub s0.heap h' → h'.IsList l vs := fun k => plainL_isList (k _ _ h1')
  refine call_tuple_map J JE (n := ds.length) hlen ?_ oM ?_ ?_ ?_ ?_ ?_ ?_
  · rintro i acc s' ⟨_, _, _, _, _, _, _, hi, hr⟩
    rw [hr.length, List.length_map, List.length_take, Nat.min_eq_left hi]
  · intro h' hS hk
    rw [z3] at hS hk
    have lv : ∀ {b o}, s.heap.get? b = some o → h'.get? b = some o := fun {b o} e => hk b o (Nat.ne_of_lt (by rw [← z3]; exact Heap.lt_size e)) (Heap.get?_push_of_some _ e)
    exact ⟨gens0, os0, fun b o e => lv (kS b o e), lv oM, lv oT, ⟨_, lv oI, rfl, rfl⟩, ⟨2, hS⟩, Nat.zero_le _, .nil⟩
  · rintro i acc s' hi ⟨j1, j2, j3, j4, j5, j6, ⟨cc, j7⟩, _, j8⟩
    rw [z3]
    refine map_next j4 j5 (D.item i s' _ _ (by (clear hn hfa hlen hcon hflat h1 h1' hll hit hs z1 z2 z3 oM oT oI gens0 os0 old n1 n2 hXold hh flatF hIL j1 j2 j4 j5 j7; omega)) ⟨j6, hIL j3⟩ fun x h' tk hx ⟨i1, _⟩ hsb => ?_)
    have s1 : ∀ {b o}, b ≠ it → s'.heap.get? b = some o → h'.get? b = some o := fun {b o} hb e => (hsb.2 b hb).trans e
    have k1 : Sub s0.heap h' := fun b o e => s1 (old e).1 (j3 b o e)
    have m1 := s1 n1.2.1 j4
    have t1 := s1 n1.1 j5
    have S1 := s1 n1.2.2 j7
    refine ⟨m1, ?_⟩
    have sub0 : Sub (fz s0.heap (Hd c st)) (fz h' X) := fz_mono fun b o hb e => ⟨hXold e hb, k1 b o e⟩
    obtain ⟨d, hd, rdx⟩ := h2.get' (i := i) (v := x) (by simpa using hx)
    have hdm := List.mem_of_getElem? hd
    refine wpAny_mono (hcon d hdm c.A.in1.in1.in1.in1 X { s' with heap := h', toks := tk } fa [x] (Rm.in4 (r.rm.le hn)) (r.gdH.mono k1) (r.tab.mono sub0) (j1.trans r.gens) (fun a ha => ?_) hfa (VRL.cons (Γ := Γ) (a := .D d) (show VR Γ _ _ (.D d) x from Rd.mono sub0 rdx) .nil)) (fun v s2 ⟨k2, rv⟩ => ?_) fun _ _ x => x
    · rcases ha with ha | ha | ha
      · obtain ⟨o, e⟩ := r.low2 a ha; exact ⟨o, k1 a o e⟩
      · obtain ⟨o, e, _⟩ := i1; exact ⟨o, ha ▸ e⟩
      · exact ⟨_, ha ▸ S1⟩
    · have S2 := k2.heap _ _ S1
      have oth : ∀ {b o}, b ≠ it + 3 → h'.get? b = some o → (s2.heap.update (it + 3) (Obj.mapSeq (·.push v))).get? b = some o := fun {b o} hb e => (Heap.get?_update_other _ _ (Ne.symm hb)).trans (k2.heap b o e)
      refine ⟨v, cc, rfl, S2, k2.gens.trans j1, k2.os.trans j2, fun b o e => oth (old e).2.2.2 (k1 b o e), oth (Ne.symm n2.2.2) m1, oth (Ne.symm n2.2.1) t1, ?_, ?_, hi, ?_⟩
      · obtain ⟨o, e, q⟩ := i1
        exact ⟨o, oth (Ne.symm n1.2.2) e, q⟩
      · have e := IsL.update S2 (·.push v)
        rw [show acc.toArray.push v = (acc ++ [v]).toArray by simp] at e
        exact ⟨_, e⟩
      · obtain ⟨hilt, ed⟩ := List.getElem?_eq_some_iff.mp hd
        rw [List.take_succ_eq_append_getElem hilt, List.map_append, ed]
        refine RdL.append (RdL.flat_any j8 (flatF i) _) (.one ((show Rd _ v (F d) from rv).flat_any (hflat d hdm) _))
  · rintro acc s' ⟨j1, j2, j3, j4, j5, j6, ⟨cc, j7⟩, hi, j8⟩
    rw [List.take_length] at j8
    have ff := flatF ds.length
    rw [List.take_length] at ff
    exact map_end j4 j5 (D.done s' _ _ ⟨by rw [hvl]; exact j6, hIL j3⟩ fun h' e hext hst => ⟨e, rfl, hst, rfl, j1, j2, fun b o eb => hext b o (old eb).1 (j3 b o eb), ⟨cc, hext _ _ n1.2.2 j7⟩, RdL.flat_any j8 ff _⟩)
  · rintro acc s' ⟨j1, j2, j3, j7, j8⟩
    rw [j8.length, List.length_map]
  · rintro acc s' ⟨j1, j2, j3, j7, j8⟩
    rw [z3]; exact j7
  · rintro s' acc ⟨j1, j2, j3, j7, j8⟩
    have kp : Kp s0 { s' with heap := s'.heap.push (plainT acc.toArray 0) } := ⟨j1, j2, fun b o e => Heap.get?_push_of_some _ (j3 b o e)⟩
    refine ⟨kp, Rd.tuple (vs := acc.toArray) (n := 0) (fz_some.mpr ⟨fun hx => ?_, Heap.get?_push_size _ rfl⟩) ?_⟩
    · obtain ⟨o, e⟩ := r.low2 _ hx
      exact Nat.lt_irrefl _ (Heap.lt_size (j3 _ _ e))
    · have := flatF ds.length
      rw [List.take_length] at this
      exact RdL.flat_any j8 this _
end
end Mine
end
section
open PySem PySem.Calls PyProof.Rows
namespace Mine
section
variable {Γ : Gx} {c : Cx} {st : St} {s : Shared}
theorem WE_tupleMap {f : Str} {e : Expr} {p1 p2 p3 p4 p5 : Pos} {n : Nat} {F : PyData → PyData} {Q : AV → Prop} (hf : isFn f) (hn : n + 4 ≤ c.n)
    (h : WE Γ c st (eval e c.env) fun a => ∃ ds, a = .D (.list ds) ∧ ds.length ≤ 1000 ∧ (∀ d ∈ ds, Con Γ n f [.D d] (.D (F d))) ∧ (∀ d ∈ ds, flat (F d) = true) ∧ Q (.D (.tuple (ds.map F))))
    (hxT : c.env.kindOf "tuple" = some .globalImplicit := by rfl) (hxM : c.env.kindOf "map" = some .globalImplicit := by rfl) (hxf : c.env.kindOf f = some .globalImplicit := by rfl) (hd : (f == ("__debug__" : Str)) = false := by decide)
    (he1 : starEach [.Call (.Name "map" p2) [.Name f p3, e] [] p4] c.env = (false, eval (.Call (.Name "map" p2) [.Name f p3, e] [] p4) c.env) :: starEach [] c.env := by rfl)
    (he2 : starEach [.Name f p3, e] c.env = (false, eval (.Name f p3) c.env) :: starEach [e] c.env := by rfl) (he3 : starEach [e] c.env = (false, eval e c.env) :: starEach [] c.env := by rfl)
    (hpl : (backTo p4 (starEach [e] c.env)).any (·.1) = false := by rfl)
    (hc1 : eval (.Call (.Name "tuple" p1) [.Call (.Name "map" p2) [.Name f p3, e] [] p4] [] p5) c.env = (do callWith p5 (← eval (.Name "tuple" p1) c.env) [] (backTo p5 (starEach [.Call (.Name "map" p2) [.Name f p3, e] [] p4] c.env)) (backToKw p5 (keywordEach [] c.env))) := by rfl)
    (hc2 : eval (.Call (.Name "map" p2) [.Name f p3, e] [] p4) c.env = (do callWith p4 (← eval (.Name "map" p2) c.env) [] (backTo p4 (starEach [.Name f p3, e] c.env)) (backToKw p4 (keywordEach [] c.env))) := by rfl) :
    WE Γ c st (eval (.Call (.Name "tuple" p1) [.Call (.Name "map" p2) [.Name f p3, e] [] p4] [] p5) c.env) Q := fun s r => by
  obtain ⟨fa, o, fd, g1, g2, g3⟩ := r.gdH.fnAt hf
  refine Call_ (name_builtin r hxT (r.gd.free _ bi_tuple.mem) bi_tuple.boot bi_tuple.ne bi_tuple.nd (PyProof.Rows.callWith_type1 (args_cons (Call_ (name_builtin r hxM (r.gd.free _ bi_map.mem) bi_map.boot bi_map.ne bi_map.nd
    (PyProof.Rows.callWith_type1 (args_cons (name_global r hxf g1 hd (args_cons (wpAny_mono (h s r) (fun v s1 ⟨k1, a, va, ds, ea, hlen, hcon, hflat, q⟩ => args_nil ?_) fun _ _ x => x.elim) he3)) he2) he2 hpl)) hc2) he1) he1 rfl)) hc1
  subst ea
  have r1 := r.kp k1
  obtain ⟨l, vs, nn, rfl, h1, h2⟩ := Rd.list_inv va
  have h1' := fz_sub _ _ _ _ h1
  have z1 : ((s1.heap.push (liO l)).push (plainT #[.ref s1.heap.objs.size] 0)).objs.size = s1.heap.objs.size + 2 := by rw [Heap.size_push, Heap.size_push]
  refine callType_new called_map (by decide) (typeCall_map_2 _ _) (newCall_map_2 _ _) (fun obj => PySem.F.args_object_init_3 obj _ _) entry_map_new (map_new l (.ref fa) vs nn) ⟨h1', ⟨mapO (s1.heap.objs.size + 1) (.ref fa), ?_, rfl⟩, args_nil ?_⟩
  · have := Heap.get?_push_size ((s1.heap.push (liO l)).push (plainT #[.ref s1.heap.objs.size] 0)) (o := mapO (s1.heap.objs.size + 1) (.ref fa)) rfl
    rw [z1] at this; exact this
  · exact wpAny_mono (tupleMap_sound r1 hn g1 va hlen hcon hflat rfl) (fun v s2 ⟨k2, rd⟩ => ⟨k1.trans k2, .D (.tuple (ds.map F)), rd, q⟩) fun _ _ x => x
end
end Mine
end
section
open PySem PySem.Calls PyProof.Rows
namespace Mine
/-! a set of the one truth -/
noncomputable abbrev setT (led : Bool) : SetTable := { mask := 7, place := #[1], dummies := #[], finger := 0, led := led, moves := 0, plain := true }
noncomputable abbrev setO0 (led : Bool) : Obj := { cls := .type "set", dict := none, data := .set #[] 0 (.fresh 0 0 led), slots := #[] }
noncomputable abbrev setO1 (led : Bool) : Obj := { cls := .type "set", dict := none, data := .set #[(1, .bool true)] 1 (setT led), slots := #[] }
theorem lay_true (led : Bool) : layNew (.fresh 0 0 led) #[] 1 (.bool true) = (#[(1, .bool true)], setT led, false, false) := by cases led <;> decide +kernel
section
variable {prog : Program} {w : World} {A : Around} {E : Value → Shared → Prop} {s : Shared}
theorem slot_bool_hash : Slot "bool" "__hash__" "int.__hash__" :=
  .of (owner := "int") (n := "__hash__") (by rw [typeLookup_type, builtinLookup_eq_fast]; kernel_rfl) (by decide +kernel) (by decide +kernel) (by decide +kernel)
    (by first | exact .inl (by decide +kernel) | exact .inr (by decide +kernel)) (by rw [isSubtype_type]; kernel_rfl)
theorem hash_true {Q : Int → Shared → Prop} (h : Q 1 { s with toks := s.toks + 1 }) : wpAny (model prog w) A (pyHash (.bool true)) Q E s := by
  have hT : s.TypeIs (.bool true) "bool" := rfl
  unfold pyHash
  have hv : [Value.bool true].any Value.onHeap = false := rfl
  refine wpAny_bind ?_
  rw [cRoomFor, if_neg (by rw [hv]; exact Bool.false_ne_true)]; refine wpAny_pure ?_
  refine wpAny_bind (wpAny_specialOf hT slot_bool_hash.lookup ?_)
  show wpAny _ _ (if (some (Value.builtin "int.__hash__") == some Value.none) = true then _ else _) Q E s
  rw [if_neg (by rw [beq_builtin_none]; exact Bool.false_ne_true)]
  refine wpAny_bind (wpAny_specialOf hT slot_bool_hash.lookup ?_)
  show wpAny _ _ (callSpecialIfBoundUnlessNone? (.bool true) "__hash__" _ >>= _) Q E s
  refine wpAny_bind (wpAny_callSpecialIfBoundUnlessNone?_slot hT slot_bool_hash
    (wpAny_call_entry slot_bool_hash hT entry_int_hash
      (show wpAny _ _ (do ret (← mkInt (rawHash 1))) _ _ s from wpAny_ret_mkInt ?_) (args_int_hash _)))
  exact wpAny_pure h
theorem add_first {D : Addr} {led : Bool} {Q : Value → Shared → Prop} (hD : s.heap.get? D = some (setO0 led))
    (h : ∀ h', h'.get? D = some (setO1 led) → Heap.SameBut D s.heap h' → Q .none { s with heap := h', toks := s.toks + 1 }) : wpAny (model prog w) A (call (.builtin "set.add") [.ref D, .bool true]) Q E s := by
  refine wpAny_call_entry F.slot_set_add ⟨_, hD, rfl⟩ F.entry_set_add ?_ (F.args_set_add_2 _ _)
  unfold Builtin.«set.add» Builtin.Frozenset.oneOther
  simp only [List.isEmpty_nil, bind_assoc]
  unfold Builtin.Frozenset.addrOf setAdd
  refine wpAny_bind (wpAny_pure ?_)
  try dsimp only
  refine wpAny_bind (wpAny_pure ?_)
  try dsimp only
  refine wpAny_bind (wpAny_holding (wpAny_bind (hash_true ?_)))
  unfold setAddHashed setAddHashedIn
  refine wpAny_holding (wpAny_bind (wpAny_setState_of hD rfl (by rfl) ?_))
  dsimp only
  rw [show byScan (.bool true) #[] = true from by decide +kernel]
  simp only [↓reduceIte]
  unfold setAddByScan
  refine wpAny_bind (wpAny_bind (wpAny_rule ?_))
  unfold setScan setScanFrom
  refine wpAny_bind (wpAny_pure ?_)
  dsimp only
  rw [lay_true]
  dsimp only
  refine wpAny_bind (wpAny_pure ?_)
  rw [if_pos rfl]
  refine wpAny_bind (m := hashByValue 8 (.bool true)) (wpAny_pure ?_)
  simp only [if_true]
  refine wpAny_bind (wpAny_storeSet_of hD rfl ?_ (by show 1 ≤ sizeLine; decide))
  rw [if_neg (show ¬ (!false && (setT led).tooFull) = true by cases led <;> decide +kernel)]
  refine wpAny_pure (wpAny_pure ?_)
  have hup := Heap.get?_update_self (Obj.putSet #[(1, .bool true)] (setT led)) hD rfl
  exact wpAny_pure ⟨_, rfl, h _ hup (Heap.SameBut.update ..)⟩
theorem add_again {D : Addr} {led : Bool} {Q : Value → Shared → Prop} (hD : s.heap.get? D = some (setO1 led))
    (h : Q .none { s with toks := s.toks + 1 }) : wpAny (model prog w) A (call (.builtin "set.add") [.ref D, .bool true]) Q E s := by
  refine wpAny_call_entry F.slot_set_add ⟨_, hD, rfl⟩ F.entry_set_add ?_ (F.args_set_add_2 _ _)
  unfold Builtin.«set.add» Builtin.Frozenset.oneOther
  simp only [List.isEmpty_nil, bind_assoc]
  unfold Builtin.Frozenset.addrOf setAdd
  refine wpAny_bind (wpAny_pure ?_)
  try dsimp only
  refine wpAny_bind (wpAny_pure ?_)
  try dsimp only
  refine wpAny_bind (wpAny_holding (wpAny_bind (hash_true ?_)))
  unfold setAddHashed setAddHashedIn
  refine wpAny_holding (wpAny_bind (wpAny_setState_of hD rfl (by cases led <;> decide +kernel) ?_))
  dsimp only
  rw [show byScan (.bool true) #[(1, .bool true)] = true from by decide +kernel]
  simp only [↓reduceIte]
  unfold setAddByScan
  refine wpAny_bind (wpAny_bind (wpAny_rule ?_))
  unfold setScan setScanFrom
  rw [if_pos (by decide)]
  refine wpAny_bind (wpAny_bind (wpAny_setEpoch_of hD rfl (by cases led <;> decide +kernel) ?_))
  refine wpAny_bind ?_
  unfold eqBool
  refine wpAny_holding ?_
  rw [if_pos (by decide)]
  refine wpAny_bind (wpAny_rule (wpAny_pure ?_))
  simp only [Bool.and_self, ↓reduceIte]
  refine wpAny_pure (wpAny_pure (wpAny_pure ?_))
  exact wpAny_pure ⟨_, rfl, h⟩
end
end Mine
end
section
open PySem PySem.Calls PyProof.Rows
namespace Mine
/-! walking a set of the one truth -/
noncomputable abbrev ledOf (w : World) : Bool := !(w.params.followText "set-order")
theorem slot_setiter_next : Slot "set_iterator" "__next__" "set_iterator.__next__" :=
  .of (owner := "set_iterator") (n := "__next__") (by rw [typeLookup_type, builtinLookup_eq_fast]; kernel_rfl) (by decide +kernel) (by decide +kernel) (by decide +kernel)
    (by first | exact .inl (by decide +kernel) | exact .inr (by decide +kernel)) (by rw [isSubtype_type]; kernel_rfl)
theorem entry_setiter_next : entryFor table "set_iterator.__next__" = some Builtin.«set_iterator.__next__» := entryFor_of_fast (by kernel_rfl)
theorem args_setiter_next (a : Value) : argsOk "set_iterator.__next__" ⟨[a], []⟩ := by unfold argsOk; kernel_rfl
theorem entry_set_iter : entryFor table "set.__iter__" = some Builtin.«frozenset.__iter__» := entryFor_alias (id' := "frozenset.__iter__") (by kernel_rfl) (by decide +kernel) (by decide +kernel) (by kernel_rfl)
section
variable {prog : Program} {w : World} {A : Around} {E : Value → Shared → Prop} {s : Shared}
noncomputable abbrev setI (D : Addr) (p i : Nat) : Obj := { cls := .type "set_iterator", data := .fields #[.int p 0, .int i 0, .ref D, .int 1 0, .int 1 0] }
theorem setsByText_w {Q : Bool → Shared → Prop} (h : Q (!ledOf w) s) : wpAny (model prog w) A setsByText Q E s := by
  unfold setsByText
  refine wpAny_bind (wpAny_askSetting (wpAny_pure ?_))
  rw [show (model prog w).w.params.followText "set-order" = !ledOf w from (Bool.not_not _).symm]
  exact h
theorem drawn1 (es : Array (Int × Value)) (t : SetTable) (h : t.plain = true) : (!t.plain && decide (es.size > 1)) = false := by rw [h]; rfl
theorem setEntries1 {D : Addr} {led : Bool} {Q : Array (Int × Value) → Shared → Prop} (hD : s.heap.get? D = some (setO1 led)) (h : Q #[(1, .bool true)] s) : wpAny (model prog w) A (setEntries D) Q E s := by
  unfold setEntries
  exact (wpAny_bind (wpAny_setState_of hD rfl (by cases led <;> decide +kernel) (wpAny_pure h)))
theorem set_iter {D : Addr} {Q : Value → Shared → Prop} (hD : s.heap.get? D = some (setO1 (ledOf w)))
    (hQ : Q (.ref s.heap.objs.size) { s with heap := s.heap.push (setI D 0 0) }) : wpAny (model prog w) A (pyIter (.ref D)) Q E s := by
  refine wpAny_pyIter_slot ⟨_, hD, rfl⟩ F.slot_set_iter (wpAny_call_entry F.slot_set_iter ⟨_, hD, rfl⟩ entry_set_iter ?_ (F.args_set_iter_1 _))
  unfold Builtin.«frozenset.__iter__» Builtin.Frozenset.sizeOf
  refine wpAny_bind (m := Builtin.Frozenset.slot0 "__iter__" _) (wpAny_pure ?_)
  refine wpAny_bind (wpAny_bind (setEntries1 hD (wpAny_pure ?_)))
  refine wpAny_bind (wpAny_bind ?_)
  refine (wpAny_setState_of hD rfl (by cases (ledOf w) <;> decide +kernel) ?_)
  dsimp only
  refine wpAny_bind (setsByText_w (wpAny_pure ?_))
  rw [if_neg]
  rotate_left
  · generalize ledOf w = l; cases l <;> decide +kernel
  refine wpAny_bind (wpAny_pure (wpAny_bind ?_))
  unfold setEpoch
  refine wpAny_bind (wpAny_setState_of hD rfl (by cases (ledOf w) <;> decide +kernel) (wpAny_pure ?_))
  exact wpAny_bind (wpAny_newObj_type (wpAny_pure ⟨_, rfl, "set_iterator", _, ⟨_, Heap.get?_push_size _ rfl, rfl⟩, slot_setiter_next.lookup, hQ⟩))
theorem pick1 {α : Type} (f : Nat → Nat) (x : α) : pickOrder f #[x] = #[x] := by
  unfold pickOrder
  simp only [List.size_toArray, List.length_cons, List.length_nil, Nat.zero_add, pickOrder.go, Nat.mod_one, List.getElem?_cons_zero]
  rfl
theorem nextA {D : Addr} {Q : Option (Value × Nat) → Shared → Prop} (hD : s.heap.get? D = some (setO1 (ledOf w)))
    (hQ : Q (some (.bool true, if ledOf w = true then 2 else 0)) s) : wpAny (model prog w) A (setNext D (0 : Int).toNat (0 : Int).toNat (1 : Int).toNat) Q E s := by
  unfold setNext
  refine wpAny_bind (wpAny_setState_of hD rfl (by cases (ledOf w) <;> decide +kernel) ?_)
  dsimp only
  refine wpAny_bind (setsByText_w ?_)
  cases e : ledOf w with
  | false =>
    rw [e] at hQ hD
    simp only [Bool.not_false, if_true]
    rw [if_neg (by decide)]
    refine wpAny_bind ?_
    unfold setWalk
    refine wpAny_bind (wpAny_setState_of hD rfl (by decide +kernel) ?_)
    dsimp only
    refine wpAny_bind (setsByText_w ?_)
    rw [e]
    simp only [Bool.not_false, if_true]
    refine wpAny_bind (wpAny_askSetting (wpAny_pure ?_))
    rw [pick1]
    exact wpAny_pure hQ
  | true =>
    rw [e] at hQ hD
    simp only [Bool.not_true, Bool.false_eq_true, if_false]
    rw [if_neg]
    rotate_left
    · decide +kernel
    refine wpAny_bind (wpAny_pure ?_)
    exact wpAny_pure hQ
theorem nextB {D : Addr} {p : Nat} {Q : Option (Value × Nat) → Shared → Prop} (hp : p = if ledOf w = true then 2 else 0) (hD : s.heap.get? D = some (setO1 (ledOf w)))
    (hQ : Q none s) : wpAny (model prog w) A (setNext D (p : Int).toNat (1 : Int).toNat (1 : Int).toNat) Q E s := by
  unfold setNext
  refine wpAny_bind (wpAny_setState_of hD rfl (by cases (ledOf w) <;> decide +kernel) ?_)
  dsimp only
  refine wpAny_bind (setsByText_w ?_)
  cases e : ledOf w with
  | false =>
    rw [e] at hD
    simp only [Bool.not_false, if_true]
    rw [if_neg (by decide)]
    refine wpAny_bind ?_
    unfold setWalk
    refine wpAny_bind (wpAny_setState_of hD rfl (by decide +kernel) ?_)
    dsimp only
    refine wpAny_bind (setsByText_w ?_)
    rw [e]
    simp only [Bool.not_false, if_true]
    refine wpAny_bind (wpAny_askSetting (wpAny_pure ?_))
    rw [pick1]
    exact wpAny_pure hQ
  | true =>
    rw [e] at hD hp
    subst hp
    simp only [Bool.not_true, Bool.false_eq_true, if_false]
    rw [if_neg]
    rotate_left
    · decide +kernel
    refine wpAny_bind (wpAny_pure ?_)
    exact wpAny_pure hQ
theorem set_next0 {I D : Addr} {Q : Option Value → Shared → Prop} (hI : s.heap.get? I = some (setI D 0 0)) (hD : s.heap.get? D = some (setO1 (ledOf w)))
    (hQ : ∀ h' p, p = (if ledOf w = true then 2 else 0) → h'.get? I = some (setI D p 1) → Heap.SameBut I s.heap h' → Q (some (.bool true)) { s with heap := h' }) : wpAny (model prog w) A (pyNext (.ref I)) Q E s := by
  unfold pyNext
  refine wpAny_bind (wpAny_attempt (wpAny_callSpecial?_slot (name := Str.ofString "__next__") ⟨_, hI, rfl⟩ slot_setiter_next
    (wpAny_call_entry slot_setiter_next ⟨_, hI, rfl⟩ entry_setiter_next ?_ (args_setiter_next _))))
  unfold Builtin.«set_iterator.__next__»
  refine wpAny_bind (m := slotArgs "__next__" 0 _) (wpAny_pure ?_)
  refine wpAny_bind (wpAny_fieldsOf hI rfl ?_)
  dsimp only [List.toList_toArray]
  refine wpAny_bind (setEntries1 hD ?_)
  rw [if_neg (by decide)]
  refine wpAny_bind (nextA hD ?_)
  dsimp only
  refine wpAny_bind (wpAny_setField_rec hI (by simp) fun h₁ e₁ b₁ => ?_)
  refine wpAny_bind (wpAny_setField_rec e₁ (by simp) fun h₂ e₂ b₂ => ?_)
  exact wpAny_pure ⟨_, rfl, wpAny_pure (hQ _ _ rfl e₂ (b₁.trans b₂))⟩
theorem set_next1 {I D : Addr} {p : Nat} {Q : Option Value → Shared → Prop} (hh : A.handled = none) (hI : s.heap.get? I = some (setI D p 1)) (hD : s.heap.get? D = some (setO1 (ledOf w))) (hp : p = if ledOf w = true then 2 else 0)
    (hQ : ∀ h', Heap.ExtBut I s.heap h' → Q none { s with heap := h' }) : wpAny (model prog w) A (pyNext (.ref I)) Q E s := by
  unfold pyNext
  refine wpAny_bind (wpAny_attempt (wpAny_callSpecial?_slot (name := Str.ofString "__next__") ⟨_, hI, rfl⟩ slot_setiter_next
    (wpAny_call_entry slot_setiter_next ⟨_, hI, rfl⟩ entry_setiter_next ?_ (args_setiter_next _))))
  unfold Builtin.«set_iterator.__next__»
  refine wpAny_bind (m := slotArgs "__next__" 0 _) (wpAny_pure ?_)
  refine wpAny_bind (wpAny_fieldsOf hI rfl ?_)
  dsimp only [List.toList_toArray]
  refine wpAny_bind (setEntries1 hD ?_)
  rw [if_neg (by decide)]
  refine wpAny_bind (nextB hp hD ?_)
  dsimp only
  refine wpAny_bind (wpAny_setField hI rfl (by simp) ?_)
  show wpAny _ _ (newExc (.type "StopIteration") [] >>= _) _ _ _
  refine wpAny_bind ?_
  simp only [newExc, newTuple]
  refine wpAny_bind (wpAny_newObj_type ?_ (by size_fits))
  refine wpAny_bind (m := firstArgMember _ _) (wpAny_of_eq (a := Value.none) (by first | rfl | (simp only [firstArgMember]; rfl)) ?_)
  refine wpAny_newObj_type ?_ (by size_fits)
  simp only [raiseNew]
  refine wpAny_bind (wpAny_handled ?_)
  first | rw [show A.in1.handled = none from hh] | rw [hh]
  refine wpAny_bind (wpAny_pure (wpAny_throw ?_))
  refine wpAny_bind (wpAny_isInstance (T := "StopIteration") (b := true) ⟨_, Heap.get?_push_size _ rfl, rfl⟩ isSubtype_stop ?_)
  exact wpAny_pure (hQ _ (((Heap.SameBut.update ..).extBut.push _).push _))
/-! x, = the set -/
theorem unpack_set {D : Addr} {Q : List Value → Shared → Prop} (hh : A.handled = none) (hD : s.heap.get? D = some (setO1 (ledOf w)))
    (hQ : ∀ h', Heap.ExtBut s.heap.objs.size s.heap h' → Q [.bool true] { s with heap := h' }) : wpAny (model prog w) A (unpackItems (.ref D) 1 none) Q E s := by
  have hlt : D ≠ s.heap.objs.size := Nat.ne_of_lt (Heap.lt_size hD)
  unfold unpackItems
  refine wpAny_bind ?_
  unfold notIterableAtAll
  refine wpAny_bind (wpAny_specialOf ⟨_, hD, rfl⟩ F.slot_set_iter.lookup ?_)
  refine wpAny_pure ?_
  simp only [Bool.false_eq_true, if_false]
  refine wpAny_bind (wpAny_holding (set_iter hD ?_))
  have hD1 : (s.heap.push (setI D 0 0)).get? D = some (setO1 (ledOf w)) := Heap.get?_push_of_some _ hD
  refine wpAny_bind (wpAny_holding ?_)
  show wpAny _ _ (pyNext _ >>= _) _ E _
  refine wpAny_bind (set_next0 (Heap.get?_push_size _ rfl) hD1 fun h₁ p hp e₁ b₁ => ?_)
  have hD2 : h₁.get? D = some (setO1 (ledOf w)) := (b₁.2 D hlt).trans hD1
  refine wpAny_bind (wpAny_holding (wpAny_pure (wpAny_pure ?_)))
  rw [if_neg (by decide)]
  refine wpAny_bind (wpAny_holding (set_next1 hh e₁ hD2 hp fun h₂ b₂ => ?_))
  simp only [Option.isSome_none, Bool.false_eq_true, if_false]
  refine wpAny_pure (hQ h₂ fun b o hb e => b₂ b o hb (b₁.extBut b o hb (Heap.get?_push_of_some _ e)))
end
end Mine
end
section
open PySem PySem.Calls PyProof.Rows
namespace Mine
section
variable {prog : Program} {w : World} {A : Around} {E : Value → Shared → Prop} {R : Result → Shared → Prop} {s : Shared}
theorem codeAny_compStart_set {elt target iter ifs rest scope pos it acc env}
    (h0 : codeAny (model prog w) A (.compLoop (.SetComp elt (⟨target, iter, ifs, 0⟩ :: rest) scope pos) 0 it acc env) R s)
    (h : wpAny (model prog w) A (pyIter it) (fun it' s' => codeAny (model prog w) A (.compLoop (.SetComp elt (⟨target, iter, ifs, 0⟩ :: rest) scope pos) 0 it' acc env) R s')
      (notedBy (model prog w) A env fun x s' => R (.error x) s') s) :
    codeAny (model prog w) A (.compStart (.SetComp elt (⟨target, iter, ifs, 0⟩ :: rest) scope pos) 0 it acc env) R s := by
  refine codeAny_of_tree ?_
  show wpAny _ _ ((compStart (.SetComp elt (⟨target, iter, ifs, 0⟩ :: rest) scope pos) 0 it acc env).onRaise (fun x => do noteFrame x env; standAt theWindowsPlace)) _ _ s
  refine wpAny_notedAt ?_
  unfold compStart
  show wpAny _ _ (ask >>= _) _ _ s
  refine wpAny_bind (wpAny_askSetting (wpAny_ite ?_))
  split
  · first
      | exact wpAny_bind (wpAny_pure (wpAny_pure (And.intro rfl h0)))
      | exact wpAny_pure (And.intro rfl h0)
  · first
      | exact wpAny_bind (wpAny_rule (wpAny_bind (wpAny_standAt (wpAny_bind (wpAny_mono h (fun it' s' h' => wpAny_pure (And.intro rfl h')) fun _ _ x => x)))))
      | (refine wpAny_bind (wpAny_rule ?_); show wpAny _ _ (standAt iter.pos >>= _) _ _ s; exact wpAny_bind (wpAny_standAt (wpAny_bind (wpAny_mono h (fun it' s' h' => wpAny_pure (And.intro rfl h')) fun _ _ x => x))))
theorem compTurn_set1 (elt target iter : Expr) (scope : Scope) (pos : Pos) (it acc : Value) (env : Env) :
    compTurn (.SetComp elt [⟨target, iter, [], 0⟩] scope pos) 0 it acc env = (standAt iter.pos >>= fun _ => pyNext it >>= fun r => match r with
      | none => pure (.done .next)
      | some v => letOwnedTupleGo target it v >>= fun _ => assign target env v >>= fun _ =>
        (eval elt env >>= fun x => standAt elt.pos >>= fun _ => call (.builtin "set.add") [acc, x] >>= fun _ => pure ()) >>= fun _ =>
          again (.compLoop (.SetComp elt [⟨target, iter, [], 0⟩] scope pos) 0 it acc env)) := by rfl
theorem codeAny_compLoop_set {elt target iter : Expr} {scope : Scope} {pos : Pos} {it acc : Value} {env : Env} (I : Nat → Shared → Prop)
    (turn : ∀ n s, I n s → wpAny (model prog w) A (pyNext it) (fun r s₁ => match r with
      | none => R (.ok .next) s₁
      | some v => wpAny (model prog w) A (assign target env v) (fun _ s₂ => wpAny (model prog w) A (eval elt env) (fun x s₃ =>
          wpAny (model prog w) A (call (.builtin "set.add") [acc, x]) (fun _ s₄ => ∃ m, m < n ∧ I m s₄) (notedBy (model prog w) A env fun e s' => R (.error e) s') s₃)
          (notedBy (model prog w) A env fun e s' => R (.error e) s') s₂) (notedBy (model prog w) A env fun e s' => R (.error e) s') s₁) (notedBy (model prog w) A env fun e s' => R (.error e) s') s)
    (n : Nat) (h : I n s) (ht : ∀ v, letOwnedTupleGo target it v = pure () := by intro _; rfl) :
    codeAny (model prog w) A (.compLoop (.SetComp elt [⟨target, iter, [], 0⟩] scope pos) 0 it acc env) R s := by
  refine codeAny_loop rfl I (fun n s hI => ?_) n h
  show wpAny _ _ ((compTurn (.SetComp elt [⟨target, iter, [], 0⟩] scope pos) 0 it acc env).onRaise (fun x => do noteFrame x env; theTreesLotGoes x)) _ _ s
  refine wpAny_noted ?_
  rw [compTurn_set1]
  refine wpAny_bind (wpAny_standAt (wpAny_bind (wpAny_mono (turn n s hI) (fun r s₁ h₁ => ?_) fun _ _ h' => h')))
  cases r with
  | none => exact wpAny_pure h₁
  | some v =>
    refine wpAny_bind (wpAny_of_eq (ht v) ?_)
    exact wpAny_bind (wpAny_mono h₁ (fun _ s₂ h₂ => wpAny_bind (wpAny_bind (wpAny_mono h₂ (fun x s₃ h₃ => wpAny_bind (wpAny_standAt (wpAny_bind (wpAny_mono h₃
      (fun _ s₄ h₄ => wpAny_pure (wpAny_pure ⟨rfl, h₄⟩)) fun _ _ h' => h')))) fun _ _ h' => h'))) fun _ _ h' => h')
end
section
variable {Γ : Gx} {c : Cx} {st : St} {s : Shared}
inductive CpS (Γ : Gx) (s1 : Shared) (C D : Addr) (N : Nat) (S : Nat → Heap → Prop) (n : Nat) (s' : Shared) : Prop
  | mk (i : Nat) (m : Str → Option Value) (hn : n = N + 1 - i) (hi : i ≤ N) (hS : S i s'.heap) (hns : s'.heap.Ns C m) (hD : s'.heap.get? D = some (if i = 0 then setO0 (ledOf Γ.w) else setO1 (ledOf Γ.w))) (k : Kp s1 s')
theorem comp_set {elt iter : Expr} {x : Str} {px pos : Pos} {scope : Scope} {cl : List (Str × Addr)} {s1 s2 : Shared} {it : Value} {ds : List PyData} {fro : Bool} (ok : CompOk c scope cl x)
    (r : R Γ c st s1) (k : Kp s1 s2) (src : Srcs Γ c st s1 s2 it ds fro) (hpos : 0 < ds.length)
    (hel : ∀ (hid : Addr → Prop) (C : Addr) (i : Nat) (d : PyData), ds[i]? = some d → WE Γ (cEnv c scope cl C hid) ((x, .D d) :: capture st cl) (eval elt (cEnv c scope cl C hid).env) fun a => a = .D (.bool true))
    {RR : Value → Addr → Result → Shared → Prop}
    (hRR : ∀ D C s' m, s1.heap.get? D = none → s1.heap.get? C = none → D ≠ C → s'.heap.Ns C m → s'.heap.get? D = some (setO1 (ledOf Γ.w)) → Kp s1 s' → RR (.ref D) C (.ok .next) s') :
    wpAny (mo Γ) c.A (newSet (.type "set")) (fun acc s₃ => wpAny (mo Γ) c.A (newFunctionEnv scope c.env.globals cl [] c.env.qual none .none (some c.env)) (fun cenv s₄ =>
      codeAny (mo Γ) c.A (.compStart (.SetComp elt [⟨.Name x px, iter, [], 0⟩] scope pos) 0 it acc { cenv with scope := relabel scope c.env }) (RR acc cenv.locals) s₄) (fun _ _ => False) s₃) (fun _ _ => False) s2 := by
  obtain ⟨I, fp, wr, P, S, rfl, W, hS0, hnew, hliv, hSl, hlt, -, hrd⟩ := src
  unfold newSet
  refine wpAny_bind (setsByText_w ?_)
  rw [Bool.not_not]
  refine wpAny_newObj_type (wpAny_newFunctionEnv ok.cell (by intro y hy; simp at hy) (fun h₁ hns₁ hsb₁ => ?_) ok.kind)
  dsimp only at hns₁ hsb₁ ⊢
  have hD0 : s2.heap.get? s2.heap.objs.size = none := get_none_size _
  generalize hD : s2.heap.objs.size = D at hns₁ hsb₁ hD0 ⊢
  generalize hH2 : s2.heap.push (setO0 (ledOf Γ.w)) = H2 at hns₁ hsb₁ ⊢
  have hCs : H2.objs.size = D + 1 := by rw [← hH2, Heap.size_push, hD]
  generalize hC : H2.objs.size = C at hns₁ hsb₁ hCs ⊢
  have hDC : D ≠ C := by rw [hCs]; exact Nat.ne_of_lt (Nat.lt_succ_self _)
  have below : ∀ b o, s2.heap.get? b = some o → b ≠ C ∧ b ≠ D := fun b o e => by
    have := Heap.lt_size e
    rw [hD] at this
    exact ⟨by rw [hCs]; exact Nat.ne_of_lt (Nat.lt_succ_of_lt this), Nat.ne_of_lt this⟩
  have old : Sub s2.heap h₁ := fun b o e => hsb₁.extBut b o (below b o e).1 (Heap.get?_push_of_some _ (hH2 ▸ Heap.get?_push_of_some _ e))
  have new1 : s1.heap.get? D = none := by
    cases e : s1.heap.get? D with
    | none => rfl
    | some o => have := k.heap _ _ e; rw [hD0] at this; cases this
  have new2 : s1.heap.get? C = none := by
    cases e : s1.heap.get? C with
    | none => rfl
    | some o => exact absurd rfl (below _ _ (k.heap _ _ e)).1
  have hacc : h₁.get? D = some (setO0 (ledOf Γ.w)) := hsb₁.extBut _ _ hDC (Heap.get?_push_of_some _ (hH2 ▸ hD ▸ Heap.get?_push_size _ rfl))
  have fpD : D ∉ fp := fun h => by have := hlt _ h; rw [hD] at this; exact Nat.lt_irrefl _ this
  have fpC : C ∉ fp := fun h => by have := hlt _ h; rw [hD, hCs] at this; exact absurd this (Nat.not_lt.mpr (Nat.le_succ _))
  let hid : Addr → Prop := fun a => Hd c st a ∨ a = C ∨ a = D ∨ a ∈ wr
  have hidN : ∀ a, hid a → Hd c st a ∨ s1.heap.get? a = none := by
    rintro a (h | h | h | h)
    · exact .inl h
    · exact .inr (h ▸ new2)
    · exact .inr (h ▸ new1)
    · exact .inr (hnew a h)
  have hHC : ∀ a, Hd c st a → a ≠ C ∧ a ≠ D ∧ a ∉ wr := fun a h => by
    obtain ⟨o, e⟩ := r.low2 a h
    refine ⟨(below a o (k.heap _ _ e)).1, (below a o (k.heap _ _ e)).2, fun hw => ?_⟩
    rw [hnew a hw] at e; cases e
  have start : S 0 h₁ := W.frame _ _ _ hS0 fun b _ o e => old b o e
  have loop : codeAny (mo Γ) c.A (.compLoop (.SetComp elt [⟨.Name x px, iter, [], 0⟩] scope pos) 0 (.ref I) (.ref D) (compEnvC scope cl C c.env)) (RR (.ref D) C) { s2 with heap := h₁, toks := s2.toks + ([] : List (Str × Value)).length } := by
    refine codeAny_compLoop_set (CpS Γ s1 C D ds.length S) ?_ (ds.length + 1)
      ⟨0, _, rfl, Nat.zero_le _, start, hns₁, hacc, k.gens, k.os, k.heap.trans old⟩
    rintro n s' ⟨i, m, rfl, hile, hS, hns, hDat, k'⟩
    by_cases hlt' : i < ds.length
    · refine W.item i s' _ _ hlt' hS fun v h' tk hP hS' hk' => ?_
      obtain ⟨d, hd, rdv⟩ := hrd i v hlt' hP
      have nC : C ∉ wr := fun h => fpC (W.sub _ h)
      have nD : D ∉ wr := fun h => fpD (W.sub _ h)
      have hnsC : h'.Ns C m := let ⟨o, a, b, e, q⟩ := hns; ⟨o, a, b, hk' _ _ nC e, q⟩
      have hDat' := hk' _ _ nD hDat
      have sub1 : Sub s1.heap h' := fun b o eb => hk' b o (fun hw => by rw [hnew b hw] at eb; cases eb) (k'.heap b o eb)
      have hkd : (compEnvC scope cl C c.env).kindOf x = some .local := lookup_relabel_local ok.loc
      refine wpAny_assign_Name (wpAny_storeName_local hkd hnsC (fun h₂ hns₂ hsb₂ => ?_) (by simp [compEnvC, relabel, ok.kind]))
      have sub2 : Sub s1.heap h₂ := fun b o eb => (hsb₂.2 b fun q => by rw [q, show (compEnvC scope cl C c.env).locals = C from rfl, new2] at eb; cases eb).trans (sub1 b o eb)
      have hD2 := (hsb₂.2 D hDC).trans hDat'
      have hS2 : S (i + 1) h₂ := W.frame _ _ _ hS' fun b hb o eb => (hsb₂.2 b fun q => fpC (by have q : b = C := q; exact q ▸ hb)).trans eb
      have live2 : ∀ a, hid a → ∃ o, h₂.get? a = some o := by
        rintro a (h | h | h | h)
        · obtain ⟨o, ea⟩ := r.low2 a h; exact ⟨o, sub2 a o ea⟩
        · obtain ⟨o, _, _, ea, _⟩ := hns₂; exact ⟨o, h ▸ ea⟩
        · exact ⟨_, h ▸ hD2⟩
        · exact hSl _ _ hS2 a (W.sub a h)
      have rc : R Γ (cEnv c scope cl C hid) ((x, .D d) :: capture st cl) { s' with heap := h₂, toks := tk + 1 } :=
        comp_R ok r sub2 k'.gens k'.os new2 hns₂ (by simp) hidN (fun a h => .inl h) (.inr (.inl rfl)) live2 rdv
      refine wpAny_mono (hel hid C i d hd _ rc) (fun y s4 ⟨k4, a, va, ea⟩ => ?_) fun _ _ x => x.elim
      subst ea
      have hy : y = .bool true := Rd.bool_inv va
      subst hy
      have k34 := k4
      have hD4 := k34.heap _ _ hD2
      have fin : ∀ h₅ tk', h₅.get? D = some (setO1 (ledOf Γ.w)) → Heap.SameBut D s4.heap h₅ → ∃ m', m' < ds.length + 1 - i ∧ CpS Γ s1 C D ds.length S m' { s4 with heap := h₅, toks := tk' } := fun h₅ tk' hD5 hsb5 =>
        ⟨ds.length + 1 - (i + 1), by (clear hpos hel hRR hnew hliv hSl hlt hrd hD hD0 hH2 hC hCs hDC below new1 new2 hacc fpD fpC hidN hHC hile hDat hk' hd nC nD hDat' hkd hD2 live2 hD4 hD5; omega), i + 1, _, rfl, hlt', (W.frame _ _ _ (W.frame _ _ _ hS2 fun b _ o eb => k34.heap _ _ eb) fun b hb o eb => (hsb5.2 b fun q => fpD (q ▸ hb)).trans eb),
          (let ⟨o, a, b, ee, q⟩ := hns₂; ⟨o, a, b, (hsb5.2 C (Ne.symm hDC)).trans (k34.heap _ _ ee), q⟩), hD5, k34.gens.trans k'.gens, k34.os.trans k'.os, fun b o eb => (hsb5.2 b fun q => by rw [q, new1] at eb; cases eb).trans (k34.heap _ _ (sub2 b o eb))⟩
      by_cases hi0 : i = 0
      · rw [if_pos hi0] at hD4
        exact add_first hD4 fun h₅ hD5 hsb5 => fin h₅ _ hD5 hsb5
      · rw [if_neg hi0] at hD4
        exact add_again hD4 (fin s4.heap _ hD4 (Heap.SameBut.refl ..))
    · have hie : i = ds.length := by (clear hpos hel hRR hnew hliv hSl hlt hrd hD hD0 hH2 hC hCs hDC below new1 new2 hacc fpD fpC hidN hHC hDat; omega)
      subst hie
      refine W.done s' _ _ hS fun h' tk hk' => ?_
      have nC : C ∉ wr := fun h => fpC (W.sub _ h)
      have nD : D ∉ wr := fun h => fpD (W.sub _ h)
      rw [if_neg (Nat.ne_of_gt hpos)] at hDat
      exact hRR D C _ m new1 new2 hDC (let ⟨o, a, b, ee, q⟩ := hns; ⟨o, a, b, hk' _ _ nC ee, q⟩) (hk' _ _ nD hDat) ⟨k'.gens, k'.os, fun b o eb => hk' b o (fun hw => by rw [hnew b hw] at eb; cases eb) (k'.heap b o eb)⟩
  exact codeAny_compStart_set loop (W.self 0 _ _ _ start loop)

/-- x, = {.. for ..}: all of it true -/
theorem WS_UnpackTrue {elt iter : Expr} {x y : Str} {px py pos tpos spos : Pos} {k0 : Nat} {scope : Scope} {cl : List (Str × Addr)} {Q : Fl → St → Prop} (ok : CompOk c scope cl x)
    (h : WE Γ c st (eval iter c.env) fun a => ∃ ds, Iter a ds ∧ 0 < ds.length ∧
      (∀ (hid : Addr → Prop) (C : Addr) (i : Nat) (d : PyData), ds[i]? = some d → WE Γ (cEnv c scope cl C hid) ((x, .D d) :: capture st cl) (eval elt (cEnv c scope cl C hid).env) fun a => a = .D (.bool true)) ∧
      Q .next (upd st y (.D (.bool true))))
    (hs : ∀ x, foldedSetIterable iter c.env x = pure x := by intro _; rfl) (hst : Stor c.env y)
    (hae : assignEach [.Name y py] c.env = [(false, assign (.Name y py) c.env)])
    (hs1 : swapsWithSole [.Tuple [.Name y py] k0 tpos] (.SetComp elt [⟨.Name x px, iter, [], 0⟩] scope spos) pos.line c.env = pure false)
    (hw : swappedStores [.Tuple [.Name y py] k0 tpos] (.SetComp elt [⟨.Name x px, iter, [], 0⟩] scope spos) c.env = pure none) :
    WS Γ c st (exec (.Assign [.Tuple [.Name y py] k0 tpos] (.SetComp elt [⟨.Name x px, iter, [], 0⟩] scope spos) pos) c.env) Q := fun s r => by
  refine Assign_Tuple ?_ hs1 hw
  rw [arm_eval_SetComp]
  refine wpAny_comprehension_free (use := none) rfl hs ok.clos ok.kind ok.names (wpAny_mono (h s r) (fun v s1 ⟨k1, a, va, ds, hi, hsz, hel, q⟩ => wpAny_mono (iter_sound hi (r.kp k1) va) (fun it s2 ⟨k2, src⟩ => ?_) fun _ _ x => x) fun _ _ x => x)
  refine comp_set (RR := fun acc C => compPost (mo Γ) c.A (fun _ _ => False) none _ acc C) ok (r.kp k1) k2 src hsz hel fun D C s' m hD hC hDC hns hat k' => ?_
  refine ⟨m, hns, fun h' hsb => ?_⟩
  have kk : Kp s { s' with heap := h' } := k1.trans ⟨k'.gens, k'.os, fun b o e => (hsb.2 b fun q => by rw [q, hC] at e; cases e).trans (k'.heap b o e)⟩
  have hD' : h'.get? D = some (setO1 (ledOf Γ.w)) := (hsb.2 D hDC).trans hat
  have r1 := r.kp kk
  show wpAny _ _ (assign (.Tuple [.Name y py] k0 tpos) c.env (.ref D)) _ _ _
  rw [assign_Tuple]
  refine wpAny_bind (wpAny_standAt ?_)
  unfold unpack
  rw [hae]
  refine wpAny_bind (wpAny_holding (unpack_set r1.rm.handled hD' fun h₂ b₂ => ?_))
  have k2 : Kp { s' with heap := h' } { s' with heap := h₂ } := ⟨rfl, rfl, fun b o e => b₂ b o (Nat.ne_of_lt (Heap.lt_size e)) e⟩
  exact assign_names [(y, py)] [.bool true] [.bool true] st _ _ (.one (Rd.bool _)) rfl (fun p hp => by cases hp with | head => exact hst | tail _ h => cases h) (r1.kp k2) fun s4 r4 m4 => ⟨_, .next, kk.mv.trans (k2.mv.trans m4), r4, rfl, q⟩
end
end Mine
end
section
open PySem PySem.Calls PyProof.Rows
namespace Mine
section
open Builtin Builtin.Str
variable {prog : Program} {w : World} {A : Around} {E : Value → Shared → Prop} {s₁ s : Shared} {x : Str} {t : Tok} {pos : Pos} {Q : Value → Shared → Prop}
theorem split_on {a : Sem Value} (h : wpAny (model prog w) A a (fun v s₁ => ∃ y u, v = .str y u ∧ (y.length == 0) = false ∧
      ∀ l k, l.map (·.1) = Txt.split x y → Q (.ref s₁.heap.objs.size) { s₁ with heap := s₁.heap.push (plainL (strValues l).toArray 0), toks := k }) E s) (hx : x.length + 2 ≤ sizeLine) :
    MethodOnS prog w A E "split" (.str x t) pos [(false, a)] Q s := by
  refine ⟨"str", _, F.plainAttrs_str, F.slot_str_split, F.type_str_split, typeIs_str _ _ _, (fun _ e => nomatch e),
    method1_meets F.slot_str_split F.entry_str_split (wpAny_mono h (fun v s₁ h₁ => ?_) fun _ _ e => e)⟩
  obtain ⟨y, u, rfl, hy, hq⟩ := h₁
  refine ⟨typeIs_str _ _ _, F.args_str_split_2 _ _, ?_⟩
  cases h1 : (decide (x.length < y.length) || decide (strKind x < strKind y))
  · cases hf : (occurrences x y 0 x.length (x.length + 1)).isEmpty
    · refine ⟨_, meets_str_split_sep x y t u h1 hy hf (by omega) (by rw [len_partsBetween]; have := StrLaws.occ_length_le x y 0 x.length (x.length + 1); exact Nat.lt_of_le_of_lt this hx), ?_⟩
      show wants Q E _ { s₁ with toks := _, heap := s₁.heap.push { cls := .type "list", data := .seq (strsFrom s₁.toks (partsBetween x (occurrences x y 0 x.length (x.length + 1)) y.length)).toArray } }
      rw [strsFrom_eq]
      exact hq (numbered s₁.toks _) _ ((numbered_texts _ _).trans ((if_neg (ne_true_of_eq_false h1)).trans (if_neg (ne_true_of_eq_false hf))).symm)
    · exact ⟨_, meets_str_split_not_found x y t u h1 hy hf, hq [(x, t)] _ ((if_neg (ne_true_of_eq_false h1)).trans (if_pos hf)).symm⟩
  · exact ⟨_, meets_str_split_cannot_occur x y t u h1, hq [(x, t)] _ (if_pos h1).symm⟩
theorem rdl_strValues (g : Heap) : ∀ (l : List (Str × Tok)), RdL g (strValues l) ((l.map (·.1)).map .str)
  | [] => .nil
  | (x, t) :: l => by
    show RdL g (.str x t :: strValues l) _
    exact .cons (Rd.str x t) (rdl_strValues g l)
end
section
variable {Γ : Gx} {c : Cx} {st : St} {s : Shared}
theorem WE_split {o e : Expr} {apos pos : Pos} {Q : AV → Prop} (h : WE Γ c st (eval o c.env) fun a => ∃ x, (x.length + 2 ≤ sizeLine ∧ a = .D (.str x)) ∧ WE Γ c st (eval e c.env) fun b => ∃ y, b = .D (.str y) ∧ (y.length == 0) = false ∧ Q (.D (.list ((Txt.split x y).map .str))))
    (hbase : attributeBase o "split" c.env (eval o c.env) = eval o c.env := by rfl) (hs : starEach [e] c.env = [(false, eval e c.env)] := by rfl) (hline : (apos.endLine == pos.line) = true := by rfl) :
    WE Γ c st (eval (.Call (.Attribute o "split" apos) [e] [] pos) c.env) Q := fun s r => by
  refine Call_method1 hbase hs hline (wpAny_mono (h s r) (fun v s1 ⟨k1, a, va, x, ⟨hx, ea⟩, hb⟩ => ?_) fun _ _ x => x)
  subst ea
  obtain ⟨t, rfl⟩ := Rd.str_inv va
  refine split_on (wpAny_mono (hb s1 (r.kp k1)) (fun u s2 ⟨k2, b, vb, y, eb, hy, q⟩ => ?_) fun _ _ x => x) hx
  subst eb
  obtain ⟨t', rfl⟩ := Rd.str_inv vb
  refine ⟨y, t', rfl, hy, fun l k hl => ?_⟩
  have k3 : Kp s2 { s2 with heap := s2.heap.push (plainL (strValues l).toArray 0), toks := k } := ⟨rfl, rfl, fun b o e => Heap.get?_push_of_some _ e⟩
  refine ⟨(k1.trans k2).trans k3, .D _, ?_, q⟩
  have r2 := (r.kp k1).kp k2
  have hn : ¬ Hd c st s2.heap.objs.size := fun h => Nat.lt_irrefl _ (r2.low' _ h)
  exact Rd.list (fz_some.mpr ⟨hn, Heap.get?_push_size _ rfl⟩) (by rw [List.toList_toArray, ← hl]; exact rdl_strValues _ l)
/-- the truth of a tuple -/
theorem WB_tup {e : Expr} {Q : Bool → Prop} (h : WE Γ c st (eval e c.env) fun a => ∃ ds, a = .D (.tuple ds) ∧ ds.length ≤ sizeLine ∧ Q (!ds.isEmpty))
    (he : isTrue e c.env (eval e c.env) = (do let v ← eval e c.env; standAt e.pos; holding [v] (truthy v)) := by rfl) : WB Γ c st (isTrue e c.env (eval e c.env)) Q := fun s R =>
  isTrue_plain (wpAny_mono (h s R) (fun _ s1 ⟨k1, _, va, ds, ea, hl, hq⟩ => by
    subst ea
    obtain ⟨l, vs, n, rfl, h1, h2⟩ := Rd.tuple_inv va
    have hl' := h2.length
    rw [Array.length_toList] at hl'
    have he : vs.isEmpty = ds.isEmpty := by
      cases ds with
      | nil => rw [Array.eq_empty_of_size_eq_zero hl']; rfl
      | cons d ds => simp only [List.length_cons] at hl'; simp [Array.isEmpty, hl']
    exact truthy_tuple (plainT_isTup (fz_sub _ _ _ _ h1)) (by have : sizeLine = 2 ^ 24 := rfl; omega) ⟨k1.trans (Kp.toks _ _), he ▸ hq⟩) fun _ _ x => x) he
end
end Mine
end
section
open PySem PySem.Calls PyProof.Rows
namespace Mine
/-! paths as lists of places -/
noncomputable def anc (up : Nat → Nat) (k : Nat) : List Nat := if h : up k < k then anc up (up k) ++ [k] else []
termination_by k
theorem anc_pos {up : Nat → Nat} {k : Nat} (h : up k < k) : anc up k = anc up (up k) ++ [k] := by rw [anc, dif_pos h]
theorem anc_zero (up : Nat → Nat) : anc up 0 = [] := by rw [anc, dif_neg (by omega)]
noncomputable def codes (l : List Nat) : List Nat := l.flatMap fun k => [47, 96 + k]
theorem path_codes (up : Nat → Nat) (hup : ∀ k, 0 < k → up k < k) : ∀ k, path up k = codes (anc up k) := by
  intro k
  induction k using Nat.strongRecOn with
  | _ k ih =>
    rcases Nat.eq_zero_or_pos k with rfl | hk
    · rw [path_zero, anc_zero]; rfl
    · rw [path_pos (hup k hk), anc_pos (hup k hk), ih _ (hup k hk)]
      simp [codes]
theorem anc_le (up : Nat → Nat) : ∀ k, ∀ x ∈ anc up k, 0 < x ∧ x ≤ k := by
  intro k
  induction k using Nat.strongRecOn with
  | _ k ih =>
    intro x hx
    rw [anc] at hx
    split at hx
    · rename_i h
      rcases List.mem_append.mp hx with h1 | h1
      · have := ih _ h x h1; omega
      · rw [List.mem_singleton.mp h1]; omega
    · cases hx
theorem anc_len (up : Nat → Nat) : ∀ k, (anc up k).length ≤ k := by
  intro k
  induction k using Nat.strongRecOn with
  | _ k ih =>
    rw [anc]
    split
    · rename_i h
      have := ih _ h
      rw [List.length_append]; simp only [List.length_cons, List.length_nil]; exact Nat.lt_of_le_of_lt this h
    · simp
theorem anc_prefix (up : Nat → Nat) (hup : ∀ k, 0 < k → up k < k) : ∀ k (X : List Nat), X <+: anc up k → ∃ j, j ≤ k ∧ X = anc up j := by
  intro k
  induction k using Nat.strongRecOn with
  | _ k ih =>
    intro X hX
    rcases Nat.eq_zero_or_pos k with rfl | hk
    · rw [anc_zero] at hX; exact ⟨0, Nat.le_refl _, by rw [anc_zero]; exact List.prefix_nil.mp hX⟩
    · rw [anc_pos (hup k hk)] at hX
      rcases List.prefix_concat_iff.mp hX with h | h
      · exact ⟨k, Nat.le_refl _, by rw [h, anc_pos (hup k hk)]⟩
      · obtain ⟨j, h1, h2⟩ := ih _ (hup k hk) X h
        exact ⟨j, by have := hup k hk; omega, h2⟩
theorem meet2_pref (up : Nat → Nat) (hup : ∀ k, 0 < k → up k < k) (X : List Nat) : ∀ n a b, a + b = n → (X <+: anc up (meet2 up a b) ↔ X <+: anc up a ∧ X <+: anc up b) := by
  have step : ∀ a b, b < a → X <+: anc up b → (X <+: anc up a ↔ X <+: anc up (up a)) := fun a b hb hX => by
    have ha := hup a (by omega)
    rw [anc_pos ha, List.prefix_concat_iff]
    refine ⟨fun h => ?_, .inr⟩
    rcases h with h | h
    · have : a ∈ anc up b := hX.subset (by rw [h]; simp)
      have := anc_le up b a this
      omega
    · exact h
  intro n
  induction n using Nat.strongRecOn with
  | _ n ih =>
    intro a b hn
    rw [meet2]
    split
    · rename_i h; subst h; exact ⟨fun h => ⟨h, h⟩, fun h => h.1⟩
    · split
      · rename_i h
        rw [ih (up a + b) (by omega) _ _ rfl]
        exact ⟨fun ⟨h1, h2⟩ => ⟨(step a b h.1 h2).mpr h1, h2⟩, fun ⟨h1, h2⟩ => ⟨(step a b h.1 h2).mp h1, h2⟩⟩
      · split
        · rename_i h
          rw [ih (a + up b) (by omega) _ _ rfl]
          exact ⟨fun ⟨h1, h2⟩ => ⟨h1, (step b a h.1 h1).mpr h2⟩, fun ⟨h1, h2⟩ => ⟨h1, (step b a h.1 h1).mp h2⟩⟩
        · rename_i h1 h2 h3
          exfalso
          rcases Nat.lt_trichotomy a b with h | h | h
          · exact h3 ⟨h, hup b (by (clear hup step ih hn h1 h2 h3; omega))⟩
          · exact h1 h
          · exact h2 ⟨h, hup a (by (clear hup step ih hn h1 h2 h3; omega))⟩
theorem meetF_pref (up : Nat → Nat) (hup : ∀ k, 0 < k → up k < k) (X : List Nat) (ks : List Nat) (hne : ks ≠ []) : X <+: anc up (meetF up ks) ↔ ∀ k ∈ ks, X <+: anc up k := by
  match ks, hne with
  | a :: r, _ =>
    show X <+: anc up (r.foldl (meet2 up) a) ↔ _
    clear hne
    induction r generalizing a with
    | nil => simp
    | cons b r ih =>
      rw [List.foldl_cons, ih _ (by simp), List.forall_mem_cons, meet2_pref up hup X _ a b rfl]
      simp only [List.forall_mem_cons]
      exact ⟨fun ⟨⟨h1, h2⟩, h3⟩ => ⟨h1, h2, h3⟩, fun ⟨h1, h2, h3⟩ => ⟨⟨h1, h2⟩, h3⟩⟩
theorem pref_anti {α : Type} {a b : List α} (h1 : a <+: b) (h2 : b <+: a) : a = b := h1.eq_of_length (Nat.le_antisymm h1.length_le h2.length_le)
theorem anc_inj (up : Nat → Nat) (hup : ∀ k, 0 < k → up k < k) {j k : Nat} (h : anc up j = anc up k) : j = k := by
  rcases Nat.eq_zero_or_pos j with rfl | hj
  · rcases Nat.eq_zero_or_pos k with rfl | hk
    · rfl
    · rw [anc_zero, anc_pos (hup k hk)] at h; simp at h
  · rcases Nat.eq_zero_or_pos k with rfl | hk
    · rw [anc_zero, anc_pos (hup j hj)] at h; simp at h
    · rw [anc_pos (hup j hj), anc_pos (hup k hk)] at h
      have := congrArg List.getLast? h
      simpa using this
/-- the meet does not depend on the order -/
theorem meetF_perm (up : Nat → Nat) (hup : ∀ k, 0 < k → up k < k) (a b : List Nat) (ha : a ≠ []) (h : ∀ k, k ∈ a ↔ k ∈ b) : meetF up a = meetF up b := by
  have hb : b ≠ [] := by
    rintro rfl
    obtain ⟨x, hx⟩ := List.exists_mem_of_ne_nil a ha
    exact absurd ((h x).mp hx) (by simp)
  refine anc_inj up hup (pref_anti ((meetF_pref up hup _ b hb).mpr fun k hk => ?_) ((meetF_pref up hup _ a ha).mpr fun k hk => ?_))
  · exact (meetF_pref up hup _ a ha).mp (List.prefix_refl _) k ((h k).mpr hk)
  · exact (meetF_pref up hup _ b hb).mp (List.prefix_refl _) k ((h k).mp hk)

/-! letters -/
noncomputable def ltr (k : Nat) : Str := S [96 + k]
theorem ltr_inj {a b : Nat} (h : ltr a = ltr b) : a = b := by
  have := S_inj.mp h
  simp at this
  exact this
noncomputable def cmps (up : Nat → Nat) (k : Nat) : List Str := (anc up k).map ltr
theorem map_pref {α β : Type} (f : α → β) (hf : ∀ a b, f a = f b → a = b) : ∀ (X Y : List α), X.map f <+: Y.map f → X <+: Y
  | [], _, _ => List.nil_prefix
  | x :: X, [], h => by have := h.length_le; simp at this
  | x :: X, y :: Y, h => by
    rw [List.map_cons, List.map_cons, List.cons_prefix_cons] at h
    rw [List.cons_prefix_cons]
    exact ⟨hf _ _ h.1, map_pref f hf X Y h.2⟩
theorem pref_map {α β : Type} (f : α → β) (Y : List α) (Z : List β) (h : Z <+: Y.map f) : ∃ X, X <+: Y ∧ Z = X.map f := by
  obtain ⟨t, ht⟩ := h
  refine ⟨Y.take Z.length, List.take_prefix _ _, ?_⟩
  rw [List.map_take, ← ht, List.take_left']
  rfl
theorem txt_total {x y : Str} (h1 : ¬ x.cps.toList < y.cps.toList) (h2 : ¬ y.cps.toList < x.cps.toList) : x = y := by
  have h := List.le_antisymm (as := x.cps.toList) (bs := y.cps.toList) h2 h1
  rw [← S_of x, ← S_of y, h]
theorem lex_pref : ∀ (X s1 s2 t : List Str), lexL true t s1 = false → lexL true s2 t = false → X <+: s1 → X <+: s2 → X <+: t
  | [], _, _, _, _, _, _, _ => List.nil_prefix
  | x :: X, [], s2, t, _, _, h, _ => by have := h.length_le; simp at this
  | x :: X, y :: s1, [], t, _, _, _, h => by have := h.length_le; simp at this
  | x :: X, y :: s1, z :: s2, [], h1, _, _, _ => by cases h1
  | x :: X, y :: s1, z :: s2, u :: t, h1, h2, h3, h4 => by
    rw [List.cons_prefix_cons] at h3 h4 ⊢
    obtain ⟨rfl, h3⟩ := h3
    obtain ⟨rfl, h4⟩ := h4
    have hu : u = x := by
      by_cases e : u = x
      · exact e
      · simp only [lexL] at h1 h2
        rw [if_neg e] at h1
        rw [if_neg (fun q => e q.symm)] at h2
        exact txt_total (by simpa using h1) (by simpa using h2)
    subst hu
    simp only [lexL, if_true] at h1 h2
    exact ⟨rfl, lex_pref X s1 s2 t h1 h2 h3 h4⟩
theorem lex_take : ∀ (s : List Str) (i : Nat), i < s.length → lexL true (s.take i) s = true
  | [], i, h => by simp at h
  | x :: s, 0, _ => rfl
  | x :: s, i + 1, h => by
    rw [List.take_succ_cons]
    simp only [lexL, if_true]
    exact lex_take s i (by simpa using h)
theorem common_is (up : Nat → Nat) (hup : ∀ k, 0 < k → up k < k) (ks : List Nat) (s1 s2 X : List Str) (h1 : ∃ k ∈ ks, s1 = cmps up k) (h2 : ∃ k ∈ ks, s2 = cmps up k)
    (hmin : ∀ k ∈ ks, lexL true (cmps up k) s1 = false) (hmax : ∀ k ∈ ks, lexL true s2 (cmps up k) = false) (x1 : X <+: s1) (x2 : X <+: s2) (hX : ∀ Y, Y <+: s1 → Y <+: s2 → Y <+: X) : X = cmps up (meetF up ks) := by
  obtain ⟨k1, hk1, rfl⟩ := h1
  obtain ⟨k2, hk2, rfl⟩ := h2
  have hne : ks ≠ [] := List.ne_nil_of_mem hk1
  have hm : ∀ k ∈ ks, anc up (meetF up ks) <+: anc up k := (meetF_pref up hup _ ks hne).mp (List.prefix_refl _)
  refine pref_anti ?_ (hX _ ((hm k1 hk1).map _) ((hm k2 hk2).map _))
  obtain ⟨Z, hZ, rfl⟩ := pref_map ltr _ _ x1
  obtain ⟨j, -, rfl⟩ := anc_prefix up hup _ _ hZ
  have : ∀ k ∈ ks, anc up j <+: anc up k := fun k hk => map_pref ltr (fun _ _ => ltr_inj) _ _ (lex_pref _ _ _ _ (hmin k hk) (hmax k hk) x1 x2)
  exact ((meetF_pref up hup _ ks hne).mpr this).map _

/-! splitting -/
noncomputable def J : List (List Nat) → List Nat
  | [] => []
  | [x] => x
  | x :: y :: r => x ++ 47 :: J (y :: r)
theorem join_J : ∀ ps : List Str, (Str.join "/" ps).cps.toList = J (ps.map (·.cps.toList))
  | [] => rfl
  | [x] => rfl
  | x :: y :: r => by
    have ih := join_J (y :: r)
    have e : Str.join "/" (x :: y :: r) = S x.cps.toList ++ S [47] ++ S (Str.join "/" (y :: r)).cps.toList := by rw [S_of, S_of]; rfl
    rw [e, S_append, S_append, S_cps, ih]
    simp [J]
theorem cut47 : ∀ (x x' r r' : List Nat), x ++ 47 :: r = x' ++ 47 :: r' → 47 ∉ x → 47 ∉ x' → x = x' ∧ r = r'
  | [], [], r, r', h, _, _ => by simpa using h
  | [], b :: x', r, r', h, _, h2 => by simp at h; exact absurd h.1 (fun e => h2 (by rw [← e]; simp))
  | a :: x, [], r, r', h, h1, _ => by simp at h; exact absurd h.1 (fun e => h1 (by rw [e]; simp))
  | a :: x, b :: x', r, r', h, h1, h2 => by
    simp only [List.cons_append, List.cons.injEq] at h
    obtain ⟨rfl, h⟩ := h
    obtain ⟨e1, e2⟩ := cut47 x x' r r' h (fun q => h1 (.tail _ q)) (fun q => h2 (.tail _ q))
    exact ⟨by rw [e1], e2⟩
theorem J_inj : ∀ (ps qs : List (List Nat)), ps ≠ [] → qs ≠ [] → (∀ p ∈ ps, 47 ∉ p) → (∀ p ∈ qs, 47 ∉ p) → J ps = J qs → ps = qs
  | [], _, h, _, _, _, _ => absurd rfl h
  | _, [], _, h, _, _, _ => absurd rfl h
  | [x], [y], _, _, _, _, h => by have h : x = y := h; rw [h]
  | [x], y :: z :: r, _, _, h1, _, h => by
    have h : x = y ++ 47 :: J (z :: r) := h
    exact absurd (show 47 ∈ x by rw [h]; simp) (h1 x (.head _))
  | y :: z :: r, [x], _, _, _, h1, h => by
    have h : y ++ 47 :: J (z :: r) = x := h
    exact absurd (show 47 ∈ x by rw [← h]; simp) (h1 x (.head _))
  | x :: y :: r, x' :: y' :: r', _, _, h1, h2, h => by
    obtain ⟨e1, e2⟩ := cut47 _ _ _ _ (show x ++ 47 :: J (y :: r) = x' ++ 47 :: J (y' :: r') from h) (h1 x (.head _)) (h2 x' (.head _))
    rw [e1, J_inj (y :: r) (y' :: r') (by simp) (by simp) (fun p hp => h1 p (.tail _ hp)) (fun p hp => h2 p (.tail _ hp)) e2]
theorem split_is (x : Str) (ps : List Str) (hne : ps ≠ []) (h47 : ∀ p ∈ ps, 47 ∉ p.cps.toList) (h : Str.join "/" ps = x) : Txt.split x "/" = ps := by
  have e : (Str.ofString "/") = ⟨#[47]⟩ := slash_S
  have h1 := StrLaws.join_split x "/"
  have h2 := StrLaws.split_free x 47
  rw [show ("/" : Str) = Str.ofString "/" from rfl, e] at h1
  have hn : Txt.split x ⟨#[47]⟩ ≠ [] := fun q => by have := split_pos x ⟨#[47]⟩; rw [q] at this; simp at this
  have hj : J ((Txt.split x ⟨#[47]⟩).map (·.cps.toList)) = J (ps.map (·.cps.toList)) := by
    rw [← join_J, ← join_J, h, show ("/" : Str) = ⟨#[47]⟩ from e, h1]
  have := J_inj _ _ (by simpa using hn) (by simpa using hne) (by simpa using h2) (by simpa using h47) hj
  rw [show ("/" : Str) = ⟨#[47]⟩ from e]
  have hm := congrArg (List.map S) this
  rw [List.map_map, List.map_map] at hm
  have hid : (S ∘ fun (x : Str) => x.cps.toList) = id := funext S_of
  rw [hid, List.map_id, List.map_id] at hm
  exact hm
theorem J_codes : ∀ l : List Nat, J ([] :: l.map fun k => [96 + k]) = codes l
  | [] => rfl
  | [k] => rfl
  | k :: j :: l => by
    have ih := J_codes (j :: l)
    have e : J ([] :: (j :: l).map fun k => [96 + k]) = 47 :: J ((j :: l).map fun k => [96 + k]) := rfl
    rw [e] at ih
    show 47 :: ([96 + k] ++ 47 :: J ((j :: l).map fun k => [96 + k])) = codes (k :: j :: l)
    rw [ih]; rfl
theorem join_anc (l : List Nat) : Str.join "/" (Str.empty :: l.map ltr) = S (codes l) := by
  rw [← S_of (Str.join _ _), join_J, List.map_cons, List.map_map]
  have : ((fun x : Str => x.cps.toList) ∘ ltr) = fun k => [96 + k] := funext fun k => S_cps _
  rw [this]
  show S (J ([] :: _)) = _
  rw [J_codes]
theorem split_text (up : Nat → Nat) (hup : ∀ k, 0 < k → up k < k) (k : Nat) (hk : 0 < k) : Txt.split (textF up k) "/" = Str.empty :: cmps up k := by
  refine split_is _ _ (by simp) ?_ ?_
  · intro p hp
    rcases List.mem_cons.mp hp with rfl | hp
    · simp [Str.empty]
    · obtain ⟨j, hj, rfl⟩ := List.mem_map.mp hp
      have := anc_le up k j hj
      rw [ltr, S_cps]; simp; (clear hup hk this; omega)
  · rw [cmps, join_anc, textF, if_pos hk, path_codes up hup]
theorem text_join (up : Nat → Nat) (hup : ∀ k, 0 < k → up k < k) (m : Nat) : ("/" : Str) ++ Str.join "/" (cmps up m) = textF up m := by
  rcases Nat.eq_zero_or_pos m with rfl | hm
  · rw [cmps, anc_zero, textF, if_neg (by decide)]; decide +kernel
  · rw [textF, if_pos hm, path_codes up hup, ← join_anc]
    have : cmps up m ≠ [] := by rw [cmps, anc_pos (hup m hm)]; simp
    rw [← cmps]
    match cmps up m, this with
    | a :: r, _ => rfl
end Mine
end
section
open PySem PySem.Calls PyProof.Rows
namespace Mine
section
variable {Γ : Gx} {c : Cx} {st : St} {s s0 s1 : Shared}
theorem fn_commonpath : isFn "commonpath" := by unfold isFn; decide +kernel
theorem cmps_len (up : Nat → Nat) (k : Nat) : (cmps up k).length ≤ k := by rw [cmps, List.length_map]; exact anc_len up k
noncomputable def cpSt (up : Nat → Nat) (ks : List Nat) (s1 s2 X : List Str) : St := [("paths", .D (.tuple ((txL up ks).map .str))), ("sep", .D (.str "/")), ("curdir", .D (.str ".")), ("split_paths", .D (.list (llD (ks.map (cmps up))))), ("isabs", .D (.bool true)), ("s1", .D (.list (s1.map .str))), ("s2", .D (.list (s2.map .str))), ("common", .D (.list (X.map .str)))]
theorem filt_cmps (up : Nat → Nat) (k : Nat) : (((Str.empty :: cmps up k).map PyData.str).filter fun d => match d with | .str x => (x.length : Int) != 0 && x != "." | _ => false) = (cmps up k).map .str := by
  rw [List.map_cons, List.filter_cons, if_neg (by decide +kernel), List.filter_eq_self]
  intro d hd
  obtain ⟨x, hx, rfl⟩ := List.mem_map.mp hd
  obtain ⟨j, hj, rfl⟩ := List.mem_map.mp hx
  have := anc_le up k j hj
  have h1 : ((ltr j).length : Int) != 0 := by rw [ltr, S_length]; rfl
  have h2 : (ltr j != ".") = true := by
    refine bne_iff_ne.mpr fun e => ?_
    have := congrArg (fun x : Str => x.cps.toList) e
    rw [ltr, S_cps, show (Str.cps "." : Array Nat).toList = [46] from by decide +kernel] at this
    simp at this
    omega
  show ((((ltr j).length : Int) != 0) && (ltr j != ".")) = true
  rw [h1, h2]; rfl
theorem starts_text (up : Nat → Nat) (hup : ∀ k, 0 < k → up k < k) (k : Nat) (hk : 0 < k) : Txt.startswith (textF up k) "/" = true := by
  have : ∃ l, textF up k = S (47 :: l) := by
    rw [textF, if_pos hk, path_codes up hup]
    have : anc up k ≠ [] := by rw [anc_pos (hup k hk)]; simp
    match anc up k, this with
    | a :: r, _ => exact ⟨(96 + a) :: codes r, rfl⟩
  obtain ⟨l, e⟩ := this
  rw [e, starts_one]; rfl
inductive CpQ (up : Nat → Nat) (ks : List Nat) (s1 s2 : List Str) (fl : Fl) (st : St) : Prop
  | mk (hfl : fl = .next) (X : List Str) (h : X <+: s1 ∧ X <+: s2 ∧ ∀ Y, Y <+: s1 → Y <+: s2 → Y <+: X) (e : st = cpSt up ks s1 s2 X)
theorem con_commonpath (up : Nat → Nat) (hup : ∀ k, 0 < k → up k < k) (ks : List Nat) (hne : ks ≠ []) (hks : ∀ k ∈ ks, 0 < k ∧ k < 10) (hl : ks.length ≤ 100) :
    Con Γ 6 "commonpath" [.D (.list ((txL up ks).map .str))] (.D (.str (textF up (meetF up ks)))) := by
  have hsl : sizeLine = 2 ^ 24 := rfl
  have htl : ((txL up ks).map PyData.str).length = ks.length := by simp [txL]
  have htz : ((txL up ks).map PyData.str).length ≤ sizeLine := by omega
  have hpos : 0 < ks.length := List.length_pos_iff.mpr hne
  have atT : ∀ (j : Nat) (d : PyData), ((txL up ks).map PyData.str)[j]? = some d → ∃ k, k ∈ ks ∧ d = .str (textF up k) := fun j d h => by
    rw [txL, List.map_map, List.getElem?_map, Option.map_eq_some_iff] at h
    obtain ⟨k, hk, rfl⟩ := h
    exact ⟨k, List.mem_of_getElem? hk, rfl⟩
  refine con_fn (j := 8) ["paths"] (by rfl) rfl rfl rfl ?_ (by decide +kernel) (by decide +kernel) ?_ rfl rfl rfl
  · exact fun pm cd doc => len1 fun v => rfl
  · intro κ
    refine WS_cons (WS_Assign (WE_tupleMap (F := fun d => d) (n := 1) fn_fspath (Nat.le_refl 5) (WE_name rfl ⟨_, rfl, by (clear hup hne hks hsl htz hpos atT; omega), ?_, ?_, rfl, ?_⟩)))
    · intro d hd
      obtain ⟨x, _, rfl⟩ := List.mem_map.mp hd
      exact con_fspath x
    · exact strs_flat _
    rw [List.map_id']
    show WS _ _ _ (execs _ _) _
    refine WS_cons (WS_If (WB_not (WB_tup (WE_name rfl ⟨_, rfl, htz, ?_⟩))))
    have hemp : ((txL up ks).map PyData.str).isEmpty = false := by
      cases hk : (txL up ks).map PyData.str with
      | nil => rw [hk] at htl; simp at htl; omega
      | cons _ _ => rfl
    rw [hemp]
    refine ⟨fun h => (by cases h), fun _ => WS_nil ?_⟩
    show WS _ _ _ (execs _ _) _
    obtain ⟨k0, hk0⟩ : ∃ k0, ((txL up ks).map PyData.str)[0]? = some (.str (textF up k0)) := by
      match ks, hne with
      | a :: r, _ => exact ⟨a, rfl⟩
    refine WS_cons (WS_If (WB_plain (WE_isi_bytes (WE_Subscript (WE_name rfl (WE_int ⟨_, .tup _ _ _ (by decide) hk0 htz, _, rfl, _, .bool _, ?_⟩))))))
    refine ⟨fun h => (by cases h), fun _ => WS_cons (WS_Assign (WE_str ⟨rfl, WS_cons (WS_Assign (WE_str ⟨rfl, WS_nil ?_⟩))⟩))⟩
    show WS _ _ _ (execs _ _) _
    refine WS_cons (WS_Try ?_)
    refine WS_cons (WS_AssignComp (fun _ => true) (fun d => match d with | .str x => .list ((Txt.split x "/").map .str) | _ => .none) (cl := [("sep", κ.L + 1)]) (by exact ⟨by rfl, by decide +kernel, rfl, by decide +kernel, rfl, (by repeat (first | exact List.forall_mem_nil _ | refine List.forall_mem_cons.mpr ⟨⟨rfl, rfl, rfl⟩, ?_⟩)), (by (try simp only [List.map_cons, List.map_nil]); decide +kernel)⟩) (WE_name rfl ⟨_, .tup _, htz, ?_, rfl, ?_⟩))
    · intro hid2 C j d hd
      obtain ⟨k, hk, rfl⟩ := atT j d hd
      refine ⟨rfl, fun _ => WE_split (WE_name rfl ⟨_, ⟨by have := textF_len up k (hks k hk).2; omega, rfl⟩, WE_name rfl ⟨_, rfl, by decide +kernel, rfl⟩⟩)⟩
    have e1 : (((txL up ks).map PyData.str).filter fun _ => true).map (fun d => match d with | .str x => PyData.list ((Txt.split x "/").map .str) | _ => .none) = llD (ks.map fun k => Str.empty :: cmps up k) := by
      rw [List.filter_eq_self.mpr (fun _ _ => rfl), txL, llD, List.map_map, List.map_map, List.map_map]
      refine List.map_congr_left fun k hk => ?_
      show PyData.list ((Txt.split (textF up k) "/").map .str) = PyData.list ((Str.empty :: cmps up k).map .str)
      rw [split_text up hup k (hks k hk).1]
    rw [e1]
    show WS _ _ _ (execs _ _) _
    refine WS_cons (WS_Try (WS_cons (WS_UnpackTrue (cl := [("sep", κ.L + 1)]) (by exact ⟨by rfl, by decide +kernel, rfl, by decide +kernel, rfl, (by repeat (first | exact List.forall_mem_nil _ | refine List.forall_mem_cons.mpr ⟨⟨rfl, rfl, rfl⟩, ?_⟩)), (by (try simp only [List.map_cons, List.map_nil]); decide +kernel)⟩) (WE_name rfl ⟨_, .tup _, by (clear hup hne hks hl hsl htz atT hemp hk0 e1; omega), ?_, WS_nil (WS_nil ?_)⟩) (by intro _; rfl) (.inl rfl) (by rfl) (by rfl) (by rfl))))
    · intro hid2 C j d hd
      obtain ⟨k, hk, rfl⟩ := atT j d hd
      exact WE_startswith (WE_name rfl ⟨_, rfl, WE_name rfl ⟨_, .mk _ _, by rw [starts_text up hup k (hks k hk).1]⟩⟩)
    show WS _ _ _ (execs _ _) _
    have hll : (llD (ks.map fun k => Str.empty :: cmps up k)).length = ks.length := by simp [llD]
    refine WS_cons (WS_AssignComp (fun _ => true) (fun d => match d with | .list ds => .list (ds.filter fun d => match d with | .str x => (x.length : Int) != 0 && x != "." | _ => false) | _ => .none) (cl := [("curdir", κ.L + 1 + 1)]) (by exact ⟨by rfl, by decide +kernel, rfl, by decide +kernel, rfl, (by repeat (first | exact List.forall_mem_nil _ | refine List.forall_mem_cons.mpr ⟨⟨rfl, rfl, rfl⟩, ?_⟩)), (by (try simp only [List.map_cons, List.map_nil]); decide +kernel)⟩) (WE_name rfl ⟨_, .list _ _ rfl, by (clear hup hne hks hl hsl hpos atT hemp hk0 e1; omega), ?_, rfl, ?_⟩))
    · intro hid2 C j d hd
      rw [llD, List.map_map, List.getElem?_map, Option.map_eq_some_iff] at hd
      obtain ⟨k, hk, rfl⟩ := hd
      have hk := hks k (List.mem_of_getElem? hk)
      have hcl := cmps_len up k
      refine ⟨rfl, fun _ => WE_ListComp (fun d => match d with | .str x => (x.length : Int) != 0 && x != "." | _ => false) id (cl := [("curdir", κ.L + 1 + 1)]) (by exact ⟨by rfl, by decide +kernel, rfl, by decide +kernel, rfl, (by repeat (first | exact List.forall_mem_nil _ | refine List.forall_mem_cons.mpr ⟨⟨rfl, rfl, rfl⟩, ?_⟩)), (by (try simp only [List.map_cons, List.map_nil]); decide +kernel)⟩) (WE_name rfl ⟨_, .list _ _ rfl, by simp; omega, ?_, by rw [List.map_id]; rfl⟩)⟩
      intro hid3 C' j' d' hd'
      rw [List.getElem?_map, Option.map_eq_some_iff] at hd'
      obtain ⟨x, hx, rfl⟩ := hd'
      have hxl : x.length ≤ sizeLine := by
        rcases List.mem_cons.mp (List.mem_of_getElem? hx) with rfl | hm
        · show 0 ≤ _; decide
        · obtain ⟨j, _, rfl⟩ := List.mem_map.mp hm
          rw [ltr, S_length]; show 1 ≤ _; decide
      refine WB_and (WB_plain (WE_name rfl ⟨_, .str _ hxl, ?_⟩))
      refine ⟨fun hb => WB_and (WB_Compare (WE_name rfl (WE_name rfl ⟨_, .neS _ _, fun h2 => WB_and_nil ⟨?_, fun _ => WE_name rfl rfl⟩, fun h2 => ⟨?_, fun h => (by cases h)⟩⟩))), fun hb => ⟨?_, fun h => (by cases h)⟩⟩
      · show true = (((x.length : Int) != 0) && (x != ".")); rw [hb, h2]; rfl
      · show false = (((x.length : Int) != 0) && (x != ".")); rw [hb, h2]; rfl
      · show false = (((x.length : Int) != 0) && (x != ".")); rw [hb]; rfl
    have e2 : ((llD (ks.map fun k => Str.empty :: cmps up k)).filter fun _ => true).map (fun d => match d with | .list ds => PyData.list (ds.filter fun d => match d with | .str x => (x.length : Int) != 0 && x != "." | _ => false) | _ => .none) = llD (ks.map (cmps up)) := by
      rw [List.filter_eq_self.mpr (fun _ _ => rfl), llD, llD, List.map_map, List.map_map, List.map_map]
      refine List.map_congr_left fun k hk => ?_
      show PyData.list (((Str.empty :: cmps up k).map PyData.str).filter _) = PyData.list ((cmps up k).map .str)
      rw [filt_cmps]
    rw [e2]
    show WS _ _ _ (execs _ _) _
    have hne2 : ks.map (cmps up) ≠ [] := by simpa using hne
    generalize hs1 : bestL true (ks.map (cmps up)) = s1
    generalize hs2 : bestL false (ks.map (cmps up)) = s2
    have m1 : ∃ k ∈ ks, s1 = cmps up k := by
      obtain ⟨k, hk, e⟩ := List.mem_map.mp (hs1 ▸ bestL_mem true _ hne2)
      exact ⟨k, hk, e.symm⟩
    have m2 : ∃ k ∈ ks, s2 = cmps up k := by
      obtain ⟨k, hk, e⟩ := List.mem_map.mp (hs2 ▸ bestL_mem false _ hne2)
      exact ⟨k, hk, e.symm⟩
    have b1 : ∀ k ∈ ks, lexL true (cmps up k) s1 = false := fun k hk => hs1 ▸ bestL_best true _ _ (List.mem_map.mpr ⟨k, hk, rfl⟩)
    have b2 : ∀ k ∈ ks, lexL true s2 (cmps up k) = false := fun k hk => by
      rw [← lexL_flip]; exact hs2 ▸ bestL_best false _ _ (List.mem_map.mpr ⟨k, hk, rfl⟩)
    have l1 : s1.length ≤ 10 := by obtain ⟨k, hk, rfl⟩ := m1; have := cmps_len up k; have := hks k hk; (clear hup hne hks hl hsl htl htz hpos atT hemp hk0 e1 hll e2 hne2 hs2 b2 hs1 b1; omega)
    have l2 : s2.length ≤ 10 := by obtain ⟨k, hk, rfl⟩ := m2; have := cmps_len up k; have := hks k hk; (clear hup hne hks hl hsl htl htz hpos atT hemp hk0 e1 hll e2 hne2 hs1 b1 l1 hs2 b2; omega)
    have w1 : ∀ x ∈ s1, x.length = 1 := by
      obtain ⟨k, hk, rfl⟩ := m1
      intro x hx
      obtain ⟨j, _, rfl⟩ := List.mem_map.mp hx
      rw [ltr, S_length]; rfl
    refine WS_cons (WS_Assign (WE_minLL (WE_name rfl ⟨_, .mk _ hne2, rfl, ?_⟩)))
    show WS _ _ _ (execs _ _) _
    refine WS_cons (WS_Assign (WE_maxLL (WE_name rfl ⟨_, .mk _ hne2, rfl, ?_⟩)))
    rw [hs1, hs2]
    show WS _ _ _ (execs _ _) _
    refine WS_cons (WS_Assign (WE_name rfl ⟨rfl, ?_⟩))
    show WS _ _ _ (execs _ _) _
    have d1 : (s1.map PyData.str).length = s1.length := List.length_map ..
    have d2 : (s2.map PyData.str).length = s2.length := List.length_map ..
    refine WS_cons (WS.mono (WS_ForEnum (Q := CpQ up ks s1 s2) (fun ds i st => s1.take i = s2.take i ∧ st = cpSt up ks s1 s2 s1) (WE_name rfl ⟨_, .list _, ⟨rfl, rfl⟩, fun i st1 h => h.2 ▸ rfl, ?_, ?_⟩)) ?_)
    · rintro hid2 i d st1 hd ⟨htk, rfl⟩
      have hnd : ∀ X, ((cpSt up ks s1 s2 X).map (·.1)).Nodup := fun X => by
        show (["paths", "sep", "curdir", "split_paths", "isabs", "s1", "s2", "common"] : List Str).Nodup
        decide +kernel
      rw [List.getElem?_map, Option.map_eq_some_iff] at hd
      obtain ⟨x, hx, rfl⟩ := hd
      have hi := (List.getElem?_eq_some_iff.mp hx).1
      have hi2 : i < s2.length := by
        rcases Nat.lt_or_ge i s2.length with h | h
        · exact h
        · exfalso
          have e : s2 = s1.take i := by rw [htk, List.take_of_length_le h]
          obtain ⟨k, hk, ek⟩ := m1
          have := b2 k hk
          rw [← ek, e, lex_take s1 i hi] at this
          cases this
      have hx2 : (s2.map PyData.str)[((i : Nat) : Int).toNat]? = some (.str s2[i]) := by
        rw [Int.toNat_natCast, List.getElem?_map, List.getElem?_eq_getElem hi2]; rfl
      refine WS_cons (WS_If (WB_Compare (WE_name rfl (WE_Subscript (WE_name rfl (WE_name rfl ⟨_, .list _ _ _ _ rfl (by (clear hup hne hks hl hsl htl htz hpos atT hemp hk0 e1 hll e2 hne2 hs1 hs2 b1 b2 l1 l2 w1 d1 d2 htk hnd hx hi hi2 hx2; omega)) hx2 (by (clear hup hne hks hl htl htz hpos atT hemp hk0 e1 hll e2 hne2 hs1 hs2 b1 b2 l1 w1 d1 htk hnd hx hi hi2 hx2; omega)), _, .neS _ _, ?_⟩))))))
      refine ⟨fun hb => ?_, fun hb => ?_⟩
      · have hb := bne_iff_ne.mp hb
        refine WS_cons (WS_Assign (WE_slice_toL (WE_name rfl (WE_name rfl ⟨_, _, rfl, rfl, by omega, rfl, ?_⟩))))
        rw [dpick_to (hn := by rw [d1]; omega), ← List.map_take]
        show WS _ _ _ (execs _ _) _
        refine WS_weak (cpSt up ks s1 s2 (s1.take i)) ⟨rfl, rfl, rfl, rfl, rfl, rfl, rfl, rfl, trivial⟩ ?_ (hnd _)
        refine WS_cons (WS_Break ?_)
        refine ⟨rfl, s1.take i, ⟨List.take_prefix _ _, htk ▸ List.take_prefix _ _, fun Y y1 y2 => List.prefix_take_iff.mpr ⟨y1, ?_⟩⟩, rfl⟩
        rcases Nat.lt_or_ge i Y.length with h | h
        · exfalso
          obtain ⟨_, e⟩ := List.getElem?_eq_some_iff.mp hx
          exact hb (by rw [← e, ← y1.getElem h, y2.getElem h])
        · exact h
      · have hb : x = s2[i] := by simpa using hb
        refine WS_nil (WS_end (cpSt up ks s1 s2 s1) ⟨rfl, rfl, rfl, rfl, rfl, rfl, rfl, rfl, trivial⟩ ⟨?_, rfl⟩ (hnd _))
        obtain ⟨_, e⟩ := List.getElem?_eq_some_iff.mp hx
        rw [List.take_succ_eq_append_getElem hi, List.take_succ_eq_append_getElem hi2, htk, e, hb]
    · rintro hid2 st1 ⟨htk, rfl⟩
      rw [d1, List.take_length] at htk
      refine WS_nil ⟨rfl, s1, ⟨List.prefix_refl _, ?_, fun Y h _ => h⟩, rfl⟩
      rw [htk]; exact List.take_prefix _ _
    · rintro fl st1 ⟨rfl, X, ⟨x1, x2, hX⟩, rfl⟩
      have hXe := common_is up hup ks s1 s2 X m1 m2 b1 b2 x1 x2 hX
      have lX : X.length ≤ 10 := Nat.le_trans x1.length_le l1
      have sX : (X.map (·.length)).sum ≤ 10 := by
        have : ∀ l : List Str, (∀ x ∈ l, x.length = 1) → (l.map (·.length)).sum = l.length := by
          intro l
          induction l with
          | nil => intro _; rfl
          | cons a l ih => intro h; rw [List.map_cons, List.sum_cons, ih fun x hx => h x (.tail _ hx), h a (.head _), List.length_cons]; exact Nat.add_comm _ _
        rw [this X fun x hx => w1 x (x1.subset hx)]; exact lX
      show WS _ _ _ (execs _ _) _
      refine WS_cons (WS_Assign (WE_IfExp (WB_plain (WE_name rfl ⟨_, .bool _, fun _ => WE_name rfl ⟨rfl, ?_⟩, fun h => (by cases h)⟩))))
      show WS _ _ _ (execs _ _) _
      refine WS_cons (WS_Return (WE_BinOp (WE_name rfl (WE_join (WE_name rfl ⟨_, rfl, WE_name rfl ⟨_, .mk _ _ X rfl (by rw [show (Str.length "/") = 1 from rfl]; (clear hup hne hks hl hsl htl htz hpos atT hemp hk0 e1 hll e2 hne2 hs1 hs2 b1 b2 l1 l2 w1 d1 d2 hX hXe; omega)), _, .addS _ _ ?_, ?_⟩⟩)))))
      · have hj : (Txt.join (Str.ofString "/") X).length ≤ (X.map (·.length)).sum + X.length * (Str.ofString "/").length := by
          rw [show Txt.join (Str.ofString "/") X = Str.join "/" X from StrLaws.glued_eq_join _ _]
          exact StrLaws.join_length_le _ _
        rw [show (Str.ofString "/").length = 1 from rfl] at *
        (clear hup hne hks hl htl htz hpos atT hemp hk0 e1 hll e2 hne2 hs1 hs2 b1 b2 l1 l2 w1 d1 d2 hX hXe; omega)
      · rw [show Txt.join (Str.ofString "/") X = Str.join "/" X from StrLaws.glued_eq_join _ _, hXe]
        exact congrArg (fun x => Fl.ret (.D (.str x))) (text_join up hup _)
end
end Mine
end
section
open PySem PySem.Calls PyProof.Rows
namespace Mine
/-! the turns, and what is wanted of them -/
noncomputable def rt (up m : Nat → Nat) (k : Nat) : Str := S (rowL (m k)) ++ Str.ofString " " ++ textF up k
noncomputable def rts (up m : Nat → Nat) (l : List Nat) : List Str := l.map (rt up m)
noncomputable def hold (up : Nat → Nat) (l : List Nat) (k : Nat) : Bool := (l.map up).any (· == k)
noncomputable def stayL (up : Nat → Nat) (may : Nat → Bool) (l : List Nat) : List Nat := l.filter fun k => hold up l k || !may k
noncomputable def rowD (up m : Nat → Nat) (now l stay g : List Nat) : PyData :=
  .list [.tuple [.list ((srt (rts up m now)).map .str), .list []], .list ((srt (rts up m l)).map .str), .list ((srt (rts up m stay)).map .str), .str (if g.isEmpty then "" else textF up (meetF up g))]
noncomputable def tR (up m : Nat → Nat) (may : Nat → Bool) : Nat → List Nat → List Nat → List PyData × List Nat
  | 0, l, g => ([], l)
  | n + 1, l, g =>
    if (stayL up may l).length < l.length then (rowD up m (ready up may l) l (stayL up may l) (ready up may l ++ g) :: (tR up m may n (stayL up may l) (ready up may l ++ g)).1, (tR up m may n (stayL up may l) (ready up may l ++ g)).2)
    else ([rowD up m (ready up may l) l (stayL up may l) (ready up may l ++ g)], stayL up may l)
noncomputable def wR (up m T : Nat → Nat) : Nat → Nat → List Nat → List Nat → List PyData × List Nat
  | 0, r, l, g => ([], l)
  | n + 1, r, l, g =>
    if (l.filter fun k => T k == r).isEmpty then ([rowD up m (l.filter fun k => T k == r) l (l.filter fun k => T k != r) (g ++ l.filter fun k => T k == r)], l.filter fun k => T k != r)
    else (rowD up m (l.filter fun k => T k == r) l (l.filter fun k => T k != r) (g ++ l.filter fun k => T k == r) :: (wR up m T n (r + 1) (l.filter fun k => T k != r) (g ++ l.filter fun k => T k == r)).1, (wR up m T n (r + 1) (l.filter fun k => T k != r) (g ++ l.filter fun k => T k == r)).2)

/-! heights at the last stage -/
theorem hts_fix (up : Nat → Nat) : ∀ t i j, 9 - i < j → i + t ≤ 9 → hts up (i + t) j = hts up i j
  | 0, i, j, _, _ => rfl
  | t + 1, i, j, h, h9 => by
    rw [show i + (t + 1) = (i + t) + 1 by rfl, hts]
    dsimp only
    rw [if_neg (by (clear h9; omega))]
    exact hts_fix up t i j h (by exact Nat.le_of_lt h9)
theorem gos_fix (up : Nat → Nat) (may : Nat → Bool) : ∀ t i j, 9 - i < j → i + t ≤ 9 → gos up may (i + t) j = gos up may i j
  | 0, i, j, _, _ => rfl
  | t + 1, i, j, h, h9 => by
    rw [show i + (t + 1) = (i + t) + 1 by rfl, gos]
    dsimp only
    rw [if_neg (by (clear h9; omega))]
    exact gos_fix up may t i j h (by exact Nat.le_of_lt h9)
theorem hts_eq (up : Nat → Nat) (k : Nat) (h0 : 0 < k) (h9 : k < 10) : hts up 9 k = 1 + mx ((kids up k).map (hts up 9)) := by
  have e : hts up 9 k = hts up (9 - k + 1) k := by
    have := hts_fix up (9 - (9 - k + 1)) (9 - k + 1) k (by (clear h9; omega)) (by (clear h9; omega))
    rw [show 9 - k + 1 + (9 - (9 - k + 1)) = 9 by (clear h9 this; omega)] at this
    exact this
  rw [e, hts]
  dsimp only
  rw [show 9 - (9 - k) = k by (clear h0 e; omega), if_pos rfl]
  congr 2
  refine List.map_congr_left fun c hc => ?_
  have hc' := mem_upto.mp (List.mem_filter.mp hc).1
  have := hts_fix up (9 - (9 - k)) (9 - k) c (by (clear h0 h9 e; omega)) (by (clear h0 h9 e hc'; omega))
  rw [show 9 - k + (9 - (9 - k)) = 9 by (clear h0 h9 e hc' this; omega)] at this
  exact this.symm
theorem gos_eq (up : Nat → Nat) (may : Nat → Bool) (k : Nat) (h0 : 0 < k) (h9 : k < 10) : gos up may 9 k = (may k && (kids up k).all (gos up may 9)) := by
  have e : gos up may 9 k = gos up may (9 - k + 1) k := by
    have := gos_fix up may (9 - (9 - k + 1)) (9 - k + 1) k (by (clear h9; omega)) (by (clear h9; omega))
    rw [show 9 - k + 1 + (9 - (9 - k + 1)) = 9 by (clear h9 this; omega)] at this
    exact this
  rw [e, gos]
  dsimp only
  rw [show 9 - (9 - k) = k by (clear h0 e; omega), if_pos rfl, List.all_map]
  congr 1
  rw [Bool.eq_iff_iff, List.all_eq_true, List.all_eq_true]
  refine forall_congr' fun c => forall_congr' fun hc => ?_
  have hc' := mem_upto.mp (List.mem_filter.mp hc).1
  have := gos_fix up may (9 - (9 - k)) (9 - k) c (by (clear h0 h9 e; omega)) (by (clear h0 h9 e hc'; omega))
  rw [show 9 - k + (9 - (9 - k)) = 9 by (clear h0 h9 e hc' this; omega)] at this
  show (gos up may (9 - k) c) = true ↔ _
  rw [this]
theorem mem_kids (up : Nat → Nat) (hup : ∀ k, 0 < k → up k < k) {c k : Nat} (h0 : 0 < c) (h9 : c < 10) (h : up c = k) : c ∈ kids up k := by
  refine List.mem_filter.mpr ⟨mem_upto.mpr ⟨?_, h9⟩, by simp [h]⟩
  have := hup c h0; omega
theorem kids_mem (up : Nat → Nat) {c k : Nat} (h : c ∈ kids up k) : k < c ∧ c < 10 ∧ up c = k := by
  have h1 := mem_upto.mp (List.mem_filter.mp h).1
  have h2 : (up c == k) = true := (List.mem_filter.mp h).2
  exact ⟨by omega, by omega, by simpa using h2⟩
theorem hold_iff (up : Nat → Nat) (l : List Nat) (k : Nat) : hold up l k = true ↔ ∃ c ∈ l, up c = k := by
  unfold hold
  rw [List.any_map, List.any_eq_true]
  exact ⟨fun ⟨c, h1, h2⟩ => ⟨c, h1, by simpa using h2⟩, fun ⟨c, h1, h2⟩ => ⟨c, h1, by simp [h2]⟩⟩
theorem turns_eq (up : Nat → Nat) (may : Nat → Bool) (k : Nat) : turnsF up may k = if gos up may 9 k then hts up 9 k else 0 := rfl

/-- whose turn it is: those that may go and hold nothing -/
theorem ready_turn (up : Nat → Nat) (hup : ∀ k, 0 < k → up k < k) (may : Nat → Bool) (r : Nat) (hr : 1 ≤ r) (l : List Nat) (hl : l = (upto 1 10).filter fun k => turnsF up may k == 0 || decide (r ≤ turnsF up may k)) (k : Nat) (hk : k ∈ l) :
    (may k && !hold up l k) = (turnsF up may k == r) := by
  have hmem : ∀ c, c ∈ l ↔ (1 ≤ c ∧ c < 10) ∧ (turnsF up may c = 0 ∨ r ≤ turnsF up may c) := fun c => by
    rw [hl, List.mem_filter, mem_upto]; simp
  have hk' := (hmem k).mp hk
  have hpos : ∀ c, 1 ≤ c → c < 10 → 1 ≤ hts up 9 c := fun c h1 h2 => by rw [hts_eq up c h1 h2]; exact Nat.le_add_right _ _
  rw [Bool.eq_iff_iff, Bool.and_eq_true, Bool.not_eq_true', beq_iff_eq]
  constructor
  · rintro ⟨hm, hh⟩
    have hno : ∀ c, c ∈ l → up c ≠ k := fun c hc e => by
      have := (hold_iff up l k).mpr ⟨c, hc, e⟩
      rw [hh] at this; cases this
    have hkid : ∀ c ∈ kids up k, gos up may 9 c = true ∧ hts up 9 c < r := fun c hc => by
      obtain ⟨h1, h2, h3⟩ := kids_mem up hc
      have hcl : c ∉ l := fun h => hno c h h3
      have := (not_congr (hmem c)).mp hcl
      have hT : ¬ (turnsF up may c = 0) ∧ ¬ (r ≤ turnsF up may c) := ⟨fun e => this ⟨⟨by (clear hup hr hl hmem hk' hpos hm hh hno h2 h3 hcl this e; omega), h2⟩, .inl e⟩, fun e => this ⟨⟨by (clear hup hr hl hmem hk' hpos hm hh hno h2 h3 hcl this e; omega), h2⟩, .inr e⟩⟩
      rw [turns_eq] at hT
      cases hg : gos up may 9 c with
      | false => rw [hg] at hT; exact absurd rfl hT.1
      | true => rw [hg] at hT; exact ⟨rfl, by have := hT.2; simp only [if_true] at this; omega⟩
    have hgk : gos up may 9 k = true := by
      rw [gos_eq up may k hk'.1.1 hk'.1.2, hm, Bool.true_and, List.all_eq_true]
      exact fun c hc => (hkid c hc).1
    have hle : hts up 9 k ≤ r := by
      rw [hts_eq up k hk'.1.1 hk'.1.2]
      have h := mx_mem ((kids up k).map (hts up 9))
      rcases List.mem_cons.mp h with h | h
      · omega
      · obtain ⟨c, hc, e⟩ := List.mem_map.mp h
        have := (hkid c hc).2
        omega
    have hT : turnsF up may k = hts up 9 k := by rw [turns_eq, hgk]; rfl
    have := hpos k hk'.1.1 hk'.1.2
    have := hk'.2
    omega
  · intro hT
    have hgk : gos up may 9 k = true := by
      cases hg : gos up may 9 k with
      | false => rw [turns_eq, hg] at hT; simp at hT; omega
      | true => rfl
    have hTk : turnsF up may k = hts up 9 k := by rw [turns_eq, hgk]; rfl
    have hg2 := hgk
    rw [gos_eq up may k hk'.1.1 hk'.1.2, Bool.and_eq_true, List.all_eq_true] at hg2
    refine ⟨hg2.1, ?_⟩
    cases hh : hold up l k with
    | false => rfl
    | true =>
      exfalso
      obtain ⟨c, hc, e⟩ := (hold_iff up l k).mp hh
      have hc' := (hmem c).mp hc
      have hck := mem_kids up hup hc'.1.1 hc'.1.2 e
      have hgc := hg2.2 c hck
      have hTc : turnsF up may c = hts up 9 c := by rw [turns_eq, hgc]; rfl
      have h1 := mx_le _ _ (List.mem_map.mpr ⟨c, hck, rfl⟩ : hts up 9 c ∈ (kids up k).map (hts up 9))
      have h2 := hts_eq up k hk'.1.1 hk'.1.2
      have := hpos c hc'.1.1 hc'.1.2
      omega

theorem len_parts (l : List Nat) (p : Nat → Bool) : (l.filter p).length + (l.filter fun k => !p k).length = l.length := by
  induction l with
  | nil => rfl
  | cons a l ih =>
    rw [List.filter_cons, List.filter_cons]
    cases p a <;> simp <;> omega
theorem agree (up m : Nat → Nat) (hup : ∀ k, 0 < k → up k < k) (may : Nat → Bool) : ∀ n r l g g', 1 ≤ r → (l = (upto 1 10).filter fun k => turnsF up may k == 0 || decide (r ≤ turnsF up may k)) → (∀ k, k ∈ g ↔ k ∈ g') →
    tR up m may n l g = wR up m (turnsF up may) n r l g' := by
  intro n
  induction n with
  | zero => intro r l g g' _ _ _; rfl
  | succ n ih =>
    intro r l g g' hr hl hg
    have hrdy : ready up may l = l.filter fun k => turnsF up may k == r := by
      unfold ready
      exact List.filter_congr fun k hk => ready_turn up hup may r hr l hl k hk
    have hst : stayL up may l = l.filter fun k => turnsF up may k != r := by
      unfold stayL
      refine List.filter_congr fun k hk => ?_
      have := ready_turn up hup may r hr l hl k hk
      rw [bne, ← this]
      cases may k <;> cases hold up l k <;> rfl
    have hnext : (l.filter fun k => turnsF up may k != r) = (upto 1 10).filter fun k => turnsF up may k == 0 || decide (r + 1 ≤ turnsF up may k) := by
      rw [hl, List.filter_filter]
      refine List.filter_congr fun k _ => ?_
      rw [Bool.eq_iff_iff]
      simp only [Bool.and_eq_true, Bool.or_eq_true, bne_iff_ne, beq_iff_eq, decide_eq_true_eq, ne_eq]
      omega
    have hlen := len_parts l fun k => turnsF up may k == r
    have hlen : (l.filter fun k => turnsF up may k == r).length + (l.filter fun k => turnsF up may k != r).length = l.length := hlen
    have hgg : ∀ k, k ∈ (l.filter fun k => turnsF up may k == r) ++ g ↔ k ∈ g' ++ l.filter fun k => turnsF up may k == r := fun k => by
      rw [List.mem_append, List.mem_append, hg k]; exact Or.comm
    have hrow : rowD up m (l.filter fun k => turnsF up may k == r) l (l.filter fun k => turnsF up may k != r) ((l.filter fun k => turnsF up may k == r) ++ g) = rowD up m (l.filter fun k => turnsF up may k == r) l (l.filter fun k => turnsF up may k != r) (g' ++ l.filter fun k => turnsF up may k == r) := by
      unfold rowD
      have : (if ((l.filter fun k => turnsF up may k == r) ++ g).isEmpty = true then ("" : Str) else textF up (meetF up ((l.filter fun k => turnsF up may k == r) ++ g))) = if (g' ++ l.filter fun k => turnsF up may k == r).isEmpty = true then ("" : Str) else textF up (meetF up (g' ++ l.filter fun k => turnsF up may k == r)) := by
        by_cases h : (l.filter fun k => turnsF up may k == r) ++ g = []
        · have h' : g' ++ (l.filter fun k => turnsF up may k == r) = [] := by
            rw [List.eq_nil_iff_forall_not_mem] at h ⊢
            exact fun k hk => h k ((hgg k).mpr hk)
          rw [h, h']
        · rw [meetF_perm up hup _ _ h hgg]
          have h' : g' ++ (l.filter fun k => turnsF up may k == r) ≠ [] := fun e => by
            rw [List.eq_nil_iff_forall_not_mem] at e
            exact h (List.eq_nil_iff_forall_not_mem.mpr fun k hk => e k ((hgg k).mp hk))
          rw [if_neg (by simpa using h), if_neg (by simpa using h')]
      rw [this]
    have step := ih (r + 1) _ _ _ (by exact Nat.le_add_left _ _) hnext hgg
    rw [tR, wR, hrdy, hst, step, hrow]
    by_cases he : (l.filter fun k => turnsF up may k == r) = []
    · rw [if_neg (by rw [he, List.length_nil] at hlen; omega), if_pos (by rw [he]; rfl)]
    · have := List.length_pos_iff.mpr he
      rw [if_pos (by omega), if_neg (by simpa using he)]

/-! the last rest -/
theorem rest_is (up : Nat → Nat) (hup : ∀ k, 0 < k → up k < k) (may : Nat → Bool) (b : Nat → Bool) (hb : ∀ k ∈ upto 1 10, gos up may 9 k = false → b k = true)
    (hno : ∀ k ∈ (upto 1 10).filter b, (may k && !hold up ((upto 1 10).filter b) k) = false) : (upto 1 10).filter b = (upto 1 10).filter fun k => !gos up may 9 k := by
  refine List.filter_congr fun k hk => ?_
  have main : ∀ n k, 9 - k < n → k ∈ upto 1 10 → b k = true → gos up may 9 k = false := by
    intro n
    induction n with
    | zero => intro k h; omega
    | succ n ih =>
      intro k hn hk hbk
      cases hg : gos up may 9 k with
      | false => rfl
      | true =>
        exfalso
        have hk' := mem_upto.mp hk
        have hg2 := hg
        rw [gos_eq up may k hk'.1 hk'.2, Bool.and_eq_true, List.all_eq_true] at hg2
        have h1 := hno k (List.mem_filter.mpr ⟨hk, hbk⟩)
        rw [hg2.1, Bool.true_and] at h1
        have h1 : hold up ((upto 1 10).filter b) k = true := by simpa using h1
        obtain ⟨c, hc, e⟩ := (hold_iff up _ k).mp h1
        obtain ⟨hc1, hc2⟩ := List.mem_filter.mp hc
        have hc' := mem_upto.mp hc1
        have hck := mem_kids up hup hc'.1 hc'.2 e
        have := kids_mem up hck
        have h3 := ih c (by omega) hc1 hc2
        rw [hg2.2 c hck] at h3
        cases h3
  cases hg : gos up may 9 k with
  | false => rw [hb k hk hg]; rfl
  | true =>
    cases hbk : b k with
    | false => rfl
    | true => rw [main (9 - k + 1) k (by exact Nat.le_refl _) hk hbk] at hg; cases hg
theorem stuck (up : Nat → Nat) (hup : ∀ k, 0 < k → up k < k) (may : Nat → Bool) (b : Nat → Bool) (hb : ∀ k ∈ upto 1 10, gos up may 9 k = false → b k = true) (k : Nat) (hk : k ∈ upto 1 10) (hg : gos up may 9 k = false) : (hold up ((upto 1 10).filter b) k || !may k) = true := by
  have hk' := mem_upto.mp hk
  rw [gos_eq up may k hk'.1 hk'.2] at hg
  cases hm : may k with
  | false => simp
  | true =>
    rw [hm, Bool.true_and] at hg
    have : ∃ c ∈ kids up k, gos up may 9 c = false := by
      rw [List.all_eq_false] at hg
      obtain ⟨c, hc, h⟩ := hg
      exact ⟨c, hc, by simpa using h⟩
    obtain ⟨c, hc, h⟩ := this
    obtain ⟨h1, h2, h3⟩ := kids_mem up hc
    have hcu : c ∈ upto 1 10 := mem_upto.mpr ⟨by (clear hup hb hg hk' hm h h2 h3; omega), h2⟩
    rw [(hold_iff up _ k).mpr ⟨c, List.mem_filter.mpr ⟨hcu, hb c hcu h⟩, h3⟩]
    rfl
theorem tR_rest (up m : Nat → Nat) (hup : ∀ k, 0 < k → up k < k) (may : Nat → Bool) : ∀ n b g, (∀ k ∈ upto 1 10, gos up may 9 k = false → b k = true) → ((upto 1 10).filter b).length < n →
    (tR up m may n ((upto 1 10).filter b) g).2 = (upto 1 10).filter fun k => !gos up may 9 k := by
  intro n
  induction n with
  | zero => intro b g _ h; omega
  | succ n ih =>
    intro b g hb hn
    have hst : stayL up may ((upto 1 10).filter b) = (upto 1 10).filter fun k => b k && (hold up ((upto 1 10).filter b) k || !may k) := by
      unfold stayL
      rw [List.filter_filter]
      exact List.filter_congr fun k _ => Bool.and_comm ..
    have hb' : ∀ k ∈ upto 1 10, gos up may 9 k = false → (b k && (hold up ((upto 1 10).filter b) k || !may k)) = true := fun k hk hg => by
      rw [hb k hk hg, stuck up hup may b hb k hk hg]; rfl
    rw [tR]
    split
    · rename_i hlt
      dsimp only
      rw [hst] at hlt ⊢
      exact ih _ _ hb' (by omega)
    · rename_i hlt
      dsimp only
      have hall : stayL up may ((upto 1 10).filter b) = (upto 1 10).filter b := by
        refine List.Sublist.eq_of_length_le (by unfold stayL; exact List.filter_sublist) (by exact Nat.not_lt.mp hlt)
      rw [hall]
      refine rest_is up hup may b hb fun k hk => ?_
      have : k ∈ stayL up may ((upto 1 10).filter b) := by rw [hall]; exact hk
      have := (List.mem_filter.mp this).2
      cases h1 : may k <;> cases h2 : hold up ((upto 1 10).filter b) k <;> rw [h1, h2] at this <;> first | rfl | cases this
theorem upto_nodup : (upto 1 10).Nodup := by decide
theorem obo_rest (up : Nat → Nat) (hup : ∀ k, 0 < k → up k < k) (may : Nat → Bool) : ∀ n b, (∀ k ∈ upto 1 10, gos up may 9 k = false → b k = true) → ((upto 1 10).filter b).length < n →
    obo up may n ((upto 1 10).filter b) = (upto 1 10).filter fun k => !gos up may 9 k := by
  intro n
  induction n with
  | zero => intro b _ h; omega
  | succ n ih =>
    intro b hb hn
    rw [obo]
    split
    · rename_i h
      have h0 := List.getLast?_eq_none_iff.mp h
      refine rest_is up hup may b hb fun k hk => ?_
      cases hq : (may k && !hold up ((upto 1 10).filter b) k) with
      | false => rfl
      | true =>
        have : k ∈ ready up may ((upto 1 10).filter b) := List.mem_filter.mpr ⟨hk, hq⟩
        rw [h0] at this; cases this
    · rename_i z h
      have hz := List.mem_of_getLast? h
      obtain ⟨hz1, hz2⟩ := List.mem_filter.mp hz
      have hz2 : (may z && !hold up ((upto 1 10).filter b) z) = true := hz2
      have hzu := (List.mem_filter.mp hz1).1
      have e : ((upto 1 10).filter b).erase z = (upto 1 10).filter fun k => b k && k != z := by
        rw [List.Nodup.erase_eq_filter (upto_nodup.sublist List.filter_sublist), List.filter_filter]
        exact List.filter_congr fun k _ => Bool.and_comm ..
      have hlen := List.length_erase_of_mem hz1
      have hpos := List.length_pos_of_mem hz1
      rw [e] at hlen ⊢
      refine ih _ (fun k hk hg => ?_) (by omega)
      rw [hb k hk hg, Bool.true_and, bne_iff_ne]
      rintro rfl
      have := stuck up hup may b hb k hk hg
      rw [Bool.or_eq_true, Bool.not_eq_true'] at this
      rw [Bool.and_eq_true, Bool.not_eq_true'] at hz2
      rcases this with h | h
      · rw [h] at hz2; cases hz2.2
      · rw [h] at hz2; cases hz2.1

/-! the differences of sorted lists -/
theorem rt_inj (up m : Nat → Nat) (hup : ∀ k, 0 < k → up k < k) {j k : Nat} (h : rt up m j = rt up m k) : j = k := by
  have h := congrArg (fun x : Str => x.cps.toList) h
  have e : ∀ k, (rt up m k).cps.toList = (rowL (m k) ++ [32]) ++ (textF up k).cps.toList := fun k => by
    unfold rt
    rw [← S_of (textF up k), show Str.ofString " " = S [32] from rfl, S_append, S_append, S_cps, S_cps]
  have h : (rt up m j).cps.toList = (rt up m k).cps.toList := h
  rw [e, e] at h
  have := (List.append_inj h (by simp [rowL_len])).2
  have : textF up j = textF up k := by rw [← S_of (textF up j), ← S_of (textF up k), this]
  exact textF_inj up hup this
theorem srt_filter (p : Str → Bool) (l : List Str) : (srt l).filter p = srt (l.filter p) :=
  srt_uniq ((srt_perm l).filter p) ((srt_sorted l).sublist List.filter_sublist)
theorem srt_strict (l : List Str) (h : l.Nodup) : (srt l).Pairwise ltS := by
  have h1 : (srt l).Pairwise fun a b => a ≠ b := (srt_perm l).symm.nodup h
  have h2 := List.Pairwise.and (srt_sorted l) h1
  refine h2.imp fun {a b} ⟨h3, h4⟩ => ?_
  have h5 := strLe_iff.mp h3
  by_cases hlt : a.cps.toList < b.cps.toList
  · exact hlt
  · exact absurd (by rw [← S_of a, ← S_of b, List.le_antisymm h5 hlt]) h4
theorem rts_any (up m : Nat → Nat) (hup : ∀ k, 0 < k → up k < k) (l : List Nat) (k : Nat) : (rts up m l).any (· == rt up m k) = l.any (· == k) := by
  unfold rts
  rw [List.any_map]
  congr 1
  funext j
  show (rt up m j == rt up m k) = (j == k)
  by_cases h : j = k
  · rw [h]; simp
  · rw [beq_eq_false_iff_ne.mpr h, beq_eq_false_iff_ne.mpr fun e => h (rt_inj up m hup e)]
theorem rts_filter (up m : Nat → Nat) (hup : ∀ k, 0 < k → up k < k) (q : Nat → Bool) (l : List Nat) (p : Str → Bool) (hp : ∀ k ∈ l, p (rt up m k) = q k) : (srt (rts up m l)).filter p = srt (rts up m (l.filter q)) := by
  rw [srt_filter]
  congr 1
  unfold rts
  rw [List.filter_map]
  congr 1
  exact List.filter_congr hp
theorem rts_nodup (up m : Nat → Nat) (hup : ∀ k, 0 < k → up k < k) (l : List Nat) (h : l.Nodup) : (rts up m l).Nodup := by
  unfold rts
  exact List.Pairwise.map _ (fun a b hne e => hne (rt_inj up m hup e)) h
end Mine
end
section
open PySem PySem.Calls PyProof.Rows
namespace Mine
section
variable {Γ : Gx} {c : Cx} {st : St} {s s0 s1 : Shared}
theorem fn_law_turns : isFn "_law_turns" := by unfold isFn; decide +kernel
noncomputable abbrev rowK (up m : Nat → Nat) : List (Str × PyData) := Kd up fun k => .str (S (rowL (m k)))
noncomputable def tuSt (up m : Nat → Nat) (may : Nat → Bool) (a1 : Addr) (tl : List PyData) (g l : List Nat) (b : Bool) : St :=
  [("paths", .D (.list ((txL up (upto 1 10)).map .str))), ("rows", .K (rowK up m)), ("free", .K (frL up may)), ("told", .M a1 tl), ("gone", .D (.list ((txL up g).map .str))), ("left", .D (.list ((txL up l).map .str))), ("more", .D (.bool b))]
theorem rt_len (up m : Nat → Nat) (k : Nat) (hk : k < 10) : (rt up m k).length ≤ 31 := by
  unfold rt
  have := textF_len up k hk
  rw [Str.length_append, Str.length_append, S_length, rowL_len, show (Str.ofString " ").length = 1 from rfl]
  omega
theorem con_diff (up m : Nat → Nat) (hup : ∀ k, 0 < k → up k < k) (q : Nat → Bool) (l : List Nat) (hl : l.Nodup) (hz : l.length ≤ 100) :
    ConS Γ 1 "sorted_list_difference" [.D (.list ((srt (rts up m l)).map .str)), .D (.list ((srt (rts up m (l.filter q))).map .str))] (.D (.tuple [.list ((srt (rts up m (l.filter fun k => !q k))).map .str), .list []])) := by
  have h1 := rts_filter up m hup q l (fun x => (rts up m (l.filter q)).any (· == x)) fun k hk => by
    show (rts up m (l.filter q)).any (· == rt up m k) = q k
    rw [rts_any up m hup, Bool.eq_iff_iff, List.any_eq_true]
    exact ⟨fun ⟨j, h1, h2⟩ => (eq_of_beq h2) ▸ (List.mem_filter.mp h1).2, fun h => ⟨k, List.mem_filter.mpr ⟨hk, h⟩, by simp⟩⟩
  have h2 := rts_filter up m hup (fun k => !q k) l (fun x => !(rts up m (l.filter q)).any (· == x)) fun k hk => by
    show (!(rts up m (l.filter q)).any (· == rt up m k)) = !q k
    congr 1
    rw [rts_any up m hup, Bool.eq_iff_iff, List.any_eq_true]
    exact ⟨fun ⟨j, h1, h2⟩ => (eq_of_beq h2) ▸ (List.mem_filter.mp h1).2, fun h => ⟨k, List.mem_filter.mpr ⟨hk, h⟩, by simp⟩⟩
  have := con_sld (Γ := Γ) (srt (rts up m l)) (fun x => (rts up m (l.filter q)).any (· == x)) (srt_strict _ (rts_nodup up m hup l hl)) (by
    rw [(srt_perm _).length_eq]; unfold rts; rw [List.length_map]; exact hz)
  rw [h1, h2] at this
  exact this
inductive TuI (up m : Nat → Nat) (may : Nat → Bool) (a1 : Addr) (fin : List PyData × List Nat) (n : Nat) (st : St) : Prop
  | mk (tl : List PyData) (l g : List Nat) (h : l.Nodup ∧ (∀ k ∈ l, 0 < k ∧ k < 10) ∧ (∀ k ∈ g, 0 < k ∧ k < 10) ∧ g.length + l.length ≤ 9 ∧ tl.length ≤ 100 - n)
    (h2 : (0 < n ∧ l.length < n ∧ n ≤ 10 ∧ tl ++ (tR up m may n l g).1 = fin.1 ∧ (tR up m may n l g).2 = fin.2 ∧ st = tuSt up m may a1 tl g l true) ∨ (n = 0 ∧ tl = fin.1 ∧ l = fin.2 ∧ st = tuSt up m may a1 tl g l false))
theorem con_law_turns (up m : Nat → Nat) (hup : ∀ k, 0 < k → up k < k) (may : Nat → Bool) :
    ConS Γ 7 "_law_turns" [.D (.list ((txL up (upto 1 10)).map .str)), .K (rowK up m), .K (frL up may)] (.D (.tuple [.list (tR up m may 10 (upto 1 10) []).1, .list ((txL up (tR up m may 10 (upto 1 10) []).2).map .str)])) := by
  have hsl : sizeLine = 2 ^ 24 := rfl
  refine con_fnS (j := 16) ["paths", "rows", "free"] (by rfl) rfl rfl rfl ?_ (by decide +kernel) (by decide +kernel) ?_ rfl rfl rfl
  · exact fun pm cd doc => len3 fun v u x => rfl
  · intro κ outer
    refine WS_cons (WS_AssignNew (WN_List (WA_nil ⟨_, rfl, by decide, by simp, fun a1 => ?_⟩)))
    show WS _ _ _ (execs _ _) _
    refine WS_cons (WS_AssignNew (WN_List (WA_nil ⟨_, rfl, by decide, by simp, fun a2 => ?_⟩)))
    show WS _ _ _ (execs _ _) _
    refine WS_cons (WS_freeze (x := "gone") rfl (WS_Assign (WE_name rfl ⟨rfl, ?_⟩)))
    show WS _ _ _ (execs _ _) _
    refine WS_cons (WS_Assign (WE_bool ⟨rfl, ?_⟩))
    show WS _ _ _ (execs _ _) _
    generalize hfin : tR up m may 10 (upto 1 10) [] = fin
    refine WS_cons (WS_While (TuI up m may a1 fin) ?_ 10 ⟨[], upto 1 10, [], ⟨upto_nodup, fun k hk => by have := mem_upto.mp hk; assumption, by simp, by decide, by simp⟩, .inl ⟨by decide, by decide, Nat.le_refl _, by rw [← hfin]; rfl, by rw [← hfin], rfl⟩⟩)
    rintro n st ⟨tl, l, g, ⟨hnd, hl, hg, hlg, htl⟩, ⟨hn0, hln, hn10, hf1, hf2, rfl⟩ | ⟨rfl, hf1, hf2, rfl⟩⟩
    · refine WB_plain (WE_name rfl ⟨_, .bool _, fun _ => ?_, fun h => (by cases h)⟩)
      obtain ⟨n, rfl⟩ : ∃ n', n = n' + 1 := ⟨n - 1, by omega⟩
      have hll : (txL up l).length = l.length := by simp [txL]
      have hlz : ((txL up l).map PyData.str).length ≤ sizeLine := by rw [List.length_map, hll]; (clear hup hfin hl hg hlg htl hn0 hf1 hf2 hll; omega)
      have atX : ∀ (l : List Nat) (j : Nat) (d : PyData), ((txL up l).map PyData.str)[j]? = some d → ∃ k, k ∈ l ∧ d = .str (textF up k) := fun l j d h => by
        rw [txL, List.map_map, List.getElem?_map, Option.map_eq_some_iff] at h
        obtain ⟨k, hk, rfl⟩ := h
        exact ⟨k, List.mem_of_getElem? hk, rfl⟩
      refine WS_cons (WS_Assign (WE_ListComp (fun _ => true) (fun d => match d with | .str x => .str (dirnameF x) | _ => .none) (cl := []) (by exact ⟨by rfl, by decide +kernel, rfl, by decide +kernel, rfl, (by repeat (first | exact List.forall_mem_nil _ | refine List.forall_mem_cons.mpr ⟨⟨rfl, rfl, rfl⟩, ?_⟩)), (by (try simp only [List.map_cons, List.map_nil]); decide +kernel)⟩) (WE_name rfl ⟨_, .list _ _ rfl, hlz, ?_, rfl, ?_⟩)))
      · intro hid2 C j d hd
        obtain ⟨k, hk, rfl⟩ := atX l j d hd
        refine ⟨rfl, fun _ => WE_call1 fn_dirname (WE_name rfl ⟨_, con_dirname _ (by have := textF_len up k (hl k hk).2; (clear hup hsl hfin hl hg hlg htl hn0 hln hn10 hf1 hf2 hll hlz atX hd; omega)), rfl⟩) (by show 2 ≤ 6; decide)⟩
      have e1 : (((txL up l).map PyData.str).filter fun _ => true).map (fun d => match d with | .str x => PyData.str (dirnameF x) | _ => .none) = (txL up (l.map up)).map .str := by
        rw [List.filter_eq_self.mpr (fun _ _ => rfl), txL, txL, List.map_map, List.map_map, List.map_map, List.map_map]
        refine List.map_congr_left fun k hk => ?_
        show PyData.str (dirnameF (textF up k)) = PyData.str (textF up (up k))
        rw [dirname_text up hup k (hl k hk).1 (hl k hk).2]
      rw [e1]
      show WS _ _ _ (execs _ _) _
      refine WS_cons (WS_Assign (WE_ListComp (fun d => match d with | .str x => (txL up (l.map up)).any (· == x) || !(match (frL up may).lookup x with | some (.bool b) => b | _ => false) | _ => false) id (cl := [("holders", κ.L + 1 + 1 + 1), ("free", κ.L + 1 + 1)]) (by exact ⟨by rfl, by decide +kernel, rfl, by decide +kernel, rfl, (by repeat (first | exact List.forall_mem_nil _ | refine List.forall_mem_cons.mpr ⟨⟨rfl, rfl, rfl⟩, ?_⟩)), (by (try simp only [List.map_cons, List.map_nil]); decide +kernel)⟩) (WE_name rfl ⟨_, .list _ _ rfl, hlz, ?_, rfl, ?_⟩)))
      · intro hid2 C j d hd
        obtain ⟨k, hk, rfl⟩ := atX l j d hd
        have hlook := frL_look up hup may k (hl k hk).1 (hl k hk).2
        refine WB_or (WB_Compare (WE_name rfl (WE_name rfl ⟨_, .inL _ _ (txL up (l.map up)) rfl, fun h1 => ⟨?_, fun _ => WE_name rfl rfl⟩, fun h1 => ?_⟩)))
        · show true = ((txL up (l.map up)).any (· == textF up k) || _)
          rw [h1]; rfl
        · refine WB_or (WB_not (WB_plain (WE_Subscript (WE_name rfl (WE_name rfl ⟨_, .dict _ _ _ hlook, _, .bool _, fun h2 => ⟨?_, fun _ => WE_name rfl rfl⟩, fun h2 => WB_or_nil ⟨?_, fun h => (by cases h)⟩⟩)))))
          · show true = ((txL up (l.map up)).any (· == textF up k) || !(match (frL up may).lookup (textF up k) with | some (.bool b) => b | _ => false))
            rw [h1, hlook]; exact h2.symm
          · show false = ((txL up (l.map up)).any (· == textF up k) || !(match (frL up may).lookup (textF up k) with | some (.bool b) => b | _ => false))
            rw [h1, hlook]; exact h2.symm
      rw [filter_tx]
      have e2 : (l.filter fun k => (match PyData.str (textF up k) with | .str x => (txL up (l.map up)).any (· == x) || !(match (frL up may).lookup x with | some (.bool b) => b | _ => false) | _ => false)) = stayL up may l := by
        unfold stayL hold
        refine List.filter_congr fun k hk => ?_
        dsimp only
        rw [frL_look up hup may k (hl k hk).1 (hl k hk).2, any_tx up hup]
      rw [e2]
      show WS _ _ _ (execs _ _) _
      have hsl2 : (stayL up may l).length ≤ l.length := List.length_filter_le _ _
      have hparts : (ready up may l).length + (stayL up may l).length = l.length := by
        have := len_parts l fun k => may k && !hold up l k
        have e : stayL up may l = l.filter fun k => !(may k && !hold up l k) := by
          unfold stayL
          exact List.filter_congr fun k _ => by cases may k <;> cases hold up l k <;> rfl
        rw [e]; exact this
      have hrdyS : ready up may l = l.filter fun k => !(hold up l k || !may k) := by
        unfold ready
        exact List.filter_congr fun k _ => by show (may k && !hold up l k) = _; cases may k <;> cases hold up l k <;> rfl
      refine WS_cons (WS_Assign (WE_BinOp (WE_ListComp (fun d => match d with | .str x => !((txL up (stayL up may l)).any (· == x)) | _ => false) id (cl := [("stay", κ.L + 1 + 1 + 1 + 1)]) (by exact ⟨by rfl, by decide +kernel, rfl, by decide +kernel, rfl, (by repeat (first | exact List.forall_mem_nil _ | refine List.forall_mem_cons.mpr ⟨⟨rfl, rfl, rfl⟩, ?_⟩)), (by (try simp only [List.map_cons, List.map_nil]); decide +kernel)⟩) (WE_name rfl ⟨_, .list _ _ rfl, hlz, ?_, ?_⟩))))
      · intro hid2 C j d hd
        obtain ⟨k, hk, rfl⟩ := atX l j d hd
        refine WB_Compare (WE_name rfl (WE_name rfl ⟨_, .notInL _ _ (txL up (stayL up may l)) rfl, rfl, fun _ => WE_name rfl rfl⟩))
      rw [filter_tx]
      have e3 : (l.filter fun k => (match PyData.str (textF up k) with | .str x => !((txL up (stayL up may l)).any (· == x)) | _ => false)) = ready up may l := by
        rw [hrdyS]
        refine List.filter_congr fun k hk => ?_
        dsimp only
        rw [any_tx up hup]
        congr 1
        rw [Bool.eq_iff_iff, List.any_eq_true]
        exact ⟨fun ⟨j, h1, h2⟩ => (eq_of_beq h2) ▸ (List.mem_filter.mp h1).2, fun h => ⟨k, List.mem_filter.mpr ⟨hk, h⟩, by simp⟩⟩
      rw [e3]
      have e4 : (txL up (ready up may l)).map PyData.str ++ (txL up g).map .str = (txL up (ready up may l ++ g)).map .str := by simp [txL]
      refine WE_name rfl ⟨_, .addL _ _ _ _ rfl rfl (by simp [txL]; (clear hup hfin hl hg htl hn0 hln hn10 hf1 hf2 hll hlz atX e1 e2 hsl2 hrdyS e3 e4; omega)), rfl, ?_⟩
      rw [e4]
      show WS _ _ _ (execs _ _) _
      have hrow : ∀ (l' : List Nat), (∀ k ∈ l', 0 < k ∧ k < 10) → (((txL up l').map PyData.str).filter fun _ => true).map (fun d => match d with | .str x => PyData.str ((match (rowK up m).lookup x with | some (.str y) => y | _ => "") ++ Str.ofString " " ++ x) | _ => .none) = (rts up m l').map .str := fun l' hl' => by
        rw [List.filter_eq_self.mpr (fun _ _ => rfl), txL, rts, List.map_map, List.map_map, List.map_map]
        refine List.map_congr_left fun k hk => ?_
        show PyData.str ((match (rowK up m).lookup (textF up k) with | some (.str y) => y | _ => "") ++ Str.ofString " " ++ textF up k) = PyData.str (rt up m k)
        rw [Kd_look up hup _ k (hl' k hk).2]; rfl
      have hSt : ∀ k ∈ stayL up may l, 0 < k ∧ k < 10 := fun k hk => hl k (List.mem_filter.mp hk).1
      have hRd : ∀ k ∈ ready up may l, 0 < k ∧ k < 10 := fun k hk => hl k (List.mem_filter.mp hk).1
      have hRg : ∀ k ∈ ready up may l ++ g, 0 < k ∧ k < 10 := fun k hk => (List.mem_append.mp hk).elim (hRd k) (hg k)
      have elt : ∀ (l' : List Nat), (∀ k ∈ l', 0 < k ∧ k < 10) → ∀ (j : Nat) (d : PyData), ((txL up l').map PyData.str)[j]? = some d → ∃ k, k ∈ l' ∧ d = .str (textF up k) := fun l' _ => atX l'
      refine WS_cons (WS_Assign (WE_sorted (WE_ListComp (fun _ => true) (fun d => match d with | .str x => PyData.str ((match (rowK up m).lookup x with | some (.str y) => y | _ => "") ++ Str.ofString " " ++ x) | _ => .none) (cl := [("rows", κ.L + 1)]) (by exact ⟨by rfl, by decide +kernel, rfl, by decide +kernel, rfl, (by repeat (first | exact List.forall_mem_nil _ | refine List.forall_mem_cons.mpr ⟨⟨rfl, rfl, rfl⟩, ?_⟩)), (by (try simp only [List.map_cons, List.map_nil]); decide +kernel)⟩) (WE_name rfl ⟨_, .list _ _ rfl, hlz, ?_, _, .mk _ (rts up m l) (congrArg some (hrow l hl)) (by unfold rts; rw [List.length_map]; (clear hup hsl hfin hl hg hlg htl hn0 hf1 hf2 hll hlz atX e1 e2 hsl2 hparts hrdyS e3 e4 hrow hSt hRd hRg elt; omega)), rfl, ?_⟩))))
      · intro hid2 C j d hd
        obtain ⟨k, hk, rfl⟩ := atX l j d hd
        have hlook := Kd_look up hup (fun k => PyData.str (S (rowL (m k)))) k (hl k hk).2
        have := textF_len up k (hl k hk).2
        refine ⟨rfl, fun _ => WE_BinOp (WE_BinOp (WE_Subscript (WE_name rfl (WE_name rfl ⟨_, .dict _ _ _ hlook, WE_str ⟨_, .addS _ _ (by rw [S_length, rowL_len, show (Str.ofString " ").length = 1 from rfl]; decide), WE_name rfl ⟨_, .addS _ _ (by rw [Str.length_append, S_length, rowL_len, show (Str.ofString " ").length = 1 from rfl]; (clear hup hfin hl hg hlg htl hn0 hln hn10 hf1 hf2 hll hlz atX e1 e2 hsl2 hparts hrdyS e3 e4 hrow hSt hRd hRg elt hd hlook; omega)), ?_⟩⟩⟩))))⟩
        show AV.D (PyData.str _) = AV.D (PyData.str ((match (rowK up m).lookup (textF up k) with | some (.str y) => y | _ => "") ++ Str.ofString " " ++ textF up k))
        rw [show (rowK up m).lookup (textF up k) = _ from hlook]
      show WS _ _ _ (execs _ _) _
      refine WS_cons (WS_Assign (WE_sorted (WE_ListComp (fun _ => true) (fun d => match d with | .str x => PyData.str ((match (rowK up m).lookup x with | some (.str y) => y | _ => "") ++ Str.ofString " " ++ x) | _ => .none) (cl := [("rows", κ.L + 1)]) (by exact ⟨by rfl, by decide +kernel, rfl, by decide +kernel, rfl, (by repeat (first | exact List.forall_mem_nil _ | refine List.forall_mem_cons.mpr ⟨⟨rfl, rfl, rfl⟩, ?_⟩)), (by (try simp only [List.map_cons, List.map_nil]); decide +kernel)⟩) (WE_name rfl ⟨_, .list _ _ rfl, by simp [txL]; (clear hup hfin hl hg hlg htl hn0 hf1 hf2 hll hlz atX e1 e2 hsl2 hrdyS e3 e4 hrow hSt hRd hRg elt; omega), ?_, _, .mk _ (rts up m (stayL up may l)) (congrArg some (hrow _ hSt)) (by unfold rts; rw [List.length_map]; (clear hup hsl hfin hl hg hlg htl hn0 hf1 hf2 hll hlz atX e1 e2 hsl2 hrdyS e3 e4 hrow hSt hRd hRg elt; omega)), rfl, ?_⟩))))
      · intro hid2 C j d hd
        obtain ⟨k, hk, rfl⟩ := atX _ j d hd
        have hk9 := (hSt k hk).2
        have hlook := Kd_look up hup (fun k => PyData.str (S (rowL (m k)))) k hk9
        have := textF_len up k hk9
        refine ⟨rfl, fun _ => WE_BinOp (WE_BinOp (WE_Subscript (WE_name rfl (WE_name rfl ⟨_, .dict _ _ _ hlook, WE_str ⟨_, .addS _ _ (by rw [S_length, rowL_len, show (Str.ofString " ").length = 1 from rfl]; decide), WE_name rfl ⟨_, .addS _ _ (by rw [Str.length_append, S_length, rowL_len, show (Str.ofString " ").length = 1 from rfl]; (clear hup hfin hl hg hlg htl hn0 hln hn10 hf1 hf2 hll hlz atX e1 e2 hsl2 hparts hrdyS e3 e4 hrow hSt hRd hRg elt hd hk9 hlook; omega)), ?_⟩⟩⟩))))⟩
        show AV.D (PyData.str _) = AV.D (PyData.str ((match (rowK up m).lookup (textF up k) with | some (.str y) => y | _ => "") ++ Str.ofString " " ++ textF up k))
        rw [show (rowK up m).lookup (textF up k) = _ from hlook]
      show WS _ _ _ (execs _ _) _
      have hcon := con_diff (Γ := Γ) up m hup (fun k => hold up l k || !may k) l hnd (by (clear hup hsl hfin hl hg hlg htl hn0 hf1 hf2 hll hlz atX e1 e2 hsl2 hparts hrdyS e3 e4 hrow hSt hRd hRg elt; omega))
      rw [← hrdyS] at hcon
      refine WS_cons (WS_AssignS (WES_callS (outer := outer) rfl fn_sld rfl (WA_cons (WE_name rfl (WA_cons (WE_name rfl (WA_nil ⟨_, hcon, rfl, ?_⟩))))) (by show 1 ≤ 6; decide)))
      show WS _ _ _ (execs _ _) _
      have hgl : ((txL up (ready up may l ++ g)).map PyData.str).length = (ready up may l ++ g).length := by simp [txL]
      have hgl2 : (ready up may l ++ g).length ≤ 9 := by rw [List.length_append]; (clear hup hsl hfin hl hg htl hn0 hln hn10 hf1 hf2 hll hlz atX e1 e2 hsl2 hrdyS e3 e4 hrow hSt hRd hRg elt hgl; omega)
      have hge : ((txL up (ready up may l ++ g)).map PyData.str).isEmpty = (ready up may l ++ g).isEmpty := by
        cases ready up may l ++ g <;> rfl
      refine WS_cons (WS_append (x := "told") rfl (by (clear hup hfin hl hg hlg hn0 hln hn10 hf1 hf2 hll hlz atX e1 e2 hsl2 hparts hrdyS e3 e4 hrow hSt hRd hRg elt hgl hgl2 hge; omega)) rfl (WE_List (WA_cons (WE_name rfl (WA_cons (WE_name rfl (WA_cons (WE_name rfl (WA_cons (WE_is (.D (.str (if (ready up may l ++ g).isEmpty then "" else textF up (meetF up (ready up may l ++ g))))) ?_ (WA_nil ⟨_, rfl, by show 4 ≤ sizeLine; decide, _, rfl, ?_⟩)))))))))))
      · refine WE_IfExp (WB_plain (WE_name rfl ⟨_, .list _ _ rfl (by rw [hgl]; (clear hup hfin hl hg hlg htl hn0 hln hn10 hf1 hf2 hll hlz atX e1 e2 hsl2 hparts hrdyS e3 e4 hrow hSt hRd hRg elt hgl hge; omega)), fun h => ?_, fun h => ?_⟩))
        · rw [hge] at h
          have hne : ready up may l ++ g ≠ [] := by intro e; rw [e] at h; cases h
          refine WE_call1 fn_commonpath (WE_name rfl ⟨_, con_commonpath up hup _ hne hRg (by (clear hup hsl hfin hl hg hlg htl hn0 hln hn10 hf1 hf2 hll hlz atX e1 e2 hsl2 hparts hrdyS e3 e4 hrow hSt hRd hRg elt hgl hge h hne; omega)), ?_⟩) (by show 6 ≤ 6; decide)
          rw [if_neg (by intro e; rw [e] at h; cases h)]
        · rw [hge] at h
          refine WE_str ?_
          rw [if_pos (by simpa using h)]
      show WS _ _ _ (execs _ _) _
      have hsl3 : ((txL up (stayL up may l)).map PyData.str).length = (stayL up may l).length := by simp [txL]
      have hll3 : ((txL up l).map PyData.str).length = l.length := by simp [txL]
      refine WS_cons (WS_Assign (WE_Compare (WE_len (WE_name rfl ⟨_, .list _ _ rfl (by rw [hsl3]; (clear hup hsl hfin hl hg hlg htl hn0 hln hn10 hf1 hf2 hll atX e1 e2 hsl2 hrdyS e3 e4 hrow hSt hRd hRg elt hgl hgl2 hge hsl3; omega)), ?_⟩))))
      refine WE_len (WE_name rfl ⟨_, .list _ _ rfl (by rw [hll3]; (clear hup hsl hfin hl hg hlg htl hn0 hln hn10 hf1 hf2 hll atX e1 e2 hsl2 hparts hrdyS e3 e4 hrow hSt hRd hRg elt hgl hgl2 hge hsl3; omega)), _, .ltI _ _, rfl, ?_⟩)
      rw [hsl3, hll3]
      show WS _ _ _ (execs _ _) _
      refine WS_cons (WS_Assign (WE_name rfl ⟨rfl, ?_⟩))
      refine WS_end (tuSt up m may a1 (tl ++ [rowD up m (ready up may l) l (stayL up may l) (ready up may l ++ g)]) (ready up may l ++ g) (stayL up may l) (decide (((stayL up may l).length : Int) < (l.length : Int)))) ⟨rfl, rfl, rfl, rfl, rfl, rfl, rfl, trivial⟩ ?_ (by show (["paths", "rows", "free", "told", "gone", "left", "more"] : List Str).Nodup; decide +kernel)
      by_cases hlt : (stayL up may l).length < l.length
      · rw [tR, if_pos hlt] at hf1 hf2
        refine ⟨n, by exact Nat.le_refl _, tl ++ [rowD up m (ready up may l) l (stayL up may l) (ready up may l ++ g)], stayL up may l, ready up may l ++ g, ⟨hnd.sublist (show (stayL up may l).Sublist l from List.filter_sublist), hSt, hRg, by rw [List.length_append]; (clear hup hsl hfin hl hg htl hn0 hln hn10 hf1 hf2 hll hlz atX e1 e2 hsl2 hrdyS e3 e4 hrow hSt hRd hRg elt hgl hgl2 hge hsl3 hll3 hlt; omega), by rw [List.length_append, List.length_singleton]; (clear hup hsl hfin hl hg hlg hn0 hln hf1 hf2 hll hlz atX e1 e2 hsl2 hparts hrdyS e3 e4 hrow hSt hRd hRg elt hgl hgl2 hge hsl3 hll3 hlt; omega)⟩, .inl ⟨by (clear hup hsl hfin hl hg hlg htl hn0 hn10 hf1 hf2 hll hlz atX e1 e2 hsl2 hparts hrdyS e3 e4 hrow hSt hRd hRg elt hgl hgl2 hge hsl3 hll3; omega), by (clear hup hsl hfin hl hg hlg htl hn0 hn10 hf1 hf2 hll hlz atX e1 e2 hsl2 hparts hrdyS e3 e4 hrow hSt hRd hRg elt hgl hgl2 hge hsl3 hll3; omega), by (clear hup hsl hfin hl hg hlg htl hn0 hln hf1 hf2 hll hlz atX e1 e2 hsl2 hparts hrdyS e3 e4 hrow hSt hRd hRg elt hgl hgl2 hge hsl3 hll3 hlt; omega), ?_, hf2, ?_⟩⟩
        · rw [← hf1, List.append_assoc]; rfl
        · rw [decide_eq_true (by (clear hup hsl hfin hl hg hlg htl hn0 hln hn10 hf1 hf2 hll hlz atX e1 e2 hsl2 hparts hrdyS e3 e4 hrow hSt hRd hRg elt hgl hgl2 hge hsl3 hll3; omega))]
      · rw [tR, if_neg hlt] at hf1 hf2
        refine ⟨0, by assumption, tl ++ [rowD up m (ready up may l) l (stayL up may l) (ready up may l ++ g)], stayL up may l, ready up may l ++ g, ⟨hnd.sublist (show (stayL up may l).Sublist l from List.filter_sublist), hSt, hRg, by rw [List.length_append]; (clear hup hsl hfin hl hg htl hn0 hln hn10 hf1 hf2 hll hlz atX e1 e2 hsl2 hrdyS e3 e4 hrow hSt hRd hRg elt hgl hgl2 hge hsl3 hll3 hlt; omega), by rw [List.length_append, List.length_singleton]; (clear hup hsl hfin hl hg hlg hn0 hln hn10 hf1 hf2 hll hlz atX e1 e2 hsl2 hparts hrdyS e3 e4 hrow hSt hRd hRg elt hgl hgl2 hge hsl3 hll3 hlt; omega)⟩, .inr ⟨rfl, hf1, hf2, ?_⟩⟩
        rw [decide_eq_false (by (clear hup hsl hfin hl hg hlg htl hn0 hln hn10 hf1 hf2 hll hlz atX e1 e2 hsl2 hparts hrdyS e3 e4 hrow hSt hRd hRg elt hgl hgl2 hge hsl3 hll3; omega))]
    · refine WB_plain (WE_name rfl ⟨_, .bool _, fun h => (by cases h), fun _ => WS_nil ?_⟩)
      show WS _ _ _ (execs _ _) _
      subst hf1 hf2
      refine WS_cons (WS_freeze (x := "told") rfl (WS_Return (WE_Tuple (WA_cons (WE_name rfl (WA_cons (WE_name rfl (WA_nil ⟨_, rfl, by show 2 ≤ sizeLine; decide, rfl⟩))))))))
end
end Mine
end
section
open PySem PySem.Calls PyProof.Rows
namespace Mine
section
variable {Γ : Gx} {c : Cx} {st : St} {s s0 s1 : Shared}
theorem fn_law_wanted : isFn "_law_wanted" := by unfold isFn; decide +kernel
theorem meetF_lt (up : Nat → Nat) (ks : List Nat) (h : ∀ k ∈ ks, k < 10) : meetF up ks < 10 := by
  match ks with
  | [] => show 0 < 10; decide
  | a :: r =>
    have : ∀ (l : List Nat) (a : Nat), a < 10 → (∀ x ∈ l, x < 10) → l.foldl (meet2 up) a < 10 := by
      intro l
      induction l with
      | nil => intro a h _; exact h
      | cons x l ih => intro a h hx; exact ih _ (meet2_lt up 10 _ a x rfl h (hx x (.head _))) fun y hy => hx y (.tail _ hy)
    exact this r a (h a (.head _)) fun x hx => h x (.tail _ hx)
noncomputable def txs (up m : Nat → Nat) : List PyData := (List.range 10).map fun k => .str (rt up m k)
theorem txs_at (up m : Nat → Nat) (k : Nat) (hk : k < 10) : (txs up m)[k]? = some (.str (rt up m k)) := by
  simp [txs, List.getElem?_map, List.getElem?_range hk]
noncomputable def waSt (up m T : Nat → Nat) (a1 : Addr) (wl : List PyData) (g l : List Nat) : St :=
  [("above", .D (.list (natsL up))), ("modes", .D (.list (natsL m))), ("turns", .D (.list (natsL T))), ("texts", .D (.list (txs up m))), ("wanted", .M a1 wl), ("gone", .D (.list (intL g))), ("left", .D (.list (intL l)))]
theorem filter_int (p : PyData → Bool) (l : List Nat) : ((intL l).filter p).map id = intL (l.filter fun k => p (.int (k : Nat))) := by
  rw [List.map_id, intL, intL, List.filter_map]; rfl
inductive WaQ (up m T : Nat → Nat) (a1 : Addr) (fin : List PyData × List Nat) (fl : Fl) (st : St) : Prop
  | mk (hfl : fl = .next) (g : List Nat) (h1 : ∀ k ∈ fin.2, k < 10) (h2 : fin.2.length ≤ 9) (e : st = waSt up m T a1 fin.1 g fin.2)
inductive WaI (up m T : Nat → Nat) (a1 : Addr) (fin : List PyData × List Nat) (i : Nat) (st : St) : Prop
  | mk (wl : List PyData) (l g : List Nat) (h : (∀ k ∈ l, k < 10) ∧ (∀ k ∈ g, k < 10) ∧ g.length + l.length ≤ 9 ∧ wl.length ≤ i) (h1 : wl ++ (wR up m T (10 - i) (i + 1) l g).1 = fin.1) (h2 : (wR up m T (10 - i) (i + 1) l g).2 = fin.2) (e : st = waSt up m T a1 wl g l)
theorem con_law_wanted (up m T : Nat → Nat) (hup : ∀ k, 0 < k → up k < k) :
    Con Γ 2 "_law_wanted" [.D (.list (natsL up)), .D (.list (natsL m)), .D (.list (natsL T))] (.D (.tuple [.list (wR up m T 10 1 (upto 1 10) []).1, .list ((txL up (wR up m T 10 1 (upto 1 10) []).2).map .str)])) := by
  have hsl : sizeLine = 2 ^ 24 := rfl
  have it : ∀ (f : Nat → Nat) (i : Nat), i < 10 → Itm (.D (.list (natsL f))) (.D (.int i)) (.D (.int (f i))) := fun f i hi => .list _ (natsL f) _ (.int (f i)) rfl (by (clear hup hsl hi; omega)) (natsL_at f i hi) (by rw [natsL_len]; decide)
  have itT : ∀ (i : Nat), i < 10 → Itm (.D (.list (txs up m))) (.D (.int i)) (.D (.str (rt up m i))) := fun i hi => .list _ (txs up m) _ (.str (rt up m i)) rfl (by (clear hup hsl it hi; omega)) (txs_at up m i hi) (by simp [txs]; decide)
  refine con_fn (j := 23) ["above", "modes", "turns"] (by rfl) rfl rfl rfl ?_ (by decide +kernel) (by decide +kernel) ?_ rfl rfl rfl
  · exact fun pm cd doc => len3 fun v u x => rfl
  · intro κ
    refine WS_cons (WS_Assign (WE_ListComp (fun _ => true) (fun d => match d with | .int k => .str (rt up m k.toNat) | _ => .none) (cl := [("modes", κ.L + 1 + 1), ("above", κ.L + 1)]) (by exact ⟨by rfl, by decide +kernel, rfl, by decide +kernel, rfl, (by repeat (first | exact List.forall_mem_nil _ | refine List.forall_mem_cons.mpr ⟨⟨rfl, rfl, rfl⟩, ?_⟩)), (by (try simp only [List.map_cons, List.map_nil]); decide +kernel)⟩) (WE_range1 (WE_int ⟨_, .one _, rangeDs 0 10 1, .range _ _ _ (by decide), by decide, ?_, rfl, ?_⟩))))
    · intro hid2 C j d hd
      obtain ⟨rfl, hj⟩ := rangeDs_at hd
      have hj : j < 10 := by omega
      have := textF_len up j hj
      rw [show (0 : Int) + (j : Int) = ((j : Nat) : Int) by omega]
      refine ⟨rfl, fun _ => WE_BinOp (WE_BinOp (WE_call1 fn_law_row (WE_Subscript (WE_name rfl (WE_name rfl ⟨_, it m j hj, _, con_law_row _, WE_str ⟨_, .addS _ _ (by rw [S_length, rowL_len, show (Str.ofString " ").length = 1 from rfl]; decide), ?_⟩⟩))) (by show 1 ≤ 1; decide)))⟩
      refine WE_call fn_law_text (WA_cons (WE_name rfl (WA_cons (WE_name rfl (WA_nil ⟨_, con_law_text up hup j hj, _, .addS _ _ (by rw [Str.length_append, S_length, rowL_len, show (Str.ofString " ").length = 1 from rfl]; omega), ?_⟩))))) (by show 1 ≤ 1; decide)
      show AV.D (PyData.str _) = AV.D (PyData.str (rt up m ((j : Nat) : Int).toNat))
      rw [Int.toNat_natCast]; rfl
    have e0 : ((rangeDs 0 10 1).filter fun _ => true).map (fun d => match d with | .int k => PyData.str (rt up m k.toNat) | _ => .none) = txs up m := by rfl
    rw [e0]
    show WS _ _ _ (execs _ _) _
    refine WS_cons (WS_AssignNew (WN_List (WA_nil ⟨_, rfl, by decide, by simp, fun a1 => ?_⟩)))
    show WS _ _ _ (execs _ _) _
    refine WS_cons (WS_AssignNew (WN_List (WA_nil ⟨_, rfl, by decide, by simp, fun a2 => ?_⟩)))
    show WS _ _ _ (execs _ _) _
    refine WS_cons (WS_freeze (x := "gone") rfl (WS_AssignComp (fun _ => true) id (cl := []) (by exact ⟨by rfl, by decide +kernel, rfl, by decide +kernel, rfl, (by repeat (first | exact List.forall_mem_nil _ | refine List.forall_mem_cons.mpr ⟨⟨rfl, rfl, rfl⟩, ?_⟩)), (by (try simp only [List.map_cons, List.map_nil]); decide +kernel)⟩) (WE_range2 (WE_int (WE_int ⟨_, .two _ _, rangeDs 1 10 1, .range _ _ _ (by decide), by decide, ?_, rfl, ?_⟩)))))
    · intro hid2 C j d hd
      exact ⟨rfl, fun _ => WE_name rfl rfl⟩
    have e1 : ((rangeDs 1 10 1).filter fun _ => true).map id = intL (upto 1 10) := by rfl
    rw [e1]
    show WS _ _ _ (execs _ _) _
    generalize hfin : wR up m T 10 1 (upto 1 10) [] = fin
    refine WS_cons (WS.mono (WS_For (Q := WaQ up m T a1 fin) (fun _ => WaI up m T a1 fin) ?_) ?_)
    · refine WE_range2 (WE_int (WE_int ⟨_, .two _ _, rfl, rangeDs 1 11 1, .range _ _ _ (by decide), ?_, ?_, ?_, ?_⟩))
      · exact ⟨[], upto 1 10, [], ⟨fun k hk => by have := mem_upto.mp hk; omega, by simp, by decide, Nat.le_refl _⟩, by rw [← hfin]; rfl, by rw [← hfin], rfl⟩
      · rintro i st1 ⟨wl, l, g, _, _, _, rfl⟩; rfl
      · rintro hid2 i d st1 hd ⟨wl, l, g, ⟨hl, hg, hlg, hwl⟩, hf1, hf2, rfl⟩
        obtain ⟨rfl, hi⟩ := rangeDs_at hd
        have hi10 : i < 10 := by (clear hup hsl it itT e0 e1 hfin hl hg hlg hwl hf1 hf2 hd; omega)
        rw [show (1 : Int) + (i : Int) = ((i + 1 : Nat) : Int) by (clear hup hsl it itT e0 e1 hfin hl hg hlg hwl hf1 hf2 hi hd hi10; omega)]
        generalize hr : i + 1 = r at *
        have hlz : (intL l).length ≤ sizeLine := by rw [intL_len]; omega
        refine WS_cons (WS_AssignComp (fun d => match d with | .int k => (T k.toNat : Int) == ((r : Nat) : Int) | _ => false) id (cl := [("turns", κ.L + 1 + 1 + 1), ("turn", κ.L + 1 + 1 + 1 + 1 + 1)]) (by exact ⟨by rfl, by decide +kernel, rfl, by decide +kernel, rfl, (by repeat (first | exact List.forall_mem_nil _ | refine List.forall_mem_cons.mpr ⟨⟨rfl, rfl, rfl⟩, ?_⟩)), (by (try simp only [List.map_cons, List.map_nil]); decide +kernel)⟩) (WE_name rfl ⟨_, .list _ _ rfl, hlz, ?_, rfl, ?_⟩))
        · intro hid2 C j d hd
          obtain ⟨k, hk, rfl⟩ := intL_at hd
          refine WB_Compare (WE_Subscript (WE_name rfl (WE_name rfl ⟨_, it T k (hl k (List.mem_of_getElem? hk)), WE_name rfl ⟨_, .eqI _ _, ?_, fun _ => WE_name rfl rfl⟩⟩)))
          show ((T k : Int) == ((r : Nat) : Int)) = ((T ((k : Nat) : Int).toNat : Int) == ((r : Nat) : Int))
          rw [Int.toNat_natCast]
        have en : (l.filter fun k => (match PyData.int ((k : Nat) : Int) with | .int k => (T k.toNat : Int) == ((r : Nat) : Int) | _ => false)) = l.filter fun k => T k == r := by
          refine List.filter_congr fun k _ => ?_
          show ((T ((k : Nat) : Int).toNat : Int) == ((r : Nat) : Int)) = (T k == r)
          rw [Int.toNat_natCast, Bool.eq_iff_iff, beq_iff_eq, beq_iff_eq]; (clear hup hsl it itT e0 e1 hfin hl hg hlg hwl hi hd hi10 hr hf1 hf2 hlz; omega)
        rw [filter_int, en]
        show WS _ _ _ (execs _ _) _
        refine WS_cons (WS_AssignComp (fun d => match d with | .int k => (T k.toNat : Int) != ((r : Nat) : Int) | _ => false) id (cl := [("turns", κ.L + 1 + 1 + 1), ("turn", κ.L + 1 + 1 + 1 + 1 + 1)]) (by exact ⟨by rfl, by decide +kernel, rfl, by decide +kernel, rfl, (by repeat (first | exact List.forall_mem_nil _ | refine List.forall_mem_cons.mpr ⟨⟨rfl, rfl, rfl⟩, ?_⟩)), (by (try simp only [List.map_cons, List.map_nil]); decide +kernel)⟩) (WE_name rfl ⟨_, .list _ _ rfl, hlz, ?_, rfl, ?_⟩))
        · intro hid2 C j d hd
          obtain ⟨k, hk, rfl⟩ := intL_at hd
          refine WB_Compare (WE_Subscript (WE_name rfl (WE_name rfl ⟨_, it T k (hl k (List.mem_of_getElem? hk)), WE_name rfl ⟨_, .neI _ _, ?_, fun _ => WE_name rfl rfl⟩⟩)))
          show ((T k : Int) != ((r : Nat) : Int)) = ((T ((k : Nat) : Int).toNat : Int) != ((r : Nat) : Int))
          rw [Int.toNat_natCast]
        have es : (l.filter fun k => (match PyData.int ((k : Nat) : Int) with | .int k => (T k.toNat : Int) != ((r : Nat) : Int) | _ => false)) = l.filter fun k => T k != r := by
          refine List.filter_congr fun k _ => ?_
          show ((T ((k : Nat) : Int).toNat : Int) != ((r : Nat) : Int)) = (T k != r)
          rw [Int.toNat_natCast, Bool.eq_iff_iff, bne_iff_ne, bne_iff_ne]; (clear hup hsl it itT e0 e1 hfin hl hg hlg hwl hi hd hi10 hr hf1 hf2 hlz en; omega)
        rw [filter_int, es]
        show WS _ _ _ (execs _ _) _
        have hparts : (l.filter fun k => T k == r).length + (l.filter fun k => T k != r).length = l.length := len_parts l fun k => T k == r
        have hwR : wR up m T (10 - i) r l g = wR up m T ((10 - r) + 1) r l g := by rw [show 10 - i = (10 - r) + 1 by (clear hup hsl it itT e0 e1 hfin hl hg hlg hwl hi hd hf1 hf2 hlz en es hparts; omega)]
        rw [hwR, wR] at hf1 hf2
        generalize hnow : (l.filter fun k => T k == r) = now at *
        generalize hstay : (l.filter fun k => T k != r) = stay at *
        have hN : ∀ k ∈ now, k < 10 := fun k hk => hl k (by rw [← hnow] at hk; exact (List.mem_filter.mp hk).1)
        have hS : ∀ k ∈ stay, k < 10 := fun k hk => hl k (by rw [← hstay] at hk; exact (List.mem_filter.mp hk).1)
        have hG : ∀ k ∈ g ++ now, k < 10 := fun k hk => (List.mem_append.mp hk).elim (hg k) (hN k)
        refine WS_cons (WS_Assign (WE_BinOp (WE_name rfl (WE_name rfl ⟨_, .addL _ _ _ _ rfl rfl (by rw [intL_len, intL_len]; (clear hup it itT e0 e1 hfin hl hg hwl hi hd hi10 hr hlz hwR hnow en hstay es hf1 hf2 hN hS hG; omega)), rfl, ?_⟩))))
        rw [show intL g ++ intL now = intL (g ++ now) by simp [intL]]
        show WS _ _ _ (execs _ _) _
        refine WS_cons (WS_Assign (WE_is (.D (.str (if (g ++ now).isEmpty then "" else textF up (meetF up (g ++ now))))) ?_ ⟨rfl, ?_⟩))
        · refine WE_IfExp (WB_plain (WE_name rfl ⟨_, .list _ _ rfl (by rw [intL_len, List.length_append]; (clear hup it itT e0 e1 hfin hl hg hwl hi hd hi10 hr hlz hwR hnow en hstay es hf1 hf2 hN hS hG; omega)), ?_⟩))
          cases hgn : g ++ now with
          | nil => exact ⟨fun h => (by cases h), fun _ => WE_str rfl⟩
          | cons p ps =>
            refine ⟨fun _ => ?_, fun h => (by cases h)⟩
            have hps : ps.length < 100 := by have := congrArg List.length hgn; rw [List.length_append, List.length_cons] at this; (clear hup hsl it itT e0 e1 hfin hl hg hwl hi hd hi10 hr hlz hwR hnow en hstay es hf1 hf2 hN hS hG hgn; omega)
            rw [hgn] at hG
            refine WE_call fn_law_text (WA_cons (WE_call fn_law_meet (WA_cons (WE_name rfl (WA_cons (WE_name rfl (WA_nil ⟨_, con_law_meet up hup p ps (hG p (.head _)) (fun x hx => hG x (.tail _ hx)) hps, ?_⟩))))) (by show 1 ≤ 1; decide))) (by show 1 ≤ 1; decide)
            exact WA_cons (WE_name rfl (WA_nil ⟨_, con_law_text up hup _ (meetF_lt up _ hG), rfl⟩))
        show WS _ _ _ (execs _ _) _
        have hrow : ∀ l' : List Nat, ((intL l').filter fun _ => true).map (fun d => match d with | .int k => PyData.str (rt up m k.toNat) | _ => .none) = (rts up m l').map .str := fun l' => by
          rw [List.filter_eq_self.mpr (fun _ _ => rfl), intL, rts, List.map_map, List.map_map]
          refine List.map_congr_left fun k _ => ?_
          show PyData.str (rt up m ((k : Nat) : Int).toNat) = PyData.str (rt up m k)
          rw [Int.toNat_natCast]
        refine WS_cons (WS_append (x := "wanted") rfl (by (clear hup it itT e0 e1 hfin hl hg hlg hi hd hr hlz hwR hnow en hstay es hf1 hf2 hparts hN hS hG hrow; omega)) rfl (WE_List (WA_cons ?_)))
        refine WE_Tuple (WA_cons (WE_sorted (WE_ListComp (fun _ => true) (fun d => match d with | .int k => PyData.str (rt up m k.toNat) | _ => .none) (cl := [("texts", κ.L + 1 + 1 + 1 + 1)]) (by exact ⟨by rfl, by decide +kernel, rfl, by decide +kernel, rfl, (by repeat (first | exact List.forall_mem_nil _ | refine List.forall_mem_cons.mpr ⟨⟨rfl, rfl, rfl⟩, ?_⟩)), (by (try simp only [List.map_cons, List.map_nil]); decide +kernel)⟩) (WE_name rfl ⟨_, .list _ _ rfl, by rw [intL_len]; (clear hup it itT e0 e1 hfin hl hg hwl hi hd hi10 hr hlz hwR hnow en hstay es hf1 hf2 hN hS hG hrow; omega), ?_, _, .mk _ (rts up m now) (congrArg some (hrow now)) (by unfold rts; rw [List.length_map]; (clear hup hsl it itT e0 e1 hfin hl hg hwl hi hd hi10 hr hlz hwR hnow en hstay es hf1 hf2 hN hS hG hrow; omega)), WA_cons (WE_List (WA_nil ⟨_, rfl, by decide, WA_nil ⟨_, rfl, by show 2 ≤ sizeLine; decide, ?_⟩⟩))⟩))))
        · intro hid2 C j d hd
          obtain ⟨k, hk, rfl⟩ := intL_at hd
          refine ⟨rfl, fun _ => WE_Subscript (WE_name rfl (WE_name rfl ⟨_, itT k (hN k (List.mem_of_getElem? hk)), ?_⟩))⟩
          show AV.D (PyData.str (rt up m k)) = AV.D (PyData.str (rt up m ((k : Nat) : Int).toNat))
          rw [Int.toNat_natCast]
        refine WA_cons (WE_sorted (WE_ListComp (fun _ => true) (fun d => match d with | .int k => PyData.str (rt up m k.toNat) | _ => .none) (cl := [("texts", κ.L + 1 + 1 + 1 + 1)]) (by exact ⟨by rfl, by decide +kernel, rfl, by decide +kernel, rfl, (by repeat (first | exact List.forall_mem_nil _ | refine List.forall_mem_cons.mpr ⟨⟨rfl, rfl, rfl⟩, ?_⟩)), (by (try simp only [List.map_cons, List.map_nil]); decide +kernel)⟩) (WE_name rfl ⟨_, .list _ _ rfl, by rw [intL_len]; (clear hup it itT e0 e1 hfin hl hg hwl hi hd hi10 hr hlz hwR hnow en hstay es hf1 hf2 hparts hN hS hG hrow; omega), ?_, _, .mk _ (rts up m l) (congrArg some (hrow l)) (by unfold rts; rw [List.length_map]; (clear hup hsl it itT e0 e1 hfin hl hg hwl hi hd hi10 hr hlz hwR hnow en hstay es hf1 hf2 hparts hN hS hG hrow; omega)), ?_⟩)))
        · intro hid2 C j d hd
          obtain ⟨k, hk, rfl⟩ := intL_at hd
          refine ⟨rfl, fun _ => WE_Subscript (WE_name rfl (WE_name rfl ⟨_, itT k (hl k (List.mem_of_getElem? hk)), ?_⟩))⟩
          show AV.D (PyData.str (rt up m k)) = AV.D (PyData.str (rt up m ((k : Nat) : Int).toNat))
          rw [Int.toNat_natCast]
        refine WA_cons (WE_sorted (WE_ListComp (fun _ => true) (fun d => match d with | .int k => PyData.str (rt up m k.toNat) | _ => .none) (cl := [("texts", κ.L + 1 + 1 + 1 + 1)]) (by exact ⟨by rfl, by decide +kernel, rfl, by decide +kernel, rfl, (by repeat (first | exact List.forall_mem_nil _ | refine List.forall_mem_cons.mpr ⟨⟨rfl, rfl, rfl⟩, ?_⟩)), (by (try simp only [List.map_cons, List.map_nil]); decide +kernel)⟩) (WE_name rfl ⟨_, .list _ _ rfl, by rw [intL_len]; (clear hup it itT e0 e1 hfin hl hg hwl hi hd hi10 hr hlz hwR hnow en hstay es hf1 hf2 hN hS hG hrow; omega), ?_, _, .mk _ (rts up m stay) (congrArg some (hrow stay)) (by unfold rts; rw [List.length_map]; (clear hup hsl it itT e0 e1 hfin hl hg hwl hi hd hi10 hr hlz hwR hnow en hstay es hf1 hf2 hN hS hG hrow; omega)), WA_cons (WE_name rfl (WA_nil ⟨_, rfl, by show 4 ≤ sizeLine; decide, _, rfl, ?_⟩))⟩)))
        · intro hid2 C j d hd
          obtain ⟨k, hk, rfl⟩ := intL_at hd
          refine ⟨rfl, fun _ => WE_Subscript (WE_name rfl (WE_name rfl ⟨_, itT k (hS k (List.mem_of_getElem? hk)), ?_⟩))⟩
          show AV.D (PyData.str (rt up m k)) = AV.D (PyData.str (rt up m ((k : Nat) : Int).toNat))
          rw [Int.toNat_natCast]
        show WS _ _ _ (execs _ _) _
        refine WS_cons (WS_Assign (WE_name rfl ⟨rfl, ?_⟩))
        show WS _ _ _ (execs _ _) _
        have hnd : ((waSt up m T a1 (wl ++ [rowD up m now l stay (g ++ now)]) (g ++ now) stay).map (·.1)).Nodup := by
          show (["above", "modes", "turns", "texts", "wanted", "gone", "left"] : List Str).Nodup
          decide +kernel
        refine WS_cons (WS_If (WB_not (WB_plain (WE_name rfl ⟨_, .list _ _ rfl (by rw [intL_len]; (clear hup it itT e0 e1 hfin hl hg hwl hi hd hi10 hr hlz hwR hnow en hstay es hf1 hf2 hN hS hG hrow; omega)), ?_⟩))))
        refine ⟨fun h => ?_, fun h => ?_⟩
        · have h0 : now = [] := by
            cases hq : now with
            | nil => rfl
            | cons a b => rw [hq] at h; cases h
          rw [if_pos (by rw [h0]; rfl)] at hf1 hf2
          refine WS_weak (waSt up m T a1 (wl ++ [rowD up m now l stay (g ++ now)]) (g ++ now) stay) ⟨rfl, rfl, rfl, rfl, rfl, rfl, rfl, trivial⟩ (WS_cons (WS_Break ?_)) hnd
          have hf2 : stay = fin.2 := hf2
          have hf1 : wl ++ [rowD up m now l stay (g ++ now)] = fin.1 := hf1
          rw [hf1, hf2]
          exact ⟨rfl, g ++ now, hf2 ▸ hS, by rw [← hf2]; omega, rfl⟩
        · have h0 : now.isEmpty = false := by
            cases hq : now with
            | nil => rw [hq] at h; cases h
            | cons a b => rfl
          rw [h0] at hf1 hf2
          simp only [Bool.false_eq_true, if_false] at hf1 hf2
          refine WS_nil (WS_end (waSt up m T a1 (wl ++ [rowD up m now l stay (g ++ now)]) (g ++ now) stay) ⟨rfl, rfl, rfl, rfl, rfl, rfl, rfl, trivial⟩ ⟨_, stay, g ++ now, ⟨hS, hG, by rw [List.length_append]; (clear hup hsl it itT e0 e1 hfin hl hg hwl hi hd hi10 hr hlz hwR hnow en hstay es hN hS hG hrow h h0 hf1 hf2; omega), by rw [List.length_append, List.length_singleton]; (clear hup hsl it itT e0 e1 hfin hl hg hlg hi hd hi10 hlz hwR hnow en hstay es hparts hN hS hG hrow h h0 hf1 hf2; omega)⟩, ?_, hf2, rfl⟩ hnd)
          rw [List.append_assoc]; exact hf1
      · rintro hid2 st1 ⟨wl, l, g, ⟨hl, hg, hlg, hwl⟩, hf1, hf2, rfl⟩
        have h10 : (rangeDs 1 11 1).length = 10 := by decide
        rw [h10] at hf1 hf2
        have hf1 : wl ++ [] = fin.1 := hf1
        have hf2 : l = fin.2 := hf2
        rw [List.append_nil] at hf1
        refine WS_nil ?_
        rw [hf1, hf2]
        exact ⟨rfl, g, hf2 ▸ hl, by rw [← hf2]; omega, rfl⟩
    · rintro fl st1 ⟨rfl, g, hl, hll, rfl⟩
      show WS _ _ _ (execs _ _) _
      refine WS_cons (WS_freeze (x := "wanted") rfl (WS_Return (WE_Tuple (WA_cons (WE_name rfl (WA_cons (WE_ListComp (fun _ => true) (fun d => match d with | .int k => PyData.str (textF up k.toNat) | _ => .none) (cl := [("above", κ.L + 1)]) (by exact ⟨by rfl, by decide +kernel, rfl, by decide +kernel, rfl, (by repeat (first | exact List.forall_mem_nil _ | refine List.forall_mem_cons.mpr ⟨⟨rfl, rfl, rfl⟩, ?_⟩)), (by (try simp only [List.map_cons, List.map_nil]); decide +kernel)⟩) (WE_name rfl ⟨_, .list _ _ rfl, by rw [intL_len]; exact Nat.le_trans hll (by decide), ?_, WA_nil ⟨_, rfl, by show 2 ≤ sizeLine; decide, ?_⟩⟩))))))))
      · intro hid2 C j d hd
        obtain ⟨k, hk, rfl⟩ := intL_at hd
        refine ⟨rfl, fun _ => WE_call fn_law_text (WA_cons (WE_name rfl (WA_cons (WE_name rfl (WA_nil ⟨_, con_law_text up hup k (hl k (List.mem_of_getElem? hk)), ?_⟩))))) (by show 1 ≤ 1; decide)⟩
        show AV.D (PyData.str (textF up k)) = AV.D (PyData.str (textF up ((k : Nat) : Int).toNat))
        rw [Int.toNat_natCast]
      have e9 : ((intL fin.2).filter fun _ => true).map (fun d => match d with | .int k => PyData.str (textF up k.toNat) | _ => .none) = (txL up fin.2).map .str := by
        rw [List.filter_eq_self.mpr (fun _ _ => rfl), intL, txL, List.map_map, List.map_map]
        refine List.map_congr_left fun k _ => ?_
        show PyData.str (textF up ((k : Nat) : Int).toNat) = PyData.str (textF up k)
        rw [Int.toNat_natCast]
      rw [e9]
      rfl
end
end Mine
end
section
open PySem PySem.Calls PyProof.Rows
namespace Mine
theorem RdK.len {g : Heap} : ∀ {kvs : List (Str × Value)} {kds : List (Str × PyData)}, RdK g kvs kds → kvs.length = kds.length
  | _, _, .nil => rfl
  | _, _, .cons _ t => by rw [List.length_cons, List.length_cons, RdK.len t]
theorem RdK.keys {g : Heap} : ∀ {kvs : List (Str × Value)} {kds : List (Str × PyData)}, RdK g kvs kds → kvs.map (·.1) = kds.map (·.1)
  | _, _, .nil => rfl
  | _, _, .cons _ t => by rw [List.map_cons, List.map_cons, RdK.keys t]
theorem RdK.snoc {g : Heap} {k : Str} {v : Value} {d : PyData} (h : Rd g v d) : ∀ {kvs : List (Str × Value)} {kds : List (Str × PyData)}, RdK g kvs kds → RdK g (kvs ++ [(k, v)]) (kds ++ [(k, d)])
  | _, _, .nil => .cons h .nil
  | _, _, .cons h1 t => .cons h1 (RdK.snoc h t)
theorem RdK.stored {g : Heap} {k : Str} {v : Value} {d : PyData} {kvs : List (Str × Value)} {kds : List (Str × PyData)} (x : RdK g kvs kds) (hk : k ∉ kds.map (·.1)) (h : Rd g v d) : RdK g (PySem.stored kvs k v) (kds ++ [(k, d)]) := by
  unfold PySem.stored
  rw [if_neg]
  · exact x.snoc h
  · intro ha
    rw [List.any_eq_true] at ha
    obtain ⟨p, hp, e⟩ := ha
    exact hk (x.keys ▸ List.mem_map.mpr ⟨p, hp, of_decide_eq_true e⟩)
section
variable {Γ : Gx} {c : Cx} {st : St} {s : Shared}
inductive CpD (Γ : Gx) (s1 : Shared) (C D : Addr) (hid : Addr → Prop) (ds : List PyData) (G : PyData → Str) (F : PyData → PyData) (S : Nat → Heap → Prop) (n : Nat) (s' : Shared) : Prop
  | mk (i : Nat) (m : Str → Option Value) (vals : List (Str × Value)) (hn : n = ds.length + 1 - i) (hi : i ≤ ds.length) (hS : S i s'.heap) (hns : s'.heap.Ns C m) (hD : s'.heap.DictOf (sk Γ) D vals)
    (hr : RdK (fz s'.heap hid) vals ((ds.take i).map fun d => (G d, F d))) (k : Kp s1 s')
theorem comp_dict {kx vx iter : Expr} {x : Str} {px pos : Pos} {scope : Scope} {cl : List (Str × Addr)} {s1 s2 : Shared} {it : Value} {ds : List PyData} {fro : Bool} (ok : CompOk c scope cl x) (G : PyData → Str) (F : PyData → PyData)
    (r : R Γ c st s1) (k : Kp s1 s2) (src : Srcs Γ c st s1 s2 it ds fro) (hsz : ds.length ≤ sizeLine) (hnd : (ds.map G).Nodup)
    (hel : ∀ (hid : Addr → Prop) (C : Addr) (i : Nat) (d : PyData), ds[i]? = some d → WE Γ (cEnv c scope cl C hid) ((x, .D d) :: capture st cl) (eval kx (cEnv c scope cl C hid).env) (fun a => a = .D (.str (G d))) ∧ WE Γ (cEnv c scope cl C hid) ((x, .D d) :: capture st cl) (eval vx (cEnv c scope cl C hid).env) fun a => a = .D (F d))
    {RR : Value → Addr → Result → Shared → Prop}
    (hRR : ∀ D C s' m vals, s1.heap.get? D = none → s1.heap.get? C = none → D ≠ C → s'.heap.Ns C m → s'.heap.DictOf (sk Γ) D vals → RdK (fz s'.heap fun a => Hd c st a ∨ a = C ∨ a = D) vals (ds.map fun d => (G d, F d)) → Kp s1 s' → RR (.ref D) C (.ok .next) s') :
    wpAny (mo Γ) c.A newDict (fun acc s₃ => wpAny (mo Γ) c.A (newFunctionEnv scope c.env.globals cl [] c.env.qual none .none (some c.env)) (fun cenv s₄ =>
      codeAny (mo Γ) c.A (.compStart (.DictComp kx vx [⟨.Name x px, iter, [], 0⟩] scope pos) 0 it acc { cenv with scope := relabel scope c.env }) (RR acc cenv.locals) s₄) (fun _ _ => False) s₃) (fun _ _ => False) s2 := by
  obtain ⟨I, fp, wr, P, S, rfl, W, hS0, hnew, hliv, hSl, hlt, -, hrd⟩ := src
  refine wpAny_newObj_type (wpAny_newFunctionEnv ok.cell (by intro y hy; simp at hy) (fun h₁ hns₁ hsb₁ => ?_) ok.kind)
  dsimp only at hns₁ hsb₁ ⊢
  have hnew0 : (s2.heap.push { cls := .type "dict", dict := none, data := .dict #[] }).DictOf (sk Γ) s2.heap.objs.size [] := Heap.DictOf.new s2.heap
  have hD0 : s2.heap.get? s2.heap.objs.size = none := get_none_size _
  generalize hD : s2.heap.objs.size = D at hns₁ hsb₁ hD0 hnew0 ⊢
  generalize hH2 : s2.heap.push { cls := .type "dict", dict := none, data := .dict #[] } = H2 at hns₁ hsb₁ hnew0 ⊢
  have hCs : H2.objs.size = D + 1 := by rw [← hH2, Heap.size_push, hD]
  generalize hC : H2.objs.size = C at hns₁ hsb₁ hCs ⊢
  have hDC : D ≠ C := by rw [hCs]; exact Nat.ne_of_lt (Nat.lt_succ_self _)
  have below : ∀ b o, s2.heap.get? b = some o → b ≠ C ∧ b ≠ D := fun b o e => by
    have := Heap.lt_size e
    rw [hD] at this
    exact ⟨by rw [hCs]; exact Nat.ne_of_lt (Nat.lt_succ_of_lt this), Nat.ne_of_lt this⟩
  have old : Sub s2.heap h₁ := fun b o e => hsb₁.extBut b o (below b o e).1 (Heap.get?_push_of_some _ (hH2 ▸ Heap.get?_push_of_some _ e))
  have new1 : s1.heap.get? D = none := by
    cases e : s1.heap.get? D with
    | none => rfl
    | some o => have := k.heap _ _ e; rw [hD0] at this; cases this
  have new2 : s1.heap.get? C = none := by
    cases e : s1.heap.get? C with
    | none => rfl
    | some o => exact absurd rfl (below _ _ (k.heap _ _ e)).1
  have hacc : h₁.DictOf (sk Γ) D [] := hnew0.at fun o e => hsb₁.extBut _ _ hDC (Heap.get?_push_of_some _ e)
  have fpD : D ∉ fp := fun h => by have := hlt _ h; rw [hD] at this; exact Nat.lt_irrefl _ this
  have fpC : C ∉ fp := fun h => by have := hlt _ h; rw [hD, hCs] at this; exact absurd this (Nat.not_lt.mpr (Nat.le_succ _))
  let hid : Addr → Prop := fun a => Hd c st a ∨ a = C ∨ a = D ∨ a ∈ wr
  have hidN : ∀ a, hid a → Hd c st a ∨ s1.heap.get? a = none := by
    rintro a (h | h | h | h)
    · exact .inl h
    · exact .inr (h ▸ new2)
    · exact .inr (h ▸ new1)
    · exact .inr (hnew a h)
  have hHC : ∀ a, Hd c st a → a ≠ C ∧ a ≠ D ∧ a ∉ wr := fun a h => by
    obtain ⟨o, e⟩ := r.low2 a h
    refine ⟨(below a o (k.heap _ _ e)).1, (below a o (k.heap _ _ e)).2, fun hw => ?_⟩
    rw [hnew a hw] at e; cases e
  have start : S 0 h₁ := W.frame _ _ _ hS0 fun b _ o e => old b o e
  have loop : codeAny (mo Γ) c.A (.compLoop (.DictComp kx vx [⟨.Name x px, iter, [], 0⟩] scope pos) 0 (.ref I) (.ref D) (compEnvC scope cl C c.env)) (RR (.ref D) C) { s2 with heap := h₁, toks := s2.toks + ([] : List (Str × Value)).length } := by
    refine codeAny_compLoop_testsD (CpD Γ s1 C D hid ds G F S) ?_ (ds.length + 1)
      ⟨0, _, [], rfl, Nat.zero_le _, start, hns₁, hacc, by simpa using RdK.nil, k.gens, k.os, k.heap.trans old⟩
    rintro n s' ⟨i, m, vals, rfl, hile, hS, hns, hDat, hrdk, k'⟩
    by_cases hlt' : i < ds.length
    · refine W.item i s' _ _ hlt' hS fun v h' tk hP hS' hk' => ?_
      obtain ⟨d, hd, rdv⟩ := hrd i v hlt' hP
      have nC : C ∉ wr := fun h => fpC (W.sub _ h)
      have nD : D ∉ wr := fun h => fpD (W.sub _ h)
      have hnsC : h'.Ns C m := let ⟨o, a, b, e, q⟩ := hns; ⟨o, a, b, hk' _ _ nC e, q⟩
      have hDat' : h'.DictOf (sk Γ) D vals := hDat.at fun o e => hk' _ _ nD e
      have sub1 : Sub s1.heap h' := fun b o eb => hk' b o (fun hw => by rw [hnew b hw] at eb; cases eb) (k'.heap b o eb)
      have hkd : (compEnvC scope cl C c.env).kindOf x = some .local := lookup_relabel_local ok.loc
      refine wpAny_assign_Name (wpAny_storeName_local hkd hnsC (fun h₂ hns₂ hsb₂ => ?_) (by simp [compEnvC, relabel, ok.kind]))
      have sub2 : Sub s1.heap h₂ := fun b o eb => (hsb₂.2 b fun q => by rw [q, show (compEnvC scope cl C c.env).locals = C from rfl, new2] at eb; cases eb).trans (sub1 b o eb)
      have hD2 : h₂.DictOf (sk Γ) D vals := hDat'.at fun o e => (hsb₂.2 D hDC).trans e
      obtain ⟨oD, eD⟩ : ∃ o, h₂.get? D = some o := let ⟨o, _, _, e, _⟩ := hD2; ⟨o, e⟩
      have hS2 : S (i + 1) h₂ := W.frame _ _ _ hS' fun b hb o eb => (hsb₂.2 b fun q => fpC (by have q : b = C := q; exact q ▸ hb)).trans eb
      have live2 : ∀ a, hid a → ∃ o, h₂.get? a = some o := by
        rintro a (h | h | h | h)
        · obtain ⟨o, ea⟩ := r.low2 a h; exact ⟨o, sub2 a o ea⟩
        · obtain ⟨o, _, _, ea, _⟩ := hns₂; exact ⟨o, h ▸ ea⟩
        · exact ⟨_, h ▸ eD⟩
        · exact hSl _ _ hS2 a (W.sub a h)
      have rc : R Γ (cEnv c scope cl C hid) ((x, .D d) :: capture st cl) { s' with heap := h₂, toks := tk + 1 } :=
        comp_R ok r sub2 k'.gens k'.os new2 hns₂ (by simp) hidN (fun a h => .inl h) (.inr (.inl rfl)) live2 rdv
      obtain ⟨hK, hV⟩ := hel hid C i d hd
      refine wpAny_tests_nil ?_
      simp only [if_true]
      refine wpAny_mono (hK _ rc) (fun y s3 ⟨k3, a, va, ea⟩ => ?_) fun _ _ x => x.elim
      subst ea
      obtain ⟨t3, rfl⟩ := Rd.str_inv va
      refine wpAny_mono (hV s3 (rc.kp k3)) (fun y s4 ⟨k4, a, va, ea⟩ => ?_) fun _ _ x => x.elim
      subst ea
      have k34 := k3.trans k4
      have rdl4 : RdK (fz s4.heap hid) vals ((ds.take i).map fun d => (G d, F d)) := by
        refine RdK.mono (fz_mono fun b o hb eb => ⟨hb, k34.heap _ _ ?_⟩) hrdk
        exact (hsb₂.2 b fun q => hb (.inr (.inl q))).trans (hk' b o (fun h => hb (.inr (.inr (.inr h)))) eb)
      have hvl := rdl4.len
      rw [List.length_map, List.length_take] at hvl
      refine wpAny_dictSet_pairs (hsz := by (clear hel hRR hnew hliv hSl hlt hrd hD hD0 hH2 hC hCs hDC below new1 new2 fpD fpC hidN hHC hile hlt' hk' hd nC nD hkd eD live2; omega)) (strKind_is Γ.prog Γ.w (G d) t3) (hD2.at fun o e => k34.heap _ _ e) fun h₅ hD5 hsb5 => ?_
      have sub5 : Sub s1.heap h₅ := fun b o eb => (hsb5.2 b fun q => by rw [q, new1] at eb; cases eb).trans (k34.heap _ _ (sub2 b o eb))
      have hv5 : ∀ X : Addr → Prop, X D → Sub (fz s4.heap X) (fz h₅ X) := fun X hX => fz_mono fun b o hb eb => ⟨hb, (hsb5.2 b fun q => hb (q ▸ hX)).trans eb⟩
      refine ⟨ds.length + 1 - (i + 1), by (clear hsz hel hRR hnew hliv hSl hlt hrd hD hD0 hH2 hC hCs hDC below new1 new2 fpD fpC hidN hHC hile hk' hd nC nD hkd eD live2 hvl hv5; omega), i + 1, _, _, rfl, hlt', W.frame _ _ _ (W.frame _ _ _ hS2 fun b _ o eb => k34.heap _ _ eb) fun b hb o eb => (hsb5.2 b fun q => fpD (q ▸ hb)).trans eb,
        (let ⟨o, a, b, ee, q⟩ := hns₂; ⟨o, a, b, (hsb5.2 C (Ne.symm hDC)).trans (k34.heap _ _ ee), q⟩), hD5, ?_, ⟨k34.gens.trans k'.gens, k34.os.trans k'.os, sub5⟩⟩
      obtain ⟨hi', ed⟩ := List.getElem?_eq_some_iff.mp hd
      rw [List.take_succ_eq_append_getElem hi', ed, List.map_append]
      refine RdK.mono (hv5 hid (.inr (.inr (.inl rfl)))) (RdK.stored rdl4 ?_ (Rd.mono (fz_mono fun b o hb eb => ⟨fun h => hb (.inl h), eb⟩) va))
      intro hm
      rw [List.map_map] at hm
      obtain ⟨d', hd', e'⟩ := List.mem_map.mp hm
      have h1 : (ds.map G) = (ds.take i).map G ++ (G d :: (ds.drop (i + 1)).map G) := by
        rw [← List.map_cons, ← List.map_append, ← ed, ← List.drop_eq_getElem_cons hi', List.take_append_drop]
      rw [h1, List.nodup_append] at hnd
      exact hnd.2.2 _ (List.mem_map.mpr ⟨d', hd', e'⟩) _ (.head _) rfl
    · have hie : i = ds.length := by (clear hsz hel hRR hnew hliv hSl hlt hrd hD hD0 hH2 hC hCs hDC below new1 new2 fpD fpC hidN hHC; omega)
      subst hie
      refine W.done s' _ _ hS fun h' tk hk' => ?_
      have nC : C ∉ wr := fun h => fpC (W.sub _ h)
      have nD : D ∉ wr := fun h => fpD (W.sub _ h)
      rw [List.take_length] at hrdk
      refine hRR D C _ m vals new1 new2 hDC (let ⟨o, a, b, ee, q⟩ := hns; ⟨o, a, b, hk' _ _ nC ee, q⟩) (hDat.at fun o e => hk' _ _ nD e) ?_ ⟨k'.gens, k'.os, fun b o eb => hk' b o (fun hw => by rw [hnew b hw] at eb; cases eb) (k'.heap b o eb)⟩
      refine RdK.mono (fz_mono fun b o hb eb => ⟨fun h => hb ?_, hk' b o (fun h => hb (.inr (.inr (.inr h)))) eb⟩) hrdk
      rcases h with h | h | h
      · exact .inl h
      · exact .inr (.inl h)
      · exact .inr (.inr (.inl h))
  exact codeAny_compStart_dict loop (W.self 0 _ _ _ start loop)

noncomputable abbrev DCp (Γ : Gx) (c : Cx) (st : St) (scope : Scope) (cl : List (Str × Addr)) (x : Str) (kx vx : Expr) (ds : List PyData) (G : PyData → Str) (F : PyData → PyData) : Prop :=
  ∀ (hid : Addr → Prop) (C : Addr) (i : Nat) (d : PyData), ds[i]? = some d → WE Γ (cEnv c scope cl C hid) ((x, .D d) :: capture st cl) (eval kx (cEnv c scope cl C hid).env) (fun a => a = .D (.str (G d))) ∧ WE Γ (cEnv c scope cl C hid) ((x, .D d) :: capture st cl) (eval vx (cEnv c scope cl C hid).env) fun a => a = .D (F d)
theorem WE_DictComp {kx vx iter : Expr} {x : Str} {px pos : Pos} {scope : Scope} {cl : List (Str × Addr)} {Q : AV → Prop} (G : PyData → Str) (F : PyData → PyData) (ok : CompOk c scope cl x)
    (h : WE Γ c st (eval iter c.env) fun a => ∃ ds, Iter a ds ∧ ds.length ≤ sizeLine ∧ (ds.map G).Nodup ∧ DCp Γ c st scope cl x kx vx ds G F ∧ Q (.K (ds.map fun d => (G d, F d))))
    (hs : ∀ x, foldedSetIterable iter c.env x = pure x := by intro _; rfl) :
    WE Γ c st (eval (.DictComp kx vx [⟨.Name x px, iter, [], 0⟩] scope pos) c.env) Q := fun s r => by
  rw [arm_eval_DictComp]
  refine wpAny_comprehension_free (use := none) rfl hs ok.clos ok.kind ok.names (wpAny_mono (h s r) (fun v s1 ⟨k1, a, va, ds, hi, hsz, hnd, hel, q⟩ => wpAny_mono (iter_sound hi (r.kp k1) va) (fun it s2 ⟨k2, src⟩ => ?_) fun _ _ x => x) fun _ _ x => x)
  refine comp_dict (RR := fun acc C => compPost (mo Γ) c.A (fun _ _ => False) none _ acc C) ok G F (r.kp k1) k2 src hsz hnd hel fun D C s' m vals hD hC hDC hns hat rd k' => ?_
  refine ⟨m, hns, fun h' hsb => ⟨k1.trans ⟨k'.gens, k'.os, fun b o e => (hsb.2 b fun q => by rw [q, hC] at e; cases e).trans (k'.heap b o e)⟩, .K (ds.map fun d => (G d, F d)), ?_, q⟩⟩
  have hDH : ¬ Hd c st D := fun h => by obtain ⟨o, e⟩ := (r.kp k1).low2 D h; rw [hD] at e; cases e
  exact ⟨D, vals, rfl, hat.at fun o e => fz_some.mpr ⟨hDH, (hsb.2 D hDC).trans e⟩, RdK.mono (fz_mono fun b o hb e => ⟨fun h => hb (.inl h), (hsb.2 b fun q => hb (.inr (.inl q))).trans e⟩) rd⟩
theorem WS_AssignDComp {kx vx iter : Expr} {x y : Str} {px py pos spos : Pos} {scope : Scope} {cl : List (Str × Addr)} {Q : Fl → St → Prop} (G : PyData → Str) (F : PyData → PyData) (ok : CompOk c scope cl x)
    (h : WE Γ c st (eval iter c.env) fun a => ∃ ds, Iter a ds ∧ ds.length ≤ sizeLine ∧ (ds.map G).Nodup ∧ DCp Γ c st scope cl x kx vx ds G F ∧
      (upd st y (.K (ds.map fun d => (G d, F d)))).all (fun p => notV p.2) = true ∧ Q .next (upd st y (.K (ds.map fun d => (G d, F d)))))
    (hy : Stor c.env y := by exact .inl rfl) (hsw : swapsWith (.DictComp kx vx [⟨.Name x px, iter, [], 0⟩] scope pos) (some (.Name y py)) spos.line c.env = pure true := by rfl)
    (hs : ∀ x, foldedSetIterable iter c.env x = pure x := by intro _; rfl) :
    WS Γ c st (exec (.Assign [.Name y py] (.DictComp kx vx [⟨.Name x px, iter, [], 0⟩] scope pos) spos) c.env) Q := fun s r => by
  rw [exec_Assign_Name_used _ _ _ _ hsw]
  refine wpAny_bind (wpAny_standAt (wpAny_bind ?_))
  show wpAny _ c.A (do let _ ← comprehension (.DictComp kx vx [⟨.Name x px, iter, [], 0⟩] scope pos) scope c.env _ newDict false (eval iter c.env) (some (assign (.Name y py) c.env))) _ _ s
  refine wpAny_bind (wpAny_mono (wpAny_comprehension_free (use := some (assign (.Name y py) c.env)) (Q := fun _ s' => WSp Γ c st Q s .next s') rfl hs ok.clos ok.kind ok.names
    (wpAny_mono (h s r) (fun v s1 ⟨k1, a, va, ds, hi, hsz, hnd, hel, hV, q⟩ => wpAny_mono (iter_sound hi (r.kp k1) va) (fun it s2 ⟨k2, src⟩ => ?_) fun _ _ e => e) fun _ _ e => e)) (fun _ s' hq => wpAny_pure (wpAny_pure hq)) fun _ _ e => e)
  refine comp_dict (RR := fun acc C => compPost (mo Γ) c.A (fun _ _ => False) (some (assign (.Name y py) c.env)) _ acc C) ok G F (r.kp k1) k2 src hsz hnd hel fun D C s' m vals hD hC hDC hns hat rd k' => ?_
  refine comp_use r k1 k' hC hns (a := .K (ds.map fun d => (G d, F d))) ?_ rfl hy hV q
  have hDH : ¬ (Hd c st D ∨ D = C) := fun h => h.elim (fun h => by obtain ⟨o, e⟩ := (r.kp k1).low2 D h; rw [hD] at e; cases e) hDC
  exact ⟨D, vals, rfl, hat.at fun o e => fz_some.mpr ⟨hDH, e⟩, RdK.mono (fz_mono fun b o hb e => ⟨fun h => hb (h.elim .inl fun h => .inr (.inl h)), e⟩) rd⟩
end
end Mine
end
section
open PySem PySem.Calls PyProof.Rows
namespace Mine
theorem tri_ok (m k : Nat) : ∀ a ∈ tri m k, a < 1114112 := by
  intro a ha
  unfold tri triA triB at ha
  simp only [List.mem_cons, List.not_mem_nil, or_false] at ha
  rcases ha with rfl | rfl | rfl
  · split <;> decide
  · split <;> decide
  · repeat' split
    all_goals decide
theorem ftypes_ok (k : Nat) : ftypes.getD k 0 < 1114112 := by
  rw [List.getD_eq_getElem?_getD]
  cases e : ftypes[k]? with
  | none => decide
  | some x =>
    have : ∀ x ∈ ftypes, x < 1114112 := by decide
    exact this x (List.mem_of_getElem? e)
theorem rowL_ok (m : Nat) : ∀ a ∈ rowL m, a < 1114112 := by
  intro a ha
  rw [rowL_eq] at ha
  simp only [List.mem_cons, List.mem_append] at ha
  rcases ha with rfl | ha | ha | ha
  · exact ftypes_ok _
  · exact tri_ok _ _ a ha
  · exact tri_ok _ _ a ha
  · exact tri_ok _ _ a ha
theorem rt_ok (up m : Nat → Nat) (k : Nat) (hk : k < 10) : PyData.strOk (rt up m k) = true := by
  have h2 : ∀ a ∈ (textF up k).cps.toList, a < 1114112 := by
    have := textF_ok up k hk
    unfold PyData.strOk at this
    intro a ha
    obtain ⟨i, hi, rfl⟩ := List.getElem_of_mem ha
    have h3 : ∀ (i : Nat) (x : i < (textF up k).cps.size), (textF up k).cps[i] < 1114112 := by simpa using this
    have := h3 i (by simpa using hi)
    simpa using this
  have e : rt up m k = S ((rowL (m k) ++ [32]) ++ (textF up k).cps.toList) := by
    unfold rt
    rw [← S_append, ← S_append, S_of]; rfl
  rw [e]
  refine strOk_S fun a ha => ?_
  rcases List.mem_append.mp ha with ha | ha
  · rcases List.mem_append.mp ha with ha | ha
    · exact rowL_ok _ a ha
    · rw [List.mem_singleton.mp ha]; decide
  · exact h2 a ha
theorem srt_ok (up m : Nat → Nat) (l : List Nat) (h : ∀ k ∈ l, k < 10) : shp 2 (.list ((srt (rts up m l)).map .str)) := shp_strs fun x hx => by
  have := (srt_perm _).mem_iff.mp hx
  obtain ⟨k, hk, rfl⟩ := List.mem_map.mp this
  exact rt_ok up m k (h k hk)
theorem rowD_shp (up m : Nat → Nat) (now l st g : List Nat) (h1 : ∀ k ∈ now, k < 10) (h2 : ∀ k ∈ l, k < 10) (h3 : ∀ k ∈ st, k < 10) (h4 : ∀ k ∈ g, k < 10) : shp 4 (rowD up m now l st g) := by
  refine shp_list fun d hd => ?_
  simp only [List.mem_cons, List.not_mem_nil, or_false] at hd
  rcases hd with rfl | rfl | rfl | rfl
  · refine shp_tuple fun d hd => ?_
    simp only [List.mem_cons, List.not_mem_nil, or_false] at hd
    rcases hd with rfl | rfl
    · exact srt_ok up m now h1
    · exact (shp_list (n := 1) fun d hd => (by cases hd))
  · exact (srt_ok up m l h2).mono (by decide)
  · exact (srt_ok up m st h3).mono (by decide)
  · refine (shp_str ?_).mono (by decide)
    split
    · decide +kernel
    · exact textF_ok up _ (meetF_lt up g h4)
theorem tR_shp (up m : Nat → Nat) (may : Nat → Bool) : ∀ n l g, (∀ k ∈ l, k < 10) → (∀ k ∈ g, k < 10) → (∀ d ∈ (tR up m may n l g).1, shp 4 d) ∧ ∀ k ∈ (tR up m may n l g).2, k < 10 := by
  intro n
  induction n with
  | zero => intro l g hl _; exact ⟨fun d hd => (by cases hd), hl⟩
  | succ n ih =>
    intro l g hl hg
    have hS : ∀ k ∈ stayL up may l, k < 10 := fun k hk => hl k (List.mem_filter.mp hk).1
    have hR : ∀ k ∈ ready up may l, k < 10 := fun k hk => hl k (List.mem_filter.mp hk).1
    have hG : ∀ k ∈ ready up may l ++ g, k < 10 := fun k hk => (List.mem_append.mp hk).elim (hR k) (hg k)
    have hrow := rowD_shp up m _ _ _ _ hR hl hS hG
    rw [tR]
    split
    · obtain ⟨i1, i2⟩ := ih _ _ hS hG
      refine ⟨fun d hd => ?_, i2⟩
      rcases List.mem_cons.mp hd with rfl | hd
      · exact hrow
      · exact i1 d hd
    · refine ⟨fun d hd => ?_, hS⟩
      rw [List.mem_singleton.mp hd]; exact hrow
theorem tx_shp (up : Nat → Nat) (l : List Nat) (h : ∀ k ∈ l, k < 10) : shp 2 (.list ((txL up l).map .str)) := shp_strs fun x hx => by
  obtain ⟨k, hk, rfl⟩ := List.mem_map.mp hx
  exact textF_ok up k (h k hk)
theorem pre_from (f : Nat → Str) : dpick (preS f 10) (some 1) none none = ((upto 1 10).map f).map .str := by
  rw [show (1 : Int) = ((1 : Nat) : Int) from rfl, dpick_from]; rfl
section
variable {Γ : Gx} {c : Cx} {st : St} {s s0 s1 : Shared}
set_option maxHeartbeats 4000000 in
theorem con_law (xs : List Int) (hx : xs.length ≤ 63) : ConS Γ 8 "law" [.D (.list (xs.map .int))] (.D (.bool true)) := by
  have hsl : sizeLine = 2 ^ 24 := rfl
  have hup := upF_lt xs
  have hw := whF_le xs
  generalize hU : upF xs = up at hup
  generalize hWh : whF xs = wh at hw
  generalize hM : mdF xs = md
  have it : ∀ (f : Nat → Nat) (i : Nat), i < 10 → Itm (.D (.list (natsL f))) (.D (.int i)) (.D (.int (f i))) := fun f i hi => .list _ (natsL f) _ (.int (f i)) rfl (by (clear hx hsl hU hup hWh hw hM hi; omega)) (natsL_at f i hi) (by rw [natsL_len]; decide)
  have hpl : (preS (textF up) 10).length ≤ sizeLine := by rw [preS_len]; decide
  have itP : ∀ (i : Nat), i < 10 → Itm (.D (.list (preS (textF up) 10))) (.D (.int i)) (.D (.str (textF up i))) := fun i hi => .list _ (preS (textF up) 10) _ (.str (textF up i)) rfl (by (clear hx hsl hU hup hWh hw hM it hpl hi; omega)) (by simp [preS, List.getElem?_map, List.getElem?_range hi]) hpl
  have hti : ∀ j k, textF up j = textF up k → j = k := fun j k e => textF_inj up hup e
  have u10 : ∀ k ∈ upto 1 10, 0 < k ∧ k < 10 := fun k hk => by have := mem_upto.mp hk; assumption
  have hT := tR_shp up md (mayF up wh md) 10 (upto 1 10) [] (fun k hk => (u10 k hk).2) (by simp)
  have hag : tR up md (mayF up wh md) 10 (upto 1 10) [] = wR up md (turnsF up (mayF up wh md)) 10 1 (upto 1 10) [] := by
    refine agree up md hup _ 10 1 _ _ _ (Nat.le_refl _) ?_ fun _ => Iff.rfl
    rw [List.filter_eq_self.mpr]
    intro k _
    simp only [Bool.or_eq_true, beq_iff_eq, decide_eq_true_eq]; (clear hx hsl hU hup hWh hw hM it hpl itP hti u10 hT; omega)
  have hall : (upto 1 10).filter (fun _ => true) = upto 1 10 := List.filter_eq_self.mpr fun _ _ => rfl
  have hrest := tR_rest up md hup (mayF up wh md) 10 (fun _ => true) [] (fun _ _ _ => rfl) (by rw [hall]; decide)
  have hobo := obo_rest up hup (mayF up wh md) 10 (fun _ => true) (fun _ _ _ => rfl) (by rw [hall]; decide)
  rw [hall] at hrest hobo
  have hNd : ((rangeDs 0 10 1).map (fun d => match d with | .int k => textF up k.toNat | _ => "")).Nodup := by
    show ((List.range 10).map (textF up)).Nodup
    exact List.Pairwise.map _ (fun a b hne e => hne (hti _ _ e)) List.nodup_range
  have hTx : (txL up (upto 1 10)).Nodup := List.Pairwise.map _ (fun a b hne e => hne (hti _ _ e)) upto_nodup
  have hPs : dpick (preS (textF up) 10) (some 1) none none = (txL up (upto 1 10)).map .str := pre_from _
  have hx9 : ((txL up (upto 1 10)).map PyData.str).length ≤ sizeLine := by simp [txL, upto]; decide
  generalize hmay : mayF up wh md = may at *
  have hfr : ((txL up (upto 1 10)).map PyData.str).map (fun d => ((match d with | .str x => x | _ => ""), (match d with | .str x => ((frL up may).lookup x).getD .none | _ => .none))) = frL up may := by
    rw [txL, List.map_map, List.map_map, frL]
    refine List.map_congr_left fun k hk => ?_
    show (textF up k, ((frL up may).lookup (textF up k)).getD .none) = _
    rw [frL_look up hup may k (u10 k hk).1 (u10 k hk).2]; rfl
  have htu := con_law_turns (Γ := Γ) up md hup may
  have hwa := con_law_wanted (Γ := Γ) up md (turnsF up may) hup
  have hhe := con_law_heights (Γ := Γ) up wh md hup hw
  rw [hmay] at hhe
  have hob := con_law_obo (Γ := Γ) up hup may
  rw [hobo, ← hrest] at hob
  rw [← hag] at hwa
  have sh1 : shp 5 (.list (tR up md may 10 (upto 1 10) []).1) := shp_list hT.1
  have sh2 : shp 2 (.list ((txL up (tR up md may 10 (upto 1 10) []).2).map .str)) := tx_shp up _ hT.2
  clear hag hrest hobo hT
  generalize tR up md may 10 (upto 1 10) [] = tr at *
  obtain ⟨tr1, tr2⟩ := tr
  dsimp only at htu hwa hob sh1 sh2
  generalize hq : (txL up tr2).map PyData.str = sl at *
  clear hq
  refine con_fnS (j := 25) ["script"] (by rfl) rfl rfl rfl ?_ (by decide +kernel) (by decide +kernel) ?_ rfl rfl rfl
  · exact fun pm cd doc => len1 fun v => rfl
  · intro κ outer
    have hdr := con_law_drawn (Γ := Γ) xs hx
    rw [hU, hWh, hM] at hdr
    refine WS_cons (WS_AssignTup [("above", ⟨336, 4, 336, 9⟩), ("whose", ⟨336, 11, 336, 16⟩), ("modes", ⟨336, 18, 336, 23⟩)] (WES_of (WE_call1 fn_law_drawn (WE_name rfl ⟨_, hdr, _, rfl, rfl, ?_⟩) (by show 2 ≤ 7; decide))) ?_ (by rfl) (by rfl) (by rfl))
    rotate_left
    · intro p hp
      simp only [List.mem_cons, List.not_mem_nil, or_false] at hp
      rcases hp with rfl | rfl | rfl
      · exact .inl rfl
      · exact .inr ⟨rfl, _, rfl⟩
      · exact .inr ⟨rfl, _, rfl⟩
    show WS _ _ _ (execs _ _) _
    refine WS_cons (WS_Assign (WE_call1 fn_law_paths (WE_name rfl ⟨_, con_law_paths up hup, rfl, ?_⟩) (by show 3 ≤ 7; decide)))
    show WS _ _ _ (execs _ _) _
    refine WS_cons (WS_Assign (WE_DictComp (fun d => match d with | .int k => textF up k.toNat | _ => "") (fun d => match d with | .int k => .str (S (rowL (md k.toNat))) | _ => .none) (cl := [("paths", κ.L + 1 + 1 + 1), ("modes", κ.L + 1 + 1)]) (by exact ⟨by rfl, by decide +kernel, rfl, by decide +kernel, rfl, (by repeat (first | exact List.forall_mem_nil _ | refine List.forall_mem_cons.mpr ⟨⟨rfl, rfl, rfl⟩, ?_⟩)), (by (try simp only [List.map_cons, List.map_nil]); decide +kernel)⟩) (WE_range1 (WE_int ⟨_, .one _, rangeDs 0 10 1, .range _ _ _ (by decide), by decide, ?_, ?_, rfl, ?_⟩))))
    · exact hNd
    · intro hid2 C j d hd
      obtain ⟨rfl, hj⟩ := rangeDs_at hd
      have hj : j < 10 := by (clear hx hsl hU hup hWh hw hM it hpl itP hti u10 hall hPs hx9 hmay hfr hd; omega)
      rw [show (0 : Int) + (j : Int) = ((j : Nat) : Int) by omega]
      refine ⟨WE_Subscript (WE_name rfl (WE_name rfl ⟨_, itP j hj, ?_⟩)), WE_call1 fn_filemode (WE_Subscript (WE_name rfl (WE_name rfl ⟨_, it md j hj, _, con_filemode _, ?_⟩))) (by show 2 ≤ 7; decide)⟩
      · show AV.D (PyData.str (textF up j)) = AV.D (PyData.str (textF up ((j : Nat) : Int).toNat)); rw [Int.toNat_natCast]
      · show AV.D (PyData.str (S (rowL (md j)))) = AV.D (PyData.str (S (rowL (md ((j : Nat) : Int).toNat)))); rw [Int.toNat_natCast]
    show WS _ _ _ (execs _ _) _
    refine WS_cons (WS_Assign (WE_DictComp (fun d => match d with | .int k => textF up k.toNat | _ => "") (fun d => match d with | .int k => .int (wh k.toNat) | _ => .none) (cl := [("whose", κ.L + 1), ("paths", κ.L + 1 + 1 + 1)]) (by exact ⟨by rfl, by decide +kernel, rfl, by decide +kernel, rfl, (by repeat (first | exact List.forall_mem_nil _ | refine List.forall_mem_cons.mpr ⟨⟨rfl, rfl, rfl⟩, ?_⟩)), (by (try simp only [List.map_cons, List.map_nil]); decide +kernel)⟩) (WE_range1 (WE_int ⟨_, .one _, rangeDs 0 10 1, .range _ _ _ (by decide), by decide, ?_, ?_, rfl, ?_⟩))))
    · exact hNd
    · intro hid2 C j d hd
      obtain ⟨rfl, hj⟩ := rangeDs_at hd
      have hj : j < 10 := by (clear hx hsl hU hup hWh hw hM it hpl itP hti u10 hall hPs hx9 hmay hfr hd; omega)
      rw [show (0 : Int) + (j : Int) = ((j : Nat) : Int) by omega]
      refine ⟨WE_Subscript (WE_name rfl (WE_name rfl ⟨_, itP j hj, ?_⟩)), WE_Subscript (WE_name rfl (WE_name rfl ⟨_, it wh j hj, ?_⟩))⟩
      · show AV.D (PyData.str (textF up j)) = AV.D (PyData.str (textF up ((j : Nat) : Int).toNat)); rw [Int.toNat_natCast]
      · show AV.D (PyData.int (wh j)) = AV.D (PyData.int (wh ((j : Nat) : Int).toNat)); rw [Int.toNat_natCast]
    show WS _ _ _ (execs _ _) _
    have eR : ((rangeDs 0 10 1).map fun d => ((match d with | .int k => textF up k.toNat | _ => ""), (match d with | .int k => PyData.str (S (rowL (md k.toNat))) | _ => .none))) = rowK up md := by rfl
    have eO : ((rangeDs 0 10 1).map fun d => ((match d with | .int k => textF up k.toNat | _ => ""), (match d with | .int k => PyData.int (wh k.toNat) | _ => .none))) = Kd up fun k => .int (wh k) := by rfl
    rw [eR, eO]
    refine WS_cons (WS_AssignDComp (fun d => match d with | .str x => x | _ => "") (fun d => match d with | .str x => ((frL up may).lookup x).getD .none | _ => .none) (cl := [("rows", κ.L + 1 + 1 + 1 + 1), ("owners", κ.L + 1 + 1 + 1 + 1 + 1)]) (by exact ⟨by rfl, by decide +kernel, rfl, by decide +kernel, rfl, (by repeat (first | exact List.forall_mem_nil _ | refine List.forall_mem_cons.mpr ⟨⟨rfl, rfl, rfl⟩, ?_⟩)), (by (try simp only [List.map_cons, List.map_nil]); decide +kernel)⟩) (WE_slice_from (WE_name rfl (WE_int ⟨_, _, rfl, rfl, hpl, _, .list _ _ rfl, by rw [hPs]; exact hx9, ?_, ?_, rfl, ?_⟩))))
    · rw [hPs, List.map_map]
      rw [show ((fun d => match d with | PyData.str x => x | _ => ("" : Str)) ∘ PyData.str) = id from rfl, List.map_id]
      exact hTx
    · intro hid2 C j d hd
      rw [hPs, List.getElem?_map, Option.map_eq_some_iff] at hd
      obtain ⟨x, hx, rfl⟩ := hd
      rw [txL, List.getElem?_map, Option.map_eq_some_iff] at hx
      obtain ⟨k, hk, rfl⟩ := hx
      have hk9 := u10 k (List.mem_of_getElem? hk)
      refine ⟨WE_name rfl rfl, WE_call fn_law_free (WA_cons (WE_name rfl (WA_cons (WE_name rfl (WA_cons (WE_name rfl (WA_nil ⟨_, con_law_free up wh md hup hw k hk9.2 hk9.1, ?_⟩))))))) (by show 3 ≤ 7; decide)⟩
      show AV.D (.bool (mayF up wh md k)) = AV.D (((frL up may).lookup (textF up k)).getD .none)
      rw [frL_look up hup may k hk9.1 hk9.2, hmay]; rfl
    rw [hPs, hfr]
    show WS _ _ _ (execs _ _) _
    refine WS_cons (WS_AssignTup [("told", ⟨341, 4, 341, 8⟩), ("left", ⟨341, 10, 341, 14⟩)] (WES_callS (outer := outer) rfl fn_law_turns rfl (WA_cons (WE_slice_from (WE_name rfl (WE_int ⟨_, _, rfl, rfl, hpl, ?_⟩)))) (by show 7 ≤ 7; decide)) ?_ (by rfl) (by rfl) (by rfl))
    · rw [hPs]
      refine WA_cons (WE_name rfl (WA_cons (WE_name rfl (WA_nil ⟨_, htu, _, rfl, rfl, ?_⟩))))
      show WS _ _ _ (execs _ _) _
      refine WS_cons (WS_AssignTup [("wanted", ⟨342, 4, 342, 10⟩), ("stays", ⟨342, 12, 342, 17⟩)] (WES_of (WE_call fn_law_wanted (WA_cons (WE_name rfl (WA_cons (WE_name rfl (WA_cons (WE_call fn_law_heights (WA_cons (WE_name rfl (WA_cons (WE_name rfl (WA_cons (WE_name rfl (WA_nil ⟨_, hhe, WA_nil ⟨_, hwa, _, rfl, rfl, ?_⟩⟩))))))) (by show 2 ≤ 7; decide))))))) (by show 2 ≤ 7; decide))) ?_ (by rfl) (by rfl) (by rfl))
      · show WS _ _ _ (execs _ _) _
        refine WS_cons (WS_ReturnS (WES_And (WES_Compare (WES_of (WE_name rfl ⟨rfl, WE_name rfl ⟨_, .eqD _ _ _ _ rfl rfl (sh1.shaped (by decide)) (sh1.shaped (by decide)), _, rfl, fun _ => ?_, fun h => ?_⟩⟩)))))
        · refine WES_And (WES_Compare (WES_of (WE_name rfl ⟨rfl, WE_name rfl ⟨_, .eqD _ _ _ _ rfl rfl (sh2.shaped (by decide)) (sh2.shaped (by decide)), _, rfl, fun _ => ?_, fun h => ?_⟩⟩)))
          · refine WES_And (WES_Compare (WES_callS (outer := outer) rfl fn_law_obo rfl (WA_cons (WE_slice_from (WE_name rfl (WE_int ⟨_, _, rfl, rfl, hpl, ?_⟩)))) (by show 3 ≤ 7; decide)))
            rw [hPs]
            refine WA_cons (WE_name rfl (WA_nil ⟨_, hob, rfl, WE_name rfl ⟨_, .eqD _ _ _ _ rfl rfl (sh2.shaped (by decide)) (sh2.shaped (by decide)), _, rfl, fun _ => ?_, fun h => ?_⟩⟩))
            · refine WES_one (WES_of (WE_Compare (WE_call1 fn_dirname (WE_Subscript (WE_name rfl (WE_int ⟨_, itP 0 (by decide), _, con_dirname _ (by have := textF_len up 0 (by decide); exact Nat.le_add_left _ _), WE_str ⟨_, .eqS _ _, ?_⟩⟩))) (by show 2 ≤ 7; decide))))
              have : (dirnameF (textF up 0) == Str.ofString "/") = true := by
                rw [show textF up 0 = Str.ofString "/" from rfl]; decide +kernel
              rw [this]
              rfl
            · rw [eqv_self sh2] at h; cases h
          · rw [eqv_self sh2] at h; cases h
        · rw [eqv_self sh1] at h; cases h
      · intro p hp
        simp only [List.mem_cons, List.not_mem_nil, or_false] at hp
        rcases hp with rfl | rfl <;> exact .inl rfl
    · intro p hp
      simp only [List.mem_cons, List.not_mem_nil, or_false] at hp
      rcases hp with rfl | rfl <;> exact .inl rfl
end
end Mine
end
section
open PySem PySem.W PySem.Calls PyProof.Rows
namespace Mine
/-! the table, as the run of the top leaves it -/
noncomputable def rdAt (h : Heap) : Nat → Value → PyData → Bool
  | 0, v, d => match v, d with
    | .int i _, .int j => decide (i = j)
    | .str x _, .str y => decide (x = y)
    | _, _ => false
  | n + 1, v, d => match v, d with
    | .int i _, .int j => decide (i = j)
    | .str x _, .str y => decide (x = y)
    | .ref a, .tuple ds => match h.get? a with
      | some ⟨.type t, none, .seq vs _, sl⟩ => decide (t = "tuple") && decide (sl.size = 0) && decide (vs.toList.length = ds.length) && (vs.toList.zip ds).all fun p => rdAt h n p.1 p.2
      | _ => false
    | _, _ => false
theorem rdAt_L {h : Heap} {f : Value → PyData → Bool} (hf : ∀ v d, f v d = true → Rd h v d) : ∀ (vs : List Value) (ds : List PyData), vs.length = ds.length → ((vs.zip ds).all fun p => f p.1 p.2) = true → RdL h vs ds
  | [], [], _, _ => .nil
  | v :: vs, d :: ds, hl, ha => by
    rw [List.zip_cons_cons, List.all_cons, Bool.and_eq_true] at ha
    exact .cons (hf _ _ ha.1) (rdAt_L hf vs ds (by simpa using hl) ha.2)
  | [], _ :: _, hl, _ => by simp at hl
  | _ :: _, [], hl, _ => by simp at hl
theorem rdAt_sound {h : Heap} : ∀ n v d, rdAt h n v d = true → Rd h v d := by
  intro n
  induction n with
  | zero =>
    intro v d hr
    unfold rdAt at hr
    split at hr
    · rw [← of_decide_eq_true hr]; exact .int _ _
    · rw [← of_decide_eq_true hr]; exact .str _ _
    · cases hr
  | succ n ih =>
    intro v d hr
    unfold rdAt at hr
    split at hr
    · rw [← of_decide_eq_true hr]; exact .int _ _
    · rw [← of_decide_eq_true hr]; exact .str _ _
    · split at hr
      · rename_i e
        simp only [Bool.and_eq_true, decide_eq_true_eq] at hr
        obtain ⟨⟨⟨rfl, h2⟩, h3⟩, h4⟩ := hr
        rename_i sl
        obtain rfl : sl = #[] := Array.eq_empty_of_size_eq_zero h2
        exact .tuple e (rdAt_L ih _ _ h3 h4)
      · cases hr
    · cases hr
noncomputable def tabSeen (s : Shared) : Bool := match s.heap.get? mainGlobals with
  | some ⟨_, _, .dict es _, _⟩ => match nsFind es (Str.ofString "_filemode_table") with
    | some v => rdAt s.heap 6 v fmTab
    | none => false
  | _ => false
noncomputable def TabIn (h : Heap) : Prop := ∃ o es ep v, h.get? mainGlobals = some o ∧ o.data = .dict es ep ∧ nsFind es (Str.ofString "_filemode_table") = some v ∧ Rd h v fmTab
theorem tabIn_of {s : Shared} (ht : tabSeen s = true) : TabIn s.heap := by
  unfold tabSeen at ht
  split at ht
  · rename_i es ep sl e
    split at ht
    · rename_i v hv
      exact ⟨_, es, ep, v, e, rfl, hv, rdAt_sound _ _ _ ht⟩
    · cases ht
  · cases ht
noncomputable def tabHook : Hook := ⟨Bool, tabSeen, fun _ => true, fun _ h => TabIn h, fun _ _ e => tabIn_of e, fun _ _ _ ⟨o, es, ep, v, h1, h2, h3, h4⟩ k => ⟨o, es, ep, v, k _ _ h1, h2, h3, h4.mono k⟩⟩
theorem tab_of {h : Heap} {Γ : Gx} (hK : TabIn h) (hg : h.Ns mainGlobals Γ.mg) : Tab Γ h := by
  obtain ⟨o, es, ep, v, h1, h2, h3, h4⟩ := hK
  obtain ⟨o', es', ep', ho, hd, _, hf⟩ := hg
  rw [h1] at ho
  cases ho
  rw [h2] at hd
  cases hd
  exact ⟨v, (hf _).symm.trans h3, h4⟩
noncomputable def frOk (p : Program) (loose : List Str) : Bool := frees.all fun x => !(startupNames.contains x || (looseW p loose).contains x || ((recsOf p).map (·.name)).contains x || ((litsOf p).map (·.1)).contains x || ((clssOf p (looseW p loose)).map (·.name)).contains x)
theorem gd_of {p : Program} {loose : List Str} {R : WRecords} {XP : (Str → Option Value) → Heap → Prop} {w : World} {s0 : Shared} {Γ : Gx} {h : Heap} (G : Ground p loose R XP w s0 Γ.mg Γ.mb h)
    (hrec : recsOf PySem.Challenge.pw_pd0153_01 = recsOf p) (hfr : frOk p loose = true) : Gd Γ h where
  g := G.T.g
  b := G.T.b
  nolimit := G.T.nolimit
  bs := G.T.builtins
  fn := by rw [hrec]; exact G.T.fn
  free := fun x hx => by
    have := List.all_eq_true.mp hfr x hx
    simp only [Bool.not_eq_true', Bool.or_eq_false_iff, List.contains_eq_mem, decide_eq_false_iff_not] at this
    exact G.T.free x this.1.1.1.1 this.1.1.1.2 this.1.1.2 this.1.2 this.2
theorem args_of {args : List WData} (hpre : PySem.Challenge.rw_pd0153_01.row.claim.pre args = true) : ∃ xs : List Int, args = [.list (xs.map .int)] ∧ xs.length ≤ 63 := by
  obtain ⟨h1, h2⟩ := pre_splitW hpre
  obtain ⟨d, r, rfl, h3, h4⟩ := hasAllW_cons (e := .list .int) (es := []) h1
  have := hasAllW_nil h4
  subst this
  obtain ⟨xs, rfl, h5⟩ := hasW_list h3
  obtain ⟨ns, rfl⟩ := items_int h5
  refine ⟨ns, rfl, ?_⟩
  have h6 : (WTm.and (.not (.lt (.lit (.int 63)) (.len (.arg 0)))) (.lit (.bool true))).holds [] { args := [.list (ns.map .int)] } = true := h2
  simp [WTm.holds, WTm.value] at h6
  rcases Nat.lt_or_ge 63 ns.length with h | h
  · exfalso
    have h7 : less? (.int 63) (.int (ns.length : Int)) = some true := by
      show some (decide ((63 : Int) < (ns.length : Int))) = some true
      rw [decide_eq_true (by omega)]
    rw [h7] at h6
    simp at h6
  · exact h
theorem wellInts {P : Params} {h : Heap} : ∀ {vs : List Value} {xs : List Int}, WellAll P h vs (xs.map .int) → RdL h vs (xs.map .int)
  | vs, [], x => by cases x; exact .nil
  | vs, i :: xs, x => by
    cases x with
    | cons h1 h2 =>
      cases h1
      exact .cons (.int _ _) (wellInts h2)
theorem law_good {p : Program} {loose : List Str} {R : WRecords} {XP : (Str → Option Value) → Heap → Prop} {w : World} {s0 s1 : Shared} {mg mb : Str → Option Value} (prog : Program) (G : Ground p loose R XP w s0 mg mb s1.heap)
    (hrec : recsOf PySem.Challenge.pw_pd0153_01 = recsOf p) (hfr : frOk p loose = true) (hK : TabIn s1.heap) {fa : Addr} (hmg : mg (Str.ofString "law") = some (.ref fa)) (hg : s1.gens = #[])
    {args : List WData} {vals : List Value} (hpre : PySem.Challenge.rw_pd0153_01.row.claim.pre args = true) (hwl : WellAll w.params s1.heap vals args) (cl : Str → Option Addr) (mean : ExcName → Option Value) :
    wpAny (model prog w) callerA (call (.ref fa) vals) (fun v s' => GoodWG PySem.Challenge.rw_pd0153_01.row.claim cl mean args s1 (.ok (.ret v)) s') (fun e s' => GoodWG PySem.Challenge.rw_pd0153_01.row.claim cl mean args s1 (.error e) s') s1 := by
  obtain ⟨xs, rfl, hx⟩ := args_of hpre
  cases hwl with
  | cons h1 h2 =>
    cases h2
    cases h1 with
    | list ha hl =>
      have gd := gd_of (Γ := ⟨prog, w, mg, mb⟩) G hrec hfr
      have sb : Sub s1.heap (fz s1.heap fun _ => False) := fun b o e => fz_some.mpr ⟨fun h => h, e⟩
      have hc := con_law (Γ := ⟨prog, w, mg, mb⟩) xs hx callerA (fun _ => False) s1.heap [] s1 fa _ ⟨rfl, by decide +kernel, by decide +kernel⟩ rfl gd (fun _ _ e => e) trivial (fun b hb => by cases hb)
        ((tab_of (Γ := ⟨prog, w, mg, mb⟩) hK G.T.g).mono sb) hg (fun a h => h.elim) hmg (.cons (Rd.list (n := 0) (sb _ _ ha) (RdL.mono sb (by rw [List.toList_toArray]; exact wellInts hl))) .nil)
      refine wpAny_mono hc (fun v s' ⟨k, vr⟩ => ?_) fun _ _ x => x.elim
      obtain rfl : v = .bool true := Rd.bool_inv vr
      refine ⟨.inl ⟨.bool true, .bool true, [], rfl, fun _ => rfl, .bool true, ?_, fun _ => ⟨List.nodup_nil, fun a h => by cases h⟩⟩, .of_keep fun b o e => (k.heap b o e).get (by simp), k.os, .of_eq (k.gens.trans hg)⟩
      exact postC_of (r := PySem.Challenge.rw_pd0153_01.row.toRowW) rfl (X := true) (by
        show (WTm.eq .res (.lit (.bool true))).value [] { args := [WData.list (List.map WData.int xs)], res := some (WData.bool true), after := [WData.list (List.map WData.int xs)] } = some (WData.bool true)
        simp only [WTm.value]
        decide +kernel) rfl
end Mine
end
open PySem PySem.W PyProof.Rows in
set_option maxHeartbeats 40000000 in
theorem PySem.Challenge.cw_pd0153_01_holds : PySem.Challenge.rw_pd0153_01.Holds := by
  w_on
  refine holds_law (by decide +kernel) fun said => ?_
  o_head Mine.tabHook
  (case hw => w_witness2)
  intro w s0 s1 mg mb G Y fa o pm cd doc dV kV ho hd hcd hD hmg hg args vals as hpre hlay hrd hwl hlo
  exact Mine.law_good _ G (by kernel_rfl) (by decide +kernel) Y hmg hg hpre hwl _ _
