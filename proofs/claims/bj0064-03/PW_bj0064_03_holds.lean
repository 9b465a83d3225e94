import PyProof.Rows.All
import Wide.All
import OpenK.AllK
import Wide.FinOn
import PySem.Challenge.RW_bj0064_03
open PySem PySem.W PyProof.Rows
set_option Elab.async false
set_option linter.all false
namespace Mine
set_option maxRecDepth 100000 in
set_option maxHeartbeats 8000000 in
open_top hd for PySem.Challenge.rw_bj0064_03
section
open PySem PySem.W PyProof.Rows PySem.Calls

/-- names of attributes, by number -/
def nmS : List String := ["append", "extend", "isdigit", "find", "decode", "join", "buffer", "length", "put", "put_bit", "get", "mode", "data", "write", "version", "_version", "error_correction", "box_size", "border", "mask_pattern", "_mask_pattern", "image_factory", "precomputed_qr_blanks", "clear", "modules", "modules_count", "data_cache", "data_list", "add_data", "best_fit", "makeImpl", "setup_position_probe_pattern", "setup_timing_pattern", "setup_position_adjust_pattern", "setup_type_number", "setup_type_info", "map_data", "num", "total_count", "data_count", "index", "__init__", "__len__", "__getitem__", "__iter__", "__mul__", "__mod__", "__get__", "__new__", "__doc__", "make", "encode", "items"]
def nmL : List Str := nmS.map PySem.Str.ofString
def nm (k : Nat) : Str := match nmL[k]? with | some x => x | none => ⟨#[0, k]⟩
theorem nm_inj {a b : Nat} (h : nm a = nm b) : a = b := by
  have nd : nmL.Nodup := by decide +kernel
  have nz : ∀ x ∈ nmL, ∀ k, x ≠ (⟨#[0, k]⟩ : Str) := by
    have : ∀ x ∈ nmL, x.cps[0]? ≠ some 0 := by decide +kernel
    intro x hx k e
    apply this x hx
    rw [e]; rfl
  unfold nm at h
  cases ha : nmL[a]? with
  | none =>
    cases hb : nmL[b]? with
    | none => rw [ha, hb] at h; simpa using h
    | some y => rw [ha, hb] at h; exact absurd h.symm (nz y (List.mem_of_getElem? hb) a)
  | some x =>
    cases hb : nmL[b]? with
    | none => rw [ha, hb] at h; exact absurd h (nz x (List.mem_of_getElem? ha) b)
    | some y =>
      rw [ha, hb] at h
      simp only at h
      subst h
      obtain ⟨h1, e1⟩ := List.getElem?_eq_some_iff.mp ha
      obtain ⟨h2, e2⟩ := List.getElem?_eq_some_iff.mp hb
      have nd' := List.pairwise_iff_getElem.mp nd
      rcases Nat.lt_trichotomy a b with hh | hh | hh
      · exact absurd (e1.trans e2.symm) (nd' a b h1 h2 hh)
      · exact hh
      · exact absurd (e2.trans e1.symm) (nd' b a h2 h1 hh)
/-- abstract values -/
inductive V where
  | unb | none | bool (b : Bool) | int (i : Int) | bytes (b : List UInt8) | str (s : Str) | val (v : Value) | ref (i : Nat) | cell (i : Nat)
  | rng (a b st : Int) | tup (vs : List V) | lst (vs : List V) | obj (C : Addr) (fs : List (Nat × V)) | dct (ks : List Int) (vs : List V) | ntup (C : Addr) (vs : List V)

/-- abstract owned objects -/
inductive AO where
  | dead | list (vs : List V) | inst (C : Addr) (fs : List (Nat × V)) | cell (v : V) | dict (ks : List Int) (vs : List V)

abbrev Led := List (Addr × Obj)
abbrev Loc := List (Str × V)
/-- heights: what stands for a walk's step is opened by the kernel ahead of what it stops at -/
def hi0 : Nat := 0
def hi1 : Nat := hi0
def hi2 : Nat := hi1
def hi3 : Nat := hi2
def hi4 : Nat := hi3
def hi5 : Nat := hi4
def hi6 : Nat := hi5
def hi7 : Nat := hi6
def hi8 : Nat := hi7
def hi9 : Nat := hi8
def hi10 : Nat := hi9
def hi11 : Nat := hi10
def hi12 : Nat := hi11
def hi13 : Nat := hi12
def hi14 : Nat := hi13
def hi15 : Nat := hi14
def hi16 : Nat := hi15
def hi17 : Nat := hi16
def hi18 : Nat := hi17
def hi19 : Nat := hi18
def hi20 : Nat := hi19
def hi21 : Nat := hi20
def hi22 : Nat := hi21
def hi23 : Nat := hi22
def hi24 : Nat := hi23
def hi25 : Nat := hi24
def hi26 : Nat := hi25
def hi27 : Nat := hi26
def hi28 : Nat := hi27
def hi29 : Nat := hi28
def hi30 : Nat := hi29
def hi (p : Prop) : Prop := (fun (_ : Nat) => p) hi30
@[reducible] def hiU (α : Type) (_ : Nat) : Type := α
@[reducible] def Hp : Type := hiU (List AO) hi30

abbrev tupObj (ws : List Value) (n : Nat) : Obj := { cls := .type "tuple", data := .seq ws.toArray n }

def IDict (o : Obj) (ks : List Int) (ws : List Value) : Prop := ks.length = ws.length ∧ ∀ p w, o.IsDictOf (intKind p w) (ks.zip ws)
mutual
inductive VR (z : Led) (ρ : List Addr) : V → Value → Prop
  | none : VR z ρ .none .none
  | bool (b) : VR z ρ (.bool b) (.bool b)
  | int (i t) : VR z ρ (.int i) (.int i t)
  | bytes (b t) : VR z ρ (.bytes b) (.bytes b.toArray t)
  | str (x t) : VR z ρ (.str x) (.str x t)
  | val (v) : VR z ρ (.val v) v
  | ref {i a} : ρ[i]? = some a → VR z ρ (.ref i) (.ref a)
  | rng {x a b st t u v} : (x, ({ cls := .type "range", dict := none, data := .fields #[.int a t, .int b u, .int st v], slots := #[] } : Obj)) ∈ z → VR z ρ (.rng a b st) (.ref x)
  | tup {vs ws a n} : (a, tupObj ws n) ∈ z → VRL z ρ vs ws → VR z ρ (.tup vs) (.ref a)
  | lst {vs ws a n} : (a, listOf ws.toArray n) ∈ z → VRL z ρ vs ws → VR z ρ (.lst vs) (.ref a)
  | obj {C fs es x dx sl n} : (x, (⟨.ref C, some dx, .plain, sl⟩ : Obj)) ∈ z → (dx, dictOf es n) ∈ z → ER z ρ fs es → VR z ρ (.obj C fs) (.ref x)
  | dct {ks vs ws a o} : (a, o) ∈ z → (a == sysModules) = false → IDict o ks ws → VRL z ρ vs ws → VR z ρ (.dct ks vs) (.ref a)
  | ntup {C vs ws a dx n} : (a, (⟨.ref C, some dx, .seq ws.toArray n, #[]⟩ : Obj)) ∈ z → (dx, (⟨.type "dict", none, .dict #[] 0, #[]⟩ : Obj)) ∈ z → VRL z ρ vs ws → VR z ρ (.ntup C vs) (.ref a)
inductive VRL (z : Led) (ρ : List Addr) : List V → List Value → Prop
  | nil : VRL z ρ [] []
  | cons {v w vs ws} : VR z ρ v w → VRL z ρ vs ws → VRL z ρ (v :: vs) (w :: ws)
inductive ER (z : Led) (ρ : List Addr) : List (Nat × V) → List DictEntry → Prop
  | nil : ER z ρ [] []
  | cons {x v w hs t fs es} : VR z ρ v w → ER z ρ fs es → ER z ρ ((x, v) :: fs) (⟨hs, .str (nm x) t, w⟩ :: es)
end

/-- growth of the two tables -/
structure Ext (ρ : List Addr) (z : Led) (ρ' : List Addr) (z' : Led) : Prop where
  r : ∀ (i : Nat) (a : Addr), ρ[i]? = some a → ρ'[i]? = some a
  zz : ∀ p ∈ z, p ∈ z'
theorem Ext.refl (ρ : List Addr) (z : Led) : Ext ρ z ρ z := ⟨fun _ _ h => h, fun _ h => h⟩
theorem Ext.trans {ρ ρ' ρ'' : List Addr} {z z' z'' : Led} (a : Ext ρ z ρ' z') (b : Ext ρ' z' ρ'' z'') : Ext ρ z ρ'' z'' := ⟨fun i x h => b.r i x (a.r i x h), fun p h => b.zz p (a.zz p h)⟩
theorem Ext.push (ρ : List Addr) (z : Led) (a : Addr) : Ext ρ z (ρ ++ [a]) z := ⟨fun i x h => by
  rw [List.getElem?_append_left (List.getElem?_eq_some_iff.mp h).1]; exact h, fun _ h => h⟩
theorem Ext.cons (ρ : List Addr) (z : Led) (p : Addr × Obj) : Ext ρ z ρ (p :: z) := ⟨fun _ _ h => h, fun _ h => .tail _ h⟩

mutual
theorem VR.mono {ρ ρ' : List Addr} {z z' : Led} (e : Ext ρ z ρ' z') : ∀ {v w}, VR z ρ v w → VR z' ρ' v w
  | _, _, .none => .none
  | _, _, .bool b => .bool b
  | _, _, .int i t => .int i t
  | _, _, .bytes b t => .bytes b t
  | _, _, .str x t => .str x t
  | _, _, .val v => .val v
  | _, _, .ref h => .ref (e.r _ _ h)
  | _, _, .rng h => .rng (e.zz _ h)
  | _, _, .tup h l => .tup (e.zz _ h) (VRL.mono e l)
  | _, _, .lst h l => .lst (e.zz _ h) (VRL.mono e l)
  | _, _, .obj h h' l => .obj (e.zz _ h) (e.zz _ h') (ER.mono e l)
  | _, _, .dct h m d l => .dct (e.zz _ h) m d (VRL.mono e l)
  | _, _, .ntup h h2 l => .ntup (e.zz _ h) (e.zz _ h2) (VRL.mono e l)
theorem VRL.mono {ρ ρ' : List Addr} {z z' : Led} (e : Ext ρ z ρ' z') : ∀ {v w}, VRL z ρ v w → VRL z' ρ' v w
  | _, _, .nil => .nil
  | _, _, .cons h l => .cons (VR.mono e h) (VRL.mono e l)
theorem ER.mono {ρ ρ' : List Addr} {z z' : Led} (e : Ext ρ z ρ' z') : ∀ {v w}, ER z ρ v w → ER z' ρ' v w
  | _, _, .nil => .nil
  | _, _, .cons h l => .cons (VR.mono e h) (ER.mono e l)
end

theorem VRL.length {z : Led} {ρ : List Addr} : ∀ {vs ws}, VRL z ρ vs ws → vs.length = ws.length
  | _, _, .nil => rfl
  | _, _, .cons _ l => congrArg (· + 1) l.length
theorem VRL.get {z : Led} {ρ : List Addr} : ∀ {vs ws}, VRL z ρ vs ws → ∀ {i : Nat} {v : V}, vs[i]? = some v → ∃ w, ws[i]? = some w ∧ VR z ρ v w
  | _, _, .cons h _, 0, _, e => by cases e; exact ⟨_, rfl, h⟩
  | _, _, .cons _ l, i + 1, _, e => l.get (i := i) e
theorem VRL.append {z : Led} {ρ : List Addr} : ∀ {vs ws vs' ws'}, VRL z ρ vs ws → VRL z ρ vs' ws' → VRL z ρ (vs ++ vs') (ws ++ ws')
  | _, _, _, _, .nil, h => h
  | _, _, _, _, .cons h l, h' => .cons h (l.append h')
theorem VRL.set {z : Led} {ρ : List Addr} : ∀ {vs ws}, VRL z ρ vs ws → ∀ {v w} (i : Nat), VR z ρ v w → VRL z ρ (vs.set i v) (ws.set i w)
  | _, _, .nil, _, _, _, _ => .nil
  | _, _, .cons _ l, _, _, 0, h => .cons h l
  | _, _, .cons h l, _, _, i + 1, h' => .cons h (l.set i h')
theorem VRL.take {z : Led} {ρ : List Addr} : ∀ {vs ws}, VRL z ρ vs ws → ∀ n, VRL z ρ (vs.take n) (ws.take n)
  | _, _, .nil, n => by simp; exact .nil
  | _, _, .cons _ _, 0 => .nil
  | _, _, .cons h l, n + 1 => .cons h (l.take n)
theorem VRL.drop {z : Led} {ρ : List Addr} : ∀ {vs ws}, VRL z ρ vs ws → ∀ n, VRL z ρ (vs.drop n) (ws.drop n)
  | _, _, .nil, n => by simp; exact .nil
  | _, _, .cons h l, 0 => .cons h l
  | _, _, .cons _ l, n + 1 => l.drop n

/-- the pieces of the real heap that bear one owned object -/
inductive PR (z : Led) (ρ : List Addr) : AO → Addr → Led → Prop
  | dead (a) : PR z ρ .dead a []
  | list {vs ws a n} : VRL z ρ vs ws → PR z ρ (.list vs) a [(a, listOf ws.toArray n)]
  | inst {C fs es a dx sl n} : ER z ρ fs es → PR z ρ (.inst C fs) a [(a, ⟨.ref C, some dx, .plain, sl⟩), (dx, dictOf es n)]
  | cell {v w a o} : VR z ρ v w → o.data = .cell (some w) → PR z ρ (.cell v) a [(a, o)]
  | dict {ks vs ws a o} : (a == sysModules) = false → IDict o ks ws → VRL z ρ vs ws → PR z ρ (.dict ks vs) a [(a, o)]
  | cell0 {a o} : o.data = .cell none → PR z ρ (.cell .unb) a [(a, o)]
theorem PR.mono {ρ ρ' : List Addr} {z z' : Led} (e : Ext ρ z ρ' z') {o a p} : PR z ρ o a p → PR z' ρ' o a p
  | .dead a => .dead a
  | .list l => .list (l.mono e)
  | .inst l => .inst (l.mono e)
  | .cell h d => .cell (h.mono e) d
  | .cell0 d => .cell0 d
  | .dict m d l => .dict m d (l.mono e)

inductive SR (z : Led) (R : List Addr) : Hp → List Addr → Led → Prop
  | nil : SR z R [] [] []
  | cons {o a p σ ρ led} : PR z R o a p → SR z R σ ρ led → SR z R (o :: σ) (a :: ρ) (p ++ led)
theorem SR.mono {ρ ρ' : List Addr} {z z' : Led} (e : Ext ρ z ρ' z') : ∀ {σ r l}, SR z ρ σ r l → SR z' ρ' σ r l
  | _, _, _, .nil => .nil
  | _, _, _, .cons h l => .cons (h.mono e) (l.mono e)
theorem SR.length {z : Led} {R : List Addr} : ∀ {σ r l}, SR z R σ r l → σ.length = r.length
  | _, _, _, .nil => rfl
  | _, _, _, .cons _ l => congrArg (· + 1) l.length
theorem SR.snoc {z : Led} {R : List Addr} : ∀ {σ r l}, SR z R σ r l → ∀ {o a p}, PR z R o a p → SR z R (σ ++ [o]) (r ++ [a]) (l ++ p)
  | _, _, _, .nil, _, _, p, h => by
    have := SR.cons h (SR.nil (z := z) (R := R))
    simpa using this
  | _, _, _, .cons (p := q) (led := led) h l, _, _, p, h' => by
    rw [List.append_assoc]; exact .cons h (l.snoc h')
/-- the object at i, and how it may be exchanged -/
theorem SR.split {z : Led} {R : List Addr} : ∀ {σ r l}, SR z R σ r l → ∀ {i : Nat} {o : AO}, σ[i]? = some o →
    ∃ a p pre post, r[i]? = some a ∧ l = pre ++ p ++ post ∧ PR z R o a p ∧ ∀ o' p', PR z R o' a p' → SR z R (σ.set i o') r (pre ++ p' ++ post)
  | _, _, _, .cons (a := a) (p := p) (led := led) h l, 0, _, e => by
    cases e
    exact ⟨a, p, [], led, rfl, by simp, h, fun o' p' h' => by simpa using SR.cons h' l⟩
  | _, _, _, .cons (p := q) h l, i + 1, _, e => by
    obtain ⟨a, p, pre, post, h1, h2, h3, h4⟩ := l.split (i := i) e
    refine ⟨a, p, q ++ pre, post, h1, by rw [h2]; simp, h3, fun o' p' h' => ?_⟩
    have := SR.cons h (h4 o' p' h')
    simpa using this
end
section
open PySem PySem.W PyProof.Rows PySem.Calls

/-- what stays fixed for a whole law: the program, the world, the top's facts, the code tables that may grow -/
structure Cx where
  prog : Program
  w : World
  Kf : Params → Frag
  mg : Str → Option Value
  mb : Str → Option Value
  os : OsState
  dr : Drawn
  h0 : Heap
  tt : List (Addr × Addr)
  kz : Led
  gi : Array GenState → Prop
abbrev Cx.K (c : Cx) : Frag := c.Kf c.w.params
abbrev Cx.M (c : Cx) : Model := model c.prog c.w
abbrev Cx.tk (c : Cx) : List Addr := c.tt.map (·.2)

/-- the base: the top as it stood -/
structure Base (c : Cx) (g : Heap) : Prop where
  X : c.K.In g
  gl : g.Ns mainGlobals c.mg
  bl : g.Ns builtinsNs c.mb
  nolimit : g.NoLimit
  builtins : ∀ x : Str, x ≠ "__name__" → c.mb x = bootBuiltins x
  codes : ∀ t ∈ c.tt, ∃ o, g.get? t.1 = some o
  bmod : ∃ bm o, c.mg "__builtins__" = some (.ref bm) ∧ bm ≠ builtinsNs ∧ g.get? bm = some o ∧ o.cls = .type "module" ∧ o.dict = some builtinsNs ∧ o.data = .plain
theorem Base.keeps {c : Cx} {g g' : Heap} (B : Base c g) (k : ∀ b o, g.get? b = some o → g'.get? b = some o) : Base c g' :=
  ⟨B.X.keeps k, B.gl.keeps k, B.bl.keeps k, B.nolimit.keeps k, B.builtins, fun t ht => let ⟨o, e⟩ := B.codes t ht; ⟨o, k _ _ e⟩, let ⟨bm, o, a, b, e, r⟩ := B.bmod; ⟨bm, o, a, b, k _ _ e, r⟩⟩

/-- a code table: it may hold codes of its own that the call compiled -/
def TabOk (h : Heap) (t : Addr × Addr) : Prop := ∃ ps, h.IsCode t.1 t.2 ps ∧ h.TableAt t.1 t.2 ps

structure Rp (c : Cx) (g : Heap) (X : List Addr) (ρ : List Addr) (z : Led) (σ : Hp) (s : Shared) : Prop where
  base : Base c g
  keep : ∀ b o, g.get? b = some o → s.heap.get? b = some o
  own : ∃ led, SR z ρ σ ρ led ∧ (led.map (·.1)).Nodup ∧ ∀ p ∈ led, s.heap.get? p.1 = some p.2 ∧ g.get? p.1 = none ∧ p.1 ∉ X ++ c.tk ∧ ∀ q ∈ z, q.1 ≠ p.1
  frz : ∀ q ∈ z, s.heap.get? q.1 = some q.2 ∧ q.1 ∉ X ++ c.tk
  off : ∀ a ∈ X ++ c.tk, g.get? a = none ∧ ∃ o, s.heap.get? a = some o
  tabs : ∀ t ∈ c.tt, TabOk s.heap t
  os : s.os = c.os
  dr : s.drawn = c.dr
  gens : c.gi s.gens
  kz : ∀ p ∈ c.kz, p ∈ z

theorem TabOk.keeps {h h' : Heap} {t} (x : TabOk h t) (k : ∀ b o, h.get? b = some o → h'.get? b = some o) : TabOk h' t :=
  let ⟨ps, a, b⟩ := x; ⟨ps, a.keeps k, b.keeps k⟩

/-- the heap grows: nothing that stood has changed -/
theorem Rp.grow {c g X ρ z σ} {s s' : Shared} (R : Rp c g X ρ z σ s) (k : ∀ b o, s.heap.get? b = some o → s'.heap.get? b = some o)
    (h1 : s'.os = s.os := by rfl) (h2 : s'.drawn = s.drawn := by rfl) (h3 : s'.gens = s.gens := by rfl) : Rp c g X ρ z σ s' := by
  obtain ⟨led, a, b, d⟩ := R.own
  exact ⟨R.base, fun b o e => k _ _ (R.keep b o e), ⟨led, a, b, fun p hp => ⟨k _ _ (d p hp).1, (d p hp).2⟩⟩, fun q hq => ⟨k _ _ (R.frz q hq).1, (R.frz q hq).2⟩,
    fun a ha => ⟨(R.off a ha).1, let ⟨o, e⟩ := (R.off a ha).2; ⟨o, k _ _ e⟩⟩, fun t ht => (R.tabs t ht).keeps k, h1 ▸ R.os, h2 ▸ R.dr, h3 ▸ R.gens, R.kz⟩
theorem Rp.toks {c g X ρ z σ} {s : Shared} (R : Rp c g X ρ z σ s) (t : Nat) : Rp c g X ρ z σ { s with toks := t } := R.grow (s' := { s with toks := t }) (fun _ _ e => e)
theorem Rp.junk {c g X ρ z σ} {s : Shared} (R : Rp c g X ρ z σ s) (o : Obj) : Rp c g X ρ z σ { s with heap := s.heap.push o } :=
  R.grow (s' := { s with heap := s.heap.push o }) (fun _ _ e => Heap.get?_push_of_some _ e)

theorem fresh_at {h : Heap} {a : Addr} (ha : h.objs.size ≤ a) : h.get? a = none := by
  cases e : h.get? a with
  | none => rfl
  | some o => exact absurd (Heap.lt_size e) (Nat.not_lt.mpr ha)
theorem fresh_base {g h : Heap} (k : ∀ b o, g.get? b = some o → h.get? b = some o) {a : Addr} (ha : h.get? a = none) : g.get? a = none := by
  cases e : g.get? a with
  | none => rfl
  | some o => rw [k _ _ e] at ha; cases ha
theorem fresh_ne {h : Heap} {a b : Addr} {o : Obj} (e : h.get? b = some o) (ha : h.get? a = none) : b ≠ a := fun q => by rw [q, ha] at e; cases e

/-- objects that stand and are nobody's become facts that stay -/
theorem Rp.froze {c g X ρ z σ} {s : Shared} (R : Rp c g X ρ z σ s) (zs : Led) (hz : ∀ p ∈ zs, s.heap.get? p.1 = some p.2 ∧ p.1 ∉ X ++ c.tk ∧ g.get? p.1 ≠ none) : Rp c g X ρ (zs ++ z) σ s := by
  obtain ⟨led, a, b, d⟩ := R.own
  refine ⟨R.base, R.keep, ⟨led, a.mono ⟨fun _ _ h => h, fun p h => List.mem_append_right _ h⟩, b, fun p hp => ⟨(d p hp).1, (d p hp).2.1, (d p hp).2.2.1, fun q hq => ?_⟩⟩, fun q hq => ?_, R.off, R.tabs, R.os, R.dr, R.gens, fun p hp => List.mem_append_right _ (R.kz p hp)⟩
  · rcases List.mem_append.mp hq with h | h
    · have h' := (hz q h).2.2
      intro e; rw [e] at h'; exact h' (d p hp).2.1
    · exact (d p hp).2.2.2 q h
  · rcases List.mem_append.mp hq with h | h
    · exact ⟨(hz q h).1, (hz q h).2.1⟩
    · exact R.frz q h

/-- a new object that stays as it is -/
theorem Rp.pushZ {c g X ρ z σ} {s : Shared} (R : Rp c g X ρ z σ s) (o : Obj) (hf : o.isFreed = false := by rfl) : Rp c g X ρ ((s.heap.objs.size, o) :: z) σ { s with heap := s.heap.push o } := by
  have J := R.junk o
  obtain ⟨led, a, b, d⟩ := R.own
  have ob : ∀ p ∈ led, p.1 ≠ s.heap.objs.size := fun p hp => fresh_ne (d p hp).1 (fresh_at (Nat.le_refl _))
  refine ⟨R.base, J.keep, ⟨led, a.mono (Ext.cons ..), b, fun p hp => ⟨Heap.get?_push_of_some _ (d p hp).1, (d p hp).2.1, (d p hp).2.2.1, fun q hq => ?_⟩⟩, fun q hq => ?_, J.off, J.tabs, J.os, J.dr, J.gens, fun p hp => .tail _ (R.kz p hp)⟩
  · rcases List.mem_cons.mp hq with rfl | h
    · exact (ob p hp).symm
    · exact (d p hp).2.2.2 q h
  · rcases List.mem_cons.mp hq with rfl | h
    · exact ⟨Heap.get?_push_size _ hf, fun hm => let ⟨_, e⟩ := (R.off _ hm).2; Nat.lt_irrefl _ (Heap.lt_size e)⟩
    · exact ⟨Heap.get?_push_of_some _ (R.frz q h).1, (R.frz q h).2⟩

/-- new objects of the call's own -/
theorem Rp.new {c g X ρ z σ} {s s' : Shared} {o : AO} {a : Addr} {p : Led} (R : Rp c g X ρ z σ s) (k : ∀ b o, s.heap.get? b = some o → s'.heap.get? b = some o)
    (hp : PR z (ρ ++ [a]) o a p) (hn : (p.map (·.1)).Nodup) (hh : ∀ q ∈ p, s'.heap.get? q.1 = some q.2 ∧ s.heap.get? q.1 = none)
    (h1 : s'.os = s.os := by rfl) (h2 : s'.drawn = s.drawn := by rfl) (h3 : s'.gens = s.gens := by rfl) : Rp c g X (ρ ++ [a]) z (σ ++ [o]) s' := by
  have J := R.grow k h1 h2 h3
  obtain ⟨led, a', b, d⟩ := R.own
  refine ⟨R.base, J.keep, ⟨led ++ p, (a'.mono (Ext.push ..)).snoc hp, ?_, fun q hq => ?_⟩, J.frz, J.off, J.tabs, J.os, J.dr, J.gens, J.kz⟩
  · rw [List.map_append, List.nodup_append]
    refine ⟨b, hn, fun x hx y hy => ?_⟩
    obtain ⟨q, hq, rfl⟩ := List.mem_map.mp hx
    obtain ⟨q', hq', rfl⟩ := List.mem_map.mp hy
    exact fresh_ne (d q hq).1 (hh q' hq').2
  · rcases List.mem_append.mp hq with h | h
    · exact ⟨k _ _ (d q h).1, (d q h).2⟩
    · refine ⟨(hh q h).1, fresh_base R.keep (hh q h).2, fun hm => ?_, fun r hr => fresh_ne (R.frz r hr).1 (hh q h).2⟩
      obtain ⟨_, e⟩ := (R.off _ hm).2
      rw [(hh q h).2] at e; cases e

/-- the owned object at i -/
theorem Rp.at {c g X ρ z σ} {s : Shared} (R : Rp c g X ρ z σ s) {i : Nat} {o : AO} (e : σ[i]? = some o) :
    ∃ a p, ρ[i]? = some a ∧ PR z ρ o a p ∧ (∀ q ∈ p, s.heap.get? q.1 = some q.2 ∧ g.get? q.1 = none ∧ q.1 ∉ X ++ c.tk) := by
  obtain ⟨led, a, b, d⟩ := R.own
  obtain ⟨x, p, pre, post, h1, rfl, h3, h4⟩ := a.split e
  exact ⟨x, p, h1, h3, fun q hq => ⟨(d q (by simp [hq])).1, (d q (by simp [hq])).2.1, (d q (by simp [hq])).2.2.1⟩⟩

/-- one real object of the owned object at i is exchanged -/
theorem Rp.upd {c g X ρ z σ} {s s' : Shared} (R : Rp c g X ρ z σ s) {i : Nat} {o : AO} (e : σ[i]? = some o) {a : Addr} (ha : ρ[i]? = some a) {o' : AO} {b : Addr}
    (hq : ∀ p, PR z ρ o a p → (∀ q ∈ p, s.heap.get? q.1 = some q.2) → b ∈ p.map (·.1) ∧ ∃ p', PR z ρ o' a p' ∧ p'.map (·.1) = p.map (·.1) ∧ ∀ q ∈ p', s'.heap.get? q.1 = some q.2)
    (hs : Heap.SameBut b s.heap s'.heap) (h1 : s'.os = s.os := by rfl) (h2 : s'.drawn = s.drawn := by rfl) (h3 : s'.gens = s.gens := by rfl) : Rp c g X ρ z (σ.set i o') s' := by
  obtain ⟨led, a', nd, d⟩ := R.own
  obtain ⟨x, p, pre, post, hx, rfl, h3', h4⟩ := a'.split e
  rw [ha] at hx; cases hx
  obtain ⟨hb, p', hp', hm, hg⟩ := hq p h3' (fun q hq => (d q (by simp [hq])).1)
  obtain ⟨qb, hqb, rfl⟩ := List.mem_map.mp hb
  have dq := d qb (by simp [hqb])
  have hne : ∀ q ∈ pre ++ post, q.1 ≠ qb.1 := by
    intro q hq
    simp only [List.map_append, List.append_assoc] at nd
    rw [List.nodup_append] at nd
    obtain ⟨_, n2, n3⟩ := nd
    rw [List.nodup_append] at n2
    rcases List.mem_append.mp hq with h | h
    · exact n3 _ (List.mem_map_of_mem h) _ (List.mem_append_left _ (List.mem_map_of_mem hqb))
    · exact (n2.2.2 _ (List.mem_map_of_mem hqb) _ (List.mem_map_of_mem h)).symm
  have off : ∀ y, y ≠ qb.1 → ∀ ob, s.heap.get? y = some ob → s'.heap.get? y = some ob := fun y hy ob e => (hs.2 y hy).trans e
  refine ⟨R.base, fun y ob ey => off y (fun q => ?_) ob (R.keep y ob ey), ⟨pre ++ p' ++ post, h4 o' p' hp', ?_, fun q hq => ?_⟩, fun q hq => ⟨off _ (dq.2.2.2 q hq) _ (R.frz q hq).1, (R.frz q hq).2⟩,
    fun y hy => ⟨(R.off y hy).1, let ⟨o, e⟩ := (R.off y hy).2; ⟨o, off y (fun q => dq.2.2.1 (q ▸ hy)) o e⟩⟩, fun t ht => ?_, h1 ▸ R.os, h2 ▸ R.dr, h3 ▸ R.gens, R.kz⟩
  · rw [q, dq.2.1] at ey; cases ey
  · have : (pre ++ p' ++ post).map (·.1) = (pre ++ p ++ post).map (·.1) := by simp [hm]
    rw [this]; exact nd
  · have hq' : q ∈ p' ∨ q ∈ pre ++ post := by
      simp only [List.mem_append] at hq ⊢
      rcases hq with (h | h) | h
      · exact .inr (.inl h)
      · exact .inl h
      · exact .inr (.inr h)
    rcases hq' with h | h
    · have : q.1 ∈ p.map (·.1) := hm ▸ List.mem_map_of_mem h
      obtain ⟨r, hr, er⟩ := List.mem_map.mp this
      have dr := d r (by simp [hr])
      rw [er] at dr
      exact ⟨hg q h, dr.2⟩
    · have dd := d q (by rcases List.mem_append.mp h with h | h <;> simp [h])
      exact ⟨off _ (hne q h) _ dd.1, dd.2⟩
  · obtain ⟨ps, i1⟩ := R.tabs t ht
    have ht2 : t.2 ≠ qb.1 := fun q => dq.2.2.1 (List.mem_append_right _ (q ▸ List.mem_map_of_mem ht))
    have e1 : t.1 ≠ qb.1 := fun q => by
      obtain ⟨ob, eb⟩ := R.base.codes t ht
      rw [q, dq.2.1] at eb; cases eb
    exact ⟨ps, i1.1.extBut hs.extBut e1 ht2, i1.2.extBut hs.extBut e1 ht2⟩
/-- what is changed is the frame's own -/
theorem Rp.atX {c g X ρ z σ} {s s' : Shared} (R : Rp c g X ρ z σ s) {a : Addr} (ha : a ∈ X) (hk : a ∉ c.tk) (hs : Heap.SameBut a s.heap s'.heap) (he : ∃ o, s'.heap.get? a = some o)
    (h1 : s'.os = s.os := by rfl) (h2 : s'.drawn = s.drawn := by rfl) (h3 : s'.gens = s.gens := by rfl) : Rp c g X ρ z σ s' := by
  obtain ⟨led, a', b, d⟩ := R.own
  have hX : a ∈ X ++ c.tk := List.mem_append_left _ ha
  have ag := (R.off a hX).1
  refine ⟨R.base, fun x o e => (hs.2 x fun q => ?_).trans (R.keep x o e), ⟨led, a', b, fun p hp => ⟨(hs.2 p.1 fun q => (d p hp).2.2.1 (by rw [q]; exact hX)).trans (d p hp).1, (d p hp).2⟩⟩,
    fun q hq => ⟨(hs.2 q.1 fun e => (R.frz q hq).2 (by rw [e]; exact hX)).trans (R.frz q hq).1, (R.frz q hq).2⟩, fun x hx => ⟨(R.off x hx).1, ?_⟩, fun t ht => ?_, h1 ▸ R.os, h2 ▸ R.dr, h3 ▸ R.gens, R.kz⟩
  · rw [q, ag] at e; cases e
  · by_cases q : x = a
    · rw [q]; exact he
    · obtain ⟨o, e⟩ := (R.off x hx).2
      exact ⟨o, (hs.2 x q).trans e⟩
  · obtain ⟨ps, i1⟩ := R.tabs t ht
    have ht2 : t.2 ≠ a := fun q => hk (q ▸ List.mem_map_of_mem ht)
    have e1 : t.1 ≠ a := fun q => by
      obtain ⟨ob, eb⟩ := R.base.codes t ht
      rw [q, ag] at eb; cases eb
    exact ⟨ps, i1.1.extBut hs.extBut e1 ht2, i1.2.extBut hs.extBut e1 ht2⟩
end
section
open PySem PySem.W PyProof.Rows PySem.Calls

/-- from one state to a later one -/
structure Go (g : Heap) (ρ : List Addr) (z : Led) (s : Shared) (ρ' : List Addr) (z' : Led) (s' : Shared) : Prop extends Ext ρ z ρ' z' where
  dom : ∀ b o, s.heap.get? b = some o → ∃ o', s'.heap.get? b = some o'
  fr : ∀ p ∈ z', p ∈ z ∨ g.get? p.1 = none
theorem Go.refl (g : Heap) (ρ : List Addr) (z : Led) (s : Shared) : Go g ρ z s ρ z s := ⟨Ext.refl .., fun _ o h => ⟨o, h⟩, fun _ h => .inl h⟩
theorem Go.trans {g : Heap} {ρ ρ' ρ'' : List Addr} {z z' z'' : Led} {s s' s'' : Shared} (a : Go g ρ z s ρ' z' s') (b : Go g ρ' z' s' ρ'' z'' s'') : Go g ρ z s ρ'' z'' s'' :=
  ⟨a.toExt.trans b.toExt, fun x o h => let ⟨_, h'⟩ := a.dom x o h; b.dom x _ h', fun p h => (b.fr p h).elim (fun h => a.fr p h) .inr⟩
theorem Go.same (g : Heap) (ρ : List Addr) (z : Led) (s s' : Shared) (h : ∀ b o, s.heap.get? b = some o → s'.heap.get? b = some o) : Go g ρ z s ρ z s' := ⟨Ext.refl .., fun b o e => ⟨o, h b o e⟩, fun _ h => .inl h⟩
theorem Go.less {g g1 : Heap} {ρ ρ' : List Addr} {z z' : Led} {s s' : Shared} (a : Go g1 ρ z s ρ' z' s') (h : ∀ b o, g.get? b = some o → g1.get? b = some o) : Go g ρ z s ρ' z' s' :=
  ⟨a.toExt, a.dom, fun p hp => (a.fr p hp).imp id fun e => by
    cases q : g.get? p.1 with
    | none => rfl
    | some o => rw [h _ _ q] at e; cases e⟩

def NR (env : Env) (ρ : List Addr) (z : Led) (m : Str → Option Value) (p : Str × V) : Prop :=
  p.2 = .unb ∨ (∃ i a, p.2 = .cell i ∧ (env.kindOf p.1 = some .cell ∨ env.kindOf p.1 = some .free) ∧ env.cells.lookup p.1 = some a ∧ ρ[i]? = some a) ∨
  (env.kindOf p.1 = some .local ∧ ∃ w, m p.1 = some w ∧ VR z ρ p.2 w)
theorem NR.mono {env : Env} {ρ ρ' : List Addr} {z z' : Led} {m : Str → Option Value} {p : Str × V} (e : Ext ρ z ρ' z') : NR env ρ z m p → NR env ρ' z' m p
  | .inl h => .inl h
  | .inr (.inl ⟨i, a, h1, h2, h3, h4⟩) => .inr (.inl ⟨i, a, h1, h2, h3, e.r _ _ h4⟩)
  | .inr (.inr ⟨h1, w, h2, h3⟩) => .inr (.inr ⟨h1, w, h2, h3.mono e⟩)

structure Rep (c : Cx) (env : Env) (g : Heap) (ρ : List Addr) (z : Led) (σ : Hp) (l : Loc) (s : Shared) : Prop extends Rp c g [env.locals] ρ z σ s where
  ns : ∃ m, s.heap.Ns env.locals m ∧ ∀ p ∈ l, NR env ρ z m p
  nd : (l.map (·.1)).Nodup
  kind : env.scope.kind = .function
  glob : env.globals = mainGlobals
  bltn : env.builtins = builtinsNs
  lt : env.locals ∉ c.tk

theorem Rep.mk' {c : Cx} {env : Env} {g ρ ρ' z z' σ σ' l} {s s' : Shared} (R : Rep c env g ρ z σ l s) (P : Rp c g [env.locals] ρ' z' σ' s') (e : Ext ρ z ρ' z')
    (k : ∀ m, s.heap.Ns env.locals m → s'.heap.Ns env.locals m) : Rep c env g ρ' z' σ' l s' :=
  ⟨P, let ⟨m, a, b⟩ := R.ns; ⟨m, k m a, fun p hp => (b p hp).mono e⟩, R.nd, R.kind, R.glob, R.bltn, R.lt⟩
theorem Rep.grow {c : Cx} {env : Env} {g ρ z σ l} {s s' : Shared} (R : Rep c env g ρ z σ l s) (k : ∀ b o, s.heap.get? b = some o → s'.heap.get? b = some o)
    (h1 : s'.os = s.os := by rfl) (h2 : s'.drawn = s.drawn := by rfl) (h3 : s'.gens = s.gens := by rfl) : Rep c env g ρ z σ l s' :=
  R.mk' (R.toRp.grow k h1 h2 h3) (Ext.refl ..) fun _ h => h.keeps k
theorem Rep.toks {c : Cx} {env : Env} {g ρ z σ l} {s : Shared} (R : Rep c env g ρ z σ l s) (t : Nat) : Rep c env g ρ z σ l { s with toks := t } := R.grow (s' := { s with toks := t }) (fun _ _ e => e)
theorem Rep.junk {c : Cx} {env : Env} {g ρ z σ l} {s : Shared} (R : Rep c env g ρ z σ l s) (o : Obj) : Rep c env g ρ z σ l { s with heap := s.heap.push o } :=
  R.grow (s' := { s with heap := s.heap.push o }) (fun _ _ e => Heap.get?_push_of_some _ e)
theorem Rep.pushZ {c : Cx} {env : Env} {g ρ z σ l} {s : Shared} (R : Rep c env g ρ z σ l s) (o : Obj) (hf : o.isFreed = false := by rfl) : Rep c env g ρ ((s.heap.objs.size, o) :: z) σ l { s with heap := s.heap.push o } :=
  R.mk' (R.toRp.pushZ o hf) (Ext.cons ..) fun _ h => h.push o
theorem Go.push {g : Heap} {ρ : List Addr} {z : Led} {s : Shared} (k : ∀ b o, g.get? b = some o → s.heap.get? b = some o) (o : Obj) : Go g ρ z s ρ ((s.heap.objs.size, o) :: z) { s with heap := s.heap.push o } :=
  ⟨Ext.cons .., fun b o' e => ⟨o', Heap.get?_push_of_some _ e⟩, fun p h => by rcases List.mem_cons.mp h with rfl | h; exact .inr (fresh_base k (fresh_at (Nat.le_refl _))); exact .inl h⟩

/-- room -/
structure Ok (A : Around) (D : Nat) : Prop where
  h : A.handled = none
  d : A.depth + 3 * D + 3 < recursionLimit
  u : A.units + 20 * D + 20 < cLine
theorem Ok.less {A : Around} {D D' : Nat} (o : Ok A D) (h : D' ≤ D) : Ok A D' := ⟨o.h, by have := o.d; omega, by have := o.u; omega⟩

def EV (c : Cx) (env : Env) (D : Nat) (t : Sem Value) (l : Loc) (σ : Hp) (Q : V → Hp → Prop) : Prop :=
  ∀ (A : Around) (g : Heap) (ρ : List Addr) (z : Led) (s : Shared) (Q' E' : Value → Shared → Prop), Ok A D → Rep c env g ρ z σ l s →
    (∀ v w σ' ρ' z' s', Q v σ' → Rep c env g ρ' z' σ' l s' → Go g ρ z s ρ' z' s' → VR z' ρ' v w → Q' w s') → wpAny c.M A t Q' E' s
/-- of a tree that takes values that were reckoned before -/
def EVW (c : Cx) (env : Env) (D : Nat) (vs : List V) (t : List Value → Sem Value) (l : Loc) (σ : Hp) (Q : V → Hp → Prop) : Prop :=
  ∀ (A : Around) (g : Heap) (ρ : List Addr) (z : Led) (s : Shared) (Q' E' : Value → Shared → Prop) (ws : List Value), Ok A D → Rep c env g ρ z σ l s → VRL z ρ vs ws →
    (∀ v w σ' ρ' z' s', Q v σ' → Rep c env g ρ' z' σ' l s' → Go g ρ z s ρ' z' s' → VR z' ρ' v w → Q' w s') → wpAny c.M A (t ws) Q' E' s
/-- truth -/
def EB (c : Cx) (env : Env) (D : Nat) (t : Sem Bool) (l : Loc) (σ : Hp) (Q : Bool → Hp → Prop) : Prop :=
  ∀ (A : Around) (g : Heap) (ρ : List Addr) (z : Led) (s : Shared) (Q' : Bool → Shared → Prop) (E' : Value → Shared → Prop), Ok A D → Rep c env g ρ z σ l s →
    (∀ b σ' ρ' z' s', Q b σ' → Rep c env g ρ' z' σ' l s' → Go g ρ z s ρ' z' s' → Q' b s') → wpAny c.M A t Q' E' s
/-- a call, of values -/
def FN (c : Cx) (D : Nat) (f : V) (args : List V) (kw : List (Str × V)) (σ : Hp) (Q : V → Hp → Prop) : Prop :=
  ∀ (A : Around) (g : Heap) (ρ : List Addr) (z : Led) (s : Shared) (Q' E' : Value → Shared → Prop) (wf : Value) (ws kws : List Value), Ok A D → Rp c g [] ρ z σ s → VR z ρ f wf → VRL z ρ args ws → VRL z ρ (kw.map (·.2)) kws →
    (∀ v w σ' ρ' z' s', Q v σ' → Rp c g [] ρ' z' σ' s' → Go g ρ z s ρ' z' s' → VR z' ρ' v w → Q' w s') → wpAny c.M A (call wf ws ((kw.map (·.1)).zip kws)) Q' E' s
/-- a call, of values, whose def raises nothing, as the machine's own step -/
def FC (c : Cx) (D : Nat) (f : V) (args : List V) (kw : List (Str × V)) (σ : Hp) (Q : V → Hp → Prop) : Prop :=
  ∀ (A : Around) (g : Heap) (ρ : List Addr) (z : Led) (s : Shared) (R : Result → Shared → Prop) (wf : Value) (ws kws : List Value), Ok A D → Rp c g [] ρ z σ s → VR z ρ f wf → VRL z ρ args ws → VRL z ρ (kw.map (·.2)) kws →
    (∀ v w σ' ρ' z' s', Q v σ' → Rp c g [] ρ' z' σ' s' → Go g ρ z s ρ' z' s' → VR z' ρ' v w → R (.ok (.ret w)) s') → codeAny c.M A (.call wf ⟨ws, (kw.map (·.1)).zip kws⟩) R s
theorem FC.fn {c : Cx} {D : Nat} {f : V} {args : List V} {kw : List (Str × V)} {σ : Hp} {Q : V → Hp → Prop} (h : FC c D f args kw σ Q) : FN c D f args kw σ Q :=
  fun A g ρ z s Q' E' wf ws kws ok R r1 r2 r3 q => wpAny_call (h A g ρ z s _ wf ws kws ok R r1 r2 r3 fun v w σ' ρ' z' s' hq R' G' r' => q v w σ' ρ' z' s' hq R' G' r')
theorem FC.mono {c : Cx} {D : Nat} {f : V} {args : List V} {kw : List (Str × V)} {σ : Hp} {Q Q' : V → Hp → Prop} (h : FC c D f args kw σ Q) (k : ∀ v σ', Q v σ' → Q' v σ') : FC c D f args kw σ Q' :=
  fun A g ρ z s R₁ wf ws kws ok R h1 h2 h3 q => h A g ρ z s R₁ wf ws kws ok R h1 h2 h3 fun v w σ' ρ' z' s' hq => q v w σ' ρ' z' s' (k _ _ hq)
theorem FC.less {c : Cx} {D D' : Nat} {f : V} {args : List V} {kw : List (Str × V)} {σ : Hp} {Q : V → Hp → Prop} (h : FC c D' f args kw σ Q) (k : D' ≤ D) : FC c D f args kw σ Q :=
  fun A g ρ z s R₁ wf ws kws ok R h1 h2 h3 q => h A g ρ z s R₁ wf ws kws (ok.less k) R h1 h2 h3 q
inductive Fl where
  | next | brk | cont | ret (v : V)
inductive FR (z : Led) (ρ : List Addr) : Fl → Flow → Prop
  | next : FR z ρ .next .next
  | brk : FR z ρ .brk .brk
  | cont : FR z ρ .cont .cont
  | ret {v w} : VR z ρ v w → FR z ρ (.ret v) (.ret w)
/-- statements -/
def EX (c : Cx) (env : Env) (D : Nat) (t : Sem Flow) (l : Loc) (σ : Hp) (Q : Fl → Loc → Hp → Prop) : Prop :=
  ∀ (A : Around) (g : Heap) (ρ : List Addr) (z : Led) (s : Shared) (Q' : Flow → Shared → Prop) (E' : Value → Shared → Prop), Ok A D → Rep c env g ρ z σ l s →
    (∀ f fw l' σ' ρ' z' s', Q f l' σ' → Rep c env g ρ' z' σ' l' s' → Go g ρ z s ρ' z' s' → FR z' ρ' f fw → Q' fw s') → wpAny c.M A t Q' E' s

section
variable {c : Cx} {env : Env} {D : Nat} {l : Loc} {σ : Hp}
theorem EV.mono {t : Sem Value} {Q Q' : V → Hp → Prop} (h : EV c env D t l σ Q) (k : ∀ v σ', Q v σ' → Q' v σ') : EV c env D t l σ Q' :=
  fun A g ρ z s Q₁ E₁ ok R q => h A g ρ z s Q₁ E₁ ok R fun v w σ' ρ' z' s' hq => q v w σ' ρ' z' s' (k _ _ hq)
theorem EB.mono {t : Sem Bool} {Q Q' : Bool → Hp → Prop} (h : EB c env D t l σ Q) (k : ∀ v σ', Q v σ' → Q' v σ') : EB c env D t l σ Q' :=
  fun A g ρ z s Q₁ E₁ ok R q => h A g ρ z s Q₁ E₁ ok R fun v σ' ρ' z' s' hq => q v σ' ρ' z' s' (k _ _ hq)
theorem FN.mono {f : V} {args : List V} {kw : List (Str × V)} {Q Q' : V → Hp → Prop} (h : FN c D f args kw σ Q) (k : ∀ v σ', Q v σ' → Q' v σ') : FN c D f args kw σ Q' :=
  fun A g ρ z s Q₁ E₁ wf ws kws ok R h1 h2 h3 q => h A g ρ z s Q₁ E₁ wf ws kws ok R h1 h2 h3 fun v w σ' ρ' z' s' hq => q v w σ' ρ' z' s' (k _ _ hq)
theorem EX.mono {t : Sem Flow} {Q Q' : Fl → Loc → Hp → Prop} (h : EX c env D t l σ Q) (k : ∀ f l' σ', Q f l' σ' → Q' f l' σ') : EX c env D t l σ Q' :=
  fun A g ρ z s Q₁ E₁ ok R q => h A g ρ z s Q₁ E₁ ok R fun f fw l' σ' ρ' z' s' hq => q f fw l' σ' ρ' z' s' (k _ _ _ hq)
theorem FN.less {f : V} {args : List V} {kw : List (Str × V)} {Q : V → Hp → Prop} {D' : Nat} (h : FN c D' f args kw σ Q) (k : D' ≤ D) : FN c D f args kw σ Q :=
  fun A g ρ z s Q₁ E₁ wf ws kws ok R h1 h2 h3 q => h A g ρ z s Q₁ E₁ wf ws kws (ok.less k) R h1 h2 h3 q
theorem EV.eq {t t' : Sem Value} {Q : V → Hp → Prop} (h : EV c env D t' l σ Q) (e : t = t') : EV c env D t l σ Q := e ▸ h
end

/-- a call leaves its caller's frame as it was -/
theorem Rep.out {c : Cx} {env : Env} {g ρ z σ l} {s : Shared} (R : Rep c env g ρ z σ l s) :
    ∃ g1, Rp c g1 [] ρ z σ s ∧ ∀ ρ' z' σ' s', Rp c g1 [] ρ' z' σ' s' → Go g1 ρ z s ρ' z' s' → Rep c env g ρ' z' σ' l s' ∧ Go g ρ z s ρ' z' s' := by
  obtain ⟨led, a, b, d⟩ := R.own
  let hid := c.tk ++ led.map (·.1)
  have up : ∀ x o, g.get? x = some o → (hideAll s.heap hid).get? x = some o := fun x o e => hideAll_get _ (R.keep x o e) fun q => by
    rcases List.mem_append.mp q with q | q
    · rw [(R.off x (List.mem_append_right _ q)).1] at e; cases e
    · obtain ⟨p, hp, rfl⟩ := List.mem_map.mp q
      rw [(d p hp).2.1] at e; cases e
  obtain ⟨m, hm, hl⟩ := R.ns
  have nL : env.locals ∉ hid := fun q => by
    rcases List.mem_append.mp q with q | q
    · exact R.lt q
    · obtain ⟨p, hp, e⟩ := List.mem_map.mp q
      exact (d p hp).2.2.1 (by rw [e]; simp)
  have hmL : (hideAll s.heap hid).Ns env.locals m := by
    obtain ⟨o, es, ep, e, r⟩ := hm
    exact ⟨o, es, ep, hideAll_get _ e nL, r⟩
  refine ⟨hideAll s.heap hid, ⟨R.base.keeps up, fun x o e => of_hideAll _ e, ⟨led, a, b, fun p hp => ⟨(d p hp).1, hideAll_none _ (List.mem_append_right _ (List.mem_map_of_mem hp)), fun q => (d p hp).2.2.1 (by simp at q; simp [q]), (d p hp).2.2.2⟩⟩,
    fun q hq => ⟨(R.frz q hq).1, fun h => (R.frz q hq).2 (by simp at h; simp [h])⟩, fun x hx => ⟨hideAll_none _ (List.mem_append_left _ (by simpa using hx)), (R.off x (List.mem_append_right _ (by simpa using hx))).2⟩, R.tabs, R.os, R.dr, R.gens, R.kz⟩, ?_⟩
  intro ρ' z' σ' s' R' G
  obtain ⟨led', a', b', d'⟩ := R'.own
  have offL : ∀ x, (hideAll s.heap hid).get? x = none → x ≠ env.locals := fun x e q => by
    obtain ⟨o, _, _, e', _⟩ := hmL
    rw [q, e'] at e; cases e
  have down : ∀ x, (hideAll s.heap hid).get? x = none → g.get? x = none := fun x e => by
    cases q : g.get? x with
    | none => rfl
    | some o => rw [up x o q] at e; cases e
  refine ⟨?_, G.less up⟩
  refine ⟨⟨R.base, fun x o e => R'.keep x o (up x o e), ⟨led', a', b', fun p hp => ⟨(d' p hp).1, down _ (d' p hp).2.1, fun q => ?_, (d' p hp).2.2.2⟩⟩, fun q hq => ⟨(R'.frz q hq).1, fun h => ?_⟩, fun x hx => ⟨(R.off x hx).1, let ⟨o, e⟩ := (R.off x hx).2; G.dom _ _ e⟩,
    R'.tabs, R'.os, R'.dr, R'.gens, R'.kz⟩, ⟨m, hmL.keeps R'.keep, fun p hp => (hl p hp).mono G.toExt⟩, R.nd, R.kind, R.glob, R.bltn, R.lt⟩
  · rcases List.mem_append.mp q with q | q
    · exact offL _ (d' p hp).2.1 (by simpa using q)
    · exact (d' p hp).2.2.1 (by simpa using q)
  · rcases List.mem_append.mp h with h | h
    · have e : q.1 = env.locals := by simpa using h
      rcases G.fr q hq with hz | hz
      · exact (R.frz q hz).2 (by rw [e]; simp)
      · exact offL _ hz e
    · exact (R'.frz q hq).2 (by simpa using h)
end
section
open PySem PySem.W PyProof.Rows PySem.Calls

def EV1 (c : Cx) (env : Env) (D : Nat) (v : V) (f : Value → Sem Value) (l : Loc) (σ : Hp) (Q : V → Hp → Prop) : Prop :=
  ∀ (A : Around) (g : Heap) (ρ : List Addr) (z : Led) (s : Shared) (Q' E' : Value → Shared → Prop) (w : Value), Ok A D → Rep c env g ρ z σ l s → VR z ρ v w →
    (∀ v w σ' ρ' z' s', Q v σ' → Rep c env g ρ' z' σ' l s' → Go g ρ z s ρ' z' s' → VR z' ρ' v w → Q' w s') → wpAny c.M A (f w) Q' E' s
def EV2 (c : Cx) (env : Env) (D : Nat) (v₁ v₂ : V) (f : Value → Value → Sem Value) (l : Loc) (σ : Hp) (Q : V → Hp → Prop) : Prop :=
  ∀ (A : Around) (g : Heap) (ρ : List Addr) (z : Led) (s : Shared) (Q' E' : Value → Shared → Prop) (w₁ w₂ : Value), Ok A D → Rep c env g ρ z σ l s → VR z ρ v₁ w₁ → VR z ρ v₂ w₂ →
    (∀ v w σ' ρ' z' s', Q v σ' → Rep c env g ρ' z' σ' l s' → Go g ρ z s ρ' z' s' → VR z' ρ' v w → Q' w s') → wpAny c.M A (f w₁ w₂) Q' E' s
/-- truth of a value -/
def ET (c : Cx) (env : Env) (D : Nat) (v : V) (l : Loc) (σ : Hp) (Q : Bool → Hp → Prop) : Prop :=
  ∀ (A : Around) (g : Heap) (ρ : List Addr) (z : Led) (s : Shared) (Q' : Bool → Shared → Prop) (E' : Value → Shared → Prop) (w : Value), Ok A D → Rep c env g ρ z σ l s → VR z ρ v w →
    (∀ b σ' ρ' z' s', Q b σ' → Rep c env g ρ' z' σ' l s' → Go g ρ z s ρ' z' s' → Q' b s') → wpAny c.M A (truthy w) Q' E' s
/-- a doing with three values that gives nothing back -/
def EU3 (c : Cx) (env : Env) (D : Nat) (v₁ v₂ v₃ : V) (f : Value → Value → Value → Sem Unit) (l : Loc) (σ : Hp) (Q : Hp → Prop) : Prop :=
  ∀ (A : Around) (g : Heap) (ρ : List Addr) (z : Led) (s : Shared) (Q' : Unit → Shared → Prop) (E' : Value → Shared → Prop) (w₁ w₂ w₃ : Value), Ok A D → Rep c env g ρ z σ l s → VR z ρ v₁ w₁ → VR z ρ v₂ w₂ → VR z ρ v₃ w₃ →
    (∀ σ' ρ' z' s', Q σ' → Rep c env g ρ' z' σ' l s' → Go g ρ z s ρ' z' s' → Q' () s') → wpAny c.M A (f w₁ w₂ w₃) Q' E' s

theorem Go.toks (g : Heap) (ρ : List Addr) (z : Led) (s : Shared) (t : Nat) : Go g ρ z s ρ z { s with toks := t } := Go.same _ _ _ _ _ (fun _ _ e => e)

section
variable {c : Cx} {env : Env} {D : Nat} {l : Loc} {σ : Hp} {Q : V → Hp → Prop} {QB : Bool → Hp → Prop}

-- NAMES AND CONSTANTS
def V.plain : V → Bool
  | .unb => false
  | .cell _ => false
  | _ => true
theorem ev_name {x : Str} {pos : Pos} {v : V} (hm : (x, v) ∈ l) (hp : v.plain = true) (h : Q v σ) (hd : (x == ("__debug__" : Str)) = false := by decide +kernel) : EV c env D (eval (.Name x pos) env) l σ Q := by
  intro A g ρ z s Q' E' ok R q
  obtain ⟨m, hn, hl⟩ := R.ns
  rcases hl _ hm with h1 | ⟨i, a, h1, _⟩ | ⟨h1, w, h2, h3⟩
  · simp only at h1; subst h1; cases hp
  · simp only at h1; subst h1; cases hp
  · exact wpAny_Name (wpAny_loadName_local R.kind h1 hn h2 (q _ _ _ _ _ _ h R (Go.refl ..) h3)) hd
theorem ev_cell {x : Str} {pos : Pos} {v : V} {i : Nat} (hm : (x, .cell i) ∈ l) (hi : σ[i]? = some (.cell v)) (hp : v.plain = true) (h : Q v σ) (hd : (x == ("__debug__" : Str)) = false := by decide +kernel)
    (hc : (x == ("__classdict__" : Str)) = false := by decide +kernel) : EV c env D (eval (.Name x pos) env) l σ Q := by
  intro A g ρ z s Q' E' ok R q
  obtain ⟨m, hn, hl⟩ := R.ns
  rcases hl _ hm with h1 | ⟨i', a, h1, h2, h3, h4⟩ | ⟨h1, w, h2, h3⟩
  · cases h1
  · cases h1
    obtain ⟨a', p, ha, hp', hh⟩ := R.toRp.at hi
    rw [h4] at ha; cases ha
    cases hp' with
    | cell hv ho =>
      rename_i w o
      have hcell : s.heap.IsCell a (some w) := ⟨o, (hh _ (.head _)).1, ho⟩
      rcases h2 with h2 | h2
      · exact wpAny_Name (wpAny_loadName_cell R.kind h2 h3 hcell (q _ _ _ _ _ _ h R (Go.refl ..) hv)) hd
      · exact wpAny_Name (wpAny_loadName_free R.kind h2 h3 hcell (q _ _ _ _ _ _ h R (Go.refl ..) hv) hc) hd
    | cell0 ho => cases hp
  · cases h3
def absV : Value → V
  | .none => .none
  | .bool b => .bool b
  | .int i _ => .int i
  | .bytes b _ => .bytes b.toList
  | .str s _ => .str s
  | v => .val v
theorem absV_is (z : Led) (ρ : List Addr) (v : Value) : VR z ρ (absV v) v := by
  cases v <;> first | exact .none | exact .bool _ | exact .int _ _ | exact .str _ _ | exact .val _ | skip
  rename_i b t
  have := VR.bytes (z := z) (ρ := ρ) b.toList t
  simpa [absV] using this
theorem ev_glob {x : Str} {pos : Pos} {v : Value} (e : nsIn c.K mainGlobals x = some (some v)) (h : Q (absV v) σ) (hx : env.kindOf x = some .globalImplicit := by (subst_vars; kernel_rfl)) (hd : (x == ("__debug__" : Str)) = false := by decide +kernel) :
    EV c env D (eval (.Name x pos) env) l σ Q := by
  intro A g ρ z s Q' E' ok R q
  exact Name_function_global R.kind hx (loadGlobal_global (by rw [R.glob]; exact R.base.gl.keeps R.keep) (mg_of R.base.X R.base.gl e) (q _ _ _ _ _ _ h R (Go.refl ..) (absV_is ..))) hd
theorem ev_bltn {x : Str} {pos : Pos} {v : Value} (e : nsIn c.K mainGlobals x = some none) (hv : bootBuiltins x = some v) (h : Q (absV v) σ) (hx : env.kindOf x = some .globalImplicit := by (subst_vars; kernel_rfl))
    (hn : x ≠ "__name__" := by decide +kernel) (hd : (x == ("__debug__" : Str)) = false := by decide +kernel) :
    EV c env D (eval (.Name x pos) env) l σ Q := by
  intro A g ρ z s Q' E' ok R q
  exact Name_function_global R.kind hx (loadGlobal_builtin (by rw [R.glob]; exact R.base.gl.keeps R.keep) (mg_none_of R.base.X R.base.gl e) (by rw [R.bltn]; exact R.base.bl.keeps R.keep) ((R.base.builtins x hn).trans hv) (q _ _ _ _ _ _ h R (Go.refl ..) (absV_is ..))) hd
theorem ev_int {i : Int} {k : Nat} {pos : Pos} (h : Q (.int i) σ) : EV c env D (eval (.Constant (.int i) k pos) env) l σ Q :=
  fun _ _ _ _ s _ _ _ R q => wpAny_Constant_int (q _ _ _ _ _ _ h (R.toks _) (Go.toks ..) (.int _ _))
theorem ev_none {k : Nat} {pos : Pos} (h : Q .none σ) : EV c env D (eval (.Constant .none k pos) env) l σ Q :=
  fun _ _ _ _ s _ _ _ R q => wpAny_Constant_none (q _ _ _ _ _ _ h R (Go.refl ..) .none)
theorem ev_bool {b : Bool} {k : Nat} {pos : Pos} (h : Q (.bool b) σ) : EV c env D (eval (.Constant (.bool b) k pos) env) l σ Q :=
  fun _ _ _ _ s _ _ _ R q => wpAny_Constant_bool (q _ _ _ _ _ _ h R (Go.refl ..) (.bool _))
theorem ev_str {x : Str} {k : Nat} {pos : Pos} (h : Q (.str x) σ) : EV c env D (eval (.Constant (.str x) k pos) env) l σ Q :=
  fun _ _ _ _ s _ _ _ R q => wpAny_Constant_str (q _ _ _ _ _ _ h (R.toks _) (Go.toks ..) (.str _ _))
theorem ev_bytes {b : List UInt8} {k : Nat} {pos : Pos} (h : Q (.bytes b) σ) : EV c env D (eval (.Constant (.bytes b) k pos) env) l σ Q :=
  fun _ _ _ _ s Q' E' _ R q => (show wpAny c.M _ (mkTextBytes b.toArray) Q' E' s from fun Γ p hΓ => q _ _ _ _ _ _ h (R.toks (s.toks + 1)) (Go.toks ..) (.bytes b s.toks))

-- OPERATORS
theorem ev_bin {a b : Expr} {op : Operator} {pos : Pos} (h : EV c env D (eval a env) l σ fun va σ₁ => EV c env D (eval b env) l σ₁ fun vb σ₂ => EV2 c env D va vb (binaryOp op) l σ₂ Q) : EV c env D (eval (.BinOp a op b pos) env) l σ Q := by
  intro A g ρ z s Q' E' ok R q
  refine wpAny_BinOp (h A g ρ z s _ _ ok R fun va wa σ1 ρ1 z1 s1 h1 R1 G1 r1 => ?_)
  refine h1 A g ρ1 z1 s1 _ _ ok R1 fun vb wb σ2 ρ2 z2 s2 h2 R2 G2 r2 => ?_
  exact h2 A g ρ2 z2 s2 _ _ _ _ ok R2 (r1.mono G2.toExt) r2 fun v w σ' ρ' z' s' hq R' G' r' => q v w σ' ρ' z' s' hq R' ((G1.trans G2).trans G') r'
theorem ev_cmp {a b : Expr} {op : CmpOp} {pos : Pos} (h : EV c env D (eval a env) l σ fun va σ₁ => EV c env D (eval b env) l σ₁ fun vb σ₂ => EV2 c env D va vb (compareOp op) l σ₂ Q) (hm : behindInMarks op b = false := by with_unfolding_all rfl) :
    EV c env D (eval (.Compare a [op] [b] pos) env) l σ Q := by
  intro A g ρ z s Q' E' ok R q
  refine wpAny_Compare1 (h A g ρ z s _ _ ok R fun va wa σ1 ρ1 z1 s1 h1 R1 G1 r1 => ?_) hm
  refine h1 A g ρ1 z1 s1 _ _ ok R1 fun vb wb σ2 ρ2 z2 s2 h2 R2 G2 r2 => ?_
  exact h2 A g ρ2 z2 s2 _ _ _ _ ok R2 (r1.mono G2.toExt) r2 fun v w σ' ρ' z' s' hq R' G' r' => q v w σ' ρ' z' s' hq R' ((G1.trans G2).trans G') r'
theorem ev_not {x : Expr} {pos : Pos} (h : EV c env D (eval x env) l σ fun v σ₁ => ET c env D v l σ₁ fun b σ₂ => Q (.bool (!b)) σ₂) : EV c env D (eval (.UnaryOp .Not x pos) env) l σ Q := by
  intro A g ρ z s Q' E' ok R q
  refine UnaryOp_ (h A g ρ z s _ _ ok R fun va wa σ1 ρ1 z1 s1 h1 R1 G1 r1 => ?_)
  exact not_of (h1 A g ρ1 z1 s1 _ _ _ ok R1 r1 fun b σ2 ρ2 z2 s2 h2 R2 G2 => q _ _ _ _ _ _ h2 R2 (G1.trans G2) (.bool _))
theorem ev_if {t a b : Expr} {pos : Pos} (h : EB c env D (isTrue t env (eval t env)) l σ fun r σ₁ => (r = true → EV c env D (eval a env) l σ₁ Q) ∧ (r = false → EV c env D (eval b env) l σ₁ Q)) : EV c env D (eval (.IfExp t a b pos) env) l σ Q := by
  intro A g ρ z s Q' E' ok R q
  refine IfExp_ (h A g ρ z s _ _ ok R fun r σ1 ρ1 z1 s1 h1 R1 G1 => ?_)
  cases r with
  | true => exact h1.1 rfl A g ρ1 z1 s1 _ _ ok R1 fun v w σ' ρ' z' s' hq R' G' r' => q v w σ' ρ' z' s' hq R' (G1.trans G') r'
  | false => exact h1.2 rfl A g ρ1 z1 s1 _ _ ok R1 fun v w σ' ρ' z' s' hq R' G' r' => q v w σ' ρ' z' s' hq R' (G1.trans G') r'
theorem ev_and {a b : Expr} {rest : List Expr} {pos : Pos} (h : EV c env D (eval a env) l σ fun v σ₁ => ET c env D v l σ₁ fun r σ₂ => (r = true → EV c env D (eval (.BoolOp .And (b :: rest) pos) env) l σ₂ Q) ∧ (r = false → Q v σ₂)) :
    EV c env D (eval (.BoolOp .And (a :: b :: rest) pos) env) l σ Q := by
  intro A g ρ z s Q' E' ok R q
  refine BoolOp_and (h A g ρ z s _ _ ok R fun va wa σ1 ρ1 z1 s1 h1 R1 G1 r1 => ?_)
  refine h1 A g ρ1 z1 s1 _ _ _ ok R1 r1 fun r σ2 ρ2 z2 s2 h2 R2 G2 => ?_
  cases r with
  | true => exact h2.1 rfl A g ρ2 z2 s2 _ _ ok R2 fun v w σ' ρ' z' s' hq R' G' r' => q v w σ' ρ' z' s' hq R' ((G1.trans G2).trans G') r'
  | false => exact q _ _ _ _ _ _ (h2.2 rfl) R2 (G1.trans G2) (r1.mono G2.toExt)
theorem ev_or {a b : Expr} {rest : List Expr} {pos : Pos} (h : EV c env D (eval a env) l σ fun v σ₁ => ET c env D v l σ₁ fun r σ₂ => (r = false → EV c env D (eval (.BoolOp .Or (b :: rest) pos) env) l σ₂ Q) ∧ (r = true → Q v σ₂)) :
    EV c env D (eval (.BoolOp .Or (a :: b :: rest) pos) env) l σ Q := by
  intro A g ρ z s Q' E' ok R q
  refine BoolOp_or (h A g ρ z s _ _ ok R fun va wa σ1 ρ1 z1 s1 h1 R1 G1 r1 => ?_)
  refine h1 A g ρ1 z1 s1 _ _ _ ok R1 r1 fun r σ2 ρ2 z2 s2 h2 R2 G2 => ?_
  cases r with
  | false => exact h2.1 rfl A g ρ2 z2 s2 _ _ ok R2 fun v w σ' ρ' z' s' hq R' G' r' => q v w σ' ρ' z' s' hq R' ((G1.trans G2).trans G') r'
  | true => exact q _ _ _ _ _ _ (h2.2 rfl) R2 (G1.trans G2) (r1.mono G2.toExt)
theorem ev_bool1 {a : Expr} {op : BoolOp} {pos : Pos} (h : EV c env D (eval a env) l σ Q) : EV c env D (eval (.BoolOp op [a] pos) env) l σ Q := h

-- ints
theorem ev2_int {f : Value → Value → Sem Value} {a b r : Int} (hf : ∀ (A : Around) (s : Shared) (Q' E' : Value → Shared → Prop) (t u : Tok), Q' (.int r s.toks) { s with toks := s.toks + 1 } → wpAny c.M A (f (.int a t) (.int b u)) Q' E' s) (h : Q (.int r) σ) :
    EV2 c env D (.int a) (.int b) f l σ Q := by
  intro A g ρ z s Q' E' w₁ w₂ ok R r₁ r₂ q
  cases r₁; cases r₂
  exact hf _ _ _ _ _ _ (q _ _ _ _ _ _ h (R.toks _) (Go.toks ..) (.int _ _))
theorem ev2_cmp {f : Value → Value → Sem Value} {a b : Int} {r : Bool} (hf : ∀ (A : Around) (s : Shared) (Q' E' : Value → Shared → Prop) (t u : Tok), Q' (.bool r) s → wpAny c.M A (f (.int a t) (.int b u)) Q' E' s) (h : Q (.bool r) σ) :
    EV2 c env D (.int a) (.int b) f l σ Q := by
  intro A g ρ z s Q' E' w₁ w₂ ok R r₁ r₂ q
  cases r₁; cases r₂
  exact hf _ _ _ _ _ _ (q _ _ _ _ _ _ h R (Go.refl ..) (.bool _))
variable {a b : Int}
theorem ev_add (h : Q (.int (a + b)) σ) : EV2 c env D (.int a) (.int b) (binaryOp .Add) l σ Q := ev2_int (fun _ _ _ _ _ _ h => PyProof.Rows.add_int h) h
theorem ev_sub (h : Q (.int (a - b)) σ) : EV2 c env D (.int a) (.int b) (binaryOp .Sub) l σ Q := ev2_int (fun _ _ _ _ _ _ h => PyProof.Rows.sub_int' h) h
theorem ev_mul (hm : IntMulOk a b) (h : Q (.int (a * b)) σ) : EV2 c env D (.int a) (.int b) (binaryOp .Mult) l σ Q := ev2_int (fun _ _ _ _ _ _ h => PyProof.Rows.mul_int h hm) h
theorem ev_fdiv (hb : b ≠ 0) (hp : Builtin.divisionGoesByPylong a b = false) (h : Q (.int (a.fdiv b)) σ) : EV2 c env D (.int a) (.int b) (binaryOp .FloorDiv) l σ Q := ev2_int (fun _ _ _ _ _ _ h => PyProof.Rows.floordiv_int hb h (.inl hp)) h
theorem ev_fmod (hb : b ≠ 0) (h : Q (.int (a.fmod b)) σ) : EV2 c env D (.int a) (.int b) (binaryOp .Mod) l σ Q := ev2_int (fun _ _ _ _ _ _ h => PyProof.Rows.mod_int' hb h) h
theorem ev_band (h : Q (.int (Builtin.bitAnd a b)) σ) : EV2 c env D (.int a) (.int b) (binaryOp .BitAnd) l σ Q := ev2_int (fun _ _ _ _ _ _ h => PyProof.Rows.and_int h) h
theorem ev_bor (h : Q (.int (Builtin.bitOr a b)) σ) : EV2 c env D (.int a) (.int b) (binaryOp .BitOr) l σ Q := ev2_int (fun _ _ _ _ _ _ h => PyProof.Rows.or_int h) h
theorem ev_bxor (h : Q (.int (Builtin.bitXor a b)) σ) : EV2 c env D (.int a) (.int b) (binaryOp .BitXor) l σ Q := ev2_int (fun _ _ _ _ _ _ h => PyProof.Rows.xor_int h) h
theorem ev_shr (hb : 0 ≤ b) (h : Q (.int (a.fdiv (2 ^ b.toNat))) σ) : EV2 c env D (.int a) (.int b) (binaryOp .RShift) l σ Q := ev2_int (fun _ _ _ _ _ _ h => PyProof.Rows.rshift_int hb h) h
theorem ev_shl (hb : 0 ≤ b) (hb2 : b ≤ 1000000) (ha : a.natAbs < 2 ^ 64) (h : Q (.int (a * 2 ^ b.toNat)) σ) : EV2 c env D (.int a) (.int b) (binaryOp .LShift) l σ Q := ev2_int (fun _ _ _ _ _ _ h => PyProof.Rows.lshift_int_small hb hb2 ha h) h
theorem ev_pow (hb : 0 ≤ b) (hb2 : b ≤ 1000000) (ha : a.natAbs < 2 ^ 64) (h : Q (.int (a ^ b.toNat)) σ) : EV2 c env D (.int a) (.int b) (binaryOp .Pow) l σ Q := ev2_int (fun _ _ _ _ _ _ h => PyProof.Rows.pow_int_small hb hb2 ha h) h
theorem ev_lt (h : Q (.bool (decide (a < b))) σ) : EV2 c env D (.int a) (.int b) (compareOp .Lt) l σ Q := ev2_cmp (fun _ _ _ _ _ _ h => PyProof.Rows.lt_int h) h
theorem ev_le (h : Q (.bool (decide (a ≤ b))) σ) : EV2 c env D (.int a) (.int b) (compareOp .LtE) l σ Q := ev2_cmp (fun _ _ _ _ _ _ h => P.le_int h) h
theorem ev_gt (h : Q (.bool (decide (b < a))) σ) : EV2 c env D (.int a) (.int b) (compareOp .Gt) l σ Q := ev2_cmp (fun _ _ _ _ _ _ h => PyProof.Rows.gt_int h) h
theorem ev_ge (h : Q (.bool (decide (a ≥ b))) σ) : EV2 c env D (.int a) (.int b) (compareOp .GtE) l σ Q := ev2_cmp (fun _ _ _ _ _ _ h => P.ge_int h) h
theorem ev_eq (h : Q (.bool (a == b)) σ) : EV2 c env D (.int a) (.int b) (compareOp .Eq) l σ Q := ev2_cmp (fun _ _ _ _ _ _ h => PyProof.Rows.eq_int h) h
theorem ev_ne (h : Q (.bool (a != b)) σ) : EV2 c env D (.int a) (.int b) (compareOp .NotEq) l σ Q := ev2_cmp (fun _ _ _ _ _ _ h => PyProof.Rows.ne_int h) h

-- TRUTH
theorem et_bool {b : Bool} (h : QB b σ) : ET c env D (.bool b) l σ QB := fun _ _ _ _ _ _ _ _ _ R r q => by cases r; exact wpAny_truthy_bool (q _ _ _ _ _ h R (Go.refl ..))
theorem et_int (h : QB (a != 0) σ) : ET c env D (.int a) l σ QB := fun _ _ _ _ _ _ _ _ _ R r q => by cases r; exact PyProof.Rows.truthy_int (q _ _ _ _ _ h R (Go.refl ..))
theorem et_none (h : QB false σ) : ET c env D .none l σ QB := fun _ _ _ _ _ _ _ _ _ R r q => by cases r; exact PyProof.Rows.truthy_none (q _ _ _ _ _ h R (Go.refl ..))

-- CONDITIONS
theorem eb_plain {e : Expr} (h : EV c env D (eval e env) l σ fun v σ₁ => ET c env D v l σ₁ QB) (hs : isTrue e env (eval e env) = (do let v ← eval e env; standAt e.pos; holding [v] (truthy v)) := by rfl) : EB c env D (isTrue e env (eval e env)) l σ QB := by
  intro A g ρ z s Q' E' ok R q
  refine isTrue_plain (h A g ρ z s _ _ ok R fun va wa σ1 ρ1 z1 s1 h1 R1 G1 r1 => ?_) hs
  exact h1 A g ρ1 z1 s1 _ _ _ ok R1 r1 fun b σ2 ρ2 z2 s2 h2 R2 G2 => q _ _ _ _ _ h2 R2 (G1.trans G2)
theorem eb_cmp {a b : Expr} {op : CmpOp} {pos : Pos} {whole : Sem Value} (h : EV c env D (eval a env) l σ fun va σ₁ => EV c env D (eval b env) l σ₁ fun vb σ₂ => EV2 c env D va vb (compareOp op) l σ₂ fun v σ₃ => ET c env D v l σ₃ QB) (hm : behindInMarks op b = false := by with_unfolding_all rfl) :
    EB c env D (isTrue (.Compare a [op] [b] pos) env whole) l σ QB := by
  intro A g ρ z s Q' E' ok R q
  refine wpAny_isTrue_Compare1 (h A g ρ z s _ _ ok R fun va wa σ1 ρ1 z1 s1 h1 R1 G1 r1 => ?_) hm
  refine h1 A g ρ1 z1 s1 _ _ ok R1 fun vb wb σ2 ρ2 z2 s2 h2 R2 G2 r2 => ?_
  refine h2 A g ρ2 z2 s2 _ _ _ _ ok R2 (r1.mono G2.toExt) r2 fun v w σ3 ρ3 z3 s3 h3 R3 G3 r3 => ?_
  exact h3 A g ρ3 z3 s3 _ _ _ ok R3 r3 fun b σ4 ρ4 z4 s4 h4 R4 G4 => q _ _ _ _ _ h4 R4 (((G1.trans G2).trans G3).trans G4)
theorem eb_not {x : Expr} {pos : Pos} {whole : Sem Value} (h : EB c env D (isTrue x env (eval x env)) l σ fun b σ₁ => QB (!b) σ₁) : EB c env D (isTrue (.UnaryOp .Not x pos) env whole) l σ QB := by
  intro A g ρ z s Q' E' ok R q
  exact isTrue_not (h A g ρ z s _ _ ok R fun b σ1 ρ1 z1 s1 h1 R1 G1 => q _ _ _ _ _ h1 R1 G1)
theorem eb_bop {op : BoolOp} {es : List Expr} {pos : Pos} {whole : Sem Value} (h : EB c env D (allTrue op es env) l σ QB) : EB c env D (isTrue (.BoolOp op es pos) env whole) l σ QB := h
theorem eb_and {x : Expr} {rest : List Expr} (h : EB c env D (isTrue x env (eval x env)) l σ fun b σ₁ => (b = true → EB c env D (allTrue .And rest env) l σ₁ QB) ∧ (b = false → QB false σ₁)) : EB c env D (allTrue .And (x :: rest) env) l σ QB := by
  intro A g ρ z s Q' E' ok R q
  show wpAny c.M A (isTrue x env (eval x env) >>= _) Q' E' s
  refine wpAny_bind (h A g ρ z s _ _ ok R fun b σ1 ρ1 z1 s1 h1 R1 G1 => ?_)
  cases b with
  | true => exact h1.1 rfl A g ρ1 z1 s1 _ _ ok R1 fun b σ2 ρ2 z2 s2 h2 R2 G2 => q _ _ _ _ _ h2 R2 (G1.trans G2)
  | false => exact wpAny_pure (q _ _ _ _ _ (h1.2 rfl) R1 G1)
theorem eb_or {x : Expr} {rest : List Expr} (h : EB c env D (isTrue x env (eval x env)) l σ fun b σ₁ => (b = false → EB c env D (allTrue .Or rest env) l σ₁ QB) ∧ (b = true → QB true σ₁)) : EB c env D (allTrue .Or (x :: rest) env) l σ QB := by
  intro A g ρ z s Q' E' ok R q
  show wpAny c.M A (isTrue x env (eval x env) >>= _) Q' E' s
  refine wpAny_bind (h A g ρ z s _ _ ok R fun b σ1 ρ1 z1 s1 h1 R1 G1 => ?_)
  cases b with
  | false => exact h1.1 rfl A g ρ1 z1 s1 _ _ ok R1 fun b σ2 ρ2 z2 s2 h2 R2 G2 => q _ _ _ _ _ h2 R2 (G1.trans G2)
  | true => exact wpAny_pure (q _ _ _ _ _ (h1.2 rfl) R1 G1)
theorem eb_andE (h : QB true σ) : EB c env D (allTrue .And [] env) l σ QB := fun _ _ _ _ _ _ _ _ R q => wpAny_pure (q _ _ _ _ _ h R (Go.refl ..))
theorem eb_orE (h : QB false σ) : EB c env D (allTrue .Or [] env) l σ QB := fun _ _ _ _ _ _ _ _ R q => wpAny_pure (q _ _ _ _ _ h R (Go.refl ..))
end
end
section
open PySem PySem.W PyProof.Rows PySem.Calls

inductive Up (x : Str) (v : V) : Loc → Loc → Prop
  | hd {u l} : Up x v ((x, u) :: l) ((x, v) :: l)
  | tl {p l l'} : Up x v l l' → Up x v (p :: l) (p :: l')
theorem Up.keys {x v} : ∀ {l l' : Loc}, Up x v l l' → l'.map (·.1) = l.map (·.1)
  | _, _, .hd => rfl
  | _, _, .tl h => by simp [h.keys]
theorem Up.key {x v} : ∀ {l l' : Loc}, Up x v l l' → x ∈ l.map (·.1)
  | _, _, .hd => by simp
  | _, _, .tl h => by simp only [List.map_cons]; exact .tail _ h.key
theorem Up.cases {x v} : ∀ {l l' : Loc}, Up x v l l' → (l.map (·.1)).Nodup → ∀ p ∈ l', p = (x, v) ∨ (p ∈ l ∧ p.1 ≠ x)
  | _, _, .hd, nd, p, hp => by
    simp only [List.map_cons, List.nodup_cons] at nd
    rcases List.mem_cons.mp hp with rfl | hp
    · exact .inl rfl
    · exact .inr ⟨.tail _ hp, fun e => nd.1 (e ▸ List.mem_map_of_mem hp)⟩
  | _, _, .tl (p := q) h, nd, p, hp => by
    simp only [List.map_cons, List.nodup_cons] at nd
    rcases List.mem_cons.mp hp with rfl | hp
    · exact .inr ⟨.head _, fun e => nd.1 (e ▸ h.key)⟩
    · rcases h.cases nd.2 p hp with r | r
      · exact .inl r
      · exact .inr ⟨.tail _ r.1, r.2⟩

section
variable {c : Cx} {env : Env} {D : Nat} {l : Loc} {σ : Hp}

/-- a local name is bound -/
theorem store_local {x : Str} {v : V} {w : Value} {l' : Loc} {A : Around} {g : Heap} {ρ : List Addr} {z : Led} {s : Shared} {Q' : Unit → Shared → Prop} {E' : Value → Shared → Prop} (R : Rep c env g ρ z σ l s) (r : VR z ρ v w)
    (hk : env.kindOf x = some .local) (u : Up x v l l') (q : ∀ s', Rep c env g ρ z σ l' s' → Go g ρ z s ρ z s' → Q' () s') : wpAny c.M A (storeName env x w) Q' E' s := by
  obtain ⟨m, hn, hl⟩ := R.ns
  refine wpAny_storeName_local hk hn (fun h' hn' hs => ?_) (by rw [R.kind]; rfl)
  have he : ∃ o, h'.get? env.locals = some o := let ⟨o, _, _, e, _⟩ := hn'; ⟨o, e⟩
  refine q _ ⟨R.toRp.atX (s' := { s with heap := h', toks := s.toks + 1 }) (by simp) R.lt hs he, ⟨_, hn', fun p hp => ?_⟩, by rw [u.keys]; exact R.nd, R.kind, R.glob, R.bltn, R.lt⟩ ⟨Ext.refl .., fun b o e => ?_, fun _ h => .inl h⟩
  · rcases u.cases R.nd p hp with rfl | ⟨h1, h2⟩
    · exact .inr (.inr ⟨hk, w, by simp, r⟩)
    · rcases hl p h1 with h | h | ⟨h3, w', h4, h5⟩
      · exact .inl h
      · exact .inr (.inl h)
      · exact .inr (.inr ⟨h3, w', by simp only [h2, if_false]; exact h4, h5⟩)
  · by_cases hb : b = env.locals
    · subst hb; exact he
    · exact ⟨o, (hs.2 b hb).trans e⟩
/-- a name that lives in a cell is bound -/
theorem store_cell {x : Str} {v v₀ : V} {w : Value} {i : Nat} {A : Around} {g : Heap} {ρ : List Addr} {z : Led} {s : Shared} {Q' : Unit → Shared → Prop} {E' : Value → Shared → Prop} (R : Rep c env g ρ z σ l s) (r : VR z ρ v w)
    (hm : (x, .cell i) ∈ l) (hi : σ[i]? = some (.cell v₀)) (hk : env.kindOf x = some .cell) (q : ∀ s', Rep c env g ρ z (σ.set i (.cell v)) l s' → Go g ρ z s ρ z s' → Q' () s') : wpAny c.M A (storeName env x w) Q' E' s := by
  obtain ⟨m, hn, hl⟩ := R.ns
  rcases hl _ hm with h1 | ⟨i', a, h1, h2, h3, h4⟩ | ⟨h1, w', h2, h3⟩
  · cases h1
  · cases h1
    obtain ⟨a', p, ha, hp', hh⟩ := R.toRp.at hi
    rw [h4] at ha; cases ha
    have hc : ∃ v₀, s.heap.IsCell a v₀ ∧ env.locals ≠ a := by
      have : ∀ o, p = [(a, o)] → env.locals ≠ a := fun o e q => (hh (a, o) (by rw [e]; simp)).2.2 (by rw [← q]; simp)
      cases hp' with
      | cell hv ho => exact ⟨_, ⟨_, (hh _ (.head _)).1, ho⟩, this _ rfl⟩
      | cell0 ho => exact ⟨_, ⟨_, (hh _ (.head _)).1, ho⟩, this _ rfl⟩
    obtain ⟨v₁, hcell, hL⟩ := hc
    refine wpAny_storeName_cell R.kind hk h3 hcell fun h' hcell' hs => ?_
    obtain ⟨o', ho', hd'⟩ := hcell'
    have P : Rp c g [env.locals] ρ z (σ.set i (.cell v)) { s with heap := h' } := R.toRp.upd (s' := { s with heap := h' }) hi h4 (b := a) (o' := .cell v) (fun p hp hg => by
      cases hp with
      | cell hv ho => exact ⟨by simp, [(a, o')], .cell r hd', rfl, fun q hq => by cases List.mem_singleton.mp hq; exact ho'⟩
      | cell0 ho => exact ⟨by simp, [(a, o')], .cell r hd', rfl, fun q hq => by cases List.mem_singleton.mp hq; exact ho'⟩) hs
    refine q _ (R.mk' P (Ext.refl ..) fun m hm => hm.sameBut hs hL) ⟨Ext.refl .., fun b o e => ?_, fun _ h => .inl h⟩
    by_cases hb : b = a
    · subst hb; exact ⟨o', ho'⟩
    · exact ⟨o, (hs.2 b hb).trans e⟩
  · cases h3

-- STATEMENTS
variable {Q : Fl → Loc → Hp → Prop}
def ThenX (c : Cx) (env : Env) (D : Nat) (rest : List Stmt) (Q : Fl → Loc → Hp → Prop) : Fl → Loc → Hp → Prop := fun f l₁ σ₁ => match f with
  | .next => EX c env D (execs rest env) l₁ σ₁ Q
  | f => Q f l₁ σ₁
theorem ex_nil (h : Q .next l σ) : EX c env D (execs [] env) l σ Q := fun _ _ _ _ _ _ _ _ R q => wpAny_execs_nil (q _ _ _ _ _ _ _ h R (Go.refl ..) .next)
theorem ex_cons {st : Stmt} {rest : List Stmt} (h : EX c env D (exec st env) l σ (ThenX c env D rest Q)) : EX c env D (execs (st :: rest) env) l σ Q := by
  intro A g ρ z s Q' E' ok R q
  refine wpAny_execs_cons (h A g ρ z s _ _ ok R fun f fw l1 σ1 ρ1 z1 s1 h1 R1 G1 r1 => ?_)
  cases r1 with
  | next => exact h1 A g ρ1 z1 s1 _ _ ok R1 fun f fw l' σ' ρ' z' s' hq R' G' r' => q f fw l' σ' ρ' z' s' hq R' (G1.trans G') r'
  | brk => exact q _ _ _ _ _ _ _ h1 R1 G1 .brk
  | cont => exact q _ _ _ _ _ _ _ h1 R1 G1 .cont
  | ret r => exact q _ _ _ _ _ _ _ h1 R1 G1 (.ret r)
theorem ex_pass {pos : Pos} (h : Q .next l σ) : EX c env D (exec (.Pass pos) env) l σ Q := fun _ _ _ _ _ _ _ _ R q => wpAny_Pass (q _ _ _ _ _ _ _ h R (Go.refl ..) .next)
theorem ex_break {pos : Pos} (h : Q .brk l σ) : EX c env D (exec (.Break pos) env) l σ Q := fun _ _ _ _ s Q' E' _ R q => (show wpAny c.M _ (do standAt pos; pure .brk) Q' E' s from wpAny_bind (wpAny_standAt (wpAny_pure (q _ _ _ _ _ _ _ h R (Go.refl ..) .brk))))
theorem ex_continue {pos : Pos} (h : Q .cont l σ) : EX c env D (exec (.Continue pos) env) l σ Q := fun _ _ _ _ s Q' E' _ R q => (show wpAny c.M _ (do standAt pos; pure .cont) Q' E' s from wpAny_bind (wpAny_standAt (wpAny_pure (q _ _ _ _ _ _ _ h R (Go.refl ..) .cont))))
theorem ex_ret {e : Expr} {pos : Pos} (h : EV c env D (eval e env) l σ fun v σ₁ => Q (.ret v) l σ₁) : EX c env D (exec (.Return (some e) pos) env) l σ Q := by
  intro A g ρ z s Q' E' ok R q
  exact wpAny_Return_some (h A g ρ z s _ _ ok R fun v w σ1 ρ1 z1 s1 h1 R1 G1 r1 => q _ _ _ _ _ _ _ h1 R1 G1 (.ret r1))
theorem ex_retN {pos : Pos} (h : Q (.ret .none) l σ) : EX c env D (exec (.Return none pos) env) l σ Q := fun _ _ _ _ _ _ _ _ R q => wpAny_Return_none (q _ _ _ _ _ _ _ h R (Go.refl ..) (.ret .none))
theorem ex_expr {e : Expr} {pos : Pos} (h : EV c env D (eval e env) l σ fun _ σ₁ => Q .next l σ₁) (hi : interactive env = false := by (subst_vars; kernel_rfl)) (hs : swapsWith e none pos.line env = pure false := by (subst_vars; kernel_rfl)) : EX c env D (exec (.Expr e pos) env) l σ Q := by
  intro A g ρ z s Q' E' ok R q
  exact wpAny_Expr_any (h A g ρ z s _ _ ok R fun v w σ1 ρ1 z1 s1 h1 R1 G1 r1 => q _ _ _ _ _ _ _ h1 R1 G1 .next) hi hs
theorem ex_if {t : Expr} {a b : List Stmt} {pos : Pos} (h : EB c env D (isTrue t env (eval t env)) l σ fun r σ₁ => (r = true → EX c env D (execs a env) l σ₁ Q) ∧ (r = false → EX c env D (execs b env) l σ₁ Q)) : EX c env D (exec (.If t a b pos) env) l σ Q := by
  intro A g ρ z s Q' E' ok R q
  refine wpAny_If (h A g ρ z s _ _ ok R fun r σ1 ρ1 z1 s1 h1 R1 G1 => ?_)
  cases r with
  | true => exact h1.1 rfl A g ρ1 z1 s1 _ _ ok R1 fun f fw l' σ' ρ' z' s' hq R' G' r' => q f fw l' σ' ρ' z' s' hq R' (G1.trans G') r'
  | false => exact h1.2 rfl A g ρ1 z1 s1 _ _ ok R1 fun f fw l' σ' ρ' z' s' hq R' G' r' => q f fw l' σ' ρ' z' s' hq R' (G1.trans G') r'
theorem ex_assign {x : Str} {e : Expr} {p pos : Pos} {l' : V → Loc} (h : EV c env D (eval e env) l σ fun v σ₁ => v.plain = true ∧ Up x v l (l' v) ∧ Q .next (l' v) σ₁) (hk : env.kindOf x = some .local := by (subst_vars; kernel_rfl))
    (hs : swapsWith e (some (.Name x p)) pos.line env = pure false := by (subst_vars; kernel_rfl)) : EX c env D (exec (.Assign [.Name x p] e pos) env) l σ Q := by
  intro A g ρ z s Q' E' ok R q
  refine wpAny_Assign_Name (h A g ρ z s _ _ ok R fun v w σ1 ρ1 z1 s1 h1 R1 G1 r1 => ?_) hs
  exact store_local R1 r1 hk h1.2.1 fun s2 R2 G2 => q _ _ _ _ _ _ _ h1.2.2 R2 (G1.trans G2) .next
theorem ex_assignC {x : Str} {e : Expr} {p pos : Pos} {i : Nat} (hm : (x, .cell i) ∈ l) (h : EV c env D (eval e env) l σ fun v σ₁ => (∃ v₀, σ₁[i]? = some (.cell v₀)) ∧ Q .next l (σ₁.set i (.cell v))) (hk : env.kindOf x = some .cell := by (subst_vars; kernel_rfl))
    (hs : swapsWith e (some (.Name x p)) pos.line env = pure false := by (subst_vars; kernel_rfl)) : EX c env D (exec (.Assign [.Name x p] e pos) env) l σ Q := by
  intro A g ρ z s Q' E' ok R q
  refine wpAny_Assign_Name (h A g ρ z s _ _ ok R fun v w σ1 ρ1 z1 s1 h1 R1 G1 r1 => ?_) hs
  obtain ⟨⟨v₀, hv⟩, h2⟩ := h1
  exact store_cell R1 r1 hm hv hk fun s2 R2 G2 => q _ _ _ _ _ _ _ h2 R2 (G1.trans G2) .next
theorem ex_augName {x : Str} {e : Expr} {op : Operator} {p pos : Pos} {v₀ : V} {l' : V → Loc} (hm : (x, v₀) ∈ l) (hp : v₀.plain = true) (h : EV c env D (eval e env) l σ fun v σ₁ => EV2 c env D v₀ v (inplaceOp op) l σ₁ fun r σ₂ => Up x r l (l' r) ∧ Q .next (l' r) σ₂)
    (hk : env.kindOf x = some .local := by (subst_vars; kernel_rfl)) : EX c env D (exec (.AugAssign (.Name x p) op e pos) env) l σ Q := by
  intro A g ρ z s Q' E' ok R q
  obtain ⟨m, hn, hl⟩ := R.ns
  rcases hl _ hm with h1 | ⟨i, a, h1, _⟩ | ⟨h1, w, h2, h3⟩
  · simp only at h1; subst h1; cases hp
  · simp only at h1; subst h1; cases hp
  · refine wpAny_AugAssign_Name (wpAny_loadName_local R.kind h1 hn h2 ?_)
    refine h A g ρ z s _ _ ok R fun v wv σ1 ρ1 z1 s1 h1' R1 G1 r1 => ?_
    refine h1' A g ρ1 z1 s1 _ _ _ _ ok R1 (h3.mono G1.toExt) r1 fun r wr σ2 ρ2 z2 s2 h2' R2 G2 r2 => ?_
    exact store_local R2 r2 hk h2'.1 fun s3 R3 G3 => q _ _ _ _ _ _ _ h2'.2 R3 ((G1.trans G2).trans G3) .next
/-- an attribute is stored -/
theorem ex_attr {o e : Expr} {attr : Str} {p pos : Pos} (h : EV c env D (eval e env) l σ fun v σ₁ => EV c env D (eval o env) l σ₁ fun ov σ₂ => EU3 c env D ov v v (fun a b _ => setAttr a attr b) l σ₂ fun σ₃ => Q .next l σ₃)
    (hs : swapsWith e (some (.Attribute o attr p)) pos.line env = pure false := by (subst_vars; kernel_rfl)) : EX c env D (exec (.Assign [.Attribute o attr p] e pos) env) l σ Q := by
  intro A g ρ z s Q' E' ok R q
  refine plainObj_wpAny_Assign_Attribute (h A g ρ z s _ _ ok R fun v w σ1 ρ1 z1 s1 h1 R1 G1 r1 => ?_) hs
  refine h1 A g ρ1 z1 s1 _ _ ok R1 fun ov ow σ2 ρ2 z2 s2 h2 R2 G2 r2 => ?_
  exact h2 A g ρ2 z2 s2 _ _ _ _ _ ok R2 r2 (r1.mono G2.toExt) (r1.mono G2.toExt) fun σ3 ρ3 z3 s3 h3 R3 G3 => q _ _ _ _ _ _ _ h3 R3 ((G1.trans G2).trans G3) .next
theorem ex_sub {o i e : Expr} {p pos : Pos} (h : EV c env D (eval e env) l σ fun v σ₁ => EV c env D (eval o env) l σ₁ fun ov σ₂ => EV c env D (eval i env) l σ₂ fun iv σ₃ => EU3 c env D ov iv v setItem l σ₃ fun σ₄ => Q .next l σ₄)
    (hs : swapsWith e (some (.Subscript o i p)) pos.line env = pure false := by (subst_vars; kernel_rfl)) : EX c env D (exec (.Assign [.Subscript o i p] e pos) env) l σ Q := by
  intro A g ρ z s Q' E' ok R q
  refine wpAny_Assign_Subscript (h A g ρ z s _ _ ok R fun v w σ1 ρ1 z1 s1 h1 R1 G1 r1 => ?_) hs
  refine h1 A g ρ1 z1 s1 _ _ ok R1 fun ov ow σ2 ρ2 z2 s2 h2 R2 G2 r2 => ?_
  refine h2 A g ρ2 z2 s2 _ _ ok R2 fun iv iw σ3 ρ3 z3 s3 h3 R3 G3 r3 => ?_
  exact h3 A g ρ3 z3 s3 _ _ _ _ _ ok R3 (r2.mono G3.toExt) r3 ((r1.mono G2.toExt).mono G3.toExt) fun σ4 ρ4 z4 s4 h4 R4 G4 => q _ _ _ _ _ _ _ h4 R4 (((G1.trans G2).trans G3).trans G4) .next
theorem ex_augAttr {o e : Expr} {attr : Str} {op : Operator} {p pos : Pos} (h : EV c env D (eval o env) l σ fun ov σ₁ => EV1 c env D ov (fun a => getAttr a attr true) l σ₁ fun old σ₂ => EV c env D (eval e env) l σ₂ fun v σ₃ =>
    EV2 c env D old v (inplaceOp op) l σ₃ fun r σ₄ => EU3 c env D ov r r (fun a b _ => setAttr a attr b) l σ₄ fun σ₅ => Q .next l σ₅) : EX c env D (exec (.AugAssign (.Attribute o attr p) op e pos) env) l σ Q := by
  intro A g ρ z s Q' E' ok R q
  refine wpAny_AugAssign_AttributeAny (h A g ρ z s _ _ ok R fun ov ow σ1 ρ1 z1 s1 h1 R1 G1 r1 => ?_)
  refine h1 A g ρ1 z1 s1 _ _ _ ok R1 r1 fun old wold σ2 ρ2 z2 s2 h2 R2 G2 r2 => ?_
  refine h2 A g ρ2 z2 s2 _ _ ok R2 fun v w σ3 ρ3 z3 s3 h3 R3 G3 r3 => ?_
  refine h3 A g ρ3 z3 s3 _ _ _ _ ok R3 (r2.mono G3.toExt) r3 fun r wr σ4 ρ4 z4 s4 h4 R4 G4 r4 => ?_
  have ro := (r1.mono G2.toExt).mono (G3.trans G4).toExt
  exact h4 A g ρ4 z4 s4 _ _ _ _ _ ok R4 ro r4 r4 fun σ5 ρ5 z5 s5 h5 R5 G5 => q _ _ _ _ _ _ _ h5 R5 ((((G1.trans G2).trans G3).trans G4).trans G5) .next
end
end
section
open PySem PySem.W PyProof.Rows PySem.Calls

/-- arguments, from the left -/
def EL (c : Cx) (env : Env) (D : Nat) (pos : Pos) (es : List Expr) (l : Loc) (σ : Hp) (Q : List V → Hp → Prop) : Prop :=
  ((backTo pos (starEach es env)).any (·.1) = false) ∧ ∀ (A : Around) (g : Heap) (ρ : List Addr) (z : Led) (s : Shared) (Q' : List Value → Shared → Prop) (E' : Value → Shared → Prop), Ok A D → Rep c env g ρ z σ l s →
    (∀ vs ws σ' ρ' z' s', Q vs σ' → Rep c env g ρ' z' σ' l s' → Go g ρ z s ρ' z' s' → VRL z' ρ' vs ws → Q' ws s') → wpAny c.M A (spliced (backTo pos (starEach es env))) Q' E' s
def EK (c : Cx) (env : Env) (D : Nat) (pos : Pos) (ks : List Keyword) (l : Loc) (σ : Hp) (Q : List (Str × V) → Hp → Prop) : Prop :=
  ((backToKw pos (keywordEach ks env)).all (·.1.isSome) = true) ∧ ∀ (A : Around) (g : Heap) (ρ : List Addr) (z : Led) (s : Shared) (Q' : List Value → Shared → Prop) (E' : Value → Shared → Prop), Ok A D → Rep c env g ρ z σ l s →
    (∀ vs ws σ' ρ' z' s', Q vs σ' → vs.map (·.1) = (backToKw pos (keywordEach ks env)).filterMap (·.1) → Rep c env g ρ' z' σ' l s' → Go g ρ z s ρ' z' s' → VRL z' ρ' (vs.map (·.2)) ws → Q' ws s') → wpAny c.M A (evalAll ((backToKw pos (keywordEach ks env)).map (·.2))) Q' E' s

section
variable {c : Cx} {env : Env} {D : Nat} {l : Loc} {σ : Hp} {pos : Pos}
theorem el_nil {Q : List V → Hp → Prop} (h : Q [] σ) : EL c env D pos [] l σ Q := ⟨rfl, fun _ _ _ _ _ _ _ _ R q => args_nil (q _ _ _ _ _ _ h R (Go.refl ..) .nil)⟩
theorem el_cons {e : Expr} {rest : List Expr} {Q : List V → Hp → Prop} (hr : (backTo pos (starEach rest env)).any (·.1) = false) (h : EV c env D (eval e env) l σ fun v σ₁ => EL c env D pos rest l σ₁ fun vs σ₂ => Q (v :: vs) σ₂)
    (he : starEach (e :: rest) env = (false, eval e env) :: starEach rest env := by kernel_rfl) : EL c env D pos (e :: rest) l σ Q := by
  refine ⟨by rw [he]; simpa [backTo] using hr, fun A g ρ z s Q' E' ok R q => args_cons ?_ he⟩
  refine h A g ρ z s _ _ ok R fun v w σ1 ρ1 z1 s1 h1 R1 G1 r1 => ?_
  exact h1.2 A g ρ1 z1 s1 _ _ ok R1 fun vs ws σ2 ρ2 z2 s2 h2 R2 G2 r2 => q _ _ _ _ _ _ h2 R2 (G1.trans G2) (.cons (r1.mono G2.toExt) r2)
theorem ek_nil {Q : List (Str × V) → Hp → Prop} (h : Q [] σ) : EK c env D pos [] l σ Q := ⟨rfl, fun _ _ _ _ _ _ _ _ R q => wpAny_evalAll_nil (q [] _ _ _ _ _ h rfl R (Go.refl ..) .nil)⟩
theorem ek_cons {x : Str} {e : Expr} {kp : Pos} {rest : List Keyword} {Q : List (Str × V) → Hp → Prop} (hr : (backToKw pos (keywordEach rest env)).all (·.1.isSome) = true) (h : EV c env D (eval e env) l σ fun v σ₁ => EK c env D pos rest l σ₁ fun vs σ₂ => Q ((x, v) :: vs) σ₂) :
    EK c env D pos (⟨some x, e, kp⟩ :: rest) l σ Q := by
  refine ⟨by simpa [backToKw, keywordEach] using hr, fun A g ρ z s Q' E' ok R q => ?_⟩
  show wpAny c.M A (evalAll ((do let v ← eval e env; standAt pos; pure v) :: (backToKw pos (keywordEach rest env)).map (·.2))) Q' E' s
  refine wpAny_evalAll_cons (wpAny_bind (h A g ρ z s _ _ ok R fun v w σ1 ρ1 z1 s1 h1 R1 G1 r1 => wpAny_bind (wpAny_standAt (wpAny_pure ?_))))
  refine h1.2 A g ρ1 z1 s1 _ _ ok R1 fun vs ws σ2 ρ2 z2 s2 h2 hm R2 G2 r2 => q _ _ _ _ _ _ h2 ?_ R2 (G1.trans G2) (.cons (r1.mono G2.toExt) r2)
  simp only [List.map_cons, hm]
  rfl

theorem evalArgs_gen {M : Model} {A : Around} {E : Value → Shared → Prop} {s : Shared} {f : Value} {args : List (Bool × Sem Value)} {kws : List (Option Str × Sem Value)} {Q : Args → Shared → Prop} (ha : args.any (·.1) = false) (hk : kws.all (·.1.isSome) = true)
    (h : wpAny M A (spliced args) (fun vs s₁ => wpAny M A (evalAll (kws.map (·.2))) (fun ks s₂ => Q ⟨vs, (kws.filterMap (·.1)).zip ks⟩ s₂) E s₁) E s) : wpAny M A (evalArgs f true args kws) Q E s := by
  cases args with
  | nil =>
    unfold evalArgs
    show wpAny M A (spliced [] >>= _) Q E s
    refine wpAny_bind (wpAny_mono h (fun vs s₁ h₁ => ?_) fun _ _ x => x)
    refine wpAny_bind (wpAny_pure (wpAny_holding ?_))
    simp only [hk, if_true]
    exact wpAny_bind (wpAny_mono h₁ (fun ks s₂ h₂ => wpAny_bind (wpAny_pure (wpAny_pure h₂))) fun _ _ x => x)
  | cons x rest =>
    obtain ⟨b, t⟩ := x
    have : b = false := by cases b <;> simp_all
    subst this
    exact evalArgs_kw hk h

/-- the called thing is known to the machine -/
def KeepOk (c : Cx) : V → Prop
  | .val (.ref a) => keepIn c.K (.ref a) = true
  | .val _ => True
  | _ => False
theorem keepOk_looks {c : Cx} {M : Model} {v : V} {w : Value} {z : Led} {ρ : List Addr} (hk : KeepOk c v) (r : VR z ρ v w) (h : Heap) (X : c.K.In h) : ∃ k, (k = Keeper.frame ∨ k = Keeper.machine ∨ k = Keeper.boundFrame) ∧ Looks M h (keeperOf w) k := by
  cases r with
  | val w =>
    cases w <;> first | exact ⟨.machine, .inr (.inl rfl), Looks.of_pure rfl⟩ | exact keeps_K hk h X
  | _ => exact hk.elim

theorem callWith_AW {vf : V} {first : List V} {args : List Expr} {kws : List Keyword} {Q : V → Hp → Prop} (hk : KeepOk c vf) (h : EL c env D pos args l σ fun vs σ₁ => EK c env D pos kws l σ₁ fun ks σ₂ => FN c D vf (first ++ vs) ks σ₂ Q) :
    ∀ (A : Around) (g : Heap) (ρ : List Addr) (z : Led) (s : Shared) (Q' E' : Value → Shared → Prop) (wf : Value) (wfirst : List Value), Ok A D → Rep c env g ρ z σ l s → VR z ρ vf wf → VRL z ρ first wfirst →
      (hkw : (backToKw pos (keywordEach kws env)).all (·.1.isSome) = true) → 
      (∀ v w σ' ρ' z' s', Q v σ' → Rep c env g ρ' z' σ' l s' → Go g ρ z s ρ' z' s' → VR z' ρ' v w → Q' w s') →
      wpAny c.M A (callWith pos wf wfirst (backTo pos (starEach args env)) (backToKw pos (keywordEach kws env))) Q' E' s := by
  intro A g ρ z s Q' E' wf wfirst ok R rf rfirst hkw q
  have hplain : ((backTo pos (starEach args env)).any (·.1) || (backToKw pos (keywordEach kws env)).any (·.1.isNone)) = false := by
    rw [h.1, Bool.false_or, List.any_eq_false]
    intro x hx
    have := List.all_eq_true.mp hkw x hx
    cases hx1 : x.1 <;> simp_all
  refine callWith_of (P := fun h => c.K.In h) hplain (fun h X => keepOk_looks hk rf h X) (evalArgs_gen h.1 hkw ?_)
  refine h.2 A g ρ z s _ _ ok R fun vs ws σ1 ρ1 z1 s1 h1 R1 G1 r1 => ?_
  refine h1.2 A g ρ1 z1 s1 _ _ ok R1 fun ks wk σ2 ρ2 z2 s2 h2 hm R2 G2 r2 => ?_
  refine ⟨R2.base.X.keeps R2.keep, ?_⟩
  obtain ⟨g1, P, back⟩ := R2.out
  rw [← hm]
  refine h2 A g1 ρ2 z2 s2 _ _ wf (wfirst ++ ws) wk ok P (rf.mono (G1.trans G2).toExt) ((rfirst.mono (G1.trans G2).toExt).append (r1.mono G2.toExt)) r2 fun v w σ' ρ' z' s' hq P' G' r' => ?_
  obtain ⟨RB, GB⟩ := back _ _ _ _ P' G'
  exact q v w σ' ρ' z' s' hq RB ((G1.trans G2).trans GB) r'

theorem ev_call {func : Expr} {args : List Expr} {kws : List Keyword} {Q : V → Hp → Prop} (hkw : (backToKw pos (keywordEach kws env)).all (·.1.isSome) = true)
    (h : EV c env D (eval func env) l σ fun vf σ₁ => KeepOk c vf ∧ EL c env D pos args l σ₁ fun vs σ₂ => EK c env D pos kws l σ₂ fun ks σ₃ => FN c D vf vs ks σ₃ Q)
    (he : eval (.Call func args kws pos) env = (do callWith pos (← eval func env) [] (backTo pos (starEach args env)) (backToKw pos (keywordEach kws env))) := by kernel_rfl) : EV c env D (eval (.Call func args kws pos) env) l σ Q := by
  intro A g ρ z s Q' E' ok R q
  rw [he]
  refine wpAny_bind (h A g ρ z s _ _ ok R fun vf wf σ1 ρ1 z1 s1 h1 R1 G1 r1 => ?_)
  exact callWith_AW (first := []) h1.1 h1.2 A g ρ1 z1 s1 _ _ wf [] ok R1 r1 .nil hkw fun v w σ' ρ' z' s' hq R' G' r' => q v w σ' ρ' z' s' hq R' (G1.trans G') r'

/-- a method is looked up -/
def EM (c : Cx) (env : Env) (D : Nat) (v : V) (name : Str) (l : Loc) (σ : Hp) (Q : V → List V → Hp → Prop) : Prop :=
  ∀ (A : Around) (g : Heap) (ρ : List Addr) (z : Led) (s : Shared) (Q' : Value × List Value → Shared → Prop) (E' : Value → Shared → Prop) (w : Value) (pl : Sem Bool), Ok A D → Rep c env g ρ z σ l s → VR z ρ v w →
    (∀ vf first wf wfirst σ' ρ' z' s', Q vf first σ' → Rep c env g ρ' z' σ' l s' → Go g ρ z s ρ' z' s' → VR z' ρ' vf wf → VRL z' ρ' first wfirst → Q' (wf, wfirst) s') → wpAny c.M A (getMethod w name pl) Q' E' s
theorem ev_mcall {o : Expr} {name : Str} {apos : Pos} {args : List Expr} {kws : List Keyword} {pl : Sem Bool} {Q : V → Hp → Prop} (hkw : (backToKw pos (keywordEach kws env)).all (·.1.isSome) = true)
    (h : EV c env D (eval o env) l σ fun ov σ₁ => EM c env D ov name l σ₁ fun vf first σ₂ => KeepOk c vf ∧ EL c env D pos args l σ₂ fun vs σ₃ => EK c env D pos kws l σ₃ fun ks σ₄ => FN c D vf (first ++ vs) ks σ₄ Q)
    (he : eval (.Call (.Attribute o name apos) args kws pos) env = (do
      let ov ← eval o env
      standAt apos.atName
      let (f, first) ← holding [ov] (getMethod ov name pl)
      callWith pos f first (backTo pos (starEach args env)) (backToKw pos (keywordEach kws env))) := by rfl) : EV c env D (eval (.Call (.Attribute o name apos) args kws pos) env) l σ Q := by
  intro A g ρ z s Q' E' ok R q
  refine methodCall_KW (h A g ρ z s _ _ ok R fun ov ow σ1 ρ1 z1 s1 h1 R1 G1 r1 => ?_) he
  refine h1 A g ρ1 z1 s1 _ _ ow pl ok R1 r1 fun vf first wf wfirst σ2 ρ2 z2 s2 h2 R2 G2 r2 rl => ?_
  exact callWith_AW h2.1 h2.2 A g ρ2 z2 s2 _ _ wf wfirst ok R2 r2 rl hkw fun v w σ' ρ' z' s' hq R' G' r' => q v w σ' ρ' z' s' hq R' ((G1.trans G2).trans G') r'
theorem ev_attr {o : Expr} {attr : Str} {Q : V → Hp → Prop} (h : EV c env D (eval o env) l σ fun ov σ₁ => EV1 c env D ov (fun a => getAttr a attr true) l σ₁ Q)
    (he : ∀ (A : Around) (s : Shared) (Q' E' : Value → Shared → Prop), wpAny c.M A (eval o env) (fun ow s₁ => wpAny c.M A (getAttr ow attr true) Q' E' s₁) E' s → wpAny c.M A (eval (.Attribute o attr pos) env) Q' E' s) : EV c env D (eval (.Attribute o attr pos) env) l σ Q := by
  intro A g ρ z s Q' E' ok R q
  refine he _ _ _ _ (h A g ρ z s _ _ ok R fun ov ow σ1 ρ1 z1 s1 h1 R1 G1 r1 => ?_)
  exact h1 A g ρ1 z1 s1 _ _ ow ok R1 r1 fun v w σ' ρ' z' s' hq R' G' r' => q v w σ' ρ' z' s' hq R' (G1.trans G') r'
end
end
section
open PySem PySem.W PyProof.Rows PySem.Calls

theorem Rp.lessX {c g X ρ z σ} {s : Shared} (R : Rp c g X ρ z σ s) : Rp c g [] ρ z σ s := by
  obtain ⟨led, a, b, d⟩ := R.own
  exact ⟨R.base, R.keep, ⟨led, a, b, fun p hp => ⟨(d p hp).1, (d p hp).2.1, fun h => (d p hp).2.2.1 (List.mem_append_right _ (by simpa using h)), (d p hp).2.2.2⟩⟩, fun q hq => ⟨(R.frz q hq).1, fun h => (R.frz q hq).2 (List.mem_append_right _ (by simpa using h))⟩,
    fun a ha => R.off a (List.mem_append_right _ (by simpa using ha)), R.tabs, R.os, R.dr, R.gens, R.kz⟩
/-- a frame's dict, new -/
theorem Rp.addX {c g ρ z σ} {s s' : Shared} (R : Rp c g [] ρ z σ s) (k : ∀ b o, s.heap.get? b = some o → s'.heap.get? b = some o) {L : Addr} (hL : s.heap.get? L = none) (hL' : ∃ o, s'.heap.get? L = some o)
    (h1 : s'.os = s.os := by rfl) (h2 : s'.drawn = s.drawn := by rfl) (h3 : s'.gens = s.gens := by rfl) : Rp c g [L] ρ z σ s' := by
  have J := R.grow k h1 h2 h3
  obtain ⟨led, a, b, d⟩ := R.own
  refine ⟨R.base, J.keep, ⟨led, a, b, fun p hp => ⟨k _ _ (d p hp).1, (d p hp).2.1, fun h => ?_, (d p hp).2.2.2⟩⟩, fun q hq => ⟨(J.frz q hq).1, fun h => ?_⟩, fun x hx => ?_, J.tabs, J.os, J.dr, J.gens, J.kz⟩
  · rcases List.mem_append.mp h with h | h
    · exact fresh_ne (d p hp).1 hL (by simpa using h)
    · exact (d p hp).2.2.1 (by simpa using h)
  · rcases List.mem_append.mp h with h | h
    · exact fresh_ne (R.frz q hq).1 hL (by simpa using h)
    · exact (R.frz q hq).2 (by simpa using h)
  · rcases List.mem_append.mp hx with h | h
    · have : x = L := by simpa using h
      subst this
      exact ⟨fresh_base R.keep hL, hL'⟩
    · exact J.off x (by simpa using h)

/-- how the arguments of a call are bound -/
def BindA (c : Cx) (fd : FuncData) (args : List V) (kw : List (Str × V)) (bs : List (Str × V)) : Prop :=
  ∀ (z : Led) (ρ : List Addr) (ws kws : List Value) (s : Shared), c.K.In s.heap → VRL z ρ args ws → VRL z ρ (kw.map (·.2)) kws →
    ∃ binds, BindsTo s fd ⟨ws, (kw.map (·.1)).zip kws⟩ binds ∧ binds.map (·.1) = bs.map (·.1) ∧ VRL z ρ (bs.map (·.2)) (binds.map (·.2))

def postFn (Q : V → Hp → Prop) : Fl → Loc → Hp → Prop := fun f _ σ => match f with
  | .ret v => Q v σ
  | _ => Q .none σ

theorem vrl_lookup {z : Led} {ρ : List Addr} : ∀ {bs : List (Str × V)} {binds : List (Str × Value)}, binds.map (·.1) = bs.map (·.1) → VRL z ρ (bs.map (·.2)) (binds.map (·.2)) → (bs.map (·.1)).Nodup →
    ∀ {x : Str} {v : V}, (x, v) ∈ bs → ∃ w, binds.reverse.lookup x = some w ∧ VR z ρ v w := by
  intro bs binds e r nd x v hm
  have key : ∀ {bs : List (Str × V)} {binds : List (Str × Value)}, binds.map (·.1) = bs.map (·.1) → VRL z ρ (bs.map (·.2)) (binds.map (·.2)) → (x, v) ∈ bs → ∃ w, (x, w) ∈ binds ∧ VR z ρ v w := by
    intro bs
    induction bs with
    | nil => intro binds _ _ hm; cases hm
    | cons p bs ih =>
      intro binds e r hm
      cases binds with
      | nil => cases e
      | cons q binds =>
        simp only [List.map_cons, List.cons.injEq] at e
        cases r with
        | cons r1 r2 =>
          rcases List.mem_cons.mp hm with h | h
          · subst h; exact ⟨q.2, by rw [show q = (x, q.2) from Prod.ext e.1 rfl]; exact .head _, r1⟩
          · obtain ⟨w, h1, h2⟩ := ih e.2 r2 h
            exact ⟨w, .tail _ h1, h2⟩
  obtain ⟨w, h1, h2⟩ := key e r hm
  refine ⟨w, ?_, h2⟩
  have nd' : (binds.reverse.map (·.1)).Nodup := by rw [List.map_reverse, e]; exact List.pairwise_reverse.mpr (List.Pairwise.imp (fun h => Ne.symm h) nd)
  have hm' : (x, w) ∈ binds.reverse := List.mem_reverse.mpr h1
  clear h1 e r hm key nd
  generalize binds.reverse = l at nd' hm'
  induction l with
  | nil => cases hm'
  | cons p l ih =>
    obtain ⟨y, u⟩ := p
    rw [List.lookup_cons]
    simp only [List.map_cons, List.nodup_cons] at nd'
    rcases List.mem_cons.mp hm' with h | h
    · cases h; simp
    · have : (x == y) = false := by
        rw [beq_eq_false_iff_ne]; intro q; subst q; exact nd'.1 (List.mem_map_of_mem h)
      rw [this]; exact ih nd'.2 h

section
variable {c : Cx} {D : Nat} {σ : Hp}
/-- a def without cells is called -/
theorem fc_def {f : Addr} {fd : FuncData} {body : List Stmt} {oc : Value} {od : Option Addr} {osl : Array (Option Value)} {args : List V} {kw : List (Str × V)} {bs : List (Str × V)} {un : List Str} {Q : V → Hp → Prop}
    (ho : c.K.lookup f = some ⟨oc, od, .func fd, osl⟩) (hbody : fd.body = .stmts body) (hcd : codeIn c.K fd.code fd.qualname = true) (hbind : BindA c fd args kw bs)
    (hnd : ((bs ++ un.map fun x => (x, V.unb)).map (·.1)).Nodup) (hloc : ∀ x ∈ bs, fd.scope.names.lookup x.1 = some .local)
    (h : ∀ L, EX c (callEnv fd L f) D (execs body (callEnv fd L f)) (bs ++ un.map fun x => (x, V.unb)) σ (postFn Q))
    (hcell : ∀ x ∈ fd.scope.names, x.2 ≠ .cell) (hgl : fd.globals = mainGlobals) (hbl : fd.builtins = builtinsNs)
    (hco : fd.scope.isCoroutine = false := by rfl) (hgen : fd.scope.isGenerator = false := by rfl) (hk : fd.scope.kind = .function := by rfl) : FC c (D + 1) (.val (.ref f)) args kw σ Q := by
  intro A g ρ z s RR' wf ws kws ok R rf rl rk q
  cases rf
  have X := R.base.X.keeps R.keep
  obtain ⟨binds, hb, e1, e2⟩ := hbind z ρ ws kws s X rl rk
  refine (codeAny_call_def (by have := ok.d; omega) (X _ _ ho) rfl (R.base.nolimit.keeps R.keep) (codeRec_of X hcd) hbody hb hcell (fun x hx => ?_) (fun h₀ hns hk₀ => ?_) hco hgen hk)
  · have : x.1 ∈ bs.map (·.1) := e1 ▸ List.mem_map_of_mem hx
    obtain ⟨y, hy, e⟩ := List.mem_map.mp this
    rw [← e]; exact hloc y hy
  · have hL : s.heap.get? s.heap.objs.size = none := fresh_at (Nat.le_refl _)
    have hL' : ∃ o, h₀.get? s.heap.objs.size = some o := let ⟨o, _, _, e, _⟩ := hns; ⟨o, e⟩
    have R0 : Rp c g [s.heap.objs.size] ρ z σ { s with heap := h₀, toks := s.toks + binds.length } := R.addX (s' := { s with heap := h₀, toks := s.toks + binds.length }) hk₀ hL hL'
    have lt : s.heap.objs.size ∉ c.tk := fun hm => let ⟨_, e⟩ := (R.off _ (by simpa using hm)).2; Nat.lt_irrefl _ (Heap.lt_size e)
    have nd : (bs.map (·.1)).Nodup := by rw [List.map_append, List.nodup_append] at hnd; exact hnd.1
    have RR : Rep c (callEnv fd s.heap.objs.size f) g ρ z σ (bs ++ un.map fun x => (x, V.unb)) { s with heap := h₀, toks := s.toks + binds.length } := by
      refine ⟨R0, ⟨_, hns, fun p hp => ?_⟩, hnd, hk, hgl, hbl, lt⟩
      rcases List.mem_append.mp hp with h | h
      · obtain ⟨w, h1, h2⟩ := vrl_lookup e1 e2 nd h
        exact .inr (.inr ⟨hloc p h, w, h1, h2⟩)
      · obtain ⟨x, _, rfl⟩ := List.mem_map.mp h; exact .inl rfl
    have G0 : Go g ρ z s ρ z { s with heap := h₀, toks := s.toks + binds.length } := Go.same _ _ _ _ _ hk₀
    have ok' : Ok (A.deeper (callEnv fd s.heap.objs.size f)) D := ⟨ok.h, by have := ok.d; show A.depth + 1 + 3 * D + 3 < _; omega, by have := ok.u; show A.units + 3 + 20 * D + 20 < _; omega⟩
    refine h s.heap.objs.size _ g ρ z _ _ _ ok' RR fun fl fw l' σ' ρ' z' s' hq R' G' r' => ?_
    cases r' with
    | next => exact q _ _ _ _ _ _ hq R'.toRp.lessX (G0.trans G') .none
    | brk => exact q _ _ _ _ _ _ hq R'.toRp.lessX (G0.trans G') .none
    | cont => exact q _ _ _ _ _ _ hq R'.toRp.lessX (G0.trans G') .none
    | ret r => exact q _ _ _ _ _ _ hq R'.toRp.lessX (G0.trans G') r
end
end
section
open PySem PySem.W PyProof.Rows PySem.Calls

inductive FG (x : Nat) (v : V) : List (Nat × V) → Prop
  | hd {r} : FG x v ((x, v) :: r)
  | tl {y u r} : y ≠ x → FG x v r → FG x v ((y, u) :: r)
inductive FP (x : Nat) (v : V) : List (Nat × V) → List (Nat × V) → Prop
  | hd {u r} : FP x v ((x, u) :: r) ((x, v) :: r)
  | tl {y u r r'} : y ≠ x → FP x v r r' → FP x v ((y, u) :: r) ((y, u) :: r')
  | nil : FP x v [] [(x, v)]
def noKey (x : Nat) (fs : List (Nat × V)) : Bool := fs.all fun p => !(p.1 == x)

section
variable {z : Led} {ρ : List Addr} {x : Nat} {v : V}
theorem nm_ne {x y : Nat} (h : y ≠ x) {t : Tok} : (Value.str (nm y) t).isStr (nm x) = false := by
  simp only [Value.isStr, beq_eq_false_iff_ne]; exact fun e => h (nm_inj e)
theorem ER.norefs : ∀ {fs es}, ER z ρ fs es → es.any (·.refKey) = false
  | _, _, .nil => rfl
  | _, _, .cons _ l => by rw [List.any_cons, l.norefs]; rfl
theorem ER.find : ∀ {fs es}, ER z ρ fs es → FG x v fs → ∃ e, es.find? (·.key.isStr (nm x)) = some e ∧ VR z ρ v e.val
  | _, _, .cons h _, .hd => ⟨_, by rw [List.find?_cons_of_pos]; simp [Value.isStr], h⟩
  | _, _, .cons _ l, .tl ne g => by
    obtain ⟨e, h1, h2⟩ := l.find g
    refine ⟨e, ?_, h2⟩
    rw [List.find?_cons_of_neg]
    · exact h1
    · simp only [nm_ne ne]; exact Bool.false_ne_true
theorem ER.get {fs es} (h : ER z ρ fs es) (g : FG x v fs) : ∃ w, getL (nm x) es = some (some w) ∧ VR z ρ v w := by
  obtain ⟨e, h1, h2⟩ := h.find g
  exact ⟨e.val, by unfold getL; rw [h1], h2⟩
theorem ER.miss : ∀ {fs es}, ER z ρ fs es → noKey x fs = true → es.find? (·.key.isStr (nm x)) = none
  | _, _, .nil, _ => rfl
  | _, _, .cons (x := y) _ l, g => by
    simp only [noKey, List.all_cons, Bool.and_eq_true] at g
    have ne : y ≠ x := by simpa using g.1
    rw [List.find?_cons_of_neg]
    · exact l.miss g.2
    · simp only [nm_ne ne]; exact Bool.false_ne_true
theorem ER.none {fs es} (h : ER z ρ fs es) (g : noKey x fs = true) : getL (nm x) es = some none := by
  unfold getL
  rw [h.miss g, h.norefs]; rfl
theorem ER.some {fs es} (h : ER z ρ fs es) {x : Str} : (getL x es).isSome = true := by
  unfold getL
  split
  · rfl
  · rw [h.norefs]; rfl
theorem ER.put {w : Value} {hs : Int} {t : Tok} (r : VR z ρ v w) : ∀ {fs fs' es}, ER z ρ fs es → FP x v fs fs' → ER z ρ fs' (putL (nm x) hs (.str (nm x) t) w es)
  | _, _, _, .nil, .nil => .cons r .nil
  | _, _, _, .cons (t := t') h l, .hd => by
    have : (Value.str (nm x) t').isStr (nm x) = true := by simp [Value.isStr]
    simp only [putL, this, if_true]; exact .cons r l
  | _, _, _, .cons (x := y) (t := t') h l, .tl ne p => by
    simp only [putL, nm_ne ne, Bool.false_eq_true, if_false]; exact .cons h (l.put r p)
theorem ER.length : ∀ {fs es}, ER z ρ fs es → es.length = fs.length
  | _, _, .nil => rfl
  | _, _, .cons _ l => congrArg (· + 1) l.length
end

section
variable {prog : Program} {w : World} {A : Around} {E : Value → Shared → Prop} {s : Shared} {K : Frag} {x C dx : Addr} {ox : Obj} {es es' : List DictEntry} {n : Nat} {name : Str} {v : Value}
/-- an attribute is stored in the object's own dict -/
theorem set_raw {Q : Unit → Shared → Prop} (X : K.In s.heap) (I : InstAt s.heap x ox C (some (dictOf es n))) (hd : ox.dict = some dx)
    (hs : findIn K (.ref C) "__setattr__" = some (some (.builtin "object.__setattr__"))) (hp : plainOver K C = true) (ht : takerIn K C name = some none) (hh : hasDictIn K C = true) (hl : (getL name es).isSome = true) (hz : (putL name (PyData.keyHash w.params name) (.str name (s.toks + 1)) v es).length ≤ 1000)
    (h : ∀ h', Heap.SameBut dx s.heap h' → h'.get? dx = some (dictOf (putL name (PyData.keyHash w.params name) (.str name (s.toks + 1)) v es) (putN name es n)) → Q () { s with heap := h', toks := s.toks + 2 }) :
    wpAny (model prog w) A (setAttr (.ref x) name v) Q E s := by
  refine set_plain X I hs ?_
  refine osa_open (s := { s with toks := s.toks + 1 }) X I hp ht fun b => ?_
  obtain ⟨cd, hc, hd'⟩ := any_some hh
  have hdx : s.heap.get? dx = some (dictOf es n) := by
    have := I.dict
    rw [hd] at this
    exact this
  obtain ⟨hx, hcl, hn, -⟩ := I
  obtain ⟨oc, odi, oda, osl⟩ := ox
  dsimp only at hcl hd
  subst hcl hd
  refine wpAny_bind (wpAny_pure (wpAny_bind (wpAny_bind (wpAny_loadPart hx (wpAny_bind ((looks_clsIn (M := model prog w) X hc) _ _ _ _ (fun _ _ e => e) ?_))))))
  rw [hd']
  refine wpAny_pure (a := some dx) (wpAny_bind (wpAny_pure (wpAny_bind ?_)))
  unfold nsSet
  refine wpAny_bind (wpAny_bind (wpAny_askSetting (wpAny_pure (wpAny_bind (wpAny_mkText (wpAny_bind (wpAny_loadPart hdx ?_)))))))
  dsimp only
  have cnd : (!es.toArray.any (·.key.isStr name) && es.toArray.any (·.refKey)) = false := by
    rw [List.any_toArray, List.any_toArray]
    unfold getL at hl
    split at hl
    · rename_i en he
      rw [List.any_eq_true.mpr ⟨en, List.mem_of_find?_eq_some he, List.find?_some he⟩]; rfl
    · split at hl
      · cases hl
      · rename_i q; rw [Bool.not_eq_true] at q; rw [q, Bool.and_false]
  rw [aRefKeyMayBeTheName_at, cnd]
  refine wpAny_updatePart hdx ?_
  have e1 := putName_dict name (PyData.keyHash w.params name) (.str name (s.toks + 1)) v es n
  have hget : (s.heap.update dx (Obj.putName name (PyData.keyHash w.params name) (.str name (s.toks + 1)) v)).get? dx = some (dictOf (putL name (PyData.keyHash w.params name) (.str name (s.toks + 1)) v es) (putN name es n)) := by
    rw [← e1]
    exact Heap.get?_update_self _ hdx (by rw [e1]; rfl)
  refine wpAny_bind (wpAny_lookBehind hget (pastItsLine_dict (by rw [List.size_toArray, sizeLine_eq]; omega)) ?_)
  exact wpAny_pure (h _ (Heap.SameBut.update ..) hget)
end

/-- what a class must be for its instances' attributes to be plainly read | stored -/
structure ClsR (c : Cx) (C : Addr) (name : Str) : Prop where
  get : plainGet c.K C name = true
  dict : hasDictIn c.K C = true
structure ClsW (c : Cx) (C : Addr) : Prop where
  set : findIn c.K (.ref C) "__setattr__" = some (some (.builtin "object.__setattr__"))
  over : plainOver c.K C = true
  dict : hasDictIn c.K C = true

def V.handed : V → Bool
  | .val (.builtin i) => (withoutEnding? i "#data").isNone
  | _ => true
theorem V.handed_is {z : Led} {ρ : List Addr} {v : V} {w : Value} (h : v.handed = true) (r : VR z ρ v w) : handedIn w = true := by
  cases r <;> first | rfl | skip
  cases w <;> first | rfl | exact h

section
variable {c : Cx} {env : Env} {D : Nat} {l : Loc} {σ : Hp} {Q : V → Hp → Prop} {C : Addr} {fs fs' : List (Nat × V)} {name : Nat} {v : V} {i : Nat}
theorem PR.inst_inv {z : Led} {ρ : List Addr} {C : Addr} {fs : List (Nat × V)} {a : Addr} {p : Led} (h : PR z ρ (.inst C fs) a p) : ∃ dx sl es n, p = [(a, ⟨.ref C, some dx, .plain, sl⟩), (dx, dictOf es n)] ∧ ER z ρ fs es := by
  cases h with
  | inst l => exact ⟨_, _, _, _, rfl, l⟩
/-- an attribute of an owned object -/
theorem ev1_attr (hi : σ[i]? = some (.inst C fs)) (g : FG name v fs) (k : ClsR c C (nm name)) (a : Option Value) (ha : findIn c.K (.ref C) (nm name) = some a) (hn : noGet c.K a = true) (hv : v.handed = true) (h : Q v σ) : EV1 c env D (.ref i) (fun a => getAttr a (nm name) true) l σ Q := by
  intro A g' ρ z s Q' E' w ok R r q
  cases r with
  | ref hr =>
    rename_i x
    obtain ⟨x', p, h1, h2, h3⟩ := R.toRp.at hi
    rw [hr] at h1; cases h1
    obtain ⟨dx, sl, es, n, rfl, hE⟩ := h2.inst_inv
    obtain ⟨w, hw, rw'⟩ := hE.get g
    have I : InstAt s.heap x ⟨.ref C, some dx, .plain, sl⟩ C (some (dictOf es n)) := ⟨(h3 _ (.head _)).1, rfl, rfl, (h3 _ (.tail _ (.head _))).1⟩
    exact get_value (R.base.X.keeps R.keep) I (plainGet_of k.get).1 (findObj_own k.dict ha hn (by rw [lookIn_dict]; exact hw)) (V.handed_is hv rw') (q _ _ _ _ _ _ h (R.toks _) (Go.toks ..) rw')
/-- an attribute of an object that stays as it is -/
theorem ev1_attrZ (g : FG name v fs) (k : ClsR c C (nm name)) (a : Option Value) (ha : findIn c.K (.ref C) (nm name) = some a) (hn : noGet c.K a = true) (hv : v.handed = true) (h : Q v σ) : EV1 c env D (.obj C fs) (fun a => getAttr a (nm name) true) l σ Q := by
  intro A g' ρ z s Q' E' w ok R r q
  cases r with
  | obj hx hdx hE =>
    obtain ⟨w, hw, rw'⟩ := hE.get g
    have I := InstAt.mk (h := s.heap) (C := C) (od := some (dictOf _ _)) (R.frz _ hx).1 rfl rfl (R.frz _ hdx).1
    exact get_value (R.base.X.keeps R.keep) I (plainGet_of k.get).1 (findObj_own k.dict ha hn (by rw [lookIn_dict]; exact hw)) (V.handed_is hv rw') (q _ _ _ _ _ _ h (R.toks _) (Go.toks ..) rw')
/-- a class's own value, read from its instance -/
theorem ev1_cattr (hi : σ[i]? = some (.inst C fs)) (g : noKey name fs = true) (k : ClsR c C (nm name)) (a : Value) (ha : findIn c.K (.ref C) (nm name) = some (some a)) (hn : specialIn c.K a "__get__" = some none) (hv : handedIn a = true) (hc : copiedNames.contains (nm name) = false) (h : Q (absV a) σ) :
    EV1 c env D (.ref i) (fun a => getAttr a (nm name) true) l σ Q := by
  intro A g' ρ z s Q' E' w ok R r q
  cases r with
  | ref hr =>
    rename_i x
    obtain ⟨x', p, h1, h2, h3⟩ := R.toRp.at hi
    rw [hr] at h1; cases h1
    obtain ⟨dx, sl, es, n, rfl, hE⟩ := h2.inst_inv
    have I : InstAt s.heap x ⟨.ref C, some dx, .plain, sl⟩ C (some (dictOf es n)) := ⟨(h3 _ (.head _)).1, rfl, rfl, (h3 _ (.tail _ (.head _))).1⟩
    exact get_value (R.base.X.keeps R.keep) I (plainGet_of k.get).1 (findObj_cls k.dict ha hn hv hc (by rw [lookIn_dict]; exact hE.none g)) hv (q _ _ _ _ _ _ h (R.toks _) (Go.toks ..) (absV_is ..))
/-- a method -/
theorem em_inst {QM : V → List V → Hp → Prop} {f : Addr} (hi : σ[i]? = some (.inst C fs)) (g : noKey name fs = true) (k : ClsR c C (nm name)) (hf : findIn c.K (.ref C) (nm name) = some (some (.ref f))) (ht : isFn c.K (.ref f) = true) (h : QM (.val (.ref f)) [.ref i] σ) : EM c env D (.ref i) (nm name) l σ QM := by
  intro A g' ρ z s Q' E' w pl ok R r q
  cases r with
  | ref hr =>
    rename_i x
    obtain ⟨x', p, h1, h2, h3⟩ := R.toRp.at hi
    rw [hr] at h1; cases h1
    obtain ⟨dx, sl, es, n, rfl, hE⟩ := h2.inst_inv
    have I : InstAt s.heap x ⟨.ref C, some dx, .plain, sl⟩ C (some (dictOf es n)) := ⟨(h3 _ (.head _)).1, rfl, rfl, (h3 _ (.tail _ (.head _))).1⟩
    exact method_fn (R.base.X.keeps R.keep) I (plainGet_of k.get).1 (plainGet_of k.get).2 hf (beq_iff_eq.mp ht) (by show (lookIn (nm name) (dictOf es n)).map _ = _; rw [lookIn_dict, hE.none g]; rfl)
      (q _ _ _ _ _ _ _ _ h R (Go.refl ..) (.val _) (.cons (.ref hr) .nil))
theorem em_obj {QM : V → List V → Hp → Prop} {f : Addr} (g : noKey name fs = true) (k : ClsR c C (nm name)) (hf : findIn c.K (.ref C) (nm name) = some (some (.ref f))) (ht : isFn c.K (.ref f) = true) (h : QM (.val (.ref f)) [.obj C fs] σ) : EM c env D (.obj C fs) (nm name) l σ QM := by
  intro A g' ρ z s Q' E' w pl ok R r q
  have r0 := r
  cases r with
  | obj hx hdx hE =>
    have I := InstAt.mk (h := s.heap) (C := C) (od := some (dictOf _ _)) (R.frz _ hx).1 rfl rfl (R.frz _ hdx).1
    exact method_fn (R.base.X.keeps R.keep) I (plainGet_of k.get).1 (plainGet_of k.get).2 hf (beq_iff_eq.mp ht) (by show (lookIn (nm name) (dictOf _ _)).map _ = _; rw [lookIn_dict, hE.none g]; rfl)
      (q _ _ _ _ _ _ _ _ h R (Go.refl ..) (.val _) (.cons r0 .nil))
/-- an attribute is stored -/
theorem eu_set {Q : Hp → Prop} {u : V} (hi : σ[i]? = some (.inst C fs)) (g : FP name v fs fs') (k : ClsW c C) (ht : takerIn c.K C (nm name) = some none) (hz : fs'.length ≤ 1000) (h : Q (σ.set i (.inst C fs'))) : EU3 c env D (.ref i) v u (fun a b _ => setAttr a (nm name) b) l σ Q := by
  intro A g' ρ z s Q' E' w₁ w₂ w₃ ok R r r₂ r₃ q
  cases r with
  | ref hr =>
    rename_i x
    obtain ⟨x', p, h1, h2, h3⟩ := R.toRp.at hi
    rw [hr] at h1; cases h1
    obtain ⟨dx, sl, es, n, rfl, hE⟩ := h2.inst_inv
    have I : InstAt s.heap x ⟨.ref C, some dx, .plain, sl⟩ C (some (dictOf es n)) := ⟨(h3 _ (.head _)).1, rfl, rfl, (h3 _ (.tail _ (.head _))).1⟩
    have hL : env.locals ≠ dx := fun e => (h3 _ (.tail _ (.head _))).2.2 (by simp [e])
    have hput := hE.put (x := name) (hs := PyData.keyHash c.w.params (nm name)) (t := s.toks + 1) r₂ g
    refine set_raw (R.base.X.keeps R.keep) I rfl k.set k.over ht k.dict hE.some (by rw [hput.length]; exact hz) fun h' hs hg => ?_
    have P : Rp c g' [env.locals] ρ z (σ.set i (.inst C fs')) { s with heap := h', toks := s.toks + 2 } := R.toRp.upd (s' := { s with heap := h', toks := s.toks + 2 }) hi hr (b := dx) (fun p hp hh => by
      obtain ⟨dx', sl', es', n', rfl, hE'⟩ := hp.inst_inv
      have e0 := (hh _ (.head _)).symm.trans (h3 _ (.head _)).1
      have : dx' = dx ∧ sl' = sl := by
        have := Option.some.inj e0
        injection this with _ a _ b
        exact ⟨Option.some.inj a, b⟩
      obtain ⟨rfl, rfl⟩ := this
      refine ⟨by simp, _, .inst (sl := sl') (n := putN (nm name) es n) (dx := dx') hput, rfl, fun q hq => ?_⟩
      rcases List.mem_cons.mp hq with rfl | hq
      · refine (hs.2 _ fun e => ?_).trans (h3 _ (.head _)).1
        have a1 := (h3 _ (.head _)).1
        have a2 := (h3 _ (.tail _ (.head _))).1
        simp only at e a1 a2
        rw [e, a2] at a1
        cases a1
      · cases List.mem_singleton.mp hq; exact hg) hs
    refine q _ _ _ _ h (R.mk' P (Ext.refl ..) fun m hm => hm.sameBut hs hL) ⟨Ext.refl .., fun b o e => ?_, fun _ h => .inl h⟩
    by_cases hb : b = dx
    · subst hb; exact ⟨_, hg⟩
    · exact ⟨o, (hs.2 b hb).trans e⟩
end
end
section
open PySem PySem.W PyProof.Rows PySem.Calls

/-- an owned object becomes a value that stays as it is -/
inductive Fz : AO → V → Prop
  | inst {C fs} : Fz (.inst C fs) (.obj C fs)
  | list {vs} : Fz (.list vs) (.lst vs)
  | dict {ks vs} : Fz (.dict ks vs) (.dct ks vs)

theorem Rp.freeze {c g X ρ z σ} {s : Shared} (R : Rp c g X ρ z σ s) {i : Nat} {o : AO} {v : V} (hi : σ[i]? = some o) (hz : Fz o v) {a : Addr} (ha : ρ[i]? = some a) :
    ∃ z', Rp c g X ρ z' (σ.set i .dead) s ∧ Go g ρ z s ρ z' s ∧ VR z' ρ v (.ref a) := by
  obtain ⟨led, a', nd, d⟩ := R.own
  obtain ⟨x, p, pre, post, hx, rfl, hp, h4⟩ := a'.split hi
  rw [ha] at hx; cases hx
  have e : Ext ρ z ρ (p ++ z) := ⟨fun _ _ h => h, fun _ h => List.mem_append_right _ h⟩
  have sub : ∀ q ∈ pre ++ post, q ∈ pre ++ p ++ post := fun q hq => by rcases List.mem_append.mp hq with h | h <;> simp [h]
  have nd' := nd
  simp only [List.map_append, List.append_assoc] at nd'
  rw [List.nodup_append] at nd'
  obtain ⟨n1, n2, n3⟩ := nd'
  rw [List.nodup_append] at n2
  refine ⟨p ++ z, ⟨R.base, R.keep, ⟨pre ++ post, ?_, ?_, fun q hq => ⟨(d q (sub q hq)).1, (d q (sub q hq)).2.1, (d q (sub q hq)).2.2.1, fun r hr => ?_⟩⟩, fun q hq => ?_, R.off, R.tabs, R.os, R.dr, R.gens, fun p hp => List.mem_append_right _ (R.kz p hp)⟩,
    ⟨e, fun b o h => ⟨o, h⟩, fun q hq => ?_⟩, ?_⟩
  · have := (h4 .dead [] (.dead _)).mono e
    simpa using this
  · rw [List.map_append, List.nodup_append]
    exact ⟨n1, n2.2.1, fun x hx y hy => n3 x hx y (List.mem_append_right _ hy)⟩
  · rcases List.mem_append.mp hr with h | h
    · rcases List.mem_append.mp hq with h' | h'
      · exact (n3 _ (List.mem_map_of_mem h') _ (List.mem_append_left _ (List.mem_map_of_mem h))).symm
      · exact n2.2.2 _ (List.mem_map_of_mem h) _ (List.mem_map_of_mem h')
    · exact (d q (sub q hq)).2.2.2 r h
  · rcases List.mem_append.mp hq with h | h
    · have := d q (by simp [h]); exact ⟨this.1, this.2.2.1⟩
    · exact R.frz q h
  · rcases List.mem_append.mp hq with h | h
    · exact .inr (d q (by simp [h])).2.1
    · exact .inl h
  · cases hz with
    | inst =>
      obtain ⟨dx, sl, es, n, rfl, hE⟩ := hp.inst_inv
      exact .obj (List.mem_append_left _ (.head _)) (List.mem_append_left _ (.tail _ (.head _))) (hE.mono e)
    | list =>
      cases hp with
      | list l => exact .lst (List.mem_append_left _ (.head _)) (l.mono e)
    | dict =>
      cases hp with
      | dict hm hd hl => exact .dct (List.mem_append_left _ (.head _)) hm hd (hl.mono e)

section
variable {c : Cx} {env : Env} {D : Nat} {l : Loc} {σ : Hp} {f : V} {args : List V} {kw : List (Str × V)} {Q : V → Hp → Prop}
/-- what a call hands back is kept as it is -/
theorem FC.freeze (h : FC c D f args kw σ fun v σ' => ∃ i o v', v = .ref i ∧ σ'[i]? = some o ∧ Fz o v' ∧ Q v' (σ'.set i .dead)) : FC c D f args kw σ Q := by
  intro A g ρ z s R wf ws kws ok P r1 r2 r3 q
  refine h A g ρ z s R wf ws kws ok P r1 r2 r3 fun v w σ' ρ' z' s' hq P' G' r' => ?_
  obtain ⟨i, o, v', rfl, hi, hz, hq⟩ := hq
  cases r' with
  | ref hr =>
    obtain ⟨z'', P2, G2, r2⟩ := P'.freeze hi hz hr
    exact q _ _ _ _ _ _ hq P2 (G'.trans G2) r2
theorem EV.freeze {t : Sem Value} (h : EV c env D t l σ fun v σ' => ∃ i o v', v = .ref i ∧ σ'[i]? = some o ∧ Fz o v' ∧ Q v' (σ'.set i .dead)) : EV c env D t l σ Q := by
  intro A g ρ z s Q' E' ok R q
  refine h A g ρ z s Q' E' ok R fun v w σ' ρ' z' s' hq R' G' r' => ?_
  obtain ⟨i, o, v', rfl, hi, hz, hq⟩ := hq
  cases r' with
  | ref hr =>
    obtain ⟨z'', P2, G2, r2⟩ := R'.toRp.freeze hi hz hr
    exact q _ _ _ _ _ _ hq (R'.mk' P2 G2.toExt fun _ h => h) (G'.trans G2) r2

/-- a class is called: the instance, then its __init__ -/
theorem fc_class {C fI : Addr} (hm : makesIn c.K C = true) (hi : findIn c.K (.ref C) "__init__" = some (some (.ref fI))) (hf : typeIn c.K (.ref fI) = some (.type "function"))
    (h : FC c D (.val (.ref fI)) (.ref σ.length :: args) kw (σ ++ [.inst C []]) fun v σ' => v = .none ∧ Q (.ref σ.length) σ') : FC c (D + 1) (.val (.ref C)) args kw σ Q := by
  intro A g ρ z s R wf ws kws ok P r1 r2 r3 q
  cases r1
  have X := P.base.X.keeps P.keep
  obtain ⟨led0, a0, _⟩ := P.own
  have hlen : σ.length = ρ.length := a0.length
  obtain ⟨hh, gg, dd, tt, os⟩ := s
  have k : ∀ b o, hh.get? b = some o → ((hh.push emptyDict).push (instObj C hh.objs.size)).get? b = some o := fun b o e => Heap.get?_push_of_some _ (Heap.get?_push_of_some _ e)
  have g1 : (hh.push emptyDict).get? hh.objs.size = some emptyDict := Heap.get?_push_size _ rfl
  have g2 : ((hh.push emptyDict).push (instObj C hh.objs.size)).get? (hh.objs.size + 1) = some (instObj C hh.objs.size) := by
    have := Heap.get?_push_size (hh.push emptyDict) (o := instObj C hh.objs.size) rfl
    rwa [Heap.size_push] at this
  have P1 : Rp c g [] (ρ ++ [hh.objs.size + 1]) z (σ ++ [.inst C []]) ⟨(hh.push emptyDict).push (instObj C hh.objs.size), gg, dd, tt, os⟩ :=
    P.new (s' := ⟨(hh.push emptyDict).push (instObj C hh.objs.size), gg, dd, tt, os⟩) k (.inst (dx := hh.objs.size) (sl := #[]) (n := 0) .nil) (by simp) (fun q hq => by
      rcases List.mem_cons.mp hq with rfl | hq
      · exact ⟨g2, fresh_at (Nat.le_succ _)⟩
      · cases List.mem_singleton.mp hq
        exact ⟨Heap.get?_push_of_some _ g1, fresh_at (Nat.le_refl _)⟩)
  have G1 : Go g ρ z ⟨hh, gg, dd, tt, os⟩ (ρ ++ [hh.objs.size + 1]) z ⟨(hh.push emptyDict).push (instObj C hh.objs.size), gg, dd, tt, os⟩ := ⟨Ext.push .., fun b o e => ⟨o, k b o e⟩, fun _ h => .inl h⟩
  refine make_core (makes_of X hm) (looks_findIn X hi) (fun self => bind_fn X self hf) (.inl rfl) ?_
  have ok' : Ok (A.under (.builtin "type.__call__" ⟨.ref C :: ws, (kw.map (·.1)).zip kws⟩)) D := ⟨ok.h, by have := ok.d; show A.depth + 1 + 3 * D + 3 < _; omega, by have := ok.u; show A.units + 1 + 20 * D + 20 < _; omega⟩
  refine h _ g (ρ ++ [hh.objs.size + 1]) z _ _ (.ref fI) (.ref (hh.objs.size + 1) :: ws) kws ok' P1 (.val _) (.cons (.ref ?_) (r2.mono G1.toExt)) (r3.mono G1.toExt) fun v w σ' ρ' z' s' hq P' G' r' => ?_
  · rw [hlen]; simp
  · obtain ⟨rfl, hq⟩ := hq
    cases r'
    refine ⟨rfl, q _ _ _ _ _ _ hq P' (G1.trans G') (.ref (G'.r _ _ ?_))⟩
    rw [hlen]; simp

/-- a property is read -/
theorem ev1_prop {i : Nat} {C p fget : Addr} {fs : List (Nat × V)} {name : Nat} {rest : List Value} (hi : σ[i]? = some (.inst C fs)) (k : ClsR c C (nm name)) (ha : findIn c.K (.ref C) (nm name) = some (some (.ref p)))
    (hn : specialIn c.K (.ref p) "__get__" = some (some (.builtin "property.__get__"))) (ht : takesIn c.K (.ref p) = some true) (hp : recIn c.K p "property" = some (.ref fget :: rest))
    (h : FC c D (.val (.ref fget)) [.ref i] [] σ fun v σ' => v.handed = true ∧ Q v σ') : EV1 c env (D + 1) (.ref i) (fun a => getAttr a (nm name) true) l σ Q := by
  intro A g' ρ z s Q' E' w ok R r q
  have r0 := r
  cases r with
  | ref hr =>
    rename_i x
    obtain ⟨x', pc, h1, h2, h3⟩ := R.toRp.at hi
    rw [hr] at h1; cases h1
    obtain ⟨dx, sl, es, n, rfl, hE⟩ := h2.inst_inv
    have X := R.base.X.keeps R.keep
    have I : InstAt s.heap x ⟨.ref C, some dx, .plain, sl⟩ C (some (dictOf es n)) := ⟨(h3 _ (.head _)).1, rfl, rfl, (h3 _ (.tail _ (.head _))).1⟩
    refine get_bind X I (plainGet_of k.get).1 (findObj_data (by obtain ⟨cd, hc, _⟩ := any_some k.dict; rw [hc]; rfl) ha hn ht) (plainGet_of k.get).2 (wpAny_call (prop_get (s := { s with toks := s.toks + 1 }) X hp ?_))
    have R1 := R.toks (s.toks + 1)
    obtain ⟨g1, P, back⟩ := R1.out
    have ok' : Ok A.in1 D := ⟨ok.h, by have := ok.d; show A.depth + 3 * D + 3 < _; omega, by have := ok.u; show A.units + 1 + 20 * D + 20 < _; omega⟩
    refine h A.in1 g1 ρ z _ _ (.ref fget) [.ref x] [] ok' P (.val _) (.cons r0 .nil) .nil fun v w σ' ρ' z' s' hq P' G' r' => ?_
    obtain ⟨RB, GB⟩ := back _ _ _ _ P' G'
    exact handed_on (V.handed_is hq.1 r') (q _ _ _ _ _ _ hq.2 RB ((Go.toks ..).trans GB) r')
/-- a property is stored -/
theorem eu_prop {i : Nat} {C p fset : Addr} {fs : List (Nat × V)} {name : Nat} {a : Value} {v u : V} {rest : List Value} {Q : Hp → Prop} (hi : σ[i]? = some (.inst C fs)) (k : ClsW c C) (ht : takerIn c.K C (nm name) = some (some (.ref p)))
    (hT : typeIn c.K (.ref p) = some (.type "property")) (hp : recIn c.K p "property" = some (a :: .ref fset :: rest))
    (h : FC c D (.val (.ref fset)) [.ref i, v] [] σ fun _ σ' => Q σ') : EU3 c env (D + 1) (.ref i) v u (fun a b _ => setAttr a (nm name) b) l σ Q := by
  intro A g' ρ z s Q' E' w₁ w₂ w₃ ok R r r₂ r₃ q
  have r0 := r
  cases r with
  | ref hr =>
    rename_i x
    obtain ⟨x', pc, h1, h2, h3⟩ := R.toRp.at hi
    rw [hr] at h1; cases h1
    obtain ⟨dx, sl, es, n, rfl, hE⟩ := h2.inst_inv
    have X := R.base.X.keeps R.keep
    have I : InstAt s.heap x ⟨.ref C, some dx, .plain, sl⟩ C (some (dictOf es n)) := ⟨(h3 _ (.head _)).1, rfl, rfl, (h3 _ (.tail _ (.head _))).1⟩
    refine set_plain X I k.set (osa_descr (s := { s with toks := s.toks + 1 }) KF.slot_pset X I k.over ht hT (prop_set (s := { s with toks := s.toks + 1 }) X hp ?_))
    have R1 := R.toks (s.toks + 1)
    obtain ⟨g1, P, back⟩ := R1.out
    have ok' : Ok A.in1.in1 D := ⟨ok.h, by have := ok.d; show A.depth + 3 * D + 3 < _; omega, by have := ok.u; show A.units + 1 + 1 + 20 * D + 20 < _; omega⟩
    refine h A.in1.in1 g1 ρ z _ _ (.ref fset) [.ref x, w₂] [] ok' P (.val _) (.cons r0 (.cons r₂ .nil)) .nil fun v w σ' ρ' z' s' hq P' G' r' => ?_
    obtain ⟨RB, GB⟩ := back _ _ _ _ P' G'
    exact q _ _ _ _ hq RB ((Go.toks ..).trans GB)
end
end
section
open PySem PySem.W PyProof.Rows PySem.Calls

/-- the frame's own list of addresses grows by an object that is nobody's -/
theorem Rp.addX' {c g X ρ z σ} {s s' : Shared} (R : Rp c g X ρ z σ s) (k : ∀ b o, s.heap.get? b = some o → s'.heap.get? b = some o) {L : Addr} (hL : s.heap.get? L = none) (hL' : ∃ o, s'.heap.get? L = some o)
    (h1 : s'.os = s.os := by rfl) (h2 : s'.drawn = s.drawn := by rfl) (h3 : s'.gens = s.gens := by rfl) : Rp c g (L :: X) ρ z σ s' := by
  have J := R.grow k h1 h2 h3
  obtain ⟨led, a, b, d⟩ := R.own
  refine ⟨R.base, J.keep, ⟨led, a, b, fun p hp => ⟨k _ _ (d p hp).1, (d p hp).2.1, fun h => ?_, (d p hp).2.2.2⟩⟩, fun q hq => ⟨(J.frz q hq).1, fun h => ?_⟩, fun x hx => ?_, J.tabs, J.os, J.dr, J.gens, J.kz⟩
  · rcases List.mem_cons.mp h with h | h
    · exact fresh_ne (d p hp).1 hL h
    · exact (d p hp).2.2.1 h
  · rcases List.mem_cons.mp h with h | h
    · exact fresh_ne (R.frz q hq).1 hL h
    · exact (R.frz q hq).2 h
  · rcases List.mem_cons.mp hx with rfl | h
    · exact ⟨fresh_base R.keep hL, hL'⟩
    · exact J.off x h
/-- one object that is nobody's has changed -/
theorem Rp.atX' {c g X ρ z σ} {s s' : Shared} (R : Rp c g X ρ z σ s) {a : Addr} (ha : a ∈ X) (hk : a ∉ c.tk) (hs : ∀ b o, b ≠ a → s.heap.get? b = some o → s'.heap.get? b = some o) (he : ∃ o, s'.heap.get? a = some o)
    (h1 : s'.os = s.os := by rfl) (h2 : s'.drawn = s.drawn := by rfl) (h3 : s'.gens = s.gens := by rfl) : Rp c g X ρ z σ s' := by
  obtain ⟨led, a', b, d⟩ := R.own
  have hX : a ∈ X ++ c.tk := List.mem_append_left _ ha
  have ag := (R.off a hX).1
  refine ⟨R.base, fun x o e => hs x o (fun q => ?_) (R.keep x o e), ⟨led, a', b, fun p hp => ⟨hs p.1 _ (fun q => (d p hp).2.2.1 (by rw [q]; exact hX)) (d p hp).1, (d p hp).2⟩⟩,
    fun q hq => ⟨hs q.1 _ (fun e => (R.frz q hq).2 (by rw [e]; exact hX)) (R.frz q hq).1, (R.frz q hq).2⟩, fun x hx => ⟨(R.off x hx).1, ?_⟩, fun t ht => ?_, h1 ▸ R.os, h2 ▸ R.dr, h3 ▸ R.gens, R.kz⟩
  · rw [q, ag] at e; cases e
  · by_cases q : x = a
    · rw [q]; exact he
    · obtain ⟨o, e⟩ := (R.off x hx).2
      exact ⟨o, hs x o q e⟩
  · obtain ⟨ps, i1⟩ := R.tabs t ht
    have ht2 : t.2 ≠ a := fun q => hk (q ▸ List.mem_map_of_mem ht)
    have e1 : t.1 ≠ a := fun q => by
      obtain ⟨ob, eb⟩ := R.base.codes t ht
      rw [q, ag] at eb; cases eb
    have hx : Heap.ExtBut a s.heap s'.heap := fun b o hb e => hs b o hb e
    exact ⟨ps, i1.1.extBut hx e1 ht2, i1.2.extBut hx e1 ht2⟩

/-- an object of nobody's has changed, and is left alone from here on -/
theorem Rp.offI {c g X ρ z σ} {s s' : Shared} {I : Addr} (R : Rp c g (I :: X) ρ z σ s) (hI : I ∉ X ++ c.tk) (hs : ∀ b o, b ≠ I → s.heap.get? b = some o → s'.heap.get? b = some o)
    (h1 : s'.os = s.os := by rfl) (h2 : s'.drawn = s.drawn := by rfl) (h3 : s'.gens = s.gens := by rfl) : Rp c g X ρ z σ s' := by
  obtain ⟨led, a', b, d⟩ := R.own
  have ag := (R.off I (by simp)).1
  refine ⟨R.base, fun x o e => hs x o (fun q => ?_) (R.keep x o e), ⟨led, a', b, fun p hp => ⟨hs p.1 _ (fun q => (d p hp).2.2.1 (by rw [q]; simp)) (d p hp).1, (d p hp).2.1, fun h => (d p hp).2.2.1 (by simp at h ⊢; rcases h with h | h <;> simp [h]), (d p hp).2.2.2⟩⟩,
    fun q hq => ⟨hs q.1 _ (fun e => (R.frz q hq).2 (by rw [e]; simp)) (R.frz q hq).1, fun h => (R.frz q hq).2 (by simp at h ⊢; rcases h with h | h <;> simp [h])⟩, fun x hx => ?_, fun t ht => ?_, h1 ▸ R.os, h2 ▸ R.dr, h3 ▸ R.gens, R.kz⟩
  · rw [q, ag] at e; cases e
  · have hx' := R.off x (by simp at hx ⊢; rcases hx with h | h <;> simp [h])
    obtain ⟨o, e⟩ := hx'.2
    exact ⟨hx'.1, o, hs x o (fun q => hI (q ▸ hx)) e⟩
  · obtain ⟨ps, i1⟩ := R.tabs t ht
    have ht2 : t.2 ≠ I := fun q => hI (List.mem_append_right _ (q ▸ List.mem_map_of_mem ht))
    have e1 : t.1 ≠ I := fun q => by
      obtain ⟨ob, eb⟩ := R.base.codes t ht
      rw [q, ag] at eb; cases eb
    have hx : Heap.ExtBut I s.heap s'.heap := fun b o hb e => hs b o hb e
    exact ⟨ps, i1.1.extBut hx e1 ht2, i1.2.extBut hx e1 ht2⟩

/-- some of the frame's own addresses are left alone within -/
theorem Rp.inner {c : Cx} {g Xi Xo ρ z σ} {s : Shared} (P : Rp c g (Xi ++ Xo) ρ z σ s) (ho : ∀ x ∈ Xo, x ∉ Xi ∧ x ∉ c.tk) :
    ∃ g1, Rp c g1 Xi ρ z σ s ∧ ∀ ρ' z' σ' s', Rp c g1 Xi ρ' z' σ' s' → Go g1 ρ z s ρ' z' s' → Rp c g (Xi ++ Xo) ρ' z' σ' s' ∧ Go g ρ z s ρ' z' s' ∧ ∀ x ∈ Xo, ∀ o, s.heap.get? x = some o → s'.heap.get? x = some o := by
  obtain ⟨led, a, b, d⟩ := P.own
  let hid := Xi ++ c.tk ++ led.map (·.1)
  have gh : ∀ x, x ∈ hid → g.get? x = none := fun x hx => by
    rcases List.mem_append.mp hx with q | q
    · exact (P.off x (by simp only [List.mem_append] at q ⊢; rcases q with q | q <;> simp [q])).1
    · obtain ⟨p, hp, rfl⟩ := List.mem_map.mp q
      exact (d p hp).2.1
  have up : ∀ x o, g.get? x = some o → (hideAll s.heap hid).get? x = some o := fun x o e => hideAll_get _ (P.keep x o e) fun q => by rw [gh x q] at e; cases e
  have nO : ∀ x ∈ Xo, x ∉ hid := fun x hx q => by
    rcases List.mem_append.mp q with q | q
    · rcases List.mem_append.mp q with q | q
      · exact (ho x hx).1 q
      · exact (ho x hx).2 q
    · obtain ⟨p, hp, e⟩ := List.mem_map.mp q
      exact (d p hp).2.2.1 (by rw [e]; simp [hx])
  have down : ∀ x, (hideAll s.heap hid).get? x = none → g.get? x = none := fun x e => by
    cases q : g.get? x with
    | none => rfl
    | some o => rw [up x o q] at e; cases e
  have hm : ∀ x, x ∈ hid → (hideAll s.heap hid).get? x = none := fun x hx => hideAll_none _ hx
  refine ⟨hideAll s.heap hid, ⟨P.base.keeps up, fun x o e => of_hideAll _ e, ⟨led, a, b, fun p hp => ⟨(d p hp).1, hm _ (List.mem_append_right _ (List.mem_map_of_mem hp)), fun q => (d p hp).2.2.1 (by simp only [List.mem_append] at q ⊢; rcases q with q | q <;> simp [q]), (d p hp).2.2.2⟩⟩,
    fun q hq => ⟨(P.frz q hq).1, fun h => (P.frz q hq).2 (by simp only [List.mem_append] at h ⊢; rcases h with h | h <;> simp [h])⟩, fun x hx => ⟨hm _ (List.mem_append_left _ hx), (P.off x (by simp only [List.mem_append] at hx ⊢; rcases hx with h | h <;> simp [h])).2⟩, P.tabs, P.os, P.dr, P.gens, P.kz⟩, ?_⟩
  intro ρ' z' σ' s' R' G
  have kO : ∀ x ∈ Xo, ∀ o, s.heap.get? x = some o → s'.heap.get? x = some o := fun x hx o e => R'.keep x o (hideAll_get _ e (nO x hx))
  have gO : ∀ x ∈ Xo, ∃ o, (hideAll s.heap hid).get? x = some o ∧ s.heap.get? x = some o := fun x hx => by
    obtain ⟨o, e⟩ := (P.off x (by simp [hx])).2
    exact ⟨o, hideAll_get _ e (nO x hx), e⟩
  obtain ⟨led', a', b', d'⟩ := R'.own
  have sp : ∀ x, x ∈ (Xi ++ Xo) ++ c.tk → x ∈ Xo ∨ x ∈ Xi ++ c.tk := fun x h => by
    simp only [List.mem_append] at h ⊢
    rcases h with (h | h) | h
    · exact .inr (.inl h)
    · exact .inl h
    · exact .inr (.inr h)
  refine ⟨⟨P.base, fun x o e => R'.keep x o (up x o e), ⟨led', a', b', fun p hp => ⟨(d' p hp).1, down _ (d' p hp).2.1, fun q => ?_, (d' p hp).2.2.2⟩⟩, fun q hq => ⟨(R'.frz q hq).1, fun h => ?_⟩, fun x hx => ?_, R'.tabs, R'.os, R'.dr, R'.gens, R'.kz⟩, G.less up, kO⟩
  · rcases sp _ q with q | q
    · obtain ⟨o, e, _⟩ := gO _ q
      rw [(d' p hp).2.1] at e; cases e
    · exact (d' p hp).2.2.1 q
  · rcases sp _ h with h | h
    · rcases G.fr q hq with hz | hz
      · exact (P.frz q hz).2 (by simp only [List.mem_append]; exact .inl (.inr h))
      · obtain ⟨o, e, _⟩ := gO _ h
        rw [hz] at e; cases e
    · exact (R'.frz q hq).2 h
  · rcases sp _ hx with h | h
    · obtain ⟨o, e, e'⟩ := gO _ h
      exact ⟨(P.off x hx).1, o, kO x h o e'⟩
    · exact ⟨down _ (R'.off x h).1, (R'.off x h).2⟩
/-- an object of the frame's own becomes a fact that stays -/
theorem Rp.frozeX {c g X ρ z σ} {s : Shared} {a : Addr} {o : Obj} (R : Rp c g (a :: X) ρ z σ s) (ha : a ∉ X ++ c.tk) (e : s.heap.get? a = some o) : Rp c g X ρ ((a, o) :: z) σ s ∧ Go g ρ z s ρ ((a, o) :: z) s := by
  obtain ⟨led, a', b, d⟩ := R.own
  have sub : ∀ x, x ∈ X ++ c.tk → x ∈ (a :: X) ++ c.tk := fun x h => by simp only [List.mem_append, List.mem_cons] at h ⊢; rcases h with h | h <;> simp [h]
  refine ⟨⟨R.base, R.keep, ⟨led, a'.mono (Ext.cons ..), b, fun p hp => ⟨(d p hp).1, (d p hp).2.1, fun h => (d p hp).2.2.1 (sub _ h), fun q hq => ?_⟩⟩, fun q hq => ?_, fun x hx => R.off x (sub x hx), R.tabs, R.os, R.dr, R.gens, fun p hp => .tail _ (R.kz p hp)⟩, Ext.cons .., fun x o e => ⟨o, e⟩, fun q hq => ?_⟩
  · rcases List.mem_cons.mp hq with rfl | h
    · intro e'; exact (d p hp).2.2.1 (by rw [← e']; simp)
    · exact (d p hp).2.2.2 q h
  · rcases List.mem_cons.mp hq with rfl | h
    · exact ⟨e, ha⟩
    · exact ⟨(R.frz q h).1, fun h' => (R.frz q h).2 (sub _ h')⟩
  · rcases List.mem_cons.mp hq with rfl | h
    · exact .inr (R.off a (by simp)).1
    · exact .inl h
theorem Rp.drop {c g X ρ z σ} {s : Shared} {a : Addr} (R : Rp c g (a :: X) ρ z σ s) : Rp c g X ρ z σ s := by
  obtain ⟨led, a', b, d⟩ := R.own
  have sub : ∀ x, x ∈ X ++ c.tk → x ∈ (a :: X) ++ c.tk := fun x h => by simp only [List.mem_append, List.mem_cons] at h ⊢; rcases h with h | h <;> simp [h]
  exact ⟨R.base, R.keep, ⟨led, a', b, fun p hp => ⟨(d p hp).1, (d p hp).2.1, fun h => (d p hp).2.2.1 (sub _ h), (d p hp).2.2.2⟩⟩, fun q hq => ⟨(R.frz q hq).1, fun h' => (R.frz q hq).2 (sub _ h')⟩, fun x hx => R.off x (sub x hx), R.tabs, R.os, R.dr, R.gens, R.kz⟩

theorem Rp.perm {c g X Y ρ z σ} {s : Shared} (R : Rp c g X ρ z σ s) (h : ∀ x, x ∈ Y → x ∈ X) : Rp c g Y ρ z σ s := by
  obtain ⟨led, a', b, d⟩ := R.own
  have sub : ∀ x, x ∈ Y ++ c.tk → x ∈ X ++ c.tk := fun x hx => (List.mem_append.mp hx).elim (fun k => List.mem_append_left _ (h x k)) (List.mem_append_right _)
  exact ⟨R.base, R.keep, ⟨led, a', b, fun p hp => ⟨(d p hp).1, (d p hp).2.1, fun h => (d p hp).2.2.1 (sub _ h), (d p hp).2.2.2⟩⟩, fun q hq => ⟨(R.frz q hq).1, fun h' => (R.frz q hq).2 (sub _ h')⟩, fun x hx => R.off x (sub x hx), R.tabs, R.os, R.dr, R.gens, R.kz⟩


theorem Rp.addXs {c g X ρ z σ} {s s' : Shared} (R : Rp c g X ρ z σ s) {Xs : List Addr} (k : ∀ b o, s.heap.get? b = some o → s'.heap.get? b = some o) (hf : ∀ x ∈ Xs, s.heap.get? x = none) (he : ∀ x ∈ Xs, ∃ o, s'.heap.get? x = some o)
    (h1 : s'.os = s.os := by rfl) (h2 : s'.drawn = s.drawn := by rfl) (h3 : s'.gens = s.gens := by rfl) : Rp c g (Xs ++ X) ρ z σ s' := by
  induction Xs with
  | nil => exact R.grow k h1 h2 h3
  | cons x Xs ih =>
    have J := ih (fun y hy => hf y (.tail _ hy)) (fun y hy => he y (.tail _ hy))
    obtain ⟨led, a, b, d⟩ := J.own
    obtain ⟨led0, a0, b0, d0⟩ := R.own
    by_cases hx : x ∈ Xs
    · exact J.perm fun y hy => by
        rcases List.mem_cons.mp hy with rfl | h
        · exact List.mem_append_left _ hx
        · exact h
    · have hxn := hf x (.head _)
      have he' := he x (.head _)
      refine ⟨R.base, J.keep, ⟨led0, a0, b0, fun p hp => ⟨k _ _ (d0 p hp).1, (d0 p hp).2.1, fun h => ?_, (d0 p hp).2.2.2⟩⟩, fun q hq => ⟨(J.frz q hq).1, fun h => ?_⟩, fun y hy => ?_, J.tabs, J.os, J.dr, J.gens, J.kz⟩
      · have h' : p.1 = x ∨ p.1 ∈ Xs ∨ p.1 ∈ X ++ c.tk := by simpa [or_assoc] using h
        rcases h' with h | h | h
        · exact fresh_ne (d0 p hp).1 hxn h
        · exact fresh_ne (d0 p hp).1 (hf _ (.tail _ h)) rfl
        · exact (d0 p hp).2.2.1 h
      · rcases List.mem_cons.mp h with h | h
        · exact fresh_ne (R.frz q hq).1 hxn h
        · exact (J.frz q hq).2 h
      · rcases List.mem_cons.mp hy with rfl | h
        · exact ⟨fresh_base R.keep hxn, he'⟩
        · exact J.off y h
theorem Rp.atXs {c g X ρ z σ} {s s' : Shared} (R : Rp c g X ρ z σ s) {Xs : List Addr} (hX : ∀ x ∈ Xs, x ∈ X ∧ x ∉ c.tk) (hs : ∀ b o, b ∉ Xs → s.heap.get? b = some o → s'.heap.get? b = some o) (he : ∀ x ∈ Xs, ∃ o, s'.heap.get? x = some o)
    (h1 : s'.os = s.os := by rfl) (h2 : s'.drawn = s.drawn := by rfl) (h3 : s'.gens = s.gens := by rfl) : Rp c g X ρ z σ s' := by
  obtain ⟨led, a', b, d⟩ := R.own
  have hXX : ∀ x ∈ Xs, x ∈ X ++ c.tk := fun x hx => List.mem_append_left _ (hX x hx).1
  refine ⟨R.base, fun x o e => hs x o (fun q => ?_) (R.keep x o e), ⟨led, a', b, fun p hp => ⟨hs p.1 _ (fun q => (d p hp).2.2.1 (hXX _ q)) (d p hp).1, (d p hp).2⟩⟩,
    fun q hq => ⟨hs q.1 _ (fun e => (R.frz q hq).2 (hXX _ e)) (R.frz q hq).1, (R.frz q hq).2⟩, fun x hx => ⟨(R.off x hx).1, ?_⟩, fun t ht => ?_, h1 ▸ R.os, h2 ▸ R.dr, h3 ▸ R.gens, R.kz⟩
  · rw [(R.off x (hXX x q)).1] at e; cases e
  · by_cases q : x ∈ Xs
    · exact he x q
    · obtain ⟨o, e⟩ := (R.off x hx).2
      exact ⟨o, hs x o q e⟩
  · obtain ⟨ps, i1⟩ := R.tabs t ht
    obtain ⟨o1, e1⟩ := R.base.codes t ht
    have n1 : t.1 ∉ Xs := fun q => by rw [(R.off _ (hXX _ q)).1] at e1; cases e1
    have n2 : t.2 ∉ Xs := fun q => (hX _ q).2 (List.mem_map_of_mem ht)
    refine ⟨ps, ?_⟩
    refine ⟨?_, ?_⟩
    · let ⟨o, vs, file, tf, flags, tg, inF, text, tt, op, a, r1, r2, r3, r4, r5, r6, b, r⟩ := i1.1
      exact ⟨o, vs, file, tf, flags, tg, inF, text, tt, op, hs _ _ n1 a, r1, r2, r3, r4, r5, r6, hs _ _ n2 b, r⟩
    · let ⟨⟨o, vs, e, r⟩, tb⟩ := i1.2
      exact ⟨⟨o, vs, hs _ _ n1 e, r⟩, hs _ _ n2 tb⟩

theorem Rp.offXs {c g X ρ z σ} {s s' : Shared} {Xs : List Addr} (R : Rp c g (Xs ++ X) ρ z σ s) (hX : ∀ x ∈ Xs, x ∉ X ++ c.tk) (hs : ∀ b o, b ∉ Xs → s.heap.get? b = some o → s'.heap.get? b = some o)
    (h1 : s'.os = s.os := by rfl) (h2 : s'.drawn = s.drawn := by rfl) (h3 : s'.gens = s.gens := by rfl) : Rp c g X ρ z σ s' := by
  obtain ⟨led, a', b, d⟩ := R.own
  have inX : ∀ x ∈ Xs, x ∈ (Xs ++ X) ++ c.tk := fun x hx => by simp [hx]
  have sub : ∀ x, x ∈ X ++ c.tk → x ∈ (Xs ++ X) ++ c.tk := fun x hx => by simp only [List.mem_append] at hx ⊢; rcases hx with h | h <;> simp [h]
  refine ⟨R.base, fun x o e => hs x o (fun q => ?_) (R.keep x o e), ⟨led, a', b, fun p hp => ⟨hs p.1 _ (fun q => (d p hp).2.2.1 (inX _ q)) (d p hp).1, (d p hp).2.1, fun h => (d p hp).2.2.1 (sub _ h), (d p hp).2.2.2⟩⟩,
    fun q hq => ⟨hs q.1 _ (fun e => (R.frz q hq).2 (inX _ e)) (R.frz q hq).1, fun h => (R.frz q hq).2 (sub _ h)⟩, fun x hx => ⟨(R.off x (sub x hx)).1, ?_⟩, fun t ht => ?_, h1 ▸ R.os, h2 ▸ R.dr, h3 ▸ R.gens, R.kz⟩
  · rw [(R.off x (inX x q)).1] at e; cases e
  · obtain ⟨o, e⟩ := (R.off x (sub x hx)).2
    exact ⟨o, hs x o (fun q => hX x q hx) e⟩
  · obtain ⟨ps, i1⟩ := R.tabs t ht
    obtain ⟨o1, e1⟩ := R.base.codes t ht
    have n1 : t.1 ∉ Xs := fun q => by rw [(R.off _ (inX _ q)).1] at e1; cases e1
    have n2 : t.2 ∉ Xs := fun q => hX _ q (List.mem_append_right _ (List.mem_map_of_mem ht))
    refine ⟨ps, ?_⟩
    refine ⟨?_, ?_⟩
    · let ⟨o, vs, file, tf, flags, tg, inF, text, tt, op, a, r1, r2, r3, r4, r5, r6, b, r⟩ := i1.1
      exact ⟨o, vs, file, tf, flags, tg, inF, text, tt, op, hs _ _ n1 a, r1, r2, r3, r4, r5, r6, hs _ _ n2 b, r⟩
    · let ⟨⟨o, vs, e, r⟩, tb⟩ := i1.2
      exact ⟨⟨o, vs, hs _ _ n1 e, r⟩, hs _ _ n2 tb⟩

/-- a walk: the iterator I, the objects Xs that it needs, and the values it gives -/
structure Wk (c : Cx) (A : Around) (Xs : List Addr) (I : Addr) (vs : List V) (Sg : Hp → Prop) (St : Nat → List Addr → Led → Heap → Prop) : Prop where
  item : ∀ (i : Nat) (v : V) (g : Heap) (X ρ : List Addr) (z : Led) (σ : Hp) (s : Shared) (Q' : Option Value → Shared → Prop) (E' : Value → Shared → Prop), vs[i]? = some v → Rp c g X ρ z σ s → (∀ x ∈ Xs, x ∈ X ∧ x ∉ c.tk) → Sg σ → St i ρ z s.heap →
    (∀ w ρ' z' s', Rp c g X ρ' z' σ s' → Go g ρ z s ρ' z' s' → (∀ b o, b ∉ Xs → s.heap.get? b = some o → s'.heap.get? b = some o) → VR z' ρ' v w → St (i + 1) ρ' z' s'.heap →
      (∀ (t : Expr) (Q₁ : Unit → Shared → Prop) (E₁ : Value → Shared → Prop), (∀ s'', Rp c g X ρ' z' σ s'' → Go g ρ' z' s' ρ' z' s'' → (∀ b o, b ∉ Xs → s'.heap.get? b = some o → s''.heap.get? b = some o) → St (i + 1) ρ' z' s''.heap → Q₁ () s'') → wpAny c.M A (letOwnedTupleGo t (.ref I) w) Q₁ E₁ s') →
      Q' (some w) s') → wpAny c.M A (pyNext (.ref I)) Q' E' s
  done : ∀ (g : Heap) (X ρ : List Addr) (z : Led) (σ : Hp) (s : Shared) (Q' : Option Value → Shared → Prop) (E' : Value → Shared → Prop), Rp c g X ρ z σ s → (∀ x ∈ Xs, x ∈ X ∧ x ∉ c.tk) → Sg σ → St vs.length ρ z s.heap →
    (∀ s', (∀ b o, b ∉ Xs → s.heap.get? b = some o → s'.heap.get? b = some o) → s'.os = s.os → s'.drawn = s.drawn → s'.gens = s.gens → Q' none s') → wpAny c.M A (pyNext (.ref I)) Q' E' s
  keep : ∀ i ρ z ρ' z' h h', St i ρ z h → Ext ρ z ρ' z' → (∀ x ∈ Xs, ∀ o, h.get? x = some o → h'.get? x = some o) → (∀ p ∈ z, h.get? p.1 = some p.2) → (∀ p ∈ z, h'.get? p.1 = some p.2) → St i ρ' z' h'
  self : ∀ i ρ z (s : Shared) (Q' E' : Value → Shared → Prop), St i ρ z s.heap → Q' (.ref I) s → wpAny c.M A (pyIter (.ref I)) Q' E' s
  mem : I ∈ Xs
  sole : ∀ i ρ z h, St i ρ z h → ∀ x ∈ Xs, ∃ o, h.get? x = some o

/-- what a loop may walk over, and the values it gives -/
def Iterable (c : Cx) (v : V) (vs : List V) (Sg : Hp → Prop) : Prop :=
  ∀ (A : Around) (g : Heap) (X : List Addr) (ρ : List Addr) (z : Led) (σ : Hp) (s : Shared) (Q' E' : Value → Shared → Prop) (w : Value), A.handled = none → Rp c g X ρ z σ s → Sg σ → VR z ρ v w →
    (∀ I Xs St s', Wk c A Xs I vs Sg St → Rp c g (Xs ++ X) ρ z σ s' → (∀ b o, s.heap.get? b = some o → s'.heap.get? b = some o) → (∀ x ∈ Xs, s.heap.get? x = none) → St 0 ρ z s'.heap → s'.os = s.os → s'.drawn = s.drawn → s'.gens = s.gens → Q' (.ref I) s') → wpAny c.M A (pyIter w) Q' E' s

theorem lg_plain {M : Model} {A : Around} {s : Shared} {t : Expr} {I : Addr} {o : Obj} {n : String} {w : Value} {Q : Unit → Shared → Prop} {E : Value → Shared → Prop} (e : s.heap.get? I = some o) (hc : o.cls = .type n)
    (hn : ["enumerate", "zip", "dict_itemiterator", "dict_reverseitemiterator", "odict_iterator", "itertools.zip_longest", "itertools.pairwise"].contains n = false) (h : Q () s) : wpAny M A (letOwnedTupleGo t (.ref I) w) Q E s := by
  obtain ⟨oc, od, oda, os⟩ := o
  simp only at hc
  subst hc
  have main : wpAny M A (match (Value.ref I, w) with
    | (.ref r, .ref a) => (do
      let o ← load r
      match o.cls, o.data with
      | .type n, .fields vs =>
        if (["enumerate", "zip", "dict_itemiterator", "dict_reverseitemiterator", "odict_iterator", "itertools.zip_longest", "itertools.pairwise"].contains n && vs[0]? == some (rawInt a)) = true then do
          rule "for.unpacks-the-owned-tuple"
          updateField r 0 .none
        else pure ()
      | _, _ => pure ())
    | _ => pure ()) Q E s := by
    cases w <;> first | exact wpAny_pure h | skip
    refine wpAny_bind (wpAny_load e ?_)
    cases oda <;> first | exact wpAny_pure h | skip
    show wpAny M A (if _ then _ else _) Q E s
    rw [hn, Bool.false_and]
    exact wpAny_pure h
  cases t <;> first | exact wpAny_pure h | exact main

/-- a walk of the library's, over an iterator that stands alone and objects that stay as they are -/
theorem wk_of {c : Cx} {A : Around} {I : Addr} {fp : List Addr} {P : Nat → Value → Prop} {S₀ : Nat → Heap → Prop} {vs : List V} {z₀ : Led} {ρ₀ : List Addr} {n : String} (W : Walks c.prog c.w A I fp [I] vs.length P S₀) (hfp : ∀ b ∈ fp, b = I ∨ ∃ o, (b, o) ∈ z₀)
    (hP : ∀ i w, P i w → ∃ v, vs[i]? = some v ∧ VR z₀ ρ₀ v w) (hS : ∀ i h, S₀ i h → ∃ o, h.get? I = some o ∧ o.cls = .type n)
    (hn : ["enumerate", "zip", "dict_itemiterator", "dict_reverseitemiterator", "odict_iterator", "itertools.zip_longest", "itertools.pairwise"].contains n = false) : Wk c A [I] I vs (fun _ => True) (fun i ρ z h => S₀ i h ∧ Ext ρ₀ z₀ ρ z) where
  mem := .head _
  self := fun i ρ z s Q' E' st hq => W.self i s Q' E' st.1 hq
  sole := fun i ρ z h st x hx => by
    cases List.mem_singleton.mp hx
    obtain ⟨o, e, _⟩ := hS _ _ st.1
    exact ⟨o, e⟩
  keep := fun i ρ z ρ' z' h h' st e k kz kz' => ⟨W.frame _ _ _ st.1 fun b hb o e1 => by
    rcases hfp b hb with rfl | ⟨o', ho'⟩
    · exact k _ (.head _) o e1
    · have h1 := kz _ (st.2.zz _ ho')
      have h2 := kz' _ (st.2.zz _ ho')
      have : o = o' := Option.some.inj (e1.symm.trans h1)
      rw [this]; exact h2, st.2.trans e⟩
  item := fun i v g X ρ z σ s Q' E' hv R hX _ st q => by
    have hlt : i < vs.length := (List.getElem?_eq_some_iff.mp hv).1
    refine W.item i s _ _ hlt st.1 fun wv h₁ tk₁ hPv st₁ k₁ => ?_
    obtain ⟨vv, hvv, rv⟩ := hP i wv hPv
    rw [hv] at hvv; cases hvv
    obtain ⟨oI, eI, cI⟩ := hS _ _ st₁
    have ex : ∀ x ∈ [I], ∃ o, h₁.get? x = some o := fun x hx => by cases List.mem_singleton.mp hx; exact ⟨oI, eI⟩
    have kk : ∀ b o, b ∉ [I] → s.heap.get? b = some o → h₁.get? b = some o := fun b o hb e => k₁ b o hb e
    have R' : Rp c g X ρ z σ { s with heap := h₁, toks := tk₁ } := R.atXs (s' := { s with heap := h₁, toks := tk₁ }) hX kk ex
    have G' : Go g ρ z s ρ z { s with heap := h₁, toks := tk₁ } := ⟨Ext.refl .., fun b o e => by
      by_cases hb : b = I
      · subst hb; exact ⟨oI, eI⟩
      · exact ⟨o, kk b o (by simpa using hb) e⟩, fun _ h => .inl h⟩
    refine q wv ρ z _ R' G' kk (rv.mono st.2) ⟨st₁, st.2⟩ fun t Q₁ E₁ h₁' => ?_
    exact lg_plain (s := { s with heap := h₁, toks := tk₁ }) eI cI hn (h₁' _ R' (Go.refl ..) (fun _ _ _ e => e) ⟨st₁, st.2⟩)
  done := fun g X ρ z σ s Q' E' R hX _ st q => W.done s _ _ st.1 fun h₁ tk₁ k₁ => q _ k₁ rfl rfl rfl

def rngVs (a st : Int) (n : Nat) : List V := (List.range n).map fun i : Nat => V.int (a + (i : Int) * st)
theorem it_range {c : Cx} {a b st : Int} {n : Nat} (hs : Builtin.Range.small a b st = true) (hn : Builtin.Range.rangeSize a b st = (n : Int)) : Iterable c (.rng a b st) (rngVs a st n) (fun _ => True) := by
  intro A g X ρ z σ s Q' E' w hh R _ r q
  cases r with
  | rng hm =>
    refine wpAny_pyIter_range (R.frz _ hm).1 hs ?_
    have hl : (rngVs a st n).length = n := by simp [rngVs]
    have W0 := Walks.range (prog := c.prog) (w := c.w) hh s.heap.objs.size a st n
    have W : Walks c.prog c.w A s.heap.objs.size [s.heap.objs.size] [s.heap.objs.size] (rngVs a st n).length (fun i v => ∃ t, v = .int (a + i * st) t ∧ i < n) (fun i h => IsRangeIter h s.heap.objs.size (a + (i : Nat) * st) ((n : Int) - (i : Nat)) st) := by
      rw [hl]
      exact ⟨W0.sub, W0.frame, fun i s' Q E hi st' hQ => W0.item i s' Q E hi st' fun v h' tk ⟨t, e⟩ => hQ v h' tk ⟨t, e, hi⟩, W0.done, W0.self⟩
    have K := wk_of (z₀ := z) (ρ₀ := ρ) (n := "range_iterator") W (fun b hb => .inl (by simpa using hb)) (by
      rintro i w ⟨t, rfl, hi⟩
      exact ⟨.int (a + i * st), by simp [rngVs, hi], .int _ _⟩) (fun i h st => ⟨_, st, rfl⟩) (by decide)
    refine q s.heap.objs.size [s.heap.objs.size] _ { s with heap := _ } K (R.addXs (s' := { s with heap := _ }) (fun _ _ e => Heap.get?_push_of_some _ e) (fun x hx => ?_) (fun x hx => ?_)) (fun _ _ e => Heap.get?_push_of_some _ e) (fun x hx => ?_) ⟨?_, Ext.refl ..⟩ rfl rfl rfl
    · cases List.mem_singleton.mp hx; exact fresh_at (Nat.le_refl _)
    · cases List.mem_singleton.mp hx; exact ⟨_, Heap.get?_push_size _ rfl⟩
    · cases List.mem_singleton.mp hx; exact fresh_at (Nat.le_refl _)
    · show IsRangeIter _ _ _ _ _
      have e1 : a + ((0 : Nat) : Int) * st = a := by simp
      have e2 : (n : Int) - ((0 : Nat) : Int) = Builtin.Range.rangeSize a b st := by rw [hn]; simp
      rw [e1, e2]
      exact Heap.get?_push_size _ rfl
theorem it_lst {c : Cx} {vs : List V} : Iterable c (.lst vs) vs (fun _ => True) := by
  intro A g X ρ z σ s Q' E' w hh R _ r q
  cases r with
  | lst hm hl =>
    rename_i ws a n
    have hL : s.heap.IsList a ws.toArray := ⟨_, (R.frz _ hm).1, rfl, _, rfl⟩
    have ne : a ≠ s.heap.objs.size := fresh_ne (R.frz _ hm).1 (fresh_at (Nat.le_refl _))
    refine wpAny_pyIter_list hL ?_
    have W := Walks.list (prog := c.prog) (w := c.w) hh s.heap.objs.size a ne ws.toArray
    have e : ws.toArray.size = vs.length := by simp [hl.length]
    rw [e] at W
    have K := wk_of (z₀ := z) (ρ₀ := ρ) (n := "list_iterator") W (fun b hb => by
      rcases List.mem_cons.mp hb with h | h
      · exact .inl h
      · exact .inr ⟨_, by rw [List.mem_singleton.mp h]; exact hm⟩) (fun i w hw => by
      have hw' : ws[i]? = some w := by simpa using hw
      have hi : i < vs.length := by rw [hl.length]; exact (List.getElem?_eq_some_iff.mp hw').1
      obtain ⟨w', e1, r⟩ := hl.get (i := i) (v := vs[i]) (by simp [hi])
      rw [hw'] at e1; cases e1
      exact ⟨vs[i], by simp [hi], r⟩) (fun i h st => let ⟨⟨o, e, c, _⟩, _⟩ := st; ⟨o, e, c⟩) (by decide)
    refine q _ [s.heap.objs.size] _ { s with heap := _ } K (R.addXs (s' := { s with heap := _ }) (fun _ _ e => Heap.get?_push_of_some _ e) (fun x hx => ?_) (fun x hx => ?_)) (fun _ _ e => Heap.get?_push_of_some _ e) (fun x hx => ?_) ⟨⟨⟨_, Heap.get?_push_size _ rfl, rfl, rfl⟩, hL.push _⟩, Ext.refl ..⟩ rfl rfl rfl
    · cases List.mem_singleton.mp hx; exact fresh_at (Nat.le_refl _)
    · cases List.mem_singleton.mp hx; exact ⟨_, Heap.get?_push_size _ rfl⟩
    · cases List.mem_singleton.mp hx; exact fresh_at (Nat.le_refl _)
theorem it_tup {c : Cx} {vs : List V} : Iterable c (.tup vs) vs (fun _ => True) := by
  intro A g X ρ z σ s Q' E' w hh R _ r q
  cases r with
  | tup hm hl =>
    rename_i ws a n
    have hL : s.heap.IsTuple a ws.toArray := ⟨_, (R.frz _ hm).1, rfl, _, rfl⟩
    have ne : a ≠ s.heap.objs.size := fresh_ne (R.frz _ hm).1 (fresh_at (Nat.le_refl _))
    refine wpAny_pyIter_tuple hL ?_
    have W := Walks.tuple (prog := c.prog) (w := c.w) hh s.heap.objs.size a ne ws.toArray
    have e : ws.toArray.size = vs.length := by simp [hl.length]
    rw [e] at W
    have K := wk_of (z₀ := z) (ρ₀ := ρ) (n := "tuple_iterator") W (fun b hb => by
      rcases List.mem_cons.mp hb with h | h
      · exact .inl h
      · exact .inr ⟨_, by rw [List.mem_singleton.mp h]; exact hm⟩) (fun i w hw => by
      have hw' : ws[i]? = some w := by simpa using hw
      have hi : i < vs.length := by rw [hl.length]; exact (List.getElem?_eq_some_iff.mp hw').1
      obtain ⟨w', e1, r⟩ := hl.get (i := i) (v := vs[i]) (by simp [hi])
      rw [hw'] at e1; cases e1
      exact ⟨vs[i], by simp [hi], r⟩) (fun i h st => let ⟨⟨o, e, c, _⟩, _⟩ := st; ⟨o, e, c⟩) (by decide)
    refine q _ [s.heap.objs.size] _ { s with heap := _ } K (R.addXs (s' := { s with heap := _ }) (fun _ _ e => Heap.get?_push_of_some _ e) (fun x hx => ?_) (fun x hx => ?_)) (fun _ _ e => Heap.get?_push_of_some _ e) (fun x hx => ?_) ⟨⟨⟨_, Heap.get?_push_size _ rfl, rfl, rfl⟩, ⟨_, Heap.get?_push_of_some _ (R.frz _ hm).1, rfl, _, rfl⟩⟩, Ext.refl ..⟩ rfl rfl rfl
    · cases List.mem_singleton.mp hx; exact fresh_at (Nat.le_refl _)
    · cases List.mem_singleton.mp hx; exact ⟨_, Heap.get?_push_size _ rfl⟩
    · cases List.mem_singleton.mp hx; exact fresh_at (Nat.le_refl _)
theorem it_bytes {c : Cx} {b : List UInt8} : Iterable c (.bytes b) (b.map fun x => V.int (x.toNat : Int)) (fun _ => True) := by
  intro A g X ρ z σ s Q' E' w hh R _ r q
  cases r with
  | bytes _ t =>
    refine KBw.pyIter_bytes ?_
    have W := KBw.walks (prog := c.prog) (w := c.w) hh s.heap.objs.size b.toArray t
    have e : b.toArray.size = (b.map fun x => V.int (x.toNat : Int)).length := by simp
    rw [e] at W
    have K := wk_of (z₀ := z) (ρ₀ := ρ) (n := "bytes_iterator") W (fun b hb => .inl (by simpa using hb)) (fun i w hw => by
      obtain ⟨x, u, hx, rfl⟩ := hw
      exact ⟨.int (x.toNat : Int), by simp at hx; simp [hx], .int _ _⟩) (fun i h st => let ⟨o, e, c, _⟩ := st; ⟨o, e, c⟩) (by decide)
    refine q _ [s.heap.objs.size] _ { s with heap := _ } K (R.addXs (s' := { s with heap := _ }) (fun _ _ e => Heap.get?_push_of_some _ e) (fun x hx => ?_) (fun x hx => ?_)) (fun _ _ e => Heap.get?_push_of_some _ e) (fun x hx => ?_) ⟨?_, Ext.refl ..⟩ rfl rfl rfl
    · cases List.mem_singleton.mp hx; exact fresh_at (Nat.le_refl _)
    · cases List.mem_singleton.mp hx; exact ⟨_, Heap.get?_push_size _ rfl⟩
    · cases List.mem_singleton.mp hx; exact fresh_at (Nat.le_refl _)
    · exact ⟨_, Heap.get?_push_size _ rfl, rfl, rfl⟩
theorem PR.list_inv {z : Led} {ρ : List Addr} {vs : List V} {a : Addr} {p : Led} (h : PR z ρ (.list vs) a p) : ∃ ws n, p = [(a, listOf ws.toArray n)] ∧ VRL z ρ vs ws := by
  cases h with
  | list l => exact ⟨_, _, rfl, l⟩
theorem Rp.list {c : Cx} {σ : Hp} {g X ρ z} {s : Shared} (P : Rp c g X ρ z σ s) {i : Nat} {vs : List V} (hi : σ[i]? = some (.list vs)) {a : Addr} (ha : ρ[i]? = some a) :
    ∃ ws n, s.heap.get? a = some (listOf ws.toArray n) ∧ VRL z ρ vs ws ∧ a ∉ X ++ c.tk ∧ g.get? a = none := by
  obtain ⟨x, p, h1, h2, h3⟩ := P.at hi
  rw [ha] at h1; cases h1
  obtain ⟨ws, n, rfl, hl⟩ := h2.list_inv
  exact ⟨ws, n, (h3 _ (.head _)).1, hl, (h3 _ (.head _)).2.2, (h3 _ (.head _)).2.1⟩
theorem isList_of {h : Heap} {a : Addr} {ws : List Value} {n : Nat} (e : h.get? a = some (listOf ws.toArray n)) : h.IsList a ws.toArray := ⟨_, e, rfl, _, rfl⟩
/-- over an owned list that stays as it is -/
theorem it_own {c : Cx} {i : Nat} {vs : List V} : Iterable c (.ref i) vs (fun σ => σ[i]? = some (.list vs)) := by
  intro A g X ρ z σ s Q' E' w hh R hσ r q
  cases r with
  | ref hr =>
    rename_i a
    obtain ⟨ws, n, h1, h2, h3, h4⟩ := R.list hσ hr
    refine wpAny_pyIter_list (isList_of h1) ?_
    have ne : a ≠ s.heap.objs.size := fresh_ne h1 (fresh_at (Nat.le_refl _))
    generalize hI : s.heap.objs.size = I at ne
    have nI : s.heap.get? I = none := by rw [← hI]; exact fresh_at (Nat.le_refl _)
    have K : Wk c A [I] I vs (fun σ => σ[i]? = some (.list vs)) (fun j ρ' z' h => h.IsListIter I a j ∧ ρ'[i]? = some a ∧ a ≠ I) := by
      refine ⟨fun j v g X ρ z σ s Q' E' hv R hX hσ st q => ?_, fun g X ρ z σ s Q' E' R hX hσ st q => ?_, fun j ρ z ρ' z' h h' st e k kz kz' => ?_, fun j ρ z s Q' E' st hq => ?_, .head _, fun j ρ z h st x hx => ?_⟩
      · obtain ⟨ws, n, h1, h2, h3, h4⟩ := R.list hσ st.2.1
        have W := Walks.list (prog := c.prog) (w := c.w) hh I a st.2.2 ws.toArray
        have hlt : j < ws.toArray.size := by rw [List.size_toArray, ← h2.length]; exact (List.getElem?_eq_some_iff.mp hv).1
        refine W.item j s _ _ hlt ⟨st.1, isList_of h1⟩ fun wv h₁ tk₁ hPv st₁ k₁ => ?_
        obtain ⟨w', e1, rv⟩ := h2.get hv
        have e2 : ws[j]? = some wv := by simpa using hPv
        rw [e1] at e2; cases e2
        obtain ⟨oI, eI, cI, _⟩ := st₁.1
        have kk : ∀ b o, b ∉ [I] → s.heap.get? b = some o → h₁.get? b = some o := fun b o hb e => k₁ b o hb e
        have R' : Rp c g X ρ z σ { s with heap := h₁, toks := tk₁ } := R.atXs (s' := { s with heap := h₁, toks := tk₁ }) hX kk (fun x hx => by cases List.mem_singleton.mp hx; exact ⟨oI, eI⟩)
        have G' : Go g ρ z s ρ z { s with heap := h₁, toks := tk₁ } := ⟨Ext.refl .., fun b o e => by
          by_cases hb : b = I
          · subst hb; exact ⟨oI, eI⟩
          · exact ⟨o, kk b o (by simpa using hb) e⟩, fun _ h => .inl h⟩
        refine q _ ρ z _ R' G' kk rv ⟨st₁.1, st.2⟩ fun t Q₁ E₁ h₁' => ?_
        exact lg_plain (s := { s with heap := h₁, toks := tk₁ }) eI cI (by decide) (h₁' _ R' (Go.refl ..) (fun _ _ _ e => e) ⟨st₁.1, st.2⟩)
      · obtain ⟨ws, n, h1, h2, h3, h4⟩ := R.list hσ st.2.1
        have W := Walks.list (prog := c.prog) (w := c.w) hh I a st.2.2 ws.toArray
        have e : ws.toArray.size = vs.length := by simp [h2.length]
        refine W.done s _ _ ⟨by rw [e]; exact st.1, isList_of h1⟩ fun h₁ tk₁ k₁ => q _ k₁ rfl rfl rfl
      · obtain ⟨⟨o, e1, e2⟩, e3, e4⟩ := st
        exact ⟨⟨o, k _ (.head _) _ e1, e2⟩, e.r _ _ e3, e4⟩
      · exact wpAny_pyIter_listiter st.1 hq
      · cases List.mem_singleton.mp hx; exact let ⟨o, e, _⟩ := st.1; ⟨o, e⟩
    have gI : (s.heap.push { cls := .type "list_iterator", data := .fields #[.ref a, .int 0 0] }).get? I = some { cls := .type "list_iterator", data := .fields #[.ref a, .int 0 0] } := by rw [← hI]; exact Heap.get?_push_size _ rfl
    refine q I [I] _ { s with heap := _ } K (R.addXs (s' := { s with heap := _ }) (fun _ _ e => Heap.get?_push_of_some _ e) (fun x hx => ?_) (fun x hx => ?_)) (fun _ _ e => Heap.get?_push_of_some _ e) (fun x hx => ?_) ⟨⟨_, gI, rfl, rfl⟩, hr, ne⟩ rfl rfl rfl
    · cases List.mem_singleton.mp hx; exact nI
    · cases List.mem_singleton.mp hx; exact ⟨_, gI⟩
    · cases List.mem_singleton.mp hx; exact nI

section
variable {c : Cx} {env : Env} {D : Nat} {l : Loc} {σ : Hp}
/-- a target is bound -/
def EA (c : Cx) (env : Env) (D : Nat) (t : Expr) (v : V) (l : Loc) (σ : Hp) (Q : Loc → Hp → Prop) : Prop :=
  ∀ (A : Around) (g : Heap) (ρ : List Addr) (z : Led) (s : Shared) (Q' : Unit → Shared → Prop) (E' : Value → Shared → Prop) (w : Value), Ok A D → Rep c env g ρ z σ l s → VR z ρ v w →
    (∀ l' σ' ρ' z' s', Q l' σ' → Rep c env g ρ' z' σ' l' s' → Go g ρ z s ρ' z' s' → Q' () s') → wpAny c.M A (assign t env w) Q' E' s
theorem ea_name {x : Str} {p : Pos} {v : V} {l' : Loc} {Q : Loc → Hp → Prop} (u : Up x v l l') (h : Q l' σ) (hk : env.kindOf x = some .local := by (subst_vars; kernel_rfl)) : EA c env D (.Name x p) v l σ Q := by
  intro A g ρ z s Q' E' w ok R r q
  exact wpAny_assign_Name (store_local R r hk u fun s' R' G' => q _ _ _ _ _ h R' G')


/-- what a loop walks over, reckoned -/
def EIt (c : Cx) (env : Env) (D : Nat) (e : Expr) (l : Loc) (σ : Hp) (Qi : List V → (Hp → Prop) → Hp → Prop) : Prop :=
  ∀ (A : Around) (g : Heap) (ρ : List Addr) (z : Led) (s : Shared) (Q' E' : Value → Shared → Prop), Ok A D → Rep c env g ρ z σ l s →
    (∀ vs Sg σ' I Xs St ρ' z' s', Qi vs Sg σ' → Sg σ' → Wk c A Xs I vs Sg St → Rep c env g ρ' z' σ' l s' → Rp c g (Xs ++ [env.locals]) ρ' z' σ' s' → (∀ x ∈ Xs, x ∉ [env.locals] ++ c.tk) → Go g ρ z s ρ' z' s' → (∀ x ∈ Xs, s.heap.get? x = none) → St 0 ρ' z' s'.heap → Q' (.ref I) s') →
    wpAny c.M A (eval e env) (fun w s₁ => wpAny c.M A (pyIter w) Q' E' s₁) E' s
theorem eit_of {e : Expr} {Qi : List V → (Hp → Prop) → Hp → Prop} (h : EV c env D (eval e env) l σ fun v σ₁ => ∃ vs Sg, Iterable c v vs Sg ∧ Sg σ₁ ∧ Qi vs Sg σ₁) : EIt c env D e l σ Qi := by
  intro A g ρ z s Q' E' ok R q
  refine h A g ρ z s _ _ ok R fun v w σ1 ρ1 z1 s1 h1 R1 G1 r1 => ?_
  obtain ⟨vs, Sg, hI, hSg, hq⟩ := h1
  refine hI A g [env.locals] ρ1 z1 σ1 s1 _ _ w ok.h R1.toRp hSg r1 fun I Xs St s2 K P2 k2 nX st0 e1 e2 e3 => ?_
  refine q vs Sg σ1 I Xs St ρ1 z1 s2 hq hSg K (R1.grow k2 e1 e2 e3) P2 (fun x hx hm => ?_) (G1.trans (Go.same _ _ _ _ _ k2)) (fun x hx => ?_) st0
  · obtain ⟨_, e⟩ := (R1.off x hm).2
    rw [nX x hx] at e; cases e
  · cases e : s.heap.get? x with
    | none => rfl
    | some o => obtain ⟨o', e'⟩ := G1.dom x o e; rw [nX x hx] at e'; cases e'

/-- a for loop, by what holds behind the first i items -/
theorem ex_for {target iter : Expr} {body : List Stmt} {pos : Pos} {Q : Fl → Loc → Hp → Prop} (h : EIt c env D iter l σ fun vs Sg σ₁ => ∃ J : Nat → Loc → Hp → Prop, J 0 l σ₁ ∧ (∀ i l₁ σ₁, J i l₁ σ₁ → Sg σ₁) ∧
      (∀ i v l₁ σ₁, vs[i]? = some v → J i l₁ σ₁ → EA c env D target v l₁ σ₁ fun l₂ σ₂ => EX c env D (execs body env) l₂ σ₂ fun f l₃ σ₃ => match f with
        | .next => J (i + 1) l₃ σ₃ | .cont => J (i + 1) l₃ σ₃ | .brk => Q .next l₃ σ₃ | .ret v => Q (.ret v) l₃ σ₃) ∧
      ∀ l₁ σ₁, J vs.length l₁ σ₁ → Q .next l₁ σ₁)
    (hs : ∀ x, foldedSetIterable iter env x = pure x := by (subst_vars; intro _; kernel_rfl)) : EX c env D (exec (.For target iter body [] pos) env) l σ Q := by
  intro A g ρ z s Q' E' ok R q
  refine wpAny_For (h A g ρ z s _ _ ok R fun vs Sg σ1 I Xs St ρ1 z1 s2 h1 hSg K R2 RI2 nX G2 nX0 st0 => ?_) hs
  obtain ⟨J, j0, jS, step, fin⟩ := h1
  have hXt : ∀ x ∈ Xs, x ∉ c.tk := fun x hx hm => nX x hx (List.mem_append_right _ hm)
  have hXL : ∀ x ∈ Xs, x ≠ env.locals := fun x hx e => nX x hx (List.mem_append_left _ (by simp [e]))
  refine codeAny_forLoop_any (fun k s' => ∃ i l' σ' ρ' z', k = vs.length + 1 - i ∧ i ≤ vs.length ∧ Rep c env g ρ' z' σ' l' s' ∧ Rp c g (Xs ++ [env.locals]) ρ' z' σ' s' ∧ Go g ρ z s ρ' z' s' ∧ St i ρ' z' s'.heap ∧ J i l' σ') ?_ (vs.length + 1) ⟨0, l, σ1, ρ1, z1, by simp, Nat.zero_le _, R2, RI2, G2, st0, j0⟩
  rintro k s' ⟨i, l', σ', ρ', z', rfl, hi, R', RI', G', st', hJ⟩
  have hXX : ∀ x ∈ Xs, x ∈ Xs ++ [env.locals] ∧ x ∉ c.tk := fun x hx => ⟨List.mem_append_left _ hx, hXt x hx⟩
  have nL : env.locals ∉ Xs := fun h => hXL _ h rfl
  by_cases hlt : i < vs.length
  · refine K.item i vs[i] g _ ρ' z' σ' s' _ _ (by simp [hlt]) RI' hXX (jS _ _ _ hJ) st' fun wv ρ2 z2 s2' RI₂ G₂ k₂ rv st₂ lg => ?_
    refine lg _ _ _ fun s3' RI₃ G₃ k₃ st₃ => ?_
    have R₃ : Rep c env g ρ2 z2 σ' l' s3' := R'.mk' (RI₃.perm fun x hx => List.mem_append_right _ hx) (G₂.trans G₃).toExt fun m hm => hm.at' fun o e => k₃ _ o nL (k₂ _ o nL e)
    obtain ⟨g1, Rg, back⟩ := (RI₃.perm (Y := [env.locals] ++ Xs) fun x hx => by simp only [List.mem_append] at hx ⊢; exact hx.symm).inner fun x hx => ⟨by simpa using hXL x hx, hXt x hx⟩
    have RR : Rep c env g1 ρ2 z2 σ' l' s3' := ⟨Rg, R₃.ns, R₃.nd, R₃.kind, R₃.glob, R₃.bltn, R₃.lt⟩
    refine step i vs[i] l' σ' (by simp [hlt]) hJ A g1 ρ2 z2 _ _ _ wv ok RR (rv.mono G₃.toExt) fun l3 σ3 ρ3 z3 s3 h3 R3 G3 => ?_
    refine h3 A g1 ρ3 z3 s3 _ _ ok R3 fun f fw l4 σ4 ρ4 z4 s4 h4 R4 G4 r4 => ?_
    obtain ⟨PB, GB, kO⟩ := back _ _ _ _ R4.toRp (G3.trans G4)
    have RIB : Rp c g (Xs ++ [env.locals]) ρ4 z4 σ4 s4 := PB.perm fun x hx => by simp only [List.mem_append] at hx ⊢; exact hx.symm
    have RB : Rep c env g ρ4 z4 σ4 l4 s4 := ⟨PB.perm fun x hx => List.mem_append_left _ hx, R4.ns, R4.nd, R4.kind, R4.glob, R4.bltn, R4.lt⟩
    have GT : Go g ρ z s ρ4 z4 s4 := ((G'.trans G₂).trans G₃).trans GB
    have again : J (i + 1) l4 σ4 → ∃ m, m < vs.length + 1 - i ∧ ∃ i' l' σ' ρ' z', m = vs.length + 1 - i' ∧ i' ≤ vs.length ∧ Rep c env g ρ' z' σ' l' s4 ∧ Rp c g (Xs ++ [env.locals]) ρ' z' σ' s4 ∧ Go g ρ z s ρ' z' s4 ∧ St i' ρ' z' s4.heap ∧ J i' l' σ' := fun hj =>
      ⟨vs.length + 1 - (i + 1), by omega, i + 1, l4, σ4, ρ4, z4, rfl, hlt, RB, RIB, GT, K.keep _ _ _ _ _ _ _ st₃ GB.toExt kO (fun p hp => (RI₃.frz p hp).1) (fun p hp => (RIB.frz p (GB.zz p hp)).1), hj⟩
    cases r4 with
    | next => exact again h4
    | cont => exact again h4
    | brk => exact q _ _ _ _ _ _ _ h4 RB GT .next
    | ret r => exact q _ _ _ _ _ _ _ h4 RB GT (.ret r)
  · have hin : i = vs.length := by omega
    subst hin
    refine K.done g _ ρ' z' σ' s' _ _ RI' hXX (jS _ _ _ hJ) st' fun s₁ k₁ e1 e2 e3 => wpAny_execs_nil ?_
    have P₁ : Rp c g [env.locals] ρ' z' σ' s₁ := RI'.offXs nX k₁ e1 e2 e3
    refine q _ _ _ _ _ _ _ (fin _ _ hJ) (R'.mk' P₁ (Ext.refl ..) fun m hm => hm.at' fun o e => k₁ _ o nL e) ⟨G'.toExt, fun b o e => ?_, G'.fr⟩ .next
    obtain ⟨o', e'⟩ := G'.dom b o e
    exact ⟨o', k₁ b o' (fun hb => by rw [nX0 b hb] at e; cases e) e'⟩
end
end
section
open PySem PySem.W PyProof.Rows PySem.Calls

/-- the loop of a comprehension, of any target, with tests -/
theorem compLoop_gen {prog : Program} {w : World} {A : Around} {R : Result → Shared → Prop} {s : Shared} {elt target iter : Expr} {ifs : List Expr} {scope : Scope} {pos : Pos} {it acc : Value} {env : Env} (I : Nat → Shared → Prop)
    (turn : ∀ n s, I n s → wpAny (model prog w) A (pyNext it) (fun r s₁ => match r with
      | none => R (.ok .next) s₁
      | some v => wpAny (model prog w) A (letOwnedTupleGo target it v) (fun _ s₁' => wpAny (model prog w) A (assign target env v) (fun _ s₂ =>
          wpAny (model prog w) A (forIn ifs true fun c r => if r = true then do let ok ← isTrue c env (eval c env); pure (ForInStep.yield ok) else pure (ForInStep.yield r)) (fun ok s₃ =>
            if ok = true then wpAny (model prog w) A (eval elt env) (fun x s₄ =>
              wpAny (model prog w) A (call (.builtin "list.append") [acc, x]) (fun _ s₅ => ∃ m, m < n ∧ I m s₅) (notedBy (model prog w) A env fun e s' => R (.error e) s') s₄) (notedBy (model prog w) A env fun e s' => R (.error e) s') s₃
            else ∃ m, m < n ∧ I m s₃) (notedBy (model prog w) A env fun e s' => R (.error e) s') s₂) (notedBy (model prog w) A env fun e s' => R (.error e) s') s₁') (notedBy (model prog w) A env fun e s' => R (.error e) s') s₁) (notedBy (model prog w) A env fun e s' => R (.error e) s') s)
    (n : Nat) (h : I n s) :
    codeAny (model prog w) A (.compLoop (.ListComp elt [⟨target, iter, ifs, 0⟩] scope pos) 0 it acc env) R s := by
  refine codeAny_loop rfl I (fun n s hI => ?_) n h
  show wpAny _ A ((compTurn (.ListComp elt [⟨target, iter, ifs, 0⟩] scope pos) 0 it acc env).onRaise (fun x => do noteFrame x env; theTreesLotGoes x)) _ _ s
  refine wpAny_noted ?_
  rw [compTurn_list]
  refine wpAny_bind (wpAny_standAt (wpAny_bind (wpAny_mono (turn n s hI) (fun r s₁ h₁ => ?_) fun _ _ h' => h')))
  cases r with
  | none => exact wpAny_pure h₁
  | some v =>
    refine wpAny_bind (wpAny_mono h₁ (fun _ s₁' h₁' => ?_) fun _ _ h' => h')
    refine wpAny_bind (wpAny_mono h₁' (fun _ s₂ h₂ => wpAny_bind (wpAny_mono h₂ (fun ok s₃ h₃ => ?_) fun _ _ h' => h')) fun _ _ h' => h')
    cases ok with
    | false => exact wpAny_pure ⟨rfl, h₃⟩
    | true =>
      exact wpAny_bind (wpAny_bind (wpAny_mono h₃ (fun x s₄ h₄ => wpAny_bind (wpAny_mono h₄ (fun _ s₅ h₅ => wpAny_pure (wpAny_pure ⟨rfl, h₅⟩)) fun _ _ h' => h')) fun _ _ h' => h'))

section
variable {c : Cx} {env : Env} {D : Nat} {l : Loc} {σ : Hp}
/-- a while loop, by what holds ahead of each turn and a measure -/
theorem ex_while {test : Expr} {body : List Stmt} {pos : Pos} {Q : Fl → Loc → Hp → Prop} (J : Nat → Loc → Hp → Prop) (n : Nat) (j0 : J n l σ)
    (turn : ∀ n l₁ σ₁, J n l₁ σ₁ → EB c env D (isTrue test env (eval test env)) l₁ σ₁ fun b σ₂ => (b = true → EX c env D (execs body env) l₁ σ₂ fun f l₃ σ₃ => match f with
        | .next => ∃ m, m < n ∧ J m l₃ σ₃ | .cont => ∃ m, m < n ∧ J m l₃ σ₃ | .brk => Q .next l₃ σ₃ | .ret v => Q (.ret v) l₃ σ₃) ∧ (b = false → Q .next l₁ σ₂)) : EX c env D (exec (.While test body [] pos) env) l σ Q := by
  intro A g ρ z s Q' E' ok R q
  refine wpAny_While (codeAny_whileLoop (fun k s' => ∃ l' σ' ρ' z', Rep c env g ρ' z' σ' l' s' ∧ Go g ρ z s ρ' z' s' ∧ J k l' σ') ?_ n ⟨l, σ, ρ, z, R, Go.refl .., j0⟩)
  rintro k s' ⟨l', σ', ρ', z', R', G', hj⟩
  refine turn k l' σ' hj A g ρ' z' s' _ _ ok R' fun b σ2 ρ2 z2 s2 h2 R2 G2 => ?_
  cases b with
  | true =>
    refine h2.1 rfl A g ρ2 z2 s2 _ _ ok R2 fun f fw l3 σ3 ρ3 z3 s3 h3 R3 G3 r3 => ?_
    have GT := (G'.trans G2).trans G3
    cases r3 with
    | next => obtain ⟨m, hm, hj'⟩ := h3; exact ⟨m, hm, l3, σ3, ρ3, z3, R3, GT, hj'⟩
    | cont => obtain ⟨m, hm, hj'⟩ := h3; exact ⟨m, hm, l3, σ3, ρ3, z3, R3, GT, hj'⟩
    | brk => exact q _ _ _ _ _ _ _ h3 R3 GT .next
    | ret r => exact q _ _ _ _ _ _ _ h3 R3 GT (.ret r)
  | false => exact wpAny_execs_nil (q _ _ _ _ _ _ _ (h2.2 rfl) R2 (G'.trans G2) .next)

/-- the names that a comprehension sees: its own, unbound, and cells of the frame's -/
def CompLoc (env : Env) (scope : Scope) (cl : List (Str × Addr)) (l lc : Loc) : Prop :=
  ∀ p ∈ lc, p.2 = .unb ∨ (∃ i, p.2 = .cell i ∧ p ∈ l ∧ cl.lookup p.1 = env.cells.lookup p.1 ∧ ((relabel scope env).names.lookup p.1 = some .cell ∨ (relabel scope env).names.lookup p.1 = some .free))
/-- the tests of a comprehension -/
abbrev testsOf (ifs : List Expr) (env : Env) : Sem Bool := forIn ifs true fun c r => if r = true then do let ok ← isTrue c env (eval c env); pure (ForInStep.yield ok) else pure (ForInStep.yield r)
theorem eb_tests0 {QB : Bool → Hp → Prop} (h : QB true σ) : EB c env D (testsOf [] env) l σ QB := fun _ _ _ _ _ _ _ _ R q => wpAny_tests_nil (q _ _ _ _ _ h R (Go.refl ..))
theorem eb_tests1 {t : Expr} {QB : Bool → Hp → Prop} (h : EB c env D (isTrue t env (eval t env)) l σ QB) : EB c env D (testsOf [t] env) l σ QB := fun A g ρ z s Q' E' ok R q => wpAny_tests_one (h A g ρ z s _ _ ok R q)
theorem ev_comp {elt target iter : Expr} {ifs : List Expr} {scope : Scope} {pos : Pos} {cl : List (Str × Addr)} {lc : Loc} {Q : V → Hp → Prop}
    (hclos : closureFor scope env = pure cl) (hcell : ∀ y ∈ scope.names, y.2 ≠ .cell) (hkind : scope.kind = .function) (hnames : ∀ y ∈ scope.names, y.2 = .local → scope.names.lookup y.1 = some .local) (hlc : CompLoc env scope cl l lc) (hnd : (lc.map (·.1)).Nodup)
    (h : EIt c env D iter l σ fun vs Sg σ₁ => vs.length ≤ 1000000 ∧ ∃ J : Nat → List V → Hp → Prop, J 0 [] σ₁ ∧ (∀ i acc σ₁, J i acc σ₁ → Sg σ₁) ∧
      (∀ C i v acc σ₁, vs[i]? = some v → J i acc σ₁ → EA c (compEnvC scope cl C env) D target v lc σ₁ fun l₂ σ₂ => EB c (compEnvC scope cl C env) D (testsOf ifs (compEnvC scope cl C env)) l₂ σ₂ fun b σ₃ =>
        (b = true → EV c (compEnvC scope cl C env) D (eval elt (compEnvC scope cl C env)) l₂ σ₃ fun u σ₄ => J (i + 1) (acc ++ [u]) σ₄) ∧ (b = false → J (i + 1) acc σ₃)) ∧
      ∀ acc σ₁, J vs.length acc σ₁ → Q (.lst acc) σ₁)
    (hs : ∀ x, foldedSetIterable iter env x = pure x := by (subst_vars; intro _; kernel_rfl)) : EV c env D (eval (.ListComp elt [⟨target, iter, ifs, 0⟩] scope pos) env) l σ Q := by
  intro A g ρ z s Q' E' ok R q
  rw [eval_ListComp]
  refine wpAny_comprehension_free (use := none) rfl hs hclos hkind hnames (h A g ρ z s _ _ ok R fun vs Sg σ1 I Xs St ρ1 z1 s2 h1 hSg K R2 RI2 nX G2 nX0 st0 => ?_)
  obtain ⟨hsz, J, j0, jS, step, fin⟩ := h1
  have tX : ∀ x ∈ Xs, x ∉ c.tk := fun x hx hm => nX x hx (List.mem_append_right _ hm)
  have lX : ∀ x ∈ Xs, x ≠ env.locals := fun x hx e => nX x hx (List.mem_append_left _ (by simp [e]))
  have exX : ∀ x ∈ Xs, ∃ o, s2.heap.get? x = some o := K.sole _ _ _ _ st0
  have exL : ∃ o, s2.heap.get? env.locals = some o := (R2.off env.locals (by simp)).2
  obtain ⟨hp2, gens2, dr2, tk2, os2⟩ := s2
  dsimp only at st0 exX exL ⊢
  -- the list that is built
  refine wpAny_newObj_type (wpAny_newFunctionEnv hcell (by intro y hy; simp at hy) (fun h₁ hns₁ hsb₁ => ?_) hkind)
  dsimp only at hns₁ hsb₁ ⊢
  generalize hH2 : hp2.push { cls := .type "list", dict := none, data := .seq ([] : List Value).toArray } = H2 at hns₁ hsb₁ ⊢
  have hD2 : H2.get? hp2.objs.size = some (listOf #[] 0) := by rw [← hH2]; exact Heap.get?_push_size _ rfl
  have nD2 : hp2.get? hp2.objs.size = none := fresh_at (Nat.le_refl _)
  have k23 : ∀ b o, hp2.get? b = some o → H2.get? b = some o := fun b o e => by rw [← hH2]; exact Heap.get?_push_of_some _ e
  have nC2 : H2.get? H2.objs.size = none := fresh_at (Nat.le_refl _)
  have k3 : ∀ b o, H2.get? b = some o → h₁.get? b = some o := fun b o e => (hsb₁.2 b (Nat.ne_of_lt (Heap.lt_size e))).trans (Heap.get?_push_of_some _ e)
  have eC : ∃ o, h₁.get? H2.objs.size = some o := let ⟨o, _, _, e, _⟩ := hns₁; ⟨o, e⟩
  generalize hp2.objs.size = Da at hD2 nD2 ⊢
  generalize H2.objs.size = C at nC2 hns₁ hsb₁ eC ⊢
  have P3 : Rp c g (Da :: (Xs ++ [env.locals])) ρ1 z1 σ1 ⟨H2, gens2, dr2, tk2, os2⟩ := RI2.addX' (s' := ⟨H2, gens2, dr2, tk2, os2⟩) k23 nD2 ⟨_, hD2⟩
  have P4 : Rp c g (C :: Da :: (Xs ++ [env.locals])) ρ1 z1 σ1 ⟨h₁, gens2, dr2, tk2, os2⟩ := P3.addX' (s' := ⟨h₁, gens2, dr2, tk2, os2⟩) k3 nC2 eC
  have notTk : ∀ {x : Addr} {XX : List Addr} {ss : Shared} {ρρ zz σσ}, Rp c g XX ρρ zz σσ ss → ss.heap.get? x = none → x ∉ c.tk := fun PP e hm => by
    obtain ⟨_, e'⟩ := (PP.off _ (List.mem_append_right _ hm)).2
    rw [e] at e'; cases e'
  have tD : Da ∉ c.tk := notTk RI2 nD2
  have tC : C ∉ c.tk := notTk P3 nC2
  have nDX : Da ∉ Xs := fun h => by obtain ⟨o, e'⟩ := exX _ h; rw [e'] at nD2; cases nD2
  have nDL : Da ≠ env.locals := fun e => by obtain ⟨o, e'⟩ := exL; rw [e, e'] at nD2; cases nD2
  have nCD : C ≠ Da := fun e => by rw [e, hD2] at nC2; cases nC2
  have nCX : C ∉ Xs := fun h => by obtain ⟨o, e'⟩ := exX _ h; rw [k23 _ _ e'] at nC2; cases nC2
  have nCL : C ≠ env.locals := fun e => by obtain ⟨o, e'⟩ := exL; rw [e, k23 _ _ e'] at nC2; cases nC2
  have nLX : env.locals ∉ Xs := fun h => lX _ h rfl
  obtain ⟨oL, eL⟩ := exL
  have k13 : ∀ b o, hp2.get? b = some o → h₁.get? b = some o := fun b o e => k3 _ _ (k23 _ _ e)
  have G4 : Go g ρ z s ρ1 z1 ⟨h₁, gens2, dr2, tk2, os2⟩ := G2.trans (Go.same _ _ _ _ _ k13)
  have st1 : St 0 ρ1 z1 h₁ := K.keep _ _ _ _ _ _ _ st0 (Ext.refl ..) (fun x _ o e => k13 _ _ e) (fun p hp => (RI2.frz p hp).1) (fun p hp => (P4.frz p hp).1)
  obtain ⟨mL, hmL, hlL⟩ := R2.ns
  have nrc : ∀ {ρ' z' m'}, Ext ρ1 z1 ρ' z' → ∀ p ∈ lc, NR (compEnvC scope cl C env) ρ' z' m' p := fun {ρ' z' m'} ex p hp => by
    rcases hlc p hp with h | ⟨i, h1, h2, h3, h4⟩
    · exact .inl h
    · rcases hlL p h2 with h5 | ⟨i', a, h5, _, h6, h7⟩ | ⟨h5, w', h6, h7⟩
      · rw [h1] at h5; cases h5
      · rw [h1] at h5; cases h5
        exact .inr (.inl ⟨i, a, h1, h4, h3.trans h6, ex.r _ _ h7⟩)
      · rw [h1] at h7; cases h7
  -- the turns
  have loop : ∀ tk, codeAny c.M A (.compLoop (.ListComp elt [⟨target, iter, ifs, 0⟩] scope pos) 0 (.ref I) (.ref Da) (compEnvC scope cl C env)) (compPost c.M A E' none Q' (.ref Da) C) ⟨h₁, gens2, dr2, tk, os2⟩ := fun tk => by
    refine compLoop_gen (fun k s' => ∃ i acc σ' ρ' z' ws n, k = vs.length + 1 - i ∧ i ≤ vs.length ∧ acc.length ≤ i ∧ Rp c g (C :: Da :: (Xs ++ [env.locals])) ρ' z' σ' s' ∧ s'.heap.get? Da = some (listOf ws n) ∧ VRL z' ρ' acc ws.toList ∧ (∃ m, s'.heap.Ns C m) ∧ s'.heap.get? env.locals = some oL ∧ Go g ρ z s ρ' z' s' ∧ Ext ρ1 z1 ρ' z' ∧ St i ρ' z' s'.heap ∧ J i acc σ') ?_ (vs.length + 1)
      ⟨0, [], σ1, ρ1, z1, #[], 0, by simp, Nat.zero_le _, Nat.le_refl _, P4.grow (s' := ⟨h₁, gens2, dr2, tk, os2⟩) (fun _ _ e => e), k3 _ _ hD2, .nil, ⟨_, hns₁⟩, k13 _ _ eL, G4.trans (Go.same _ _ _ _ _ fun _ _ e => e), Ext.refl .., st1, j0⟩
    rintro k s' ⟨i, acc, σ', ρ', z', ws, n, rfl, hi, hacc, P', hD, hVR, ⟨mC, hmC⟩, hL, G', X', st', hJ⟩
    have hXX : ∀ x ∈ Xs, x ∈ C :: Da :: (Xs ++ [env.locals]) ∧ x ∉ c.tk := fun x hx => ⟨by simp [hx], tX x hx⟩
    by_cases hlt : i < vs.length
    · refine K.item i vs[i] g _ ρ' z' σ' s' _ _ (by simp [hlt]) P' hXX (jS _ _ _ hJ) st' fun wv ρ2 z2 s2' P₂ G₂ k₂ rv st₂ lg => ?_
      refine lg _ _ _ fun s3' P₃ G₃ k₃ st₃ => ?_
      have kk : ∀ b o, b ∉ Xs → s'.heap.get? b = some o → s3'.heap.get? b = some o := fun b o hb e => k₃ b o hb (k₂ b o hb e)
      have eo : ∀ x, x ∈ C :: Da :: (Xs ++ [env.locals]) → x ∈ [C] ++ (Da :: (Xs ++ [env.locals])) := fun x hx => hx
      obtain ⟨g1, Pg, back⟩ := (P₃.perm (Y := [C] ++ (Da :: (Xs ++ [env.locals]))) fun x hx => hx).inner (by
        intro x hx
        simp only [List.mem_cons, List.mem_append, List.not_mem_nil, or_false] at hx ⊢
        rcases hx with rfl | hx | rfl
        · exact ⟨nCD.symm, tD⟩
        · exact ⟨fun e => nCX (e ▸ hx), tX x hx⟩
        · exact ⟨nCL.symm, R2.lt⟩)
      have ex3 := G₂.trans G₃
      have RR : Rep c (compEnvC scope cl C env) g1 ρ2 z2 σ' lc s3' :=
        ⟨Pg, ⟨mC, hmC.at' fun o e => kk _ o nCX e, nrc (X'.trans ex3.toExt)⟩, hnd, hkind, R2.glob, R2.bltn, tC⟩
      refine step C i vs[i] acc σ' (by simp [hlt]) hJ A g1 ρ2 z2 _ _ _ wv ok RR (rv.mono G₃.toExt) fun l3 σ3 ρ3 z3 s3 h3 R3 G3 => ?_
      refine h3 A g1 ρ3 z3 s3 _ _ ok R3 fun b σb ρb zb sb hb Rb Gb => ?_
      cases b with
      | false =>
        rw [if_neg (by simp)]
        obtain ⟨PB, GB, kO⟩ := back _ _ _ _ Rb.toRp (G3.trans Gb)
        have GT := (G'.trans ex3).trans GB
        obtain ⟨m4, hm4, _⟩ := Rb.ns
        exact ⟨vs.length + 1 - (i + 1), by omega, i + 1, acc, σb, ρb, zb, ws, n, rfl, hlt, by omega, PB, kO Da (by simp) _ (kk _ _ nDX hD), hVR.mono (ex3.trans GB).toExt, ⟨m4, hm4⟩, kO env.locals (by simp) _ (kk _ _ nLX hL), GT, X'.trans (ex3.trans GB).toExt,
          K.keep _ _ _ _ _ _ _ st₃ GB.toExt (fun x hx o e => kO x (by simp [hx]) o e) (fun p hp => (P₃.frz p hp).1) (fun p hp => (PB.frz p (GB.zz p hp)).1), hb.2 rfl⟩
      | true =>
        rw [if_pos rfl]
        refine hb.1 rfl A g1 ρb zb sb _ _ ok Rb fun u wu σ4 ρ4 z4 s4 h4 R4 G4' r4 => ?_
        obtain ⟨PB, GB, kO⟩ := back _ _ _ _ R4.toRp ((G3.trans Gb).trans G4')
        have hD4 : s4.heap.get? Da = some (listOf ws n) := kO Da (by simp) _ (kk _ _ nDX hD)
        have hVR4 := hVR.mono (ex3.trans GB).toExt
        have hws : ws.size ≤ sizeLine := by
          have := hVR.length
          simp only [Array.length_toList] at this
          rw [sizeLine_eq]; omega
        refine wpAny_list_append_plain ⟨n, hD4⟩ (fun h₅ hD5 hs5 => ?_) hws
        obtain ⟨n5, hD5⟩ := hD5
        have P5 : Rp c g (C :: Da :: (Xs ++ [env.locals])) ρ4 z4 σ4 { s4 with heap := h₅ } := PB.atX' (a := Da) (by simp) tD (fun b o hb e => (hs5.2 b hb).trans e) ⟨_, hD5⟩
        have G5 : Go g ρ4 z4 s4 ρ4 z4 { s4 with heap := h₅ } := ⟨Ext.refl .., fun b o e => by
          by_cases hb : b = Da
          · subst hb; exact ⟨_, hD5⟩
          · exact ⟨o, (hs5.2 b hb).trans e⟩, fun _ h => .inl h⟩
        have GT := (G'.trans ex3).trans (GB.trans G5)
        obtain ⟨m4, hm4, _⟩ := R4.ns
        refine ⟨vs.length + 1 - (i + 1), by omega, i + 1, acc ++ [u], σ4, ρ4, z4, ws.push wu, n5, rfl, hlt, by simp; omega, P5, hD5, ?_, ⟨m4, hm4.sameBut hs5 nCD⟩, ?_, GT, X'.trans (ex3.trans (GB.trans G5)).toExt, ?_, h4⟩
        · have := hVR4.append (.cons r4 .nil)
          simpa using this
        · exact (hs5.2 _ nDL.symm).trans (kO env.locals (by simp) _ (kk _ _ nLX hL))
        · refine K.keep _ _ _ _ _ _ _ st₃ GB.toExt (fun x hx o e => ?_) (fun p hp => (P₃.frz p hp).1) (fun p hp => (P5.frz p (GB.zz p hp)).1)
          exact (hs5.2 _ fun e => nDX (e ▸ hx)).trans (kO x (by simp [hx]) o e)
    · have hin : i = vs.length := by omega
      subst hin
      refine K.done g _ ρ' z' σ' s' _ _ P' hXX (jS _ _ _ hJ) st' fun s₁ kk e1 e2 e3 => ?_
      refine ⟨mC, hmC.at' fun o e => kk _ o nCX e, fun h₃ hs₃ => ?_⟩
      -- what is left is the frame and the list
      have kC : ∀ b o, b ≠ C → s₁.heap.get? b = some o → h₃.get? b = some o := fun b o hb e => (hs₃.2 b hb).trans e
      have P6 : Rp c g (Xs ++ [C, Da, env.locals]) ρ' z' σ' s' := P'.perm (by
        intro x hx
        simp only [List.mem_cons, List.mem_append, List.not_mem_nil, or_false] at hx ⊢
        rcases hx with h | h | h | h <;> simp [h])
      have P7 : Rp c g [C, Da, env.locals] ρ' z' σ' s₁ := P6.offXs (by
        intro x hx
        simp only [List.mem_append, List.mem_cons, List.not_mem_nil, or_false]
        rintro ((h | h | h) | h)
        · exact nCX (h ▸ hx)
        · exact nDX (h ▸ hx)
        · exact lX x hx h
        · exact tX x hx h) kk e1 e2 e3
      have P8 : Rp c g [Da, env.locals] ρ' z' σ' { s₁ with heap := h₃ } := P7.offI (s' := { s₁ with heap := h₃ }) (by
        simp only [List.mem_append, List.mem_cons, List.not_mem_nil, or_false]
        rintro ((h | h) | h)
        · exact nCD h
        · exact nCL h
        · exact tC h) kC
      obtain ⟨P9, G9⟩ := P8.frozeX (a := Da) (o := listOf ws n) (by
        simp only [List.mem_append, List.mem_cons, List.not_mem_nil, or_false]
        rintro (h | h)
        · exact nDL h
        · exact tD h) (kC _ _ nCD.symm (kk _ _ nDX hD))
      have hL3 : h₃.get? env.locals = some oL := kC _ _ nCL.symm (kk _ _ nLX hL)
      have G8 : Go g ρ z s ρ' z' { s₁ with heap := h₃ } := ⟨G'.toExt, fun b o e => by
        obtain ⟨o1, e1⟩ := G2.dom b o e
        obtain ⟨o', e'⟩ := G'.dom b o e
        exact ⟨o', kC _ _ (fresh_ne (k23 _ _ e1) nC2) (kk _ _ (fun hb => by rw [nX0 b hb] at e; cases e) e')⟩, G'.fr⟩
      refine q _ _ _ _ _ _ (fin _ _ hJ) (R2.mk' P9 (X'.trans G9.toExt) fun m hm => ?_) (G8.trans G9) (.lst (.head _) (hVR.mono G9.toExt))
      obtain ⟨o, es, ep, e, r⟩ := hm
      have : o = oL := Option.some.inj (e.symm.trans eL)
      subst this
      exact ⟨o, es, ep, hL3, r⟩
  exact codeAny_compStart_list (loop _) (K.self _ _ _ _ _ _ st1 (loop _))
end
end
section
open PySem PySem.W PyProof.Rows PySem.Calls

section
variable {c : Cx} {D : Nat} {σ : Hp} {Q : V → Hp → Prop}
theorem fn1 {f : Value} {v : V} (h : ∀ (A : Around) (g : Heap) (ρ : List Addr) (z : Led) (s : Shared) (Q' E' : Value → Shared → Prop) (w : Value), Ok A D → Rp c g [] ρ z σ s → VR z ρ v w →
    (∀ v w σ' ρ' z' s', Q v σ' → Rp c g [] ρ' z' σ' s' → Go g ρ z s ρ' z' s' → VR z' ρ' v w → Q' w s') → wpAny c.M A (call f [w]) Q' E' s) : FN c D (.val f) [v] [] σ Q := by
  intro A g ρ z s Q' E' wf ws kws ok P rf rl rk q
  cases rf; cases rk
  cases rl with
  | cons r1 rl => cases rl; exact h A g ρ z s Q' E' _ ok P r1 q
theorem fn2 {f : Value} {v₁ v₂ : V} (h : ∀ (A : Around) (g : Heap) (ρ : List Addr) (z : Led) (s : Shared) (Q' E' : Value → Shared → Prop) (w₁ w₂ : Value), Ok A D → Rp c g [] ρ z σ s → VR z ρ v₁ w₁ → VR z ρ v₂ w₂ →
    (∀ v w σ' ρ' z' s', Q v σ' → Rp c g [] ρ' z' σ' s' → Go g ρ z s ρ' z' s' → VR z' ρ' v w → Q' w s') → wpAny c.M A (call f [w₁, w₂]) Q' E' s) : FN c D (.val f) [v₁, v₂] [] σ Q := by
  intro A g ρ z s Q' E' wf ws kws ok P rf rl rk q
  cases rf; cases rk
  cases rl with
  | cons r1 rl => cases rl with
    | cons r2 rl => cases rl; exact h A g ρ z s Q' E' _ _ ok P r1 r2 q
theorem fn3 {f : Value} {v₁ v₂ v₃ : V} (h : ∀ (A : Around) (g : Heap) (ρ : List Addr) (z : Led) (s : Shared) (Q' E' : Value → Shared → Prop) (w₁ w₂ w₃ : Value), Ok A D → Rp c g [] ρ z σ s → VR z ρ v₁ w₁ → VR z ρ v₂ w₂ → VR z ρ v₃ w₃ →
    (∀ v w σ' ρ' z' s', Q v σ' → Rp c g [] ρ' z' σ' s' → Go g ρ z s ρ' z' s' → VR z' ρ' v w → Q' w s') → wpAny c.M A (call f [w₁, w₂, w₃]) Q' E' s) : FN c D (.val f) [v₁, v₂, v₃] [] σ Q := by
  intro A g ρ z s Q' E' wf ws kws ok P rf rl rk q
  cases rf; cases rk
  cases rl with
  | cons r1 rl => cases rl with
    | cons r2 rl => cases rl with
      | cons r3 rl => cases rl; exact h A g ρ z s Q' E' _ _ _ ok P r1 r2 r3 q

-- OWNED OBJECTS, READ
theorem isTup_of {h : Heap} {a : Addr} {ws : List Value} {n : Nat} (e : h.get? a = some (tupObj ws n)) : IsTup h a ws.toArray := ⟨_, e, rfl, _, rfl⟩
/-- an owned list is changed -/
theorem Rp.setList {g X ρ z σ} {s s' : Shared} (P : Rp c g X ρ z σ s) {i : Nat} {vs vs' : List V} {ws' : List Value} (hi : σ[i]? = some (.list vs)) {a : Addr} (ha : ρ[i]? = some a) (hs : Heap.SameBut a s.heap s'.heap)
    (he : ∃ n, s'.heap.get? a = some (listOf ws'.toArray n)) (hl : VRL z ρ vs' ws') (h1 : s'.os = s.os := by rfl) (h2 : s'.drawn = s.drawn := by rfl) (h3 : s'.gens = s.gens := by rfl) : Rp c g X ρ z (σ.set i (.list vs')) s' ∧ Go g ρ z s ρ z s' := by
  obtain ⟨n, he⟩ := he
  refine ⟨P.upd hi ha (b := a) (o' := .list vs') (fun p hp hg => ?_) hs h1 h2 h3, Ext.refl .., fun b o e => ?_, fun _ h => .inl h⟩
  · obtain ⟨ws, n', rfl, _⟩ := hp.list_inv
    exact ⟨by simp, [(a, listOf ws'.toArray n)], .list hl, rfl, fun q hq => by cases List.mem_singleton.mp hq; exact he⟩
  · by_cases hb : b = a
    · subst hb; exact ⟨_, he⟩
    · exact ⟨o, (hs.2 b hb).trans e⟩
/-- a new owned list -/
theorem Rp.newList {g X ρ z σ} {s : Shared} (P : Rp c g X ρ z σ s) {vs : List V} {ws : List Value} {n : Nat} (hl : VRL z ρ vs ws) :
    Rp c g X (ρ ++ [s.heap.objs.size]) z (σ ++ [.list vs]) { s with heap := s.heap.push (listOf ws.toArray n) } ∧ Go g ρ z s (ρ ++ [s.heap.objs.size]) z { s with heap := s.heap.push (listOf ws.toArray n) } ∧
    VR z (ρ ++ [s.heap.objs.size]) (.ref σ.length) (.ref s.heap.objs.size) := by
  have k : ∀ b o, s.heap.get? b = some o → (s.heap.push (listOf ws.toArray n)).get? b = some o := fun b o e => Heap.get?_push_of_some _ e
  obtain ⟨led0, a0, _⟩ := P.own
  have hlen : σ.length = ρ.length := a0.length
  refine ⟨P.new (s' := { s with heap := s.heap.push (listOf ws.toArray n) }) k (.list (n := n) (hl.mono (Ext.push ..))) (by simp) (fun q hq => ?_), ⟨Ext.push .., fun b o e => ⟨o, k b o e⟩, fun _ h => .inl h⟩, .ref (by rw [hlen]; simp)⟩
  cases List.mem_singleton.mp hq
  exact ⟨Heap.get?_push_size _ rfl, fresh_at (Nat.le_refl _)⟩
/-- a new tuple -/
theorem Rp.newTup {g X ρ z σ} {s : Shared} (P : Rp c g X ρ z σ s) {vs : List V} {ws : List Value} {n : Nat} (hl : VRL z ρ vs ws) :
    Rp c g X ρ ((s.heap.objs.size, tupObj ws n) :: z) σ { s with heap := s.heap.push (tupObj ws n) } ∧ Go g ρ z s ρ ((s.heap.objs.size, tupObj ws n) :: z) { s with heap := s.heap.push (tupObj ws n) } ∧
    VR ((s.heap.objs.size, tupObj ws n) :: z) ρ (.tup vs) (.ref s.heap.objs.size) :=
  ⟨P.pushZ _, Go.push P.keep _, .tup (.head _) (hl.mono (Ext.cons ..))⟩

-- LISTS
theorem em_append {env : Env} {l : Loc} {QM : V → List V → Hp → Prop} {i : Nat} {vs : List V} (hi : σ[i]? = some (.list vs)) (h : QM (.val (.builtin "list.append")) [.ref i] σ) : EM c env D (.ref i) "append" l σ QM := by
  intro A g ρ z s Q' E' w pl ok R r q
  have r0 := r
  cases r with
  | ref hr =>
    obtain ⟨ws, n, h1, h2, h3, h4⟩ := R.toRp.list hi hr
    exact getMethod_list_append h1 rfl rfl (q _ _ _ _ _ _ _ _ h R (Go.refl ..) (.val _) (.cons r0 .nil))
theorem fn_append {i : Nat} {vs : List V} {v : V} (hi : σ[i]? = some (.list vs)) (hz : vs.length ≤ 1000000) (h : Q .none (σ.set i (.list (vs ++ [v])))) : FN c D (.val (.builtin "list.append")) [.ref i, v] [] σ Q := by
  refine fn2 fun A g ρ z s Q' E' w₁ w₂ ok P r₁ r₂ q => ?_
  cases r₁ with
  | ref hr =>
    obtain ⟨ws, n, h1, h2, h3, h4⟩ := P.list hi hr
    refine wpAny_list_append_plain ⟨n, h1⟩ (fun h' hp hs => ?_) (by have := h2.length; rw [List.size_toArray, sizeLine_eq]; omega)
    obtain ⟨n', hp⟩ := hp
    obtain ⟨P', G'⟩ := P.setList (s' := { s with heap := h' }) (ws' := ws ++ [w₂]) (vs' := vs ++ [v]) hi hr hs ⟨n', by rw [hp]; simp⟩ (h2.append (.cons r₂ .nil))
    exact q _ _ _ _ _ _ h P' G' .none
theorem fn_len_list {i : Nat} {vs : List V} (hi : σ[i]? = some (.list vs)) (hz : vs.length ≤ 1000000) (h : Q (.int vs.length) σ) : FN c D (.val (.builtin "len")) [.ref i] [] σ Q := by
  refine fn1 fun A g ρ z s Q' E' w ok P r q => ?_
  cases r with
  | ref hr =>
    obtain ⟨ws, n, h1, h2, h3, h4⟩ := P.list hi hr
    refine call_len_list (isList_of h1) (by have := h2.length; rw [List.size_toArray]; omega) ?_
    refine q _ _ _ _ _ _ h (P.toks _) (Go.toks ..) ?_
    rw [List.size_toArray, ← h2.length]; exact .int _ _
theorem fn_len_lst {vs : List V} (hz : vs.length ≤ 1000000) (h : Q (.int vs.length) σ) : FN c D (.val (.builtin "len")) [.lst vs] [] σ Q := by
  refine fn1 fun A g ρ z s Q' E' w ok P r q => ?_
  cases r with
  | lst hm h2 =>
    refine call_len_list (isList_of (P.frz _ hm).1) (by have := h2.length; rw [List.size_toArray]; omega) ?_
    refine q _ _ _ _ _ _ h (P.toks _) (Go.toks ..) ?_
    rw [List.size_toArray, ← h2.length]; exact .int _ _
theorem fn_len_tup {vs : List V} (hz : vs.length ≤ 1000000) (h : Q (.int vs.length) σ) : FN c D (.val (.builtin "len")) [.tup vs] [] σ Q := by
  refine fn1 fun A g ρ z s Q' E' w ok P r q => ?_
  cases r with
  | tup hm h2 =>
    refine Calls.call_function_entry kind_len plain_len entry_len (args_len1 _) (len_body_tuple (isTup_of (P.frz _ hm).1) (by have := h2.length; rw [List.size_toArray]; omega) ?_)
    refine q _ _ _ _ _ _ h (P.toks _) (Go.toks ..) ?_
    rw [List.size_toArray, ← h2.length]; exact .int _ _
theorem fn_len_bytes {b : List UInt8} (hz : b.length ≤ 1000000) (h : Q (.int b.length) σ) : FN c D (.val (.builtin "len")) [.bytes b] [] σ Q := by
  refine fn1 fun A g ρ z s Q' E' w ok P r q => ?_
  cases r with
  | bytes _ t =>
    refine PySem.W.len_bytes (by rw [List.size_toArray]; omega) ?_
    refine q _ _ _ _ _ _ h (P.toks _) (Go.toks ..) ?_
    rw [List.size_toArray]; exact .int _ _
theorem fn_abs {a : Int} (h : Q (.int (if a < 0 then -a else a)) σ) : FN c D (.val (.builtin "abs")) [.int a] [] σ Q := by
  refine fn1 fun A g ρ z s Q' E' w ok P r q => ?_
  cases r
  exact call_abs_int fun u tk => q _ _ _ _ _ _ h (P.toks _) (Go.toks ..) (.int _ _)
theorem fn_int {a : Int} (h : Q (.int a) σ) : FN c D (.val (.type "int")) [.int a] [] σ Q := by
  refine fn1 fun A g ρ z s Q' E' w ok P r q => ?_
  cases r
  exact call_int_int (q _ _ _ _ _ _ h P (Go.refl ..) (.int _ _))
theorem fn_int_bool {b : Bool} (h : Q (.int (if b then 1 else 0)) σ) : FN c D (.val (.type "int")) [.bool b] [] σ Q := by
  refine fn1 fun A g ρ z s Q' E' w ok P r q => ?_
  cases r
  exact call_int_bool (q _ _ _ _ _ _ h (P.toks _) (Go.toks ..) (.int _ _))
theorem fn_range1 {n : Int} (h : Q (.rng 0 n 1) σ) : FN c D (.val (.type "range")) [.int n] [] σ Q := by
  refine fn1 fun A g ρ z s Q' E' w ok P r q => ?_
  cases r
  refine call_range_1 (q _ _ _ _ _ _ h ((P.pushZ _).toks _) ((Go.push P.keep _).trans (Go.toks ..)) (.rng (.head _)))
theorem fn_range2 {a b : Int} (h : Q (.rng a b 1) σ) : FN c D (.val (.type "range")) [.int a, .int b] [] σ Q := by
  refine fn2 fun A g ρ z s Q' E' w₁ w₂ ok P r₁ r₂ q => ?_
  cases r₁; cases r₂
  refine call_range_2 (q _ _ _ _ _ _ h ((P.pushZ _).toks _) ((Go.push P.keep _).trans (Go.toks ..)) (.rng (.head _)))
theorem fn_range3 {a b k : Int} (hk : k ≠ 0) (hp : Builtin.divisionGoesByPylong (b - a) k = false) (h : Q (.rng a b k) σ) : FN c D (.val (.type "range")) [.int a, .int b, .int k] [] σ Q := by
  refine fn3 fun A g ρ z s Q' E' w₁ w₂ w₃ ok P r₁ r₂ r₃ q => ?_
  cases r₁; cases r₂; cases r₃
  refine call_range_3 hk (q _ _ _ _ _ _ h (P.pushZ _) (Go.push P.keep _) (.rng (.head _))) (.inl hp)
end
end
section
open PySem PySem.W PyProof.Rows PySem.Calls

def cut {α : Type} (l : List α) (lo hi : Option Int) : List α := (l.drop (lo.elim 0 (clipAt l.length))).take (hi.elim l.length (clipAt l.length) - lo.elim 0 (clipAt l.length))
theorem cut_pick (items : List Value) (lo hi : Option Int) : slicePick items.toArray lo hi none = (cut items lo hi).toArray := by
  unfold slicePick cut
  rw [sliceBounds_plain]
  simp only [sliceRange_one, pick_run, List.size_toArray]
theorem cut_picked (b : List UInt8) (lo hi : Option Int) : KBy.picked b.toArray lo hi = (cut b lo hi).toArray := by
  rw [KBc.picked_eq, List.size_toArray]; rfl
theorem VRL.cut {z : Led} {ρ : List Addr} {vs ws} (h : VRL z ρ vs ws) (lo hi : Option Int) : VRL z ρ (cut vs lo hi) (Mine.cut ws lo hi) := by
  unfold Mine.cut
  rw [h.length]
  exact (h.drop _).take _
theorem cut_length_le {α : Type} (l : List α) (lo hi : Option Int) : (cut l lo hi).length ≤ l.length := by
  unfold cut; rw [List.length_take, List.length_drop]; omega

theorem Obj.mapSeq_set_plain (its : Array Value) (n : Nat) (j : Nat) (x : Value) : ∃ n', Obj.mapSeq (·.setIfInBounds j x) { cls := .type "list", data := .seq its n } = { cls := .type "list", data := .seq (its.setIfInBounds j x) n' } := by
  exact ⟨_, rfl⟩
theorem setItem_plain {prog : Program} {w : World} {A : Around} {E : Value → Shared → Prop} {s : Shared} {l : Addr} {items : Array Value} {k : Int} {t : Tok} {v : Value} {Q : Unit → Shared → Prop} (hp : s.heap.PlainList l items)
    (h0 : 0 ≤ k) (hfit : k < 2 ^ 63) (hn : k < items.size)
    (hQ : ∀ h', h'.PlainList l (items.setIfInBounds k.toNat v) → Heap.SameBut l s.heap h' → Q () { s with heap := h' }) :
    wpAny (model prog w) A (setItem (.ref l) (.int k t) v) Q E s := by
  have hl := hp.isList
  obtain ⟨n, ho⟩ := hp
  unfold setItem
  try with_reducible refine wpAny_holding ?_
  first | refine wpAny_bind (wpAny_pure ?_) | skip
  refine wpAny_bind (wpAny_sequenceKey hl.typeIs (by decide) ?_)
  refine wpAny_bind (wpAny_callSpecial?_slot (name := Str.ofString "__setitem__") hl.typeIs slot_list_setitem
    (wpAny_call_entry slot_list_setitem hl.typeIs entry_list_setitem ?_ (args_list_setitem _ _ _)))
  show wpAny _ _ (Builtin.List.listSubscript? (.int k t) >>= _) _ _ s
  refine wpAny_bind (wpAny_listSubscript_int (fitsIndex_of h0 hfit) ?_)
  clear hfit
  obtain ⟨j, rfl⟩ := Int.eq_ofNat_of_zero_le h0
  have hj : j < items.size := by omega
  have hx' : items[j]? = some items[j] := Array.getElem?_eq_getElem hj
  show wpAny _ _ ((seqItemAt l j >>= fun r => pure (r.map (j, ·))) >>= _) _ _ s
  refine wpAny_bind (wpAny_bind (wpAny_seqItemAt ho rfl (wpAny_pure ?_)))
  rw [hx']
  show wpAny _ _ (setSeqItemAt l j v >>= _) _ _ s
  obtain ⟨n', hd'⟩ := Obj.mapSeq_set_plain items n j v
  have hfin : (s.heap.update l (Obj.mapSeq (·.setIfInBounds j v))).PlainList l (items.setIfInBounds j v) :=
    ⟨n', by rw [← hd']; exact Heap.get?_update_self _ ho (by rw [hd']; rfl)⟩
  refine wpAny_bind (wpAny_setSeqItemAt ho rfl ?_)
  first
    | exact wpAny_bind (wpAny_pure (wpAny_pure ⟨.none, rfl, wpAny_pure (hQ _ hfin (Heap.SameBut.update ..))⟩))
    | exact wpAny_pure ⟨.none, rfl, wpAny_pure (hQ _ hfin (Heap.SameBut.update ..))⟩

section
variable {c : Cx} {env : Env} {D : Nat} {l : Loc} {σ : Hp} {Q : V → Hp → Prop}

-- SUBSCRIPTS
theorem ev_item {o i : Expr} {pos : Pos} (h : EV c env D (eval o env) l σ fun ov σ₁ => EV c env D (eval i env) l σ₁ fun iv σ₂ => EV2 c env D ov iv (subscriptTail o i) l σ₂ Q) : EV c env D (eval (.Subscript o i pos) env) l σ Q := by
  intro A g ρ z s Q' E' ok R q
  refine Subscript_ (h A g ρ z s _ _ ok R fun ov ow σ1 ρ1 z1 s1 h1 R1 G1 r1 => ?_)
  refine h1 A g ρ1 z1 s1 _ _ ok R1 fun iv iw σ2 ρ2 z2 s2 h2 R2 G2 r2 => ?_
  exact h2 A g ρ2 z2 s2 _ _ _ _ ok R2 (r1.mono G2.toExt) r2 fun v w σ' ρ' z' s' hq R' G' r' => q v w σ' ρ' z' s' hq R' ((G1.trans G2).trans G') r'
/-- that the slice is no slice display -/
def PlainIx (o i : Expr) : Prop := ∀ (a b : Value), (∃ ops, subscripted i false a b = operate ops (getItem a b))
variable {oe ie : Expr}
theorem ei_list {i : Nat} {vs : List V} {k : Int} {v : V} (hi : σ[i]? = some (.list vs)) (h0 : 0 ≤ k) (hz : k < 2 ^ 63) (hv : vs[k.toNat]? = some v) (h : Q v σ)
    (hs : ∀ a b t, subscripted ie false (.ref a) (.int b t) = operate [.ref a, .int b t] (getItem (.ref a) (.int b t)) := by intro _ _ _; with_unfolding_all rfl) : EV2 c env D (.ref i) (.int k) (subscriptTail oe ie) l σ Q := by
  intro A g ρ z s Q' E' w₁ w₂ ok R r₁ r₂ q
  cases r₁ with
  | ref hr =>
    cases r₂
    obtain ⟨ws, n, h1, h2, h3, h4⟩ := R.toRp.list hi hr
    obtain ⟨w, hw, rw'⟩ := h2.get hv
    exact tail_any (Heap.IsList.typeIs (isList_of h1)) slot_list_getitem.lookup (wpAny_getItem_list (isList_of h1) h0 hz (by simpa using hw) (q _ _ _ _ _ _ h R (Go.refl ..) rw')) (hs _ _ _)
theorem ei_lst {vs : List V} {k : Int} {v : V} (h0 : 0 ≤ k) (hz : k < 2 ^ 63) (hv : vs[k.toNat]? = some v) (h : Q v σ)
    (hs : ∀ a b t, subscripted ie false (.ref a) (.int b t) = operate [.ref a, .int b t] (getItem (.ref a) (.int b t)) := by intro _ _ _; with_unfolding_all rfl) : EV2 c env D (.lst vs) (.int k) (subscriptTail oe ie) l σ Q := by
  intro A g ρ z s Q' E' w₁ w₂ ok R r₁ r₂ q
  cases r₁ with
  | lst hm h2 =>
    cases r₂
    obtain ⟨w, hw, rw'⟩ := h2.get hv
    have h1 := (R.frz _ hm).1
    exact tail_any (Heap.IsList.typeIs (isList_of h1)) slot_list_getitem.lookup (wpAny_getItem_list (isList_of h1) h0 hz (by simpa using hw) (q _ _ _ _ _ _ h R (Go.refl ..) rw')) (hs _ _ _)
theorem ei_tup {vs : List V} {k : Int} {v : V} (h0 : 0 ≤ k) (hz : k < 2 ^ 63) (hv : vs[k.toNat]? = some v) (h : Q v σ)
    (hs : ∀ a b t, subscripted ie false (.ref a) (.int b t) = operate [.ref a, .int b t] (getItem (.ref a) (.int b t)) := by intro _ _ _; with_unfolding_all rfl) : EV2 c env D (.tup vs) (.int k) (subscriptTail oe ie) l σ Q := by
  intro A g ρ z s Q' E' w₁ w₂ ok R r₁ r₂ q
  cases r₁ with
  | tup hm h2 =>
    cases r₂
    obtain ⟨w, hw, rw'⟩ := h2.get hv
    have h1 := (R.frz _ hm).1
    have hlt := (List.getElem?_eq_some_iff.mp hw).1
    refine item_tupleT (j := k.toNat) (isTup_of h1) (by omega) hz ?_ hw (q _ _ _ _ _ _ h R (Go.refl ..) rw') (hs _ _ _)
    unfold seqIndex?
    obtain ⟨j, rfl⟩ := Int.eq_ofNat_of_zero_le h0
    simp at hlt ⊢
    omega
theorem ei_bytes {b : List UInt8} {k : Int} (hz : b.length ≤ 1000000) (h0 : 0 ≤ k) (h1 : k < b.length) (h : Q (.int (b.getD k.toNat 0).toNat) σ)
    (hs : ∀ a t b u, subscripted ie false (.bytes a t) (.int b u) = operate [.bytes a t, .int b u] (getItem (.bytes a t) (.int b u)) := by intro _ _ _ _; with_unfolding_all rfl) : EV2 c env D (.bytes b) (.int k) (subscriptTail oe ie) l σ Q := by
  intro A g ρ z s Q' E' w₁ w₂ ok R r₁ r₂ q
  cases r₁; cases r₂
  refine tail_any (typeIs_bytes _ _ _) FB.slot_bytes_getitem.lookup (getItem_bytes (by omega) h0 h1 ?_) (hs _ _ _ _)
  exact q _ _ _ _ _ _ h (R.toks _) (Go.toks ..) (.int _ _)

-- DICTS WITH INTS AS KEYS
theorem idict_at {p : Program} {w : World} {h : Heap} {a : Addr} {o : Obj} {ks : List Int} {ws : List Value} (e : h.get? a = some o) (d : IDict o ks ws) : h.DictOf (intKind p w) a (ks.zip ws) := Heap.dictOf_iff.mpr ⟨o, e, d.2 p w⟩
theorem zip_valueAt {z : Led} {ρ : List Addr} {k : Int} {v : V} : ∀ {ks : List Int} {vs : List V} {ws : List Value}, ks.length = ws.length → VRL z ρ vs ws → (ks.zip vs).find? (fun p => p.1 == k) = some (k, v) → ∃ w, valueAt (ks.zip ws) k = some w ∧ VR z ρ v w
  | [], _, _, _, _, h => by simp at h
  | _ :: _, [], _, _, _, h => by simp at h
  | k' :: ks, v' :: vs, w' :: ws, e, .cons r l, h => by
    simp only [List.zip_cons_cons] at h
    unfold valueAt
    by_cases hk : k' = k
    · subst hk
      rw [List.find?_cons_of_pos (by simp)] at h
      cases h
      exact ⟨w', by simp, r⟩
    · rw [List.find?_cons_of_neg (by simpa using hk)] at h
      obtain ⟨w, hw, r'⟩ := zip_valueAt (ks := ks) (by simpa using e) l h
      refine ⟨w, ?_, r'⟩
      rw [List.zip_cons_cons, List.find?_cons_of_neg (by simpa using hk)]
      exact hw
theorem zip_valueAt_none {k : Int} : ∀ {ks : List Int} {ws : List Value}, ks.contains k = false → valueAt (ks.zip ws) k = none
  | [], _, _ => by simp [valueAt]
  | k' :: ks, [], _ => by simp [valueAt]
  | k' :: ks, w' :: ws, h => by
    simp only [List.contains_cons, Bool.or_eq_false_iff, beq_eq_false_iff_ne] at h
    have := zip_valueAt_none (ks := ks) (ws := ws) h.2
    unfold valueAt at this ⊢
    rw [List.zip_cons_cons, List.find?_cons_of_neg (by simpa using fun q : k' = k => h.1 q.symm)]
    exact this
theorem zip_valueAt_some {k : Int} : ∀ {ks : List Int} {ws : List Value}, ks.length = ws.length → ks.contains k = true → ∃ w, valueAt (ks.zip ws) k = some w
  | [], _, _, h => by simp at h
  | k' :: ks, [], e, _ => by simp at e
  | k' :: ks, w' :: ws, e, h => by
    unfold valueAt
    by_cases hk : k' = k
    · exact ⟨w', by rw [List.zip_cons_cons, List.find?_cons_of_pos (by simpa using hk)]; rfl⟩
    · rw [List.zip_cons_cons, List.find?_cons_of_neg (by simpa using hk)]
      refine zip_valueAt_some (by simpa using e) ?_
      simp only [List.contains_cons, Bool.or_eq_true, beq_iff_eq] at h
      rcases h with h | h
      · exact absurd h.symm hk
      · exact h
theorem ei_dct {ks : List Int} {vs : List V} {k : Int} {v : V} (hv : (ks.zip vs).find? (fun p => p.1 == k) = some (k, v)) (h : Q v σ)
    (hs : ∀ a b t, subscripted ie false (.ref a) (.int b t) = operate [.ref a, .int b t] (getItem (.ref a) (.int b t)) := by intro _ _ _; with_unfolding_all rfl) : EV2 c env D (.dct ks vs) (.int k) (subscriptTail oe ie) l σ Q := by
  intro A g ρ z s Q' E' w₁ w₂ ok R r₁ r₂ q
  cases r₁ with
  | dct hm hsm hd hl =>
    cases r₂
    rename_i t
    obtain ⟨w, hw, r⟩ := zip_valueAt hd.1 hl hv
    have hD := idict_at (p := c.prog) (w := c.w) (R.frz _ hm).1 hd
    exact tail_any hD.typeIs slot_dict_getitem.lookup (wpAny_getItem_of (intKind_is _ _ k t) hD.mapOf hw (q _ _ _ _ _ _ h (R.toks _) (Go.toks ..) r)) (hs _ _ _)
theorem ev_in_dct {ks : List Int} {vs : List V} {k : Int} (h : Q (.bool (ks.contains k)) σ) : EV2 c env D (.int k) (.dct ks vs) (compareOp .In) l σ Q := by
  intro A g ρ z s Q' E' w₁ w₂ ok R r₁ r₂ q
  cases r₂ with
  | dct hm hsm hd hl =>
    cases r₁
    rename_i t
    have hD := idict_at (p := c.prog) (w := c.w) (R.frz _ hm).1 hd
    refine wpAny_in_of (intKind_is _ _ k t) hsm hD.mapOf (q _ _ _ _ _ _ h (R.toks _) (Go.toks ..) ?_)
    cases e : ks.contains k with
    | false => rw [zip_valueAt_none e]; exact .bool _
    | true => obtain ⟨w, hw⟩ := zip_valueAt_some hd.1 e; rw [hw]; exact .bool _
theorem ev_notin_dct {ks : List Int} {vs : List V} {k : Int} (h : Q (.bool (!ks.contains k)) σ) : EV2 c env D (.int k) (.dct ks vs) (compareOp .NotIn) l σ Q := by
  intro A g ρ z s Q' E' w₁ w₂ ok R r₁ r₂ q
  cases r₂ with
  | dct hm hsm hd hl =>
    cases r₁
    rename_i t
    have hD := idict_at (p := c.prog) (w := c.w) (R.frz _ hm).1 hd
    refine wpAny_notIn_of (intKind_is _ _ k t) hsm hD.mapOf (q _ _ _ _ _ _ h (R.toks _) (Go.toks ..) ?_)
    cases e : ks.contains k with
    | false => rw [zip_valueAt_none e]; exact .bool _
    | true => obtain ⟨w, hw⟩ := zip_valueAt_some hd.1 e; rw [hw]; exact .bool _

-- STORES
theorem eu_list {Q : Hp → Prop} {i : Nat} {vs : List V} {k : Int} {v : V} (hi : σ[i]? = some (.list vs)) (h0 : 0 ≤ k) (hn : k < vs.length) (hz : k < 2 ^ 63) (h : Q (σ.set i (.list (vs.set k.toNat v)))) : EU3 c env D (.ref i) (.int k) v setItem l σ Q := by
  intro A g ρ z s Q' E' w₁ w₂ w₃ ok R r₁ r₂ r₃ q
  cases r₁ with
  | ref hr =>
    cases r₂
    obtain ⟨ws, n, h1, h2, h3, h4⟩ := R.toRp.list hi hr
    have hL : env.locals ≠ _ := fun e => h3 (List.mem_append_left _ (List.mem_singleton.mpr e.symm))
    refine setItem_plain ⟨n, h1⟩ h0 hz (by rw [List.size_toArray, ← h2.length]; exact hn) fun h' hp hs => ?_
    obtain ⟨n', hp⟩ := hp
    obtain ⟨P', G'⟩ := R.toRp.setList (s' := { s with heap := h' }) (ws' := ws.set k.toNat w₃) (vs' := vs.set k.toNat v) hi hr hs ⟨n', by rw [hp]; simp⟩ (h2.set _ r₃)
    exact q _ _ _ _ h (R.mk' P' (Ext.refl ..) fun m hm => hm.sameBut hs hL) G'
end
end
section
open PySem PySem.W PyProof.Rows PySem.Calls

section
variable {c : Cx} {env : Env} {D : Nat} {l : Loc} {σ : Hp} {Q : V → Hp → Prop} {QB : Bool → Hp → Prop}

-- SLICES
def EO (c : Cx) (env : Env) (D : Nat) (x : Option Expr) (l : Loc) (σ : Hp) (Q : Option Int → Hp → Prop) : Prop :=
  ∀ (A : Around) (g : Heap) (ρ : List Addr) (z : Led) (s : Shared) (Q' E' : Value → Shared → Prop), Ok A D → Rep c env g ρ z σ l s →
    (∀ i w σ' ρ' z' s', Q i σ' → Rep c env g ρ' z' σ' l s' → Go g ρ z s ρ' z' s' → IsPart w i → Q' w s') → wpAny c.M A (evalPart x env) Q' E' s
theorem eo_none {Q : Option Int → Hp → Prop} (h : Q none σ) : EO c env D none l σ Q := fun _ _ _ _ _ _ _ _ R q => evalPart_none_step (q _ _ _ _ _ _ h R (Go.refl ..) .none)
theorem eo_some {e : Expr} {Q : Option Int → Hp → Prop} (h : EV c env D (eval e env) l σ fun v σ₁ => ∃ i, v = .int i ∧ Q (some i) σ₁) : EO c env D (some e) l σ Q := fun A g ρ z s Q' E' ok R q =>
  evalPart_some_step (h A g ρ z s _ _ ok R fun v w σ1 ρ1 z1 s1 h1 R1 G1 r1 => by
    obtain ⟨i, rfl, hq⟩ := h1
    cases r1
    exact q _ _ _ _ _ _ hq R1 G1 (.int _ _))
/-- a value is cut -/
def ES (c : Cx) (env : Env) (D : Nat) (v : V) (lo hi : Option Int) (l : Loc) (σ : Hp) (Q : V → Hp → Prop) : Prop :=
  ∀ (A : Around) (g : Heap) (ρ : List Addr) (z : Led) (s : Shared) (Q' E' : Value → Shared → Prop) (w wl wu : Value) (sl : Addr), Ok A D → Rep c env g ρ z σ l s → VR z ρ v w → IsPart wl lo → IsPart wu hi → s.heap.IsSliceOf sl wl wu .none →
    (∀ v w σ' ρ' z' s', Q v σ' → Rep c env g ρ' z' σ' l s' → Go g ρ z s ρ' z' s' → VR z' ρ' v w → Q' w s') → ItemOn c.M A E' w (.ref sl) Q' s
theorem ev_slice {o : Expr} {lo hi : Option Expr} {p pos : Pos} (h : EV c env D (eval o env) l σ fun ov σ₁ => EO c env D lo l σ₁ fun a σ₂ => EO c env D hi l σ₂ fun b σ₃ => ES c env D ov a b l σ₃ Q)
    (ht : ∀ a r, letTemporaryGo o a r = pure () := by intro _ _; rfl) : EV c env D (eval (.Subscript o (.Slice lo hi none p) pos) env) l σ Q := by
  intro A g ρ z s Q' E' ok R q
  refine Subscript_Slice (h A g ρ z s _ _ ok R fun ov ow σ1 ρ1 z1 s1 h1 R1 G1 r1 => ?_) ht
  refine wpAny_Slice (h1 A g ρ1 z1 s1 _ _ ok R1 fun a wa σ2 ρ2 z2 s2 h2 R2 G2 p2 => ?_)
  refine h2 A g ρ2 z2 s2 _ _ ok R2 fun b wb σ3 ρ3 z3 s3 h3 R3 G3 p3 => ?_
  refine evalPart_none_step ?_
  have R4 := R3.junk { cls := .type "slice", data := .fields #[wa, wb, .none] }
  exact h3 A g ρ3 z3 _ _ _ ow wa wb s3.heap.objs.size ok R4 ((r1.mono G2.toExt).mono G3.toExt) p2 p3 (Heap.IsSliceOf.new ..) fun v w σ' ρ' z' s' hq R' G' r' =>
    q v w σ' ρ' z' s' hq R' (((G1.trans G2).trans G3).trans ((Go.same _ _ _ _ _ fun _ _ e => Heap.get?_push_of_some _ e).trans G')) r'
theorem es_bytes {b : List UInt8} {lo hi : Option Int} (hz : b.length ≤ 1000000) (h : Q (.bytes (cut b lo hi)) σ) : ES c env D (.bytes b) lo hi l σ Q := by
  intro A g ρ z s Q' E' w wl wu sl ok R r pl pu hs q
  cases r with
  | bytes _ t =>
    refine ⟨"bytes", _, FB.slot_bytes_getitem.lookup, typeIs_bytes _ _ _, getItem_meets (typeIs_bytes _ _ _) (by decide) FB.slot_bytes_getitem FB.entry_bytes_getitem (FB.args_bytes_getitem_2 _ _) (KBc.meets_slice2 b.toArray t sl pl pu)
      ⟨hs, Nat.le_trans (KBc.size_picked_le _ lo hi) (by rw [List.size_toArray, sizeLine_eq]; omega), fun t' k => ?_⟩⟩
    rw [cut_picked]
    exact q _ _ _ _ _ _ h (R.toks _) (Go.toks ..) (.bytes _ _)
theorem es_mkList {vs : List V} {ws : List Value} {lo hi : Option Int} {g : Heap} {ρ : List Addr} {z : Led} {s : Shared} {a sl : Addr} {n : Nat} {A : Around} {Q' E' : Value → Shared → Prop} {wl wu : Value} (R : Rep c env g ρ z σ l s) (hz : vs.length ≤ 1000000) (e : s.heap.get? a = some (listOf ws.toArray n)) (hl : VRL z ρ vs ws)
    (pl : IsPart wl lo) (pu : IsPart wu hi) (hs : s.heap.IsSliceOf sl wl wu .none) (h : Q (.ref σ.length) (σ ++ [.list (cut vs lo hi)]))
    (q : ∀ v w σ' ρ' z' s', Q v σ' → Rep c env g ρ' z' σ' l s' → Go g ρ z s ρ' z' s' → VR z' ρ' v w → Q' w s') : ItemOn c.M A E' (.ref a) (.ref sl) Q' s := by
  refine ⟨"list", _, slot_list_getitem.lookup, (isList_of e).typeIs, wpAny_getItem_list_slice (isList_of e) hs pl pu .none (by simp) ?_ (by have := hl.length; rw [List.size_toArray, sizeLine_eq]; omega)⟩
  rw [cut_pick]
  obtain ⟨P', G', r'⟩ := R.toRp.newList (vs := cut vs lo hi) (ws := cut ws lo hi) (n := 0) (hl.cut lo hi)
  exact q _ _ _ _ _ _ h (R.mk' P' G'.toExt fun m hm => hm.push _) G' r'
theorem es_list {i : Nat} {vs : List V} {lo hi : Option Int} (hi' : σ[i]? = some (.list vs)) (hz : vs.length ≤ 1000000) (h : Q (.ref σ.length) (σ ++ [.list (cut vs lo hi)])) : ES c env D (.ref i) lo hi l σ Q := by
  intro A g ρ z s Q' E' w wl wu sl ok R r pl pu hs q
  cases r with
  | ref hr =>
    obtain ⟨ws, n, h1, h2, h3, h4⟩ := R.toRp.list hi' hr
    exact es_mkList R hz h1 h2 pl pu hs h q
theorem es_lst {vs : List V} {lo hi : Option Int} (hz : vs.length ≤ 1000000) (h : Q (.ref σ.length) (σ ++ [.list (cut vs lo hi)])) : ES c env D (.lst vs) lo hi l σ Q := by
  intro A g ρ z s Q' E' w wl wu sl ok R r pl pu hs q
  cases r with
  | lst hm h2 => exact es_mkList R hz (R.frz _ hm).1 h2 pl pu hs h q

theorem adjust_run (a b n : Nat) (ha : a ≤ n) : Builtin.Slice.sliceAdjust (some (a : Int)) (some (b : Int)) 1 (n : Int) = ((a : Int), ((min b n : Nat) : Int)) := by
  unfold Builtin.Slice.sliceAdjust
  simp
  omega
theorem places_run (a b : Nat) : Builtin.Slice.slicePlaces (a : Int) (b : Int) 1 = b - a := by
  unfold Builtin.Slice.slicePlaces
  have h1 : (1 : Int) > 0 := by omega
  simp only [h1, if_true, Int.ediv_one]
  split <;> omega
theorem sliceApplied_run {prog : Program} {w : World} {A : Around} {E : Value → Shared → Prop} {s : Shared} {sl : Addr} {a b n : Nat} {u u' : Tok} {Q : Int × Int × Nat → Shared → Prop} (hs : s.heap.IsSliceOf sl (.int a u) (.int b u') .none) (ha : a ≤ n) (h : Q ((a : Int), 1, min b n - a) s) :
    wpAny (model prog w) A (Builtin.Slice.sliceApplied (.ref sl) (pure (n : Int))) Q E s := by
  obtain ⟨os, hos, hcs, hds⟩ := id hs
  unfold Builtin.Slice.sliceApplied Builtin.Slice.sliceFields
  refine wpAny_bind (wpAny_bind (wpAny_field hos hds (x := .int a u) rfl (wpAny_bind (wpAny_field hos hds (x := .int b u') rfl (wpAny_bind (wpAny_field hos hds (x := .none) rfl (wpAny_pure ?_)))))))
  refine wpAny_bind (slicePart_none ?_)
  show wpAny _ _ (if ((1 : Int) == 0) = true then _ else _) _ _ s
  rw [if_neg (by decide)]
  refine wpAny_bind (slicePart_int (wpAny_bind (slicePart_int (wpAny_bind (wpAny_pure ?_)))))
  show wpAny _ _ (match Builtin.Slice.sliceAdjust (some (a : Int)) (some (b : Int)) 1 (n : Int) with | (lo, hi) => pure (lo, (1 : Int), Builtin.Slice.slicePlaces lo hi 1)) _ _ s
  rw [adjust_run a b n ha]
  show wpAny _ _ (pure ((a : Int), (1 : Int), Builtin.Slice.slicePlaces (a : Int) ((min b n : Nat) : Int) 1)) _ _ s
  rw [places_run a (min b n)]
  exact wpAny_pure h
theorem es_tup {vs : List V} {a b : Nat} (ha : a ≤ vs.length) (hz : vs.length ≤ 1000000) (h : Q (.tup ((vs.drop a).take (b - a))) σ) : ES c env D (.tup vs) (some (a : Int)) (some (b : Int)) l σ Q := by
  intro A g ρ z s Q' E' w wl wu sl ok R r pl pu hs q
  have r0 := r
  cases r with
  | tup hm hl =>
    rename_i ws t n
    have ht : IsTup s.heap t ws.toArray := isTup_of (R.frz _ hm).1
    have hlen := hl.length
    refine ⟨"tuple", _, slot_tuple_getitem.lookup, ht.typeIs, ?_⟩
    obtain ⟨os, hos, hcs, hds⟩ := id hs
    have hTs : s.TypeIs (.ref sl) "slice" := ⟨os, hos, hcs⟩
    cases pl with
    | int _ u =>
      cases pu with
      | int _ u' =>
        show wpAny c.M A (getItem (.ref t) (.ref sl)) Q' E' s
        unfold getItem
        try with_reducible refine wpAny_holding ?_
        first | refine wpAny_bind (wpAny_pure ?_) | skip
        refine wpAny_bind (wpAny_sequenceKey ht.typeIs (by decide) ?_)
        refine wpAny_bind (wpAny_callSpecial?_slot (name := Str.ofString "__getitem__") ht.typeIs slot_tuple_getitem
          (wpAny_call_entry slot_tuple_getitem ht.typeIs entry_tuple_getitem ?_ (args_tuple_getitem _ _)))
        show wpAny _ _ (Builtin.Tuple.tupleItemsOf (.ref t) >>= _) _ _ s
        refine wpAny_bind (tupleItemsOf_ ht ?_)
        refine wpAny_bind (wpAny_typeOf hTs ?_)
        rw [if_pos (by decide)]
        refine wpAny_bind (sliceApplied_run hs (by rw [List.size_toArray, ← hlen]; exact ha) ?_)
        rw [List.size_toArray, ← hlen]
        have epick : (((List.range (min b vs.length - a)).filterMap fun (k : Nat) => (ws.toArray)[((a : Int) + (k : Int) * 1).toNat]?).toArray : Array Value) = ((ws.drop a).take (b - a)).toArray := by
          have e : (fun (k : Nat) => (ws.toArray)[((a : Int) + (k : Int) * 1).toNat]?) = fun k => (ws.toArray)[a + k]? := by
            funext k
            have : ((a : Int) + (k : Int) * 1).toNat = a + k := by omega
            rw [this]
          rw [e]
          have := pick_run ws.toArray a (min b vs.length - a)
          rw [List.filterMap_map] at this
          have e2 : ((fun x => (ws.toArray)[x]?) ∘ fun x => a + x) = fun k => (ws.toArray)[a + k]? := rfl
          rw [e2] at this
          rw [this]
          show ((ws.drop a).take (min b vs.length - a)).toArray = _
          rw [hlen]
          congr 1
          by_cases hb : b ≤ ws.length
          · rw [Nat.min_eq_left hb]
          · rw [Nat.min_eq_right (by omega), List.take_of_length_le (by simp), List.take_of_length_le (by simp; omega)]
        show wpAny _ _ (if ((a : Int) == 0 && (1 : Int) == 1 && (min b vs.length - a) == vs.length) = true then _ else _) _ _ s
        by_cases hw : ((a : Int) == 0 && (1 : Int) == 1 && (min b vs.length - a) == vs.length) = true
        · rw [if_pos hw]
          have hw' := hw
          simp only [Bool.and_eq_true, beq_iff_eq] at hw'
          have ha0 : a = 0 := by omega
          have hb : vs.length ≤ b := by omega
          have eV : (vs.drop a).take (b - a) = vs := by
            subst ha0
            rw [List.drop_zero]; exact List.take_of_length_le (by omega)
          rw [eV] at h
          have fin := q _ _ _ _ _ _ h R (Go.refl ..) r0
          refine wpAny_bind (wpAny_bind (wpAny_typeOf ht.typeIs (wpAny_pure ?_)))
          rw [if_pos (by rfl)]
          first
            | exact wpAny_bind (wpAny_rule (wpAny_bind (wpAny_pure (wpAny_pure ⟨_, rfl, wpAny_pure fin⟩))))
            | exact wpAny_bind (wpAny_rule (wpAny_bind (wpAny_pure (wpAny_pure (wpAny_pure ⟨_, rfl, wpAny_pure fin⟩)))))
            | exact wpAny_bind (wpAny_rule (wpAny_pure ⟨_, rfl, wpAny_pure fin⟩))
            | exact wpAny_bind (wpAny_rule (wpAny_bind (wpAny_pure ⟨_, rfl, wpAny_pure fin⟩)))
        · rw [if_neg hw, epick]
          have hsz : sizeOk (.seq (List.take (b - a) (List.drop a ws)).toArray) := by
            show (List.take (b - a) (List.drop a ws)).toArray.size ≤ sizeLine
            rw [List.size_toArray, List.length_take, List.length_drop, sizeLine_eq]; omega
          obtain ⟨P', G', r'⟩ := R.toRp.newTup (vs := (vs.drop a).take (b - a)) (ws := (ws.drop a).take (b - a)) (n := 0) ((hl.drop a).take _)
          have fin := q _ _ _ _ _ _ h (R.mk' P' G'.toExt fun m hm => hm.push _) G' r'
          first
            | exact wpAny_bind (m := Builtin.Tuple.tupleExact _) (wpAny_newObj_type (wpAny_pure ⟨_, rfl, wpAny_pure fin⟩) hsz)
            | exact wpAny_bind (m := Builtin.Tuple.tupleExact _) (wpAny_newObj_type (wpAny_bind (wpAny_pure (wpAny_pure ⟨_, rfl, wpAny_pure fin⟩))) hsz)
            | exact wpAny_bind (wpAny_bind (m := Builtin.Tuple.tupleExact _) (wpAny_newObj_type (wpAny_pure (wpAny_pure ⟨_, rfl, wpAny_pure fin⟩)) hsz))
            | exact wpAny_bind (wpAny_bind (m := Builtin.Tuple.tupleExact _) (wpAny_newObj_type (wpAny_pure ⟨_, rfl, wpAny_pure fin⟩) hsz))
end
end
section
open PySem PySem.W PyProof.Rows PySem.Calls

section
variable {c : Cx} {env : Env} {D : Nat} {l : Loc} {σ : Hp} {Q : V → Hp → Prop} {QB : Bool → Hp → Prop} {pos : Pos}

-- DISPLAYS
theorem ev_list {es : List Expr} (h : EL c env D pos es l σ fun vs σ₁ => vs.length ≤ 1000000 ∧ Q (.ref σ₁.length) (σ₁ ++ [.list vs])) : EV c env D (eval (.List es pos) env) l σ Q := by
  intro A g ρ z s Q' E' ok R q
  refine List_ (h.2 A g ρ z s _ _ ok R fun vs ws σ1 ρ1 z1 s1 h1 R1 G1 r1 => ?_)
  obtain ⟨P', G', r'⟩ := R1.toRp.newList (n := 0) r1
  exact wpAny_newObj_type (q _ _ _ _ _ _ h1.2 (R1.mk' P' G'.toExt fun m hm => hm.push _) (G1.trans G') r') (by show ws.toArray.size ≤ sizeLine; have := r1.length; have := h1.1; rw [List.size_toArray, sizeLine_eq]; omega)
theorem ev_tuple {es : List Expr} {k : Nat} (h : EL c env D pos es l σ fun vs σ₁ => vs.length ≤ 1000000 ∧ Q (.tup vs) σ₁) : EV c env D (eval (.Tuple es k pos) env) l σ Q := by
  intro A g ρ z s Q' E' ok R q
  refine Tuple_ (h.2 A g ρ z s _ _ ok R fun vs ws σ1 ρ1 z1 s1 h1 R1 G1 r1 => ?_)
  obtain ⟨P', G', r'⟩ := R1.toRp.newTup (n := 0) r1
  exact wpAny_newObj_type (q _ _ _ _ _ _ h1.2 (R1.mk' P' G'.toExt fun m hm => hm.push _) (G1.trans G') r') (by show ws.toArray.size ≤ sizeLine; have := r1.length; have := h1.1; rw [List.size_toArray, sizeLine_eq]; omega)

-- LISTS ADDED, REPEATED
/-- a value is a list of these items -/
inductive LsOf (σ : Hp) : V → List V → Prop
  | own {i vs} : σ[i]? = some (.list vs) → LsOf σ (.ref i) vs
  | lst {vs} : LsOf σ (.lst vs) vs
theorem LsOf.at {g X ρ z} {s : Shared} {v : V} {vs : List V} {w : Value} (h : LsOf σ v vs) (P : Rp c g X ρ z σ s) (r : VR z ρ v w) : ∃ a ws n, w = .ref a ∧ s.heap.get? a = some (listOf ws.toArray n) ∧ VRL z ρ vs ws := by
  cases h with
  | own hi =>
    cases r with
    | ref hr => obtain ⟨ws, n, h1, h2, _⟩ := P.list hi hr; exact ⟨_, ws, n, rfl, h1, h2⟩
  | lst =>
    cases r with
    | lst hm hl => exact ⟨_, _, _, rfl, (P.frz _ hm).1, hl⟩
theorem ev_addL {v₁ v₂ : V} {vs₁ vs₂ : List V} (h₁ : LsOf σ v₁ vs₁) (h₂ : LsOf σ v₂ vs₂) (hz : vs₁.length + vs₂.length ≤ 1000000) (h : Q (.ref σ.length) (σ ++ [.list (vs₁ ++ vs₂)])) : EV2 c env D v₁ v₂ (binaryOp .Add) l σ Q := by
  intro A g ρ z s Q' E' w₁ w₂ ok R r₁ r₂ q
  obtain ⟨a, ws, n, rfl, e1, l1⟩ := h₁.at R.toRp r₁
  obtain ⟨a', ws', n', rfl, e2, l2⟩ := h₂.at R.toRp r₂
  refine PySem.P.add_list e1 e2 ?_ (by have := l1.length; have := l2.length; rw [List.size_toArray, List.size_toArray, sizeLine_eq]; omega)
  obtain ⟨P', G', r'⟩ := R.toRp.newList (n := 0) (l1.append l2)
  have e : (ws.toArray ++ ws'.toArray : Array Value) = (ws ++ ws').toArray := by simp
  rw [e]
  exact q _ _ _ _ _ _ h (R.mk' P' G'.toExt fun m hm => hm.push _) G' r'
theorem VRL.rep {z : Led} {ρ : List Addr} {vs ws} (h : VRL z ρ vs ws) : ∀ n, VRL z ρ (List.replicate n vs).flatten (List.replicate n ws).flatten
  | 0 => .nil
  | n + 1 => by simp only [List.replicate_succ, List.flatten_cons]; exact h.append (h.rep n)
theorem foldl_rep (xs : Array Value) : ∀ (n : Nat) (acc : Array Value), List.foldl (fun x1 x2 => x1 ++ x2) acc (List.replicate n xs) = acc ++ (List.replicate n xs.toList).flatten.toArray
  | 0, acc => by simp
  | n + 1, acc => by
    rw [List.replicate_succ, List.foldl_cons, foldl_rep xs n, Array.append_assoc]
    congr 1
    apply Array.toList_inj.mp
    simp [List.replicate_succ]
theorem ev_mulL {v₁ : V} {vs : List V} {k : Int} (h₁ : LsOf σ v₁ vs) (hk0 : -1000000 ≤ k) (hk : k ≤ 1000000) (hz : vs.length * k.toNat ≤ 1000000) (h : Q (.ref σ.length) (σ ++ [.list (List.replicate k.toNat vs).flatten])) : EV2 c env D v₁ (.int k) (binaryOp .Mult) l σ Q := by
  intro A g ρ z s Q' E' w₁ w₂ ok R r₁ r₂ q
  obtain ⟨a, ws, n, rfl, e1, l1⟩ := h₁.at R.toRp r₁
  cases r₂
  rename_i u
  have hsz : ws.toArray.size * k.toNat ≤ 2 ^ 24 := by rw [List.size_toArray, ← l1.length]; omega
  refine wpAny_binaryOp_repeat_ref (T := "list") (U := "int") (by decide) ⟨_, e1, rfl⟩ (fun s' => typeIs_int s' k u) noFill_list_mul F.fills_int_mul F.slot_int_rmul repeat_list F.slot_int_index.lookup
    (call_meets F.slot_int_rmul (typeIs_int s k u) F.entry_int_rmul (F.args_int_rmul_2 _ _) (int___rmul___int_list k u a ws.toArray n)
      ⟨e1, rfl, ⟨_, e1, rfl⟩, call_meets F.slot_list_mul ⟨_, e1, rfl⟩ F.entry_list_mul (F.args_list_mul_2 _ _)
        (AutoListH.list___mul___list_int_3 a ws.toArray n k u (by simp [Builtin.List.listFitsIndex]; omega) (by omega) (by simp [Builtin.List.listTooLong, sizeLine]; simp at hsz; omega))
        ⟨e1, ?_⟩⟩)
  obtain ⟨P', G', r'⟩ := R.toRp.newList (n := 0) (l1.rep k.toNat)
  have e : List.foldl (fun x1 x2 => x1 ++ x2) #[] (List.replicate (if ws.toArray.isEmpty = true then 0 else k.toNat) ws.toArray) = (List.replicate k.toNat ws).flatten.toArray := by
    rw [foldl_rep]
    by_cases hw : ws.toArray.isEmpty = true
    · rw [if_pos hw]
      have : ws = [] := by simpa using hw
      subst this; simp
    · rw [if_neg hw]; simp
  rw [e]
  exact q _ _ _ _ _ _ h (R.mk' P' G'.toExt fun m hm => hm.push _) G' r'

-- IDENTITY
theorem ev_is_none {v : V} {b : Bool} (hb : match v with | .none => b = true | .int _ => b = false | .bool _ => b = false | .bytes _ => b = false | .str _ => b = false | .ref _ => b = false | .tup _ => b = false | .lst _ => b = false | .obj _ _ => b = false | .dct _ _ => b = false | .ntup _ _ => b = false | _ => False) (h : Q (.bool b) σ) :
    EV2 c env D v .none (compareOp .Is) l σ Q := by
  intro A g ρ z s Q' E' w₁ w₂ ok R r₁ r₂ q
  have r2 := r₂
  cases r₂
  have fin := q _ _ _ _ _ _ h R (Go.refl ..) (.bool b)
  cases r₁ <;> first | exact hb.elim | (subst hb; exact wpAny_is_plain rfl fin)
theorem ev_isnot_none {v : V} {b : Bool} (hb : match v with | .none => b = false | .int _ => b = true | .bool _ => b = true | .bytes _ => b = true | .str _ => b = true | .ref _ => b = true | .tup _ => b = true | .lst _ => b = true | .obj _ _ => b = true | .dct _ _ => b = true | .ntup _ _ => b = true | _ => False) (h : Q (.bool b) σ) :
    EV2 c env D v .none (compareOp .IsNot) l σ Q := by
  intro A g ρ z s Q' E' w₁ w₂ ok R r₁ r₂ q
  have r2 := r₂
  cases r₂
  have fin := q _ _ _ _ _ _ h R (Go.refl ..) (.bool b)
  cases r₁ <;> first | exact hb.elim | (subst hb; exact wpAny_isNot_plain rfl fin)
theorem ev_isnot_self {a : Addr} (h : Q (.bool false) σ) : EV2 c env D (.val (.ref a)) (.val (.ref a)) (compareOp .IsNot) l σ Q := by
  intro A g ρ z s Q' E' w₁ w₂ ok R r₁ r₂ q
  cases r₁; cases r₂
  exact wpAny_isNot_ref_self (q _ _ _ _ _ _ h R (Go.refl ..) (.bool _))

-- MEMBERS
def eqA : V → V → Bool
  | .int a, .int b => a == b
  | .bool a, .bool b => a == b
  | .bool a, .int b => (if a then 1 else 0) == b
  | .int a, .bool b => a == (if b then 1 else 0)
  | .none, .none => true
  | _, _ => false
def V.atom : V → Bool
  | .int _ => true
  | .bool _ => true
  | .none => true
  | _ => false
def eqW : Value → Value → Bool
  | .int a _, .int b _ => a == b
  | .bool a, .bool b => a == b
  | .bool a, .int b _ => (if a then 1 else 0) == b
  | .int a _, .bool b => a == (if b then 1 else 0)
  | .none, .none => true
  | _, _ => false
theorem eqW_eq {z : Led} {ρ : List Addr} {v u : V} {y x : Value} (hv : v.atom = true) (hu : u.atom = true) (r : VR z ρ v y) (r' : VR z ρ u x) : eqW y x = eqA v u := by
  cases r <;> (try cases hv) <;> cases r' <;> (try cases hu) <;> rfl
theorem eqW_at {z : Led} {ρ : List Addr} {v u : V} {y x : Value} (hv : v.atom = true) (hu : u.atom = true) (r : VR z ρ v y) (r' : VR z ρ u x) (A : Around) (s : Shared) : SeqAt.EqAt A s y x (eqW y x) ∧ eqW y x = eqA v u := by
  cases r <;> (try cases hv) <;> cases r' <;> (try cases hu) <;> refine ⟨?_, rfl⟩
  · exact SeqAt.EqAt.same _
  · exact SeqAt.EqAt.none_bool _
  · exact SeqAt.EqAt.none_int _ _
  · exact SeqAt.EqAt.bool_none _
  · exact SeqAt.EqAt.bool_bool _ _
  · exact SeqAt.EqAt.bool_int _ _ _
  · exact SeqAt.EqAt.int_none _ _
  · exact SeqAt.EqAt.int_bool _ _ _
  · exact SeqAt.EqAt.int_int _ _ _ _
theorem VRL.mem {z : Led} {ρ : List Addr} : ∀ {vs ws}, VRL z ρ vs ws → ∀ y ∈ ws, ∃ v ∈ vs, VR z ρ v y
  | _, _, .cons h l, y, hy => by
    rcases List.mem_cons.mp hy with rfl | hy
    · exact ⟨_, .head _, h⟩
    · obtain ⟨v, h1, h2⟩ := l.mem y hy; exact ⟨v, .tail _ h1, h2⟩
theorem VRL.anyEq {z : Led} {ρ : List Addr} {u : V} {x : Value} (hu : u.atom = true) (r' : VR z ρ u x) : ∀ {vs ws}, VRL z ρ vs ws → vs.all V.atom = true → ws.any (eqW · x) = vs.any (eqA · u)
  | _, _, .nil, _ => rfl
  | _, _, .cons h l, ha => by
    simp only [List.all_cons, Bool.and_eq_true] at ha
    rw [List.any_cons, List.any_cons, l.anyEq hu r' ha.2, eqW_eq ha.1 hu h r']
theorem in_atoms {z : Led} {ρ : List Addr} {u : V} {x : Value} {vs ws} (hu : u.atom = true) (r' : VR z ρ u x) (hl : VRL z ρ vs ws) (ha : vs.all V.atom = true) (A : Around) (s : Shared) : ∀ y, y ∈ ws.toArray → SeqAt.EqAt A s y x (eqW y x) := fun y hy => by
  obtain ⟨v, h1, h2⟩ := hl.mem y (by simpa using hy)
  exact (eqW_at (List.all_eq_true.mp ha v h1) hu h2 r' A s).1
theorem ev_in_tup {u : V} {vs : List V} (hu : u.atom = true) (ha : vs.all V.atom = true) (h : Q (.bool (vs.any (eqA · u))) σ) : EV2 c env D u (.tup vs) (compareOp .In) l σ Q := by
  intro A g ρ z s Q' E' w₁ w₂ ok R r₁ r₂ q
  cases r₂ with
  | tup hm hl =>
    have e := VRL.anyEq hu r₁ hl ha
    refine SeqAt.in_tupleAt (fun y => eqW y w₁) ⟨_, (R.frz _ hm).1, rfl, _, rfl⟩ (in_atoms hu r₁ hl ha _ _) (q _ _ _ _ _ _ h R (Go.refl ..) ?_)
    rw [← e]; simp only [List.any_toArray]; exact .bool _
theorem ev_notin_tup {u : V} {vs : List V} (hu : u.atom = true) (ha : vs.all V.atom = true) (h : Q (.bool (!vs.any (eqA · u))) σ) : EV2 c env D u (.tup vs) (compareOp .NotIn) l σ Q := by
  intro A g ρ z s Q' E' w₁ w₂ ok R r₁ r₂ q
  cases r₂ with
  | tup hm hl =>
    have e := VRL.anyEq hu r₁ hl ha
    refine SeqAt.notIn_tupleAt (fun y => eqW y w₁) ⟨_, (R.frz _ hm).1, rfl, _, rfl⟩ (in_atoms hu r₁ hl ha _ _) (q _ _ _ _ _ _ h R (Go.refl ..) ?_)
    rw [← e]; simp only [List.any_toArray]; exact .bool _
theorem ev_in_list {u v : V} {vs : List V} (hu : u.atom = true) (hv : LsOf σ v vs) (ha : vs.all V.atom = true) (h : Q (.bool (vs.any (eqA · u))) σ) : EV2 c env D u v (compareOp .In) l σ Q := by
  intro A g ρ z s Q' E' w₁ w₂ ok R r₁ r₂ q
  obtain ⟨a, ws, n, rfl, e1, hl⟩ := hv.at R.toRp r₂
  have e := VRL.anyEq hu r₁ hl ha
  refine SeqAt.in_listAt (fun y => eqW y w₁) (isList_of e1) (in_atoms hu r₁ hl ha _ _) (q _ _ _ _ _ _ h R (Go.refl ..) ?_)
  rw [← e]; simp only [List.any_toArray]; exact .bool _

-- TRUTH
theorem et_bytes {b : List UInt8} (hz : b.length ≤ 1000000) (h : QB (!b.isEmpty) σ) : ET c env D (.bytes b) l σ QB := by
  intro A g ρ z s Q' E' w ok R r q
  cases r with
  | bytes _ t =>
    refine truthy_bytes (by rw [List.size_toArray]; omega) ?_
    have : (((b.toArray.size : Nat) : Int) != 0) = !b.isEmpty := by cases b <;> simp; omega
    rw [this]
    exact q _ _ _ _ _ h (R.toks _) (Go.toks ..)
theorem et_list {v : V} {vs : List V} (hv : LsOf σ v vs) (hz : vs.length ≤ 1000000) (h : QB (!vs.isEmpty) σ) : ET c env D v l σ QB := by
  intro A g ρ z s Q' E' w ok R r q
  obtain ⟨a, ws, n, rfl, e1, hl⟩ := hv.at R.toRp r
  have hlen := hl.length
  refine wpAny_truthy_list (isList_of e1) (by rw [List.size_toArray]; omega) ?_
  have : (!ws.toArray.isEmpty) = !vs.isEmpty := by cases vs <;> cases ws <;> simp_all
  rw [this]
  exact q _ _ _ _ _ h (R.toks _) (Go.toks ..)
theorem et_tup {vs : List V} (hz : vs.length ≤ 1000000) (h : QB (!vs.isEmpty) σ) : ET c env D (.tup vs) l σ QB := by
  intro A g ρ z s Q' E' w ok R r q
  cases r with
  | tup hm hl =>
    rename_i ws a n
    have hlen := hl.length
    refine truthy_tuple (isTup_of (R.frz _ hm).1) (by rw [List.size_toArray]; omega) ?_
    have : (!ws.toArray.isEmpty) = !vs.isEmpty := by cases vs <;> cases ws <;> simp_all
    rw [this]
    exact q _ _ _ _ _ h (R.toks _) (Go.toks ..)

-- TARGETS
/-- targets are bound, one after the other -/
def EAs (c : Cx) (env : Env) (D : Nat) (ts : List Expr) (vs : List V) (l : Loc) (σ : Hp) (Q : Loc → Hp → Prop) : Prop :=
  ∀ (A : Around) (g : Heap) (ρ : List Addr) (z : Led) (s : Shared) (Q' : Unit → Shared → Prop) (E' : Value → Shared → Prop) (ws : List Value), Ok A D → Rep c env g ρ z σ l s → VRL z ρ vs ws →
    (∀ l' σ' ρ' z' s', Q l' σ' → Rep c env g ρ' z' σ' l' s' → Go g ρ z s ρ' z' s' → Q' () s') → wpAny c.M A (assignInOrder ((assignEach ts env).map (·.2)) ws) Q' E' s
theorem eas_nil {Q : Loc → Hp → Prop} (h : Q l σ) : EAs c env D [] [] l σ Q := fun _ _ _ _ _ _ _ _ _ R r q => by
  cases r; exact wpAny_assignInOrder_none (q _ _ _ _ _ h R (Go.refl ..))
theorem eas_cons {t : Expr} {ts : List Expr} {v : V} {vs : List V} {Q : Loc → Hp → Prop} (h : EA c env D t v l σ fun l₁ σ₁ => EAs c env D ts vs l₁ σ₁ Q) (he : assignEach (t :: ts) env = (false, assign t env) :: assignEach ts env := by kernel_rfl) : EAs c env D (t :: ts) (v :: vs) l σ Q := by
  intro A g ρ z s Q' E' ws ok R r q
  cases r with
  | cons r1 r2 =>
    rw [he]
    refine wpAny_assignInOrder_more (h A g ρ z s _ _ _ ok R r1 fun l1 σ1 ρ1 z1 s1 h1 R1 G1 => ?_)
    exact h1 A g ρ1 z1 s1 _ _ _ ok R1 (r2.mono G1.toExt) fun l' σ' ρ' z' s' hq R' G' => q _ _ _ _ _ hq R' (G1.trans G')
theorem Rep.grown {g : Heap} {ρ : List Addr} {z : Led} {s : Shared} {h' : Heap} (R : Rep c env g ρ z σ l s) (e : Heap.ExtBut s.heap.objs.size s.heap h') : Rep c env g ρ z σ l { s with heap := h' } ∧ Go g ρ z s ρ z { s with heap := h' } := by
  have k : ∀ b o, s.heap.get? b = some o → h'.get? b = some o := fun b o eb => e b o (Nat.ne_of_lt (Heap.lt_size eb)) eb
  exact ⟨R.grow (s' := { s with heap := h' }) k, Go.same _ _ _ _ _ k⟩
theorem ea_tuple {ts : List Expr} {k : Nat} {vs : List V} {Q : Loc → Hp → Prop} (h : EAs c env D ts vs l σ Q) (hn : (assignEach ts env).length = vs.length := by rfl) (hstar : (assignEach ts env).findIdx? (·.1) = none := by rfl) : EA c env D (.Tuple ts k pos) (.tup vs) l σ Q := by
  intro A g ρ z s Q' E' w ok R r q
  cases r with
  | tup hm hl =>
    refine assign_Tuple_tuple ok.h (isTup_of (R.frz _ hm).1) (by rw [List.size_toArray, ← hl.length]; exact hn) hstar fun h' e => ?_
    obtain ⟨R1, G1⟩ := R.grown e
    exact h A g ρ z _ _ _ _ ok R1 hl fun l' σ' ρ' z' s' hq R' G' => q _ _ _ _ _ hq R' (G1.trans G')
end
end
section
open PySem PySem.W PyProof.Rows PySem.Calls PySem.Builtin
namespace FX
theorem slot_isdigit : Slot "bytes" "isdigit" "bytes.isdigit" :=
  .of (owner := "bytes") (n := "isdigit") (by rw [typeLookup_type, builtinLookup_eq_fast]; kernel_rfl) (by decide +kernel) (by decide +kernel) (by decide +kernel)
    (by first | exact .inl (by decide +kernel) | exact .inr (by decide +kernel)) (by rw [isSubtype_type]; kernel_rfl)
theorem type_isdigit : typeOf (.builtin "bytes.isdigit") = pure (.type "method_descriptor") := by show builtinType _ = _; rw [builtinType_eq_fast]; kernel_rfl
theorem entry_isdigit : entryFor table "bytes.isdigit" = some Builtin.«bytes.isdigit» := entryFor_of_tree (by kernel_rfl)
theorem args_isdigit (a : Value) : argsOk "bytes.isdigit" ⟨[a], []⟩ := by
  unfold argsOk; rw [signature?_of (id := "bytes.isdigit") (n := "isdigit".toList.reverse) (o := ['s', 'e', 't', 'y', 'b']) (by kernel_rfl) PySem.W.FB.owner_bytes]; kernel_rfl
theorem gives_isdigit (b : Array UInt8) (t : Tok) : Gives («bytes.isdigit» ⟨[.bytes b t], []⟩) (.val (.bool (Bytes.allOf Bytes.isDigit b.toList))) := .of_eq rfl
theorem slot_find : Slot "bytes" "find" "bytes.find" :=
  .of (owner := "bytes") (n := "find") (by rw [typeLookup_type, builtinLookup_eq_fast]; kernel_rfl) (by decide +kernel) (by decide +kernel) (by decide +kernel)
    (by first | exact .inl (by decide +kernel) | exact .inr (by decide +kernel)) (by rw [isSubtype_type]; kernel_rfl)
theorem type_find : typeOf (.builtin "bytes.find") = pure (.type "method_descriptor") := by show builtinType _ = _; rw [builtinType_eq_fast]; kernel_rfl
theorem entry_find : entryFor table "bytes.find" = some Builtin.«bytes.find» := entryFor_of_tree (by kernel_rfl)
theorem args_find (a b : Value) : argsOk "bytes.find" ⟨[a, b], []⟩ := by
  unfold argsOk; rw [signature?_of (id := "bytes.find") (n := "find".toList.reverse) (o := ['s', 'e', 't', 'y', 'b']) (by kernel_rfl) PySem.W.FB.owner_bytes]; kernel_rfl
theorem args_decode2 (a b : Value) : argsOk "bytes.decode" ⟨[a, b], []⟩ := by
  unfold argsOk; rw [signature?_of (id := "bytes.decode") (n := "decode".toList.reverse) (o := ['s', 'e', 't', 'y', 'b']) (by kernel_rfl) PySem.W.FB.owner_bytes]; kernel_rfl
theorem meets_contains (b : Array UInt8) (t : Tok) (k : Int) (u : Tok) (h0 : 0 ≤ k) (h1 : k < 256) : Meets («bytes.__contains__» ⟨[.bytes b t, .int k u], []⟩) (fun _ R s => R (.ok (.ret (.bool (b.contains k.toNat.toUInt8)))) s) := by
  refine .of_wp fun prog w A R s hS => ?_
  show wpAny _ _ (Bytes.containsIn "bytes.__contains__" (.bytes b t) (.int k u) >>= fun r => ret (.bool r)) _ _ s
  refine wpAny_bind ?_
  unfold Bytes.containsIn
  refine wpAny_bind (wpAny_attempt (wpAny_of_eq (rfl : asIndex (.int k u) = pure k) ?_))
  refine wpAny_bind (wpAny_of_eq KBy.buffer_eq ?_)
  refine wpAny_ite (KBy.ite_no (by simp; omega) ?_)
  exact wpAny_pure (wpAny_pure ⟨_, rfl, hS⟩)
/-- the first place of a part -/
def findB (b sub : Array UInt8) : Int := match (if (b.size : Int) - 0 < sub.size then none else some (0, b.size)).bind fun (p : Nat × Nat) => Bytes.find? b sub p.1 p.2 with | some i => i | none => -1
theorem meets_find (b c : Array UInt8) (t u : Tok) : Meets («bytes.find» ⟨[.bytes b t, .bytes c u], []⟩) (fun _ R s => R (.ok (.ret (.int (findB b c) s.toks))) { s with toks := s.toks + 1 }) := by
  refine .of_wp fun prog w A R s hS => ?_
  show wpAny _ _ (Bytes.searchArgs .bytes "find" ⟨[.bytes b t, .bytes c u], []⟩ >>= fun r => _) _ _ s
  refine wpAny_bind ?_
  unfold Bytes.searchArgs
  refine wpAny_bind (wpAny_of_eq (a := (.bytes b t, [.bytes c u])) rfl ?_)
  refine wpAny_bind (wpAny_of_eq (a := none) rfl ?_)
  refine wpAny_bind (wpAny_of_eq (a := none) rfl ?_)
  dsimp only [List.headD]
  refine wpAny_bind (wpAny_of_eq KBy.buffer_eq ?_)
  dsimp only
  refine wpAny_bind (wpAny_pure ?_)
  refine wpAny_bind (wpAny_of_eq (a := b) rfl ?_)
  refine wpAny_pure ?_
  have e : Bytes.window b.size none none = (0, (b.size : Int)) := by
    simp [Bytes.window]
    rw [if_neg (by omega)]; omega
  rw [e]
  unfold findB at hS
  by_cases hw : (b.size : Int) - 0 < c.size
  · rw [if_pos hw] at hS
    rw [if_pos (by simpa using hw)]
    dsimp only [Option.bind_none] at hS ⊢
    refine wpAny_bind (wpAny_rule ?_)
    show wpAny _ _ (retInt (-1)) _ _ s
    exact wpAny_bind (wpAny_mkInt (wpAny_pure ⟨_, rfl, hS⟩))
  · rw [if_neg hw] at hS
    rw [if_neg (by simpa using hw)]
    dsimp only [Option.bind_some] at hS ⊢
    have e2 : ((b.size : Int)).toNat = b.size := by simp
    have e3 : (0 : Int).toNat = 0 := rfl
    simp only [e2, e3]
    cases hf : Bytes.find? b c 0 b.size with
    | some i =>
      rw [hf] at hS
      exact wpAny_bind (wpAny_mkInt (wpAny_pure ⟨_, rfl, hS⟩))
    | none =>
      rw [hf] at hS
      refine wpAny_bind (wpAny_rule ?_)
      show wpAny _ _ (retInt (-1)) _ _ s
      exact wpAny_bind (wpAny_mkInt (wpAny_pure ⟨_, rfl, hS⟩))
theorem road_ascii {id : String} {b : Array UInt8} : _codecs.decodeRoad id b (PySem.Str.ofString "ascii") none [] = (_codecs.runDecoder id _codecs.asciiDecoder none true b 0 [] >>= fun r => mkStr ⟨r.1⟩) := by kernel_rfl
theorem run_ascii1 {id : String} {x : UInt8} (hx : x.toNat < 128) : _codecs.runDecoder id _codecs.asciiDecoder none true #[x] 0 [] = pure (#[x.toNat], 1) := by
  have hs : ¬ (0 > sizeLine) := by rw [sizeLine_eq]; omega
  have h1 : ¬ (1 > sizeLine) := by rw [sizeLine_eq]; omega
  simp [_codecs.runDecoder, _codecs.asciiDecoder, _codecs.Found.char, Std.Legacy.Range.forIn_eq_forIn_range', Std.Legacy.Range.size, List.range', hx, hs]
theorem run_ascii2 {id : String} {x y : UInt8} (hx : x.toNat < 128) (hy : y.toNat < 128) : _codecs.runDecoder id _codecs.asciiDecoder none true #[x, y] 0 [] = pure (#[x.toNat, y.toNat], 2) := by
  have hs : ¬ (0 > sizeLine) := by rw [sizeLine_eq]; omega
  have h1 : ¬ (1 > sizeLine) := by rw [sizeLine_eq]; omega
  simp [_codecs.runDecoder, _codecs.asciiDecoder, _codecs.Found.char, Std.Legacy.Range.forIn_eq_forIn_range', Std.Legacy.Range.size, List.range', hx, hy, hs, h1]
theorem run_ascii3 {id : String} {x y z : UInt8} (hx : x.toNat < 128) (hy : y.toNat < 128) (hz : z.toNat < 128) : _codecs.runDecoder id _codecs.asciiDecoder none true #[x, y, z] 0 [] = pure (#[x.toNat, y.toNat, z.toNat], 3) := by
  have hs : ¬ (0 > sizeLine) := by rw [sizeLine_eq]; omega
  have h1 : ¬ (1 > sizeLine) := by rw [sizeLine_eq]; omega
  have h2 : ¬ (2 > sizeLine) := by rw [sizeLine_eq]; omega
  simp [_codecs.runDecoder, _codecs.asciiDecoder, _codecs.Found.char, Std.Legacy.Range.forIn_eq_forIn_range', Std.Legacy.Range.size, List.range', hx, hy, hz, hs, h1, h2]
theorem int_text1 : ∀ a : Fin 10, PySem.intText? ⟨#[48 + a.val]⟩ = some (a.val : Int) := by decide +kernel
theorem int_text2 : ∀ a b : Fin 10, PySem.intText? ⟨#[48 + a.val, 48 + b.val]⟩ = some ((10 * a.val + b.val : Nat) : Int) := by decide +kernel
theorem int_text3 : ∀ a b c : Fin 10, PySem.intText? ⟨#[48 + a.val, 48 + b.val, 48 + c.val]⟩ = some ((100 * a.val + 10 * b.val + c.val : Nat) : Int) := by decide +kernel
end FX

namespace FX
theorem entry_decode2 {x : UInt8} {xs : List UInt8} {t u : Tok} : «bytes.decode» ⟨[.bytes (x :: xs).toArray t, .str (PySem.Str.ofString "ascii") u], []⟩ = (mkStr (PySem.Str.ofString "utf-8") >>= fun _ => mkStr (PySem.Str.ofString "ascii") >>= fun e => mkStr (PySem.Str.ofString "bytes.decode") >>= fun d =>
    call (.builtin "_codecs.decode.text") [.bytes (x :: xs).toArray t, e, .none, d] >>= fun v => ret v) := by kernel_rfl
theorem meets_textA {b : Array UInt8} {t t1 t2 : Tok} {d x : PySem.Str} {n : Nat} (hd : ∀ id, _codecs.runDecoder id _codecs.asciiDecoder none true b 0 [] = pure (x.cps, n)) :
    Meets («_codecs.decode.text» ⟨[.bytes b t, .str (PySem.Str.ofString "ascii") t1, .none, .str d t2], []⟩) (fun _ R s => x.length ≤ sizeLine ∧ R (.ok (.ret (.str x s.toks))) { s with toks := s.toks + 1 }) := by
  refine .of_wp fun prog w A R s hS => ?_
  obtain ⟨hsz, h⟩ := hS
  show wpAny _ _ (Bytes.bytesLike _ (.bytes b t) >>= fun r => _) _ _ s
  refine wpAny_bind (wpAny_of_eq KBd.like_eq ?_)
  refine wpAny_bind (wpAny_of_eq KBd.held_eq ?_)
  show wpAny _ _ (_codecs.decodeRoad _ b (PySem.Str.ofString "ascii") none [] >>= fun v => _) _ _ s
  rw [road_ascii, hd]
  refine wpAny_bind (wpAny_bind (wpAny_pure ?_))
  exact wpAny_mkStr (wpAny_pure ⟨_, rfl, h⟩) hsz
theorem meets_decodeA {y : UInt8} {ys : List UInt8} {t u : Tok} {x : PySem.Str} {n : Nat} (hd : ∀ id, _codecs.runDecoder id _codecs.asciiDecoder none true (y :: ys).toArray 0 [] = pure (x.cps, n)) :
    Meets («bytes.decode» ⟨[.bytes (y :: ys).toArray t, .str (PySem.Str.ofString "ascii") u], []⟩) (fun _ R s => x.length ≤ sizeLine ∧ ∀ t' k, R (.ok (.ret (.str x t'))) { s with toks := k }) := by
  refine .of_wp fun prog w A R s hS => ?_
  obtain ⟨hsz, h⟩ := hS
  rw [entry_decode2]
  refine wpAny_bind (wpAny_mkStr ?_ (by decide))
  refine wpAny_bind (wpAny_mkStr ?_ (by decide))
  refine wpAny_bind (wpAny_mkStr ?_ (by decide))
  exact wpAny_bind (call_function_meets KBd.kind_text KBd.plain_text KBd.entry_text (KBd.args_text _ _ _ _) (meets_textA hd) ⟨hsz, wpAny_pure ⟨_, rfl, h _ _⟩⟩)
end FX
/-- the ascii text of some bytes -/
inductive Ascii : List UInt8 → PySem.Str → Prop
  | one {x} : x.toNat < 128 → Ascii [x] ⟨#[x.toNat]⟩
  | two {x y} : x.toNat < 128 → y.toNat < 128 → Ascii [x, y] ⟨#[x.toNat, y.toNat]⟩
  | three {x y z} : x.toNat < 128 → y.toNat < 128 → z.toNat < 128 → Ascii [x, y, z] ⟨#[x.toNat, y.toNat, z.toNat]⟩

section
variable {c : Cx} {env : Env} {D : Nat} {l : Loc} {σ : Hp} {Q : V → Hp → Prop} {QB : Bool → Hp → Prop} {pos : Pos}
theorem em_bytes {b : List UInt8} {name : PySem.Str} {id : String} {QM : V → List V → Hp → Prop} (slot : Slot "bytes" name id) (ty : typeOf (.builtin id) = pure (.type "method_descriptor")) (h : QM (.val (.builtin id)) [.bytes b] σ) : EM c env D (.bytes b) name l σ QM := by
  intro A g ρ z s Q' E' w pl ok R r q
  have r0 := r
  cases r with
  | bytes _ t => exact KBd.method_of (.bytes b.toArray t) (typeIs_bytes _ _ _) slot ty KBd.noRef (q _ _ _ _ _ _ _ _ h R (Go.refl ..) (.val _) (.cons r0 .nil))
theorem fn_isdigit {b : List UInt8} (h : Q (.bool (Bytes.allOf Bytes.isDigit b)) σ) : FN c D (.val (.builtin "bytes.isdigit")) [.bytes b] [] σ Q := by
  refine fn1 fun A g ρ z s Q' E' w ok P r q => ?_
  cases r with
  | bytes _ t =>
    have fin := q _ _ _ _ _ _ h P (Go.refl ..) (.bool _)
    exact call_meets FX.slot_isdigit (typeIs_bytes _ _ _) FX.entry_isdigit (FX.args_isdigit _) (FX.gives_isdigit b.toArray t).meets (show (Made.val (.bool (Bytes.allOf Bytes.isDigit b.toArray.toList))).post _ s from fin)
theorem fn_find {b x : List UInt8} (h : Q (.int (FX.findB b.toArray x.toArray)) σ) : FN c D (.val (.builtin "bytes.find")) [.bytes b, .bytes x] [] σ Q := by
  refine fn2 fun A g ρ z s Q' E' w₁ w₂ ok P r₁ r₂ q => ?_
  cases r₁; cases r₂
  exact call_meets FX.slot_find (typeIs_bytes _ _ _) FX.entry_find (FX.args_find _ _) (FX.meets_find _ _ _ _) (q _ _ _ _ _ _ h (P.toks _) (Go.toks ..) (.int _ _))
theorem fn_decode {b : List UInt8} {x : PySem.Str} (ha : Ascii b x) (h : Q (.str x) σ) : FN c D (.val (.builtin "bytes.decode")) [.bytes b, .str "ascii"] [] σ Q := by
  refine fn2 fun A g ρ z s Q' E' w₁ w₂ ok P r₁ r₂ q => ?_
  cases r₁; cases r₂
  have hsz : x.length ≤ sizeLine := by cases ha <;> (rw [sizeLine_eq]; exact Nat.le_of_ble_eq_true rfl)
  have fin := fun t' k => q _ _ _ _ _ _ h (P.toks k) (Go.toks ..) (.str x t')
  cases ha with
  | one hx => exact call_meets FB.slot_bytes_decode (typeIs_bytes _ _ _) FB.entry_bytes_decode (FX.args_decode2 _ _) (FX.meets_decodeA (n := 1) fun id => FX.run_ascii1 hx) ⟨hsz, fin⟩
  | two hx hy => exact call_meets FB.slot_bytes_decode (typeIs_bytes _ _ _) FB.entry_bytes_decode (FX.args_decode2 _ _) (FX.meets_decodeA (n := 2) fun id => FX.run_ascii2 hx hy) ⟨hsz, fin⟩
  | three hx hy hz => exact call_meets FB.slot_bytes_decode (typeIs_bytes _ _ _) FB.entry_bytes_decode (FX.args_decode2 _ _) (FX.meets_decodeA (n := 3) fun id => FX.run_ascii3 hx hy hz) ⟨hsz, fin⟩
theorem fn_int_text {x : PySem.Str} {n : Int} (hn : PySem.intText? x = some n) (hl : x.length ≤ 640) (h : Q (.int n) σ) : FN c D (.val (.type "int")) [.str x] [] σ Q := by
  refine fn1 fun A g ρ z s Q' E' w ok P r q => ?_
  cases r
  exact KIN.call_text hn hl (q _ _ _ _ _ _ h (P.toks _) (Go.toks ..) (.int _ _))
theorem ev_in_bytes {b : List UInt8} {k : Int} (h0 : 0 ≤ k) (h1 : k < 256) (h : Q (.bool (b.contains k.toNat.toUInt8)) σ) : EV2 c env D (.int k) (.bytes b) (compareOp .In) l σ Q := by
  intro A g ρ z s Q' E' w₁ w₂ ok R r₁ r₂ q
  cases r₁; cases r₂
  refine SeqRoads2.in_meets (typeIs_bytes _ _ _) FB.slot_bytes_contains FB.entry_bytes_contains (FB.args_bytes_contains_2 _ _) (FX.meets_contains _ _ _ _ h0 h1) ⟨_, rfl, q _ _ _ _ _ _ h R (Go.refl ..) ?_⟩
  have : b.toArray.contains k.toNat.toUInt8 = b.contains k.toNat.toUInt8 := by simp
  rw [this]; exact .bool _
theorem ev_notin_bytes {b : List UInt8} {k : Int} (h0 : 0 ≤ k) (h1 : k < 256) (h : Q (.bool (!b.contains k.toNat.toUInt8)) σ) : EV2 c env D (.int k) (.bytes b) (compareOp .NotIn) l σ Q := by
  intro A g ρ z s Q' E' w₁ w₂ ok R r₁ r₂ q
  cases r₁; cases r₂
  refine SeqRoads2.notIn_meets (typeIs_bytes _ _ _) FB.slot_bytes_contains FB.entry_bytes_contains (FB.args_bytes_contains_2 _ _) (FX.meets_contains _ _ _ _ h0 h1) ⟨_, rfl, q _ _ _ _ _ _ h R (Go.refl ..) ?_⟩
  have : b.toArray.contains k.toNat.toUInt8 = b.contains k.toNat.toUInt8 := by simp
  rw [this]; exact .bool _
theorem vrl_ints {z : Led} {ρ : List Addr} : ∀ {ns : List Int} {ws : List Value}, VRL z ρ (ns.map V.int) ws → IntsAre ws ns
  | [], _, .nil => .nil
  | _ :: _, _, .cons r l => by cases r; exact .cons _ _ (vrl_ints l)
theorem fn_bytes {v : V} {ns : List Int} (hv : LsOf σ v (ns.map V.int)) (hr : ∀ n ∈ ns, 0 ≤ n ∧ n < 256) (hz : ns.length ≤ 1000000) (h : Q (.bytes (ns.map fun n => n.toNat.toUInt8)) σ) : FN c D (.val (.type "bytes")) [v] [] σ Q := by
  refine fn1 fun A g ρ z s Q' E' w ok P r q => ?_
  obtain ⟨a, ws, n, rfl, e1, hl⟩ := hv.at P r
  have hi := vrl_ints hl
  refine call_bytes_ints (isList_of e1) hi hr (by have := hi.length; rw [sizeLine_eq]; omega) ok.h fun h' t k kk => ?_
  exact q _ _ _ _ _ _ h (P.grow (s' := { s with heap := h', toks := k }) kk) (Go.same _ _ _ _ _ kk) (.bytes _ _)
theorem intsAre_items : ∀ {ws : List Value} {ns : List Int}, IntsAre ws ns → ∃ xs : List (Int × Tok), ws = xs.map (fun p => Value.int p.1 p.2) ∧ xs.map (·.1) = ns
  | _, _, .nil => ⟨[], rfl, rfl⟩
  | _, _, .cons n t h => by
    obtain ⟨xs, rfl, e⟩ := intsAre_items h
    exact ⟨(n, t) :: xs, rfl, by simp [e]⟩
theorem fn_sum {v : V} {ns : List Int} (hv : LsOf σ v (ns.map V.int)) (h : Q (.int ns.sum) σ) : FN c D (.val (.builtin "sum")) [v] [] σ Q := by
  refine fn1 fun A g ρ z s Q' E' w ok P r q => ?_
  obtain ⟨a, ws, n, rfl, e1, hl⟩ := hv.at P r
  obtain ⟨xs, rfl, e⟩ := intsAre_items (vrl_ints hl)
  have hL : s.heap.IsList a (intItems xs.toArray) := by
    have := isList_of e1
    simpa [intItems] using this
  refine sum_intListG ok.h hL fun h' tk t' kk => ?_
  have e2 : preSum (numAt xs.toArray) xs.toArray.size = ns.sum := by
    rw [preSum_eq, List.take_of_length_le (by simp)]
    simp [e]
  rw [e2]
  exact q _ _ _ _ _ _ h (P.grow (s' := { s with heap := h', toks := tk }) kk) (Go.same _ _ _ _ _ kk) (.int _ _)
end
end
section
open PySem PySem.W PyProof.Rows PySem.Calls

/-- a code table has grown -/
theorem Rp.tabCh {c : Cx} {g X ρ z σ} {s s' : Shared} {cc P : Addr} {ps : Array Value} (R : Rp c g X ρ z σ s) (ht : (cc, P) ∈ c.tt) (hu : ∀ t ∈ c.tt, t.2 = P → t = (cc, P)) (hX : P ∉ X) (hs : Heap.ExtBut P s.heap s'.heap) (hc : s'.heap.IsCode cc P ps) (hc2 : s'.heap.TableAt cc P ps)
    (h1 : s'.os = s.os := by rfl) (h2 : s'.drawn = s.drawn := by rfl) (h3 : s'.gens = s.gens := by rfl) : Rp c g X ρ z σ s' := by
  obtain ⟨led, a', b, d⟩ := R.own
  have hP : P ∈ X ++ c.tk := List.mem_append_right _ (List.mem_map_of_mem (f := (·.2)) ht)
  have eP : ∃ o, s'.heap.get? P = some o := let ⟨o, vs, file, tf, flags, tg, inF, text, tt, op, a, r1, r2, r3, r4, r5, r6, b, r⟩ := hc; ⟨op, b⟩
  refine ⟨R.base, fun x o e => hs x o (fun q => ?_) (R.keep x o e), ⟨led, a', b, fun p hp => ⟨hs p.1 _ (fun q => (d p hp).2.2.1 (by rw [q]; exact hP)) (d p hp).1, (d p hp).2⟩⟩,
    fun q hq => ⟨hs q.1 _ (fun e => (R.frz q hq).2 (by rw [e]; exact hP)) (R.frz q hq).1, (R.frz q hq).2⟩, fun x hx => ⟨(R.off x hx).1, ?_⟩, fun t ht' => ?_, h1 ▸ R.os, h2 ▸ R.dr, h3 ▸ R.gens, R.kz⟩
  · rw [q, (R.off _ hP).1] at e; cases e
  · by_cases q : x = P
    · rw [q]; exact eP
    · obtain ⟨o, e⟩ := (R.off x hx).2; exact ⟨o, hs x o q e⟩
  · by_cases q : t.2 = P
    · rw [hu t ht' q]; exact ⟨ps, hc, hc2⟩
    · obtain ⟨ps', i1⟩ := R.tabs t ht'
      have e1 : t.1 ≠ P := fun q => by
        obtain ⟨ob, eb⟩ := R.base.codes t ht'
        rw [q, (R.off _ hP).1] at eb; cases eb
      exact ⟨ps', i1.1.extBut hs e1 q, i1.2.extBut hs e1 q⟩
/-- generators have come and gone -/
theorem Rp.gensCh {c : Cx} {g X ρ z σ} {s : Shared} {gs : Array GenState} (R : Rp c g X ρ z σ s) (h : c.gi gs) : Rp c g X ρ z σ { s with gens := gs } := ⟨R.base, R.keep, R.own, R.frz, R.off, R.tabs, R.os, R.dr, h, R.kz⟩

section
variable {c : Cx} {env : Env} {D : Nat} {l : Loc} {σ : Hp} {Q : V → Hp → Prop}

/-- all(elt for x in data), over bytes, where elt asks one octet and changes nothing -/
theorem genexprCodeT {prog : Program} {w : World} {A : Around} {E : Value → Shared → Prop} {s : Shared} {env : Env} {c P : Addr} {ps : Array Value} {pos : Pos} {qualname : Str} {scope : Scope} {Q : Value → Shared → Prop} (hc : env.code = .ref c) (hok : s.heap.IsCode c P ps) (htab : s.heap.TableAt c P ps)
    (hQ : ∀ code h' tk ps', Heap.ExtBut P s.heap h' → h'.IsCode c P ps' → h'.TableAt c P ps' → Q code { s with heap := h', toks := tk }) :
    wpAny (model prog w) A (genexprCode env pos qualname scope) Q E s := by
  cases q : codeAmong pos ps.toList with
  | some c' => exact wpAny_genexprCode_hit hc hok q (hQ c' s.heap s.toks ps (fun _ _ _ e => e) hok htab)
  | none => exact wpAny_genexprCodeX hc hok htab q fun c' h' tk a _ _ b _ d _ => hQ _ _ _ _ a b d
theorem ev_all {elt iter func : Expr} {x : Str} {px gpos pos : Pos} {scope : Scope} {cl : List (Str × Addr)} {cc P : Addr} (p : UInt8 → Bool)
    (hgi : ∀ a, c.gi a ↔ AllBare a) (hcode : env.code = .ref cc) (htt : (cc, P) ∈ c.tt) (hu : ∀ t ∈ c.tt, t.2 = P → t = (cc, P))
    (hco : scope.isCoroutine = false) (hclos : closureFor scope env = pure cl) (hcell : ∀ y ∈ scope.names, y.2 ≠ .cell) (h0 : scope.names.lookup (".0" : Str) = some NameKind.local) (hx : scope.names.lookup x = some .local) (hkind : scope.kind = .function)
    (hfun : EV c env D (eval func env) l σ fun v σ₁ => v = .val (.builtin "all") ∧ σ₁ = σ)
    (h : EV c env D (eval iter env) l σ fun v σ₁ => ∃ data : List UInt8, v = .bytes data ∧
      (∀ (g : Heap) (ρ : List Addr) (z : Led) (s s₂ : Shared) (A' : Around) (E' : Value → Shared → Prop) (m₂ : Str → Option Value) (C : Addr) (code : Value) (o : UInt8) (u : Tok), Rep c env g ρ z σ₁ l s → (∀ b ob, b ∉ c.tk → s.heap.get? b = some ob → s₂.heap.get? b = some ob) → A'.handled = none → s₂.heap.Ns C m₂ → m₂ x = some (.int o.toNat u) →
        wpAny c.M A' (eval elt (genEnv scope cl C code builtinsNs env)) (fun y s₃ => y = .bool (p o) ∧ Keeps s₂ s₃) E' s₂) ∧
      Q (.bool (data.all p)) σ₁)
    (hs : ∀ y, genFold iter env y = pure y := by intro _; rfl)
    (he : eval (.Call func [.GeneratorExp elt [⟨.Name x px, iter, [], 0⟩] scope gpos] [] pos) env = (do callWith pos (← eval func env) [] (backTo pos (starEach [.GeneratorExp elt [⟨.Name x px, iter, [], 0⟩] scope gpos] env)) (backToKw pos (keywordEach [] env))) := by rfl)
    (he2 : starEach [.GeneratorExp elt [⟨.Name x px, iter, [], 0⟩] scope gpos] env = [(false, eval (.GeneratorExp elt [⟨.Name x px, iter, [], 0⟩] scope gpos) env)] := by rfl) :
    EV c env D (eval (.Call func [.GeneratorExp elt [⟨.Name x px, iter, [], 0⟩] scope gpos] [] pos) env) l σ Q := by
  intro A g ρ z s Q' E' ok R q
  rw [he]
  refine wpAny_bind (hfun A g ρ z s _ _ ok R fun vf wf σ0 ρ0 z0 s0 h0' R0 G0 r0 => ?_)
  obtain ⟨rfl, rfl⟩ := h0'
  have hplain : ((backTo pos (starEach [.GeneratorExp elt [⟨.Name x px, iter, [], 0⟩] scope gpos] env)).any (·.1) || (backToKw pos (keywordEach [] env)).any (·.1.isNone)) = false := by rw [he2]; rfl
  refine callWith_of (P := fun h => c.K.In h) hplain (fun h X => keepOk_looks (v := .val (.builtin "all")) trivial r0 h X) (evalArgs_gen (by rw [he2]; rfl) rfl ?_)
  rw [he2]
  have rm : A.depth < recursionLimit := by have := ok.d; omega
  refine args_cons (e := .GeneratorExp elt [⟨.Name x px, iter, [], 0⟩] scope gpos) (rest := []) (env := env) (pos := pos) ?_ rfl
  refine wpAny_GeneratorExp_walksQD ok.h hco hclos hcell h0 hx hkind rm ?_ hs
  refine h A g ρ0 z0 s0 _ _ ok R0 fun v w σ1 ρ1 z1 s1 h1 R1 G1 r1 => ?_
  obtain ⟨data, rfl, hel, hQ⟩ := h1
  cases r1 with
  | bytes _ t =>
  refine KBw.pyIter_bytes ?_
  have R2 := R1.junk { cls := .type "bytes_iterator", data := .fields #[.bytes data.toArray t, .int 0 0] }
  have nI : s1.heap.get? s1.heap.objs.size = none := fresh_at (Nat.le_refl _)
  have eI : (s1.heap.push { cls := .type "bytes_iterator", data := .fields #[.bytes data.toArray t, .int 0 0] }).get? s1.heap.objs.size = some { cls := .type "bytes_iterator", data := .fields #[.bytes data.toArray t, .int 0 0] } := Heap.get?_push_size _ rfl
  have k12 : ∀ b o, s1.heap.get? b = some o → (s1.heap.push { cls := .type "bytes_iterator", data := .fields #[.bytes data.toArray t, .int 0 0] }).get? b = some o := fun b o e => Heap.get?_push_of_some _ e
  generalize hs2 : ({ s1 with heap := s1.heap.push { cls := .type "bytes_iterator", data := .fields #[.bytes data.toArray t, .int 0 0] } } : Shared) = s2 at R2
  have e2h : s2.heap = s1.heap.push { cls := .type "bytes_iterator", data := .fields #[.bytes data.toArray t, .int 0 0] } := by rw [← hs2]
  rw [← e2h] at eI k12
  generalize s1.heap.objs.size = I at nI eI
  have hlim2 : s2.heap.NoLimit := R2.base.nolimit.keeps R2.keep
  refine ⟨hlim2, ?_⟩
  obtain ⟨ps, hic, htab⟩ := R2.tabs _ htt
  have pX : P ∉ [env.locals] := fun hm => R2.lt (by rw [← List.mem_singleton.mp hm]; exact List.mem_map_of_mem (f := (·.2)) htt)
  refine genexprCodeT hcode hic htab fun code h3 tk3 ps' hx3 hic3 hta3 => ?_
  have P3 : Rp c g [env.locals] ρ1 z1 σ1 { s2 with heap := h3, toks := tk3 } := R2.toRp.tabCh (s' := { s2 with heap := h3, toks := tk3 }) htt hu pX hx3 hic3 hta3
  have eP3 : ∃ o, h3.get? P = some o := let ⟨o, vs, file, tf, flags, tg, inF, text, tt, op, a, r1, r2, r3, r4, r5, r6, b, r⟩ := hic3; ⟨op, b⟩
  obtain ⟨bm, ob, hb1, hb2, hb3, hb4, hb5, hb6⟩ := P3.base.bmod
  rw [R2.glob, R2.bltn]
  refine wpAny_builtinsFor (P3.base.gl.keeps P3.keep) hb1 hb2 (P3.keep _ _ hb3) hb4 hb5 hb6 ?_
  have nIP : I ≠ P := fun e => by
    obtain ⟨o, e'⟩ := (R1.off P (List.mem_append_right _ (List.mem_map_of_mem (f := (·.2)) htt))).2
    rw [← e, nI] at e'; cases e'
  have eI3 : h3.get? I = some { cls := .type "bytes_iterator", data := .fields #[.bytes data.toArray t, .int 0 0] } := hx3 _ _ nIP eI
  have W := fun (A' : Around) (hA : A'.handled = none) => KBw.walks (prog := c.prog) (w := c.w) hA I data.toArray t
  have hls : ∃ o, s1.heap.get? cStatics = some o := by
    have := R1.base.nolimit.keeps R1.keep
    obtain ⟨m, hn, _⟩ := this
    obtain ⟨o, _, _, e, _⟩ := hn
    exact ⟨o, e⟩
  refine ⟨I, [I], [I], data.toArray.size, _, _, fun _ => true, fun i y => ∃ o, data[i]? = some o ∧ y = .bool (p o), rfl, W, ⟨_, eI3, rfl, rfl⟩, fun b hb => by rw [List.mem_singleton.mp hb]; exact Heap.lt_size eI3, P3.base.nolimit.keeps P3.keep, fun hm => ?_, fun href hk => ⟨?_, ?_⟩, ?_⟩
  · obtain ⟨o, e⟩ := hls
    rw [List.mem_singleton.mp hm, nI] at e; cases e
  · intro A' E' i v s₂ m₂ hA hD hU hP hns hm hkk
    exact wpAny_tests_nil ⟨rfl, s₂.heap, s₂.toks, rfl, fun _ _ e => e⟩
  · intro A' E' i v s₂ m₂ hA hD hU hP _ hns hm hkk
    obtain ⟨o, u, ho, rfl⟩ := hP
    refine wpAny_mono (hel g ρ1 z1 s1 s₂ A' E' m₂ _ code o u R1 (fun b ob hb e => ?_) hA hns hm) (fun y s₃ hy => ⟨⟨o, by simpa using ho, hy.1⟩, hy.2⟩) fun _ _ e => e
    have bP : b ≠ P := fun e => hb (by rw [e]; exact List.mem_map_of_mem (f := (·.2)) htt)
    have e3 : h3.get? b = some ob := hx3 _ _ bP (k12 _ _ e)
    exact hkk b (List.mem_range.mpr (Heap.lt_size e3)) (fun hm => by rw [List.mem_singleton.mp hm, nI] at e; cases e) _ (hk _ _ e3)
  · intro a h5 tk5 gs hgs hlt hsz hk5 WS hGA
    refine args_nil (wpAny_evalAll_nil ⟨?_, ?_⟩)
    · exact (P3.base.X.keeps P3.keep).keeps hk5
    · cases r0
      have WS := WS.in4_1
      have e2g : s2.gens = s1.gens := by rw [← hs2]
      have e2o : s2.os = s1.os := by rw [← hs2]
      have e2d : s2.drawn = s1.drawn := by rw [← hs2]
      have hpass : passing (fun _ => true) data.toArray.size 0 = List.range data.length := by simp [passing]
      refine call_all_walkS (WS.self 0 _ _ _ hGA ⟨a, _, _, _, _, _, _, fun j => match data[j]? with | some o => p o | none => true, rfl, WS, hGA, fun j v s' Q'' E'' hv hq => ?_, fun s' hm => ?_⟩)
      · obtain ⟨i, hi, o, ho, rfl⟩ := hv
        rw [hpass] at hi
        have hij : i = j := by
          have hlt : j < data.length := by simpa using (List.getElem?_eq_some_iff.mp hi).1
          simpa [hlt] using hi.symm
        subst hij
        simp only [ho] at hq
        exact wpAny_truthy_bool hq
      · have kall : ∀ b o, b ≠ P → s1.heap.get? b = some o → s'.heap.get? b = some o := fun b o hb e => by
          have e3 := hx3 _ _ hb (k12 _ _ e)
          refine hm.heap b o (fun hw => ?_) (hk5 _ _ e3)
          rcases List.mem_cons.mp hw with h | h
          · exact Nat.ne_of_lt (Heap.lt_size e3) h
          · rw [List.mem_singleton.mp h, nI] at e; cases e
        have hcode' : s'.heap.IsCode cc P ps' ∧ s'.heap.TableAt cc P ps' := by
          have keep3 : ∀ b o, b ≠ I → h3.get? b = some o → s'.heap.get? b = some o := fun b o hb e => hm.heap b o (fun hw => by
            rcases List.mem_cons.mp hw with h | h
            · exact Nat.ne_of_lt (Heap.lt_size e) h
            · exact hb (List.mem_singleton.mp h)) (hk5 _ _ e)
          have ncI : cc ≠ I := fun e => by
            obtain ⟨oc, ec⟩ := R1.base.codes _ htt
            have := R1.keep _ _ ec
            rw [e, nI] at this; cases this
          exact ⟨hic3.extBut (a := I) (fun b o hb e => keep3 b o hb e) ncI nIP.symm, hta3.extBut (a := I) (fun b o hb e => keep3 b o hb e) ncI nIP.symm⟩
        have P4 : Rp c g [env.locals] ρ1 z1 σ1 { s' with gens := s1.gens } := R1.toRp.tabCh (s' := { s' with gens := s1.gens }) htt hu pX (fun b o hb e => kall b o hb e) hcode'.1 hcode'.2 (hm.os.trans e2o) (hm.drawn.trans e2d) rfl
        have hb : AllBare s'.gens := by
          refine AllBare.moved (g := s2.gens.size) ?_ hm.gens
          refine AllBare.push ?_ hgs
          rw [e2g]; exact (hgi _).mp R1.gens
        have P5 : Rp c g [env.locals] ρ1 z1 σ1 s' := P4.gensCh (gs := s'.gens) ((hgi _).mpr hb)
        have nLP : env.locals ≠ P := fun e => pX (by simp [e])
        have e0 : ((List.range (passing (fun _ => true) data.toArray.size 0).length).all fun j => match data[j]? with | some o => p o | none => true) = data.all p := by
          rw [hpass, List.length_range, ← all_rangeD data p]; congr 1; funext j; cases data[j]? <;> rfl
        rw [e0]
        refine q _ _ _ _ _ _ hQ (R1.mk' P5 (Ext.refl ..) fun m hm' => hm'.at' fun o e => kall _ o nLP e) ((G0.trans G1).trans ⟨Ext.refl .., fun b o e => ?_, fun _ h => .inl h⟩) (.bool _)
        by_cases hbP : b = P
        · subst hbP
          obtain ⟨o, vs, file, tf, flags, tg, inF, text, tt, op, a1, r1, r2, r3, r4, r5, r6, b1, r⟩ := hcode'.1
          exact ⟨op, b1⟩
        · exact ⟨o, kall b o hbP e⟩
end
end
section
open PySem PySem.W PyProof.Rows PySem.Calls

theorem SR.append {z : Led} {R : List Addr} : ∀ {σ r l σ' r' l'}, SR z R σ r l → SR z R σ' r' l' → SR z R (σ ++ σ') (r ++ r') (l ++ l')
  | _, _, _, _, _, _, .nil, h => h
  | _, _, _, _, _, _, .cons h l, h' => by rw [List.append_assoc]; exact .cons h (l.append h')
/-- several new objects of the call's own, and addresses of the frame's -/
theorem Rp.newL {c g X ρ z σ} {s s' : Shared} {os : Hp} {as Xn : List Addr} {p : Led} (R : Rp c g X ρ z σ s) (k : ∀ b o, s.heap.get? b = some o → s'.heap.get? b = some o)
    (hp : SR z (ρ ++ as) os as p) (hn : (p.map (·.1)).Nodup) (hh : ∀ q ∈ p, s'.heap.get? q.1 = some q.2 ∧ s.heap.get? q.1 = none) (hx : ∀ x ∈ Xn, (∃ o, s'.heap.get? x = some o) ∧ s.heap.get? x = none ∧ x ∉ p.map (·.1))
    (h1 : s'.os = s.os := by rfl) (h2 : s'.drawn = s.drawn := by rfl) (h3 : s'.gens = s.gens := by rfl) : Rp c g (Xn ++ X) (ρ ++ as) z (σ ++ os) s' ∧ Ext ρ z (ρ ++ as) z := by
  have J := R.grow k h1 h2 h3
  have e : Ext ρ z (ρ ++ as) z := ⟨fun i x h => by rw [List.getElem?_append_left (List.getElem?_eq_some_iff.mp h).1]; exact h, fun _ h => h⟩
  obtain ⟨led, a', b, d⟩ := R.own
  refine ⟨⟨R.base, J.keep, ⟨led ++ p, (a'.mono e).append hp, ?_, fun q hq => ?_⟩, fun q hq => ⟨(J.frz q hq).1, fun h => ?_⟩, fun x hx' => ?_, J.tabs, J.os, J.dr, J.gens, J.kz⟩, e⟩
  · rw [List.map_append, List.nodup_append]
    refine ⟨b, hn, fun x hx y hy => ?_⟩
    obtain ⟨q, hq, rfl⟩ := List.mem_map.mp hx
    obtain ⟨q', hq', rfl⟩ := List.mem_map.mp hy
    exact fresh_ne (d q hq).1 (hh q' hq').2
  · rcases List.mem_append.mp hq with h | h
    · refine ⟨k _ _ (d q h).1, (d q h).2.1, fun hm => ?_, (d q h).2.2.2⟩
      rcases List.mem_append.mp hm with hm | hm
      · rcases List.mem_append.mp hm with hm | hm
        · exact fresh_ne (d q h).1 (hx _ hm).2.1 rfl
        · exact (d q h).2.2.1 (List.mem_append_left _ hm)
      · exact (d q h).2.2.1 (List.mem_append_right _ hm)
    · refine ⟨(hh q h).1, fresh_base R.keep (hh q h).2, fun hm => ?_, fun r hr => fresh_ne (R.frz r hr).1 (hh q h).2⟩
      rcases List.mem_append.mp hm with hm | hm
      · rcases List.mem_append.mp hm with hm | hm
        · exact (hx _ hm).2.2 (List.mem_map_of_mem h)
        · obtain ⟨_, e⟩ := (R.off _ (List.mem_append_left _ hm)).2
          rw [(hh q h).2] at e; cases e
      · obtain ⟨_, e⟩ := (R.off _ (List.mem_append_right _ hm)).2
        rw [(hh q h).2] at e; cases e
  · rcases List.mem_append.mp h with hm | hm
    · rcases List.mem_append.mp hm with hm | hm
      · exact fresh_ne (R.frz q hq).1 (hx _ hm).2.1 rfl
      · exact (R.frz q hq).2 (List.mem_append_left _ hm)
    · exact (R.frz q hq).2 (List.mem_append_right _ hm)
  · rcases List.mem_append.mp hx' with hm | hm
    · rcases List.mem_append.mp hm with hm | hm
      · exact ⟨fresh_base R.keep (hx _ hm).2.1, (hx _ hm).1⟩
      · exact J.off x (List.mem_append_left _ hm)
    · exact J.off x (List.mem_append_right _ hm)

theorem lookup_nodup {α β : Type} [BEq α] [LawfulBEq α] {x : α} {v : β} : ∀ {l : List (α × β)}, (l.map (·.1)).Nodup → (x, v) ∈ l → l.lookup x = some v
  | [], _, h => by cases h
  | (y, u) :: l, nd, h => by
    rw [List.lookup_cons]
    simp only [List.map_cons, List.nodup_cons] at nd
    rcases List.mem_cons.mp h with h1 | h1
    · cases h1; simp
    · have : (x == y) = false := by
        rw [beq_eq_false_iff_ne]; intro q; subst q; exact nd.1 (List.mem_map_of_mem (f := (·.1)) h1)
      rw [this]; exact lookup_nodup nd.2 h1
theorem bindC_miss {k : Str → Option NameKind} {x : Str} : ∀ {bs : List (Str × Value)} {m : Str → Option Value}, x ∉ bs.map (·.1) → bindC k bs m x = m x
  | [], _, _ => rfl
  | (n, v) :: r, m, h => by
    simp only [List.map_cons, List.mem_cons, not_or] at h
    simp only [bindC]
    rw [bindC_miss h.2]
    split
    · rfl
    · simp only [h.1, if_false]
theorem bindC_hit {k : Str → Option NameKind} {x : Str} {v : Value} (hk : k x ≠ some .local) : ∀ {bs : List (Str × Value)} {m : Str → Option Value}, (bs.map (·.1)).Nodup → (x, v) ∈ bs → bindC k bs m x = some v
  | [], _, _, h => by cases h
  | (n, u) :: r, m, nd, h => by
    simp only [List.map_cons, List.nodup_cons] at nd
    simp only [bindC]
    rcases List.mem_cons.mp h with h | h
    · cases h
      rw [bindC_miss nd.1, if_neg hk]; simp
    · exact bindC_hit hk nd.2 h
theorem bindL_miss {k : Str → Option NameKind} {x : Str} : ∀ {bs : List (Str × Value)} {m : Str → Option Value}, x ∉ bs.map (·.1) → bindL k bs m x = m x
  | [], _, _ => rfl
  | (n, v) :: r, m, h => by
    simp only [List.map_cons, List.mem_cons, not_or] at h
    simp only [bindL]
    rw [bindL_miss h.2]
    split
    · simp only [h.1, if_false]
    · rfl
theorem bindL_hit {k : Str → Option NameKind} {x : Str} {v : Value} (hk : k x = some .local) : ∀ {bs : List (Str × Value)} {m : Str → Option Value}, (bs.map (·.1)).Nodup → (x, v) ∈ bs → bindL k bs m x = some v
  | [], _, _, h => by cases h
  | (n, u) :: r, m, nd, h => by
    simp only [List.map_cons, List.nodup_cons] at nd
    simp only [bindL]
    rcases List.mem_cons.mp h with h | h
    · cases h
      rw [bindL_miss nd.1, if_pos hk]; simp
    · exact bindL_hit hk nd.2 h
theorem vrl_pick {z : Led} {ρ : List Addr} {x : Str} {v : V} : ∀ {bs : List (Str × V)} {binds : List (Str × Value)}, binds.map (·.1) = bs.map (·.1) → VRL z ρ (bs.map (·.2)) (binds.map (·.2)) → (x, v) ∈ bs → ∃ w, (x, w) ∈ binds ∧ VR z ρ v w
  | [], _, _, _, hm => by cases hm
  | p :: bs, [], e, _, _ => by cases e
  | p :: bs, q :: binds, e, r, hm => by
    simp only [List.map_cons, List.cons.injEq] at e
    cases r with
    | cons r1 r2 =>
      rcases List.mem_cons.mp hm with h | h
      · subst h; exact ⟨q.2, by rw [show q = (x, q.2) from Prod.ext e.1 rfl]; exact .head _, r1⟩
      · obtain ⟨w, h1, h2⟩ := vrl_pick e.2 r2 h
        exact ⟨w, .tail _ h1, h2⟩
theorem lookup_none {x : Str} {β : Type} : ∀ {l : List (Str × β)}, l.lookup x = none → x ∉ l.map (·.1)
  | [], _ => by simp
  | (y, u) :: l, h => by
    rw [List.lookup_cons] at h
    by_cases hq : (x == y) = true
    · rw [hq] at h; cases h
    · rw [Bool.not_eq_true] at hq
      rw [hq] at h
      simp only [List.map_cons, List.mem_cons, not_or]
      exact ⟨by simpa using hq, lookup_none h⟩
theorem lookup_mem {x : Str} {β : Type} {v : β} : ∀ {l : List (Str × β)}, l.lookup x = some v → (x, v) ∈ l
  | (y, u) :: l, h => by
    rw [List.lookup_cons] at h
    by_cases hq : (x == y) = true
    · rw [hq] at h
      have : x = y := by simpa using hq
      cases h; subst this; exact .head _
    · rw [Bool.not_eq_true] at hq
      rw [hq] at h
      exact .tail _ (lookup_mem h)

section
variable {c : Cx} {D : Nat} {σ : Hp}
/-- a def some of whose names live in cells is called -/
theorem fc_cells {f : Addr} {fd : FuncData} {body : List Stmt} {oc : Value} {od : Option Addr} {osl : Array (Option Value)} {args : List V} {kw : List (Str × V)} {bs : List (Str × V)} {un cn : List Str} {l : Loc} {os : Hp} {Q : V → Hp → Prop}
    (ho : c.K.lookup f = some ⟨oc, od, .func fd, osl⟩) (hbody : fd.body = .stmts body) (hcd : codeIn c.K fd.code fd.qualname = true) (hbind : BindA c fd args kw bs)
    (hcn : ∀ n, cellsFrom n fd.scope.names [] = (cn.zipIdx.map fun p => (p.1, n + p.2)).reverse) (hcnd : cn.Nodup)
    (hk1 : ∀ x ∈ bs, fd.scope.names.lookup x.1 = some .local ∨ (fd.scope.names.lookup x.1 = some .cell ∧ x.1 ∈ cn)) (hk2 : ∀ x ∈ cn, fd.scope.names.lookup x = some .cell)
    (hbnd : (bs.map (·.1)).Nodup)
    (hl : l = (bs.filter fun p => fd.scope.names.lookup p.1 == some .local) ++ un.map (fun x => (x, V.unb)) ++ cn.zipIdx.map fun p => (p.1, V.cell (σ.length + p.2))) (hos : os = cn.map fun x => AO.cell ((bs.lookup x).getD .unb)) (hnd : (l.map (·.1)).Nodup)
    (h : ∀ L, EX c (callEnvC fd L f) D (execs body (callEnvC fd L f)) l (σ ++ os) (postFn Q))
    (hclo : fd.closure = []) (hgl : fd.globals = mainGlobals) (hbl : fd.builtins = builtinsNs)
    (hco : fd.scope.isCoroutine = false := by rfl) (hgen : fd.scope.isGenerator = false := by rfl) (hk : fd.scope.kind = .function := by rfl) : FC c (D + 1) (.val (.ref f)) args kw σ Q := by
  intro A g ρ z s RR' wf ws kws ok R rf rl rk q
  cases rf
  have X := R.base.X.keeps R.keep
  obtain ⟨binds, hb, e1, e2⟩ := hbind z ρ ws kws s X rl rk
  refine codeAny_call_function (by have := ok.d; omega) (X _ _ ho) rfl hco hgen hbody (codeRec_of X hcd) (hb _ _ _ _ ?_)
  rw [hclo]
  have inCn : ∀ {x : Str} {n : Nat}, x ∈ cn → ∃ k : Nat, cn[k]? = some x ∧ (cellsFrom n fd.scope.names []).lookup x = some (n + k) := fun {x n} hx => by
    obtain ⟨k, hk', rfl⟩ := List.getElem_of_mem hx
    refine ⟨k, by simp [hk'], ?_⟩
    rw [hcn]
    refine lookup_nodup ?_ ?_
    · rw [List.map_reverse]
      refine List.pairwise_reverse.mpr ?_
      rw [List.map_map]
      have e : ((·.1) ∘ fun p : Str × Nat => (p.1, n + p.2)) = (fun p => p.1) := rfl
      rw [e, List.zipIdx_map_fst]
      exact List.Pairwise.imp (fun h => Ne.symm h) hcnd
    · rw [List.mem_reverse, List.mem_map]
      exact ⟨(cn[k], k), by rw [List.mem_zipIdx_iff_getElem?]; simp [hk'], rfl⟩
  refine wpAny_newFunctionEnv_cells hk (fun x hx => ?_) fun env he s' IC => ?_
  · have : x.1 ∈ bs.map (·.1) := e1 ▸ List.mem_map_of_mem hx
    obtain ⟨y, hy, e⟩ := List.mem_map.mp this
    rw [← e]
    rcases hk1 y hy with h | ⟨h, h'⟩
    · exact .inl h
    · obtain ⟨k, _, hl⟩ := inCn (n := s.heap.objs.size + 1) h'
      exact .inr ⟨h, by rw [hl]; rfl⟩
  subst he
  have hL : s.heap.get? s.heap.objs.size = none := fresh_at (Nat.le_refl _)
  have IC' := IC.toInCall
  have kk : ∀ b o, s.heap.get? b = some o → s'.heap.get? b = some o := IC'.keep
  have eL : ∃ o, s'.heap.get? s.heap.objs.size = some o := let ⟨o, _, _, e, _⟩ := IC'.ns; ⟨o, e⟩
  have hbnd' : (binds.map (·.1)).Nodup := by rw [e1]; exact hbnd
  -- the cells
  have cells : ∀ (R' : List Addr) (hE : Ext ρ z R' z) (xs : List (Str × Nat)), (∀ p ∈ xs, cn[p.2]? = some p.1) → ∃ led, SR z R' (xs.map fun p => AO.cell ((bs.lookup p.1).getD .unb)) (xs.map fun p => s.heap.objs.size + 1 + p.2) led ∧ led.map (·.1) = xs.map (fun p => s.heap.objs.size + 1 + p.2) ∧ ∀ q ∈ led, s'.heap.get? q.1 = some q.2 := by
    intro R' hE xs
    induction xs with
    | nil => intro _; exact ⟨[], .nil, rfl, by simp⟩
    | cons p xs ih =>
      intro hxs
      obtain ⟨led, h1, h2, h3⟩ := ih fun p hp => hxs p (.tail _ hp)
      have hp := hxs p (.head _)
      have hm : p.1 ∈ cn := List.mem_of_getElem? hp
      have hlk : (cellsFrom (s.heap.objs.size + 1) fd.scope.names []).lookup p.1 = some (s.heap.objs.size + 1 + p.2) := by
        obtain ⟨k, hk', hl'⟩ := inCn (n := s.heap.objs.size + 1) hm
        have : k = p.2 := by
          have a := (List.getElem?_eq_some_iff.mp hk')
          have b := (List.getElem?_eq_some_iff.mp hp)
          exact (List.getElem_inj hcnd).mp (a.2.trans b.2.symm)
        rw [← this]; exact hl'
      obtain ⟨o, ho', hd'⟩ := IC.cell p.1 _ hlk
      have key : PR z R' (AO.cell ((bs.lookup p.1).getD .unb)) (s.heap.objs.size + 1 + p.2) [(s.heap.objs.size + 1 + p.2, o)] := by
        cases hb' : bs.lookup p.1 with
        | none =>
          have : p.1 ∉ binds.map (·.1) := by rw [e1]; exact lookup_none hb'
          rw [bindC_miss this] at hd'
          exact .cell0 hd'
        | some v =>
          obtain ⟨w, hw, rv⟩ := vrl_pick e1 e2 (lookup_mem hb')
          rw [bindC_hit (by rw [show (newEnv fd.scope s.heap.objs.size fd.globals (cellsFrom (s.heap.objs.size + 1) fd.scope.names []) (fd.qualname ++ ".<locals>.") (some f) fd.code none fd.builtins).kindOf p.1 = some .cell from hk2 _ hm]; simp) hbnd' hw] at hd'
          exact .cell (rv.mono hE) hd'
      refine ⟨(s.heap.objs.size + 1 + p.2, o) :: led, ?_, by simp [h2], fun q hq => ?_⟩
      · have := SR.cons key h1
        simpa using this
      · rcases List.mem_cons.mp hq with rfl | hq
        · exact ho'
        · exact h3 q hq
  obtain ⟨led, h1, h2, h3⟩ := cells (ρ ++ cn.zipIdx.map fun p => s.heap.objs.size + 1 + p.2) ⟨fun i x h => by rw [List.getElem?_append_left (List.getElem?_eq_some_iff.mp h).1]; exact h, fun _ h => h⟩ cn.zipIdx (fun p hp => by
    have := List.mem_zipIdx_iff_getElem?.mp hp; simpa using this)
  have eos : (cn.zipIdx.map fun p => AO.cell ((bs.lookup p.1).getD .unb)) = os := by
    rw [hos]
    have : (fun p : Str × Nat => AO.cell ((bs.lookup p.1).getD .unb)) = (fun x => AO.cell ((bs.lookup x).getD .unb)) ∘ (fun p => p.1) := rfl
    rw [this, ← List.map_map, List.zipIdx_map_fst]
  rw [eos] at h1
  have hadd : ∀ a ∈ led.map (·.1), s.heap.objs.size + 1 ≤ a := fun a ha => by
    rw [h2] at ha
    obtain ⟨p, _, rfl⟩ := List.mem_map.mp ha
    exact Nat.le_add_right _ _
  obtain ⟨hs', tk', es'⟩ := IC'.same
  obtain ⟨P0, E0⟩ := R.newL (s' := s') (Xn := [s.heap.objs.size]) kk h1 (by
      rw [h2]
      have : (cn.zipIdx.map fun p => s.heap.objs.size + 1 + p.2) = (cn.zipIdx.map (·.2)).map (s.heap.objs.size + 1 + ·) := by rw [List.map_map]; rfl
      rw [this]
      refine List.Pairwise.map (R := (· ≠ ·)) (S := (· ≠ ·)) (fun k => s.heap.objs.size + 1 + k) (fun a b hab h => hab (Nat.add_left_cancel h)) ?_
      rw [List.zipIdx_map_snd]
      exact List.nodup_range') (fun q hq => ⟨h3 q hq, fresh_at (by have := hadd _ (List.mem_map_of_mem hq); omega)⟩) (fun x hx => by
      cases List.mem_singleton.mp hx
      exact ⟨eL, hL, fun hm => by have := hadd _ hm; omega⟩) (by rw [es']) (by rw [es']) (by rw [es'])
  have lt : s.heap.objs.size ∉ c.tk := fun hm => let ⟨_, e⟩ := (R.off _ (by simpa using hm)).2; Nat.lt_irrefl _ (Heap.lt_size e)
  have hlen : σ.length = ρ.length := let ⟨led0, a0, _⟩ := R.own; a0.length
  have RR : Rep c (callEnvC fd s.heap.objs.size f) g (ρ ++ cn.zipIdx.map fun p => s.heap.objs.size + 1 + p.2) z (σ ++ os) l s' := by
    refine ⟨P0, ⟨_, IC'.ns, fun p hp => ?_⟩, hnd, hk, hgl, hbl, lt⟩
    rw [hl] at hp
    rcases List.mem_append.mp hp with hp | hp
    · rcases List.mem_append.mp hp with hp | hp
      · rw [List.mem_filter] at hp
        have hloc : fd.scope.names.lookup p.1 = some .local := by simpa using hp.2
        obtain ⟨w, hw, rv⟩ := vrl_pick (x := p.1) (v := p.2) e1 e2 hp.1
        exact .inr (.inr ⟨hloc, w, bindL_hit hloc hbnd' hw, rv.mono E0⟩)
      · obtain ⟨x, _, rfl⟩ := List.mem_map.mp hp; exact .inl rfl
    · obtain ⟨y, hy, rfl⟩ := List.mem_map.mp hp
      have hy' : cn[y.2]? = some y.1 := by have := List.mem_zipIdx_iff_getElem?.mp hy; simpa using this
      have hm : y.1 ∈ cn := List.mem_of_getElem? hy'
      refine .inr (.inl ⟨σ.length + y.2, s.heap.objs.size + 1 + y.2, rfl, .inl (hk2 _ hm), ?_, ?_⟩)
      · obtain ⟨k, hk', hl'⟩ := inCn (n := s.heap.objs.size + 1) hm
        have : k = y.2 := by
          have a := (List.getElem?_eq_some_iff.mp hk')
          have b := (List.getElem?_eq_some_iff.mp hy')
          exact (List.getElem_inj hcnd).mp (a.2.trans b.2.symm)
        rw [← this]; exact hl'
      · rw [hlen, List.getElem?_append_right (by omega), Nat.add_sub_cancel_left, List.getElem?_map]
        have hlt := (List.getElem?_eq_some_iff.mp hy').1
        simp [hlt]
  have G0 : Go g ρ z s (ρ ++ cn.zipIdx.map fun p => s.heap.objs.size + 1 + p.2) z s' := ⟨E0, fun b o e => ⟨o, kk b o e⟩, fun _ h => .inl h⟩
  refine ⟨P0.base.nolimit.keeps P0.keep, codeAny_func ?_⟩
  have ok' : Ok (A.deeper (callEnvC fd s.heap.objs.size f)) D := ⟨ok.h, by have := ok.d; show A.depth + 1 + 3 * D + 3 < _; omega, by have := ok.u; show A.units + 3 + 20 * D + 20 < _; omega⟩
  refine h s.heap.objs.size _ g _ z _ _ _ ok' RR fun fl fw l' σ' ρ' z' s'' hq R' G' r' => ?_
  cases r' with
  | next => exact q _ _ _ _ _ _ hq R'.toRp.lessX (G0.trans G') .none
  | brk => exact q _ _ _ _ _ _ hq R'.toRp.lessX (G0.trans G') .none
  | cont => exact q _ _ _ _ _ _ hq R'.toRp.lessX (G0.trans G') .none
  | ret r => exact q _ _ _ _ _ _ hq R'.toRp.lessX (G0.trans G') r
end
end
section
open PySem PySem.W PyProof.Rows PySem.Calls

section
variable {c : Cx} {env : Env} {D : Nat} {l : Loc} {σ : Hp} {Q : V → Hp → Prop}

/-- «x in SIGNS», SIGNS a name of the module's -/
theorem hel_glob {x y : Str} {p1 p2 p3 : Pos} {scope : Scope} {cl : List (Str × Addr)} {signs : Array UInt8} {t : Tok} (hkind : scope.kind = .function) (hx : scope.names.lookup x = some .local) (hy : scope.names.lookup y = some .globalImplicit)
    (e : nsIn c.K mainGlobals y = some (some (.bytes signs t))) (hdx : (x == ("__debug__" : Str)) = false) (hdy : (y == ("__debug__" : Str)) = false) :
    ∀ (g : Heap) (ρ : List Addr) (z : Led) (s s₂ : Shared) (A' : Around) (E' : Value → Shared → Prop) (m₂ : Str → Option Value) (C : Addr) (code : Value) (o : UInt8) (u : Tok), Rep c env g ρ z σ l s → (∀ b ob, b ∉ c.tk → s.heap.get? b = some ob → s₂.heap.get? b = some ob) → A'.handled = none → s₂.heap.Ns C m₂ → m₂ x = some (.int o.toNat u) →
        wpAny c.M A' (eval (.Compare (.Name x p1) [.In] [.Name y p2] p3) (genEnv scope cl C code builtinsNs env)) (fun y s₃ => y = .bool (signs.contains o) ∧ Keeps s₂ s₃) E' s₂ := by
  intro g ρ z s s₂ A' E' m₂ C code o u R hk hh hns hm
  refine wpAny_Compare1 (wpAny_Name (wpAny_loadName_local hkind hx hns hm ?_) hdx) (by with_unfolding_all rfl)
  refine Name_function_global hkind hy (loadGlobal_global (mg := c.mg) ?_ (mg_of R.base.X R.base.gl e) ?_) hdy
  · show s₂.heap.Ns env.globals c.mg
    rw [R.glob]
    have h1 : s.heap.Ns mainGlobals c.mg := R.base.gl.keeps R.keep
    refine h1.at' fun ob eb => hk _ _ (fun hmem => ?_) eb
    obtain ⟨ob', _, _, e0, _⟩ := R.base.gl
    rw [(R.off _ (List.mem_append_right _ hmem)).1] at e0; cases e0
  · refine SeqRoads2.in_meets (typeIs_bytes _ _ _) FB.slot_bytes_contains FB.entry_bytes_contains (FB.args_bytes_contains_2 _ _) (FX.meets_contains _ _ _ _ (by omega) (by have := o.toNat_lt; omega)) ⟨_, rfl, ?_, s₂.heap, s₂.toks, rfl, fun _ _ e => e⟩
    simp
/-- «x in signs», signs a name of the frame's, in a cell -/
theorem hel_cell {x y : Str} {p1 p2 p3 : Pos} {scope : Scope} {cl : List (Str × Addr)} {signs : List UInt8} {i : Nat} (hkind : scope.kind = .function) (hx : scope.names.lookup x = some .local) (hy : scope.names.lookup y = some .free)
    (hm0 : (y, .cell i) ∈ l) (hi : σ[i]? = some (.cell (.bytes signs))) (hcl : cl.lookup y = env.cells.lookup y) (hdx : (x == ("__debug__" : Str)) = false) (hdy : (y == ("__debug__" : Str)) = false) (hdc : (y == ("__classdict__" : Str)) = false) :
    ∀ (g : Heap) (ρ : List Addr) (z : Led) (s s₂ : Shared) (A' : Around) (E' : Value → Shared → Prop) (m₂ : Str → Option Value) (C : Addr) (code : Value) (o : UInt8) (u : Tok), Rep c env g ρ z σ l s → (∀ b ob, b ∉ c.tk → s.heap.get? b = some ob → s₂.heap.get? b = some ob) → A'.handled = none → s₂.heap.Ns C m₂ → m₂ x = some (.int o.toNat u) →
        wpAny c.M A' (eval (.Compare (.Name x p1) [.In] [.Name y p2] p3) (genEnv scope cl C code builtinsNs env)) (fun y s₃ => y = .bool (signs.contains o) ∧ Keeps s₂ s₃) E' s₂ := by
  intro g ρ z s s₂ A' E' m₂ C code o u R hk hh hns hm
  refine wpAny_Compare1 (wpAny_Name (wpAny_loadName_local hkind hx hns hm ?_) hdx) (by with_unfolding_all rfl)
  obtain ⟨m, hn, hl⟩ := R.ns
  rcases hl _ hm0 with h1 | ⟨i', a, h1, h2, h3, h4⟩ | ⟨h1, w', h2, h3⟩
  · cases h1
  · cases h1
    obtain ⟨a', p, ha, hp', hh'⟩ := R.toRp.at hi
    rw [h4] at ha; cases ha
    cases hp' with
    | cell hv ho =>
      cases hv
      have hc2 := hk _ _ (fun hmem => (hh' _ (.head _)).2.2 (List.mem_append_right _ hmem)) (hh' _ (.head _)).1
      refine wpAny_Name (wpAny_loadName_free (env := genEnv scope cl C code builtinsNs env) (name := y) hkind hy (hcl.trans h3) ⟨_, hc2, ho⟩ ?_ hdc) hdy
      refine SeqRoads2.in_meets (typeIs_bytes _ _ _) FB.slot_bytes_contains FB.entry_bytes_contains (FB.args_bytes_contains_2 _ _) (FX.meets_contains _ _ _ _ (by omega) (by have := o.toNat_lt; omega)) ⟨_, rfl, ?_, s₂.heap, s₂.toks, rfl, fun _ _ e => e⟩
      simp
  · cases h3

-- WHAT THE MODULE HOLDS, AS VALUES
def intKeys : List DictEntry → Option (List Int)
  | [] => some []
  | ⟨hs, .int k _, _⟩ :: r => if hs = hashInt k then (intKeys r).map (k :: ·) else none
  | _ :: _ => none
def kvOf (K : Frag) : Nat → Value → V
  | 0, w => absV w
  | n + 1, .ref a => match K.lookup a with
    | some ⟨.type "tuple", none, .seq ws _, ⟨[]⟩⟩ => .tup (ws.toList.map (kvOf K n))
    | some ⟨.type "list", none, .seq ws _, ⟨[]⟩⟩ => .lst (ws.toList.map (kvOf K n))
    | some ⟨.type "dict", none, .dict es _, ⟨[]⟩⟩ => match intKeys es.toList with
      | some ks => if ks.Nodup ∧ (a == sysModules) = false then .dct ks (es.toList.map fun e => kvOf K n e.val) else .val (.ref a)
      | none => .val (.ref a)
    | _ => .val (.ref a)
  | _ + 1, w => absV w
theorem intKeys_pairs {p : Program} {w : World} : ∀ {es : List DictEntry} {ks : List Int}, intKeys es = some ks → Pairs (intKind p w) es (ks.zip (es.map (·.val))) ∧ (∀ e ∈ es, ∃ k, (intKind p w).is k e.key = true ∧ e.hash = (intKind p w).hash k) ∧ ks.length = es.length
  | [], ks, h => by cases h; exact ⟨.nil, by simp, rfl⟩
  | ⟨hs, .int k t, v⟩ :: r, ks, h => by
    simp only [intKeys] at h
    split at h
    · rename_i hh
      cases hr : intKeys r with
      | none => rw [hr] at h; cases h
      | some ks' =>
        rw [hr] at h; cases h
        obtain ⟨h1, h2, h3⟩ := intKeys_pairs (p := p) (w := w) hr
        refine ⟨.cons (intKind_is p w k t) rfl h1, fun e he => ?_, by simp [h3]⟩
        rcases List.mem_cons.mp he with rfl | he
        · exact ⟨k, intKind_is p w k t, hh⟩
        · exact h2 e he
    · cases h
  | ⟨hs, .none, v⟩ :: r, ks, h => by cases h
  | ⟨hs, .bool _, v⟩ :: r, ks, h => by cases h
  | ⟨hs, .str _ _, v⟩ :: r, ks, h => by cases h
  | ⟨hs, .bytes _ _, v⟩ :: r, ks, h => by cases h
  | ⟨hs, .float _ _, v⟩ :: r, ks, h => by cases h
  | ⟨hs, .ref _, v⟩ :: r, ks, h => by cases h
  | ⟨hs, .type _, v⟩ :: r, ks, h => by cases h
  | ⟨hs, .builtin _, v⟩ :: r, ks, h => by cases h
  | ⟨hs, .ellipsis, v⟩ :: r, ks, h => by cases h
  | ⟨hs, .notImplemented, v⟩ :: r, ks, h => by cases h
theorem zip_fst : ∀ {ks : List Int} {ws : List Value}, ks.length = ws.length → (ks.zip ws).map (·.1) = ks
  | [], [], _ => rfl
  | [], _ :: _, h => by simp at h
  | _ :: _, [], h => by simp at h
  | k :: ks, w :: ws, h => by simp [zip_fst (ks := ks) (ws := ws) (by simpa using h)]
theorem assoc_mem {a : Addr} {o : Obj} : ∀ {K : Frag}, K.lookup a = some o → (a, o) ∈ K
  | (b, u) :: K, h => by
    rw [List.lookup_cons] at h
    by_cases hq : (a == b) = true
    · rw [hq] at h
      have : a = b := by simpa using hq
      cases h; subst this; exact .head _
    · rw [Bool.not_eq_true] at hq
      rw [hq] at h
      exact .tail _ (assoc_mem h)
theorem kvOf_is {p₀ : Program} {w₀ : World} {K : Frag} {z : Led} (ρ : List Addr) (hK : ∀ p ∈ K, p ∈ z) : ∀ (n : Nat) (w : Value), VR z ρ (kvOf K n w) w := by
  intro n
  induction n with
  | zero => intro w; exact absV_is ..
  | succ n ih =>
    intro w
    have many : ∀ ws : List Value, VRL z ρ (ws.map (kvOf K n)) ws := by
      intro ws
      induction ws with
      | nil => exact .nil
      | cons w ws ihw => exact .cons (ih w) ihw
    cases w with
    | ref a =>
      unfold kvOf
      split
      · rename_i ws m he
        exact .tup (ws := ws.toList) (n := m) (hK _ (assoc_mem he)) (many ws.toList)
      · rename_i ws m he
        exact .lst (ws := ws.toList) (n := m) (hK _ (assoc_mem he)) (many ws.toList)
      · rename_i es m he
        split
        · rename_i ks hks
          split
          · rename_i hc
            refine .dct (ws := es.toList.map (·.val)) (hK _ (assoc_mem he)) hc.2 ⟨by rw [(intKeys_pairs (p := p₀) (w := w₀) hks).2.2]; simp, fun p w => ?_⟩ ?_
            · obtain ⟨h1, h2, h3⟩ := intKeys_pairs (p := p) (w := w) hks
              exact ⟨es, m, ⟨rfl, rfl, rfl⟩, rfl, fun e he => h2 e (by simpa using he), h1, by rw [zip_fst (by simp [h3])]; exact hc.1⟩
            · have := many (es.toList.map (·.val))
              rw [List.map_map] at this
              exact this
          · exact .val _
        · exact .val _
      · exact .val _
    | _ => exact absV_is ..
/-- a name of the module's, with all that it holds -/
theorem ev_globK {x : Str} {pos : Pos} {w : Value} {v : V} (n : Nat) (e : nsIn c.K mainGlobals x = some (some w)) (hv : kvOf c.kz n w = v) (h : Q v σ) (hx : env.kindOf x = some .globalImplicit := by kernel_rfl) (hd : (x == ("__debug__" : Str)) = false := by decide +kernel) :
    EV c env D (eval (.Name x pos) env) l σ Q := by
  subst hv
  intro A g ρ z s Q' E' ok R q
  exact Name_function_global R.kind hx (loadGlobal_global (by rw [R.glob]; exact R.base.gl.keeps R.keep) (mg_of R.base.X R.base.gl e) (q _ _ _ _ _ _ h R (Go.refl ..) (kvOf_is (p₀ := c.prog) (w₀ := c.w) ρ R.kz n w))) hd
end
end
section
open PySem PySem.W PyProof.Rows PySem.Calls PySem.Builtin
namespace FX
theorem kind_bl : builtinKind "_bisect.bisect_left" = none := by decide +kernel
theorem plain_bl : plainId "_bisect.bisect_left" = true := by decide +kernel
theorem entry_bl : entryFor table "_bisect.bisect_left" = some Builtin.«_bisect.bisect_left» := entryFor_of_tree (by kernel_rfl)
theorem entry_bl_loop : entryFor table "_bisect.bisect_right.loop" = some Builtin.«_bisect.bisect_right.loop» := entryFor_of_tree (by kernel_rfl)
theorem plain_bl_loop : plainId "_bisect.bisect_right.loop" = true := by decide +kernel
theorem args_bl3 (a b c : Value) : argsOk "_bisect.bisect_left" ⟨[a, b, c], []⟩ := by unfold argsOk; kernel_rfl
theorem call_list_item {prog : Program} {w : World} {A : Around} {E : Value → Shared → Prop} {s : Shared} {l : Addr} {items : Array Value} {k : Int} {t : Tok} {x : Value} {Q : Value → Shared → Prop} (hl : s.heap.IsList l items)
    (h0 : 0 ≤ k) (hfit : k < 2 ^ 63) (hx : items[k.toNat]? = some x) (h : Q x s) : wpAny (model prog w) A (call (.builtin "list.__getitem__") [.ref l, .int k t]) Q E s := by
  obtain ⟨o, ho, hc, ne, hd⟩ := id hl
  refine wpAny_call_entry slot_list_getitem hl.typeIs entry_list_getitem ?_ (args_list_getitem _ _)
  show wpAny _ _ (Builtin.List.listSubscript? (.int k t) >>= _) _ _ s
  refine wpAny_bind (wpAny_listSubscript_int (fitsIndex_of h0 hfit) ?_)
  clear hfit
  obtain ⟨j, rfl⟩ := Int.eq_ofNat_of_zero_le h0
  have hx' : items[j]? = some x := hx
  show wpAny _ _ ((seqItemAt l j >>= fun r => pure (r.map (j, ·))) >>= _) _ _ s
  refine wpAny_bind (wpAny_bind (wpAny_seqItemAt ho hd (wpAny_pure ?_)))
  rw [hx']
  first
    | exact wpAny_bind (wpAny_pure (wpAny_pure ⟨x, rfl, h⟩))
    | exact wpAny_pure ⟨x, rfl, h⟩
/-- where x belongs -/
def bisL (ns : List Int) (x : Int) (lo hi : Nat) : Nat := if h : lo < hi then (if ns.getD ((lo + hi) / 2) 0 < x then bisL ns x ((lo + hi) / 2 + 1) hi else bisL ns x lo ((lo + hi) / 2)) else lo
termination_by hi - lo
theorem bl_loop {prog : Program} {w : World} {A : Around} {R : Result → Shared → Prop} {a : Addr} {ws : List Value} {ns : List Int} {x : Int} {t : Tok} (hi : IntsAre ws ns) (hsz : ns.length ≤ 1000000) :
    ∀ (k lo up : Nat) (s : Shared), up - lo = k → up ≤ ns.length → s.heap.IsList a ws.toArray → (∀ u k, R (.ok (.ret (.int (bisL ns x lo up) u))) { s with toks := k }) →
      codeAny (model prog w) A (.builtin "_bisect.bisect_right.loop" ⟨[.ref a, .int x t, rawInt lo, rawInt up, .none, .bool false, .bool true, rawInt 0], []⟩) R s := by
  intro k
  induction k using Nat.strongRecOn with
  | _ k ih =>
    intro lo up s hk hup hl hR
    refine codeAny_builtin entry_bl_loop ?_
    rw [Around.under_plainId plain_bl_loop _]
    unfold Builtin.«_bisect.bisect_right.loop»
    by_cases hlt : lo < up
    · have hc : ((lo : Int) < (up : Int)) := by omega
      show wpAny _ _ (if (lo : Int) < (up : Int) then _ else _) _ _ s
      rw [if_pos hc]
      refine wpAny_bind (wpAny_mkInt ?_)
      refine wpAny_bind (wpAny_callSpecial?_slot (name := Str.ofString "__getitem__") (Heap.IsList.typeIs (s := { s with toks := s.toks + 1 }) hl) slot_list_getitem ?_)
      have hl' : ({ s with toks := s.toks + 1 } : Shared).heap.IsList a ws.toArray := hl
      obtain ⟨o, ho, hoc, no, hod⟩ := id hl
      have hmid : (((lo : Int) + (up : Int)) / 2) = (((lo + up) / 2 : Nat) : Int) := by omega
      rw [hmid]
      generalize hm : (lo + up) / 2 = mid
      have hmlt : mid < ns.length := by omega
      obtain ⟨tk, htk⟩ : ∃ tk, ws[mid]? = some (.int (ns.getD mid 0) tk) := by
        exact hi.get mid (ns.getD mid 0) (by simp [hmlt])
      have htk' : ws.toArray[((mid : Nat) : Int).toNat]? = some (.int (ns.getD mid 0) tk) := by simpa using htk
      refine call_list_item (s := { s with toks := s.toks + 1 }) hl (by omega) (by omega) htk' ?_
      dsimp only
      refine wpAny_ite (KBc.ite_yes rfl ?_)
      refine wpAny_bind (wpAny_pure (wpAny_holding ?_))
      refine wpAny_ite (KBc.ite_yes rfl ?_)
      refine wpAny_bind (wpAny_typeOf (T := "int") (typeIs_int _ _ _) (wpAny_bind (wpAny_typeOf (T := "int") (typeIs_int _ _ _) ?_)))
      refine wpAny_ite (KBc.ite_yes (by decide) ?_)
      refine wpAny_bind (wpAny_cRoomFor_byValue rfl ?_)
      refine wpAny_bind (wpAny_callSpecialIfBound?_slot (name := Str.ofString "__lt__") (typeIs_int _ _ _) slot_int_lt ?_)
      refine wpAny_call_entry slot_int_lt (typeIs_int _ _ _) entry_int_lt (show wpAny _ _ (ret (.bool (decide (ns.getD mid 0 < x)))) _ _ _ from wpAny_pure ⟨_, rfl, ?_⟩) (args_int_lt _ _)
      refine wpAny_bind (wpAny_of_eq (a := decide (ns.getD mid 0 < x)) rfl ?_)
      refine wpAny_bind (wpAny_pure ?_)
      have step : bisL ns x lo up = if ns.getD mid 0 < x then bisL ns x (mid + 1) up else bisL ns x lo mid := by
        conv => lhs; unfold bisL
        rw [dif_pos hlt, hm]
      by_cases hb : ns.getD mid 0 < x
      · rw [if_pos hb] at step
        refine wpAny_ite (KBy.ite_no (by rw [decide_eq_true hb]; decide) ?_)
        refine wpAny_pure ⟨plainId_quiet plain_bl_loop _, ?_⟩
        have := ih (up - (mid + 1)) (by omega) (mid + 1) up { s with toks := s.toks + 1 } rfl hup hl (fun u k => by rw [← step]; exact hR u k)
        simpa using this
      · rw [if_neg hb] at step
        refine wpAny_ite (KBc.ite_yes (by rw [decide_eq_false hb]; decide) ?_)
        refine wpAny_pure ⟨plainId_quiet plain_bl_loop _, ?_⟩
        exact ih (mid - lo) (by omega) lo mid { s with toks := s.toks + 1 } rfl (by omega) hl (fun u k => by rw [← step]; exact hR u k)
    · have step : bisL ns x lo up = lo := by unfold bisL; rw [dif_neg hlt]
      rw [step] at hR
      show wpAny _ _ (if (lo : Int) < (up : Int) then _ else _) _ _ s
      rw [if_neg (by omega)]
      show wpAny _ _ (retInt (lo : Int)) _ _ s
      exact wpAny_bind (wpAny_mkInt (wpAny_pure (hR _ _)))
set_option maxRecDepth 20000 in
theorem call_bl {prog : Program} {w : World} {A : Around} {E : Value → Shared → Prop} {s : Shared} {a : Addr} {ws : List Value} {ns : List Int} {x : Int} {t u : Tok} {lo : Nat} {Q : Value → Shared → Prop} (hi : IntsAre ws ns) (hsz : ns.length ≤ 1000000) (hl : s.heap.IsList a ws.toArray) (hlo : lo ≤ 1000000)
    (h : ∀ u k, Q (.int (bisL ns x lo ns.length) u) { s with toks := k }) : wpAny (model prog w) A (call (.builtin "_bisect.bisect_left") [.ref a, .int x t, .int lo u]) Q E s := by
  refine call_function_tree kind_bl plain_bl entry_bl (args_bl3 _ _ _) ?_
  unfold Builtin.«_bisect.bisect_left»
  k_delta "bisectStart"
  refine wpAny_bind ?_
  refine wpAny_of_eq (a := (Value.ref a, Value.int x t, some (Value.int (lo : Int) u), (none : Option Value), (none : Option Value))) ?_ ?_
  · kernel_rfl
  dsimp only
  refine wpAny_bind ?_
  refine wpAny_of_eq (a := (lo : Int)) ?_ ?_
  · rfl
  have hfit : ∀ b : Bool, (decide (-(2 ^ 63 : Int) ≤ (lo : Int)) && decide ((lo : Int) < 2 ^ 63)) = b → (!b) = false := fun b hb => by
    rw [← hb, decide_eq_true (show (-(2 ^ 63 : Int) ≤ (lo : Int)) by omega), decide_eq_true (show ((lo : Int) < 2 ^ 63) by omega)]; rfl
  rw [if_neg]
  rotate_left
  · exact ne_true_of_eq_false (hfit _ rfl)
  refine wpAny_bind ?_
  refine wpAny_pure ?_
  refine wpAny_bind ?_
  refine wpAny_pure ?_
  rw [if_neg (by decide)]
  refine wpAny_bind ?_
  refine wpAny_pure ?_
  refine wpAny_holding ?_
  rw [if_neg (show ¬ ((lo : Int) < 0) by omega)]
  rw [if_neg (by decide)]
  have hmro : mroOf (.type "list") = pure [.type "list", .type "object"] := by rw [mroOf_type]; kernel_rfl
  have hname : ∀ (A' : Around) (E' : Value → Shared → Prop) (Q' : String → Shared → Prop), Q' "list" s → wpAny (model prog w) A' (typeNameOfCut 200 (.ref a)) Q' E' s := fun A' E' Q' hq => by
    unfold typeNameOfCut shownTypeOf
    refine wpAny_bind (wpAny_bind (wpAny_typeOf hl.typeIs ?_))
    simp only [show (Value.type "list" == Value.type "builtin_function_or_method") = false by decide, Bool.false_eq_true, if_false]
    refine wpAny_pure ?_
    exact wpAny_of_eq (a := "list") (by kernel_rfl) hq
  refine wpAny_bind ?_
  k_delta "bisectSequence"
  refine wpAny_bind ?_
  refine wpAny_typeOf hl.typeIs ?_
  refine wpAny_bind ?_
  refine hname _ _ _ ?_
  dsimp only
  refine wpAny_bind ?_
  refine wpAny_of_eq hmro ?_
  rw [if_neg (by decide)]
  rw [if_pos rfl]
  refine wpAny_bind ?_
  refine wpAny_of_eq slot_list_len.lookup ?_
  rw [if_neg (by decide)]
  rw [if_neg (by decide)]
  refine wpAny_pure ?_
  refine wpAny_bind ?_
  refine wpAny_runValue (codeAny_builtin entry_len ?_)
  rw [Around.under_plainId plain_len _]
  have hlen : ws.toArray.size = ns.length := by simp [hi.length]
  refine wpAny_mono (wpAny_len_body_list (Q := fun r s' => r = .int ws.toArray.size (s.toks + 1) ∧ s' = { s with toks := s.toks + 1 + 1 }) hl (by rw [hlen]; omega) ⟨rfl, rfl⟩) (fun fin s' h' => ?_) fun _ _ e => e
  obtain ⟨r, rfl, rfl, rfl⟩ := h'
  dsimp only
  refine wpAny_bind ?_
  refine wpAny_pure ?_
  refine wpAny_bind ?_
  k_delta "bisectSequence"
  refine wpAny_bind ?_
  refine wpAny_typeOf (s := { s with toks := s.toks + 1 + 1 }) hl.typeIs ?_
  refine wpAny_bind ?_
  have hname' : ∀ (A' : Around) (E' : Value → Shared → Prop) (Q' : String → Shared → Prop), Q' "list" { s with toks := s.toks + 1 + 1 } → wpAny (model prog w) A' (typeNameOfCut 200 (.ref a)) Q' E' { s with toks := s.toks + 1 + 1 } := fun A' E' Q' hq => by
    unfold typeNameOfCut shownTypeOf
    refine wpAny_bind (wpAny_bind (wpAny_typeOf (s := { s with toks := s.toks + 1 + 1 }) hl.typeIs ?_))
    simp only [show (Value.type "list" == Value.type "builtin_function_or_method") = false by decide, Bool.false_eq_true, if_false]
    refine wpAny_pure ?_
    exact wpAny_of_eq (a := "list") (by kernel_rfl) hq
  refine hname' _ _ _ ?_
  dsimp only
  refine wpAny_bind ?_
  refine wpAny_of_eq hmro ?_
  rw [if_neg (by decide)]
  rw [if_neg (by decide)]
  refine wpAny_bind ?_
  refine wpAny_of_eq slot_list_getitem.lookup ?_
  rw [if_neg (by decide)]
  rw [if_neg (by decide)]
  refine wpAny_pure ?_
  refine wpAny_pure ⟨plainId_quiet plain_bl_loop _, ?_⟩
  rw [hlen]
  exact bl_loop hi hsz (ns.length - lo) lo ns.length { s with toks := s.toks + 1 + 1 } rfl (Nat.le_refl _) hl fun u k => h u k
end FX

section
variable {c : Cx} {env : Env} {D : Nat} {l : Loc} {σ : Hp} {Q : V → Hp → Prop}
theorem fn_bisect {v : V} {ns : List Int} {x : Int} {lo : Nat} (hv : LsOf σ v (ns.map V.int)) (hz : ns.length ≤ 1000000) (hlo : lo ≤ 1000000) (h : Q (.int (FX.bisL ns x lo ns.length)) σ) : FN c D (.val (.builtin "_bisect.bisect_left")) [v, .int x, .int lo] [] σ Q := by
  refine fn3 fun A g ρ z s Q' E' w₁ w₂ w₃ ok P r₁ r₂ r₃ q => ?_
  obtain ⟨a, ws, n, rfl, e1, hl⟩ := hv.at P r₁
  cases r₂; cases r₃
  exact FX.call_bl (vrl_ints hl) hz (isList_of e1) hlo fun u k => q _ _ _ _ _ _ h (P.toks _) (Go.toks ..) (.int _ _)
theorem fn_isi_obj {C C' : Addr} {fs : List (Nat × V)} (e : isIn c.K (.ref C) C' = true) (h : Q (.bool true) σ) : FN c D (.val (.builtin "isinstance")) [.obj C fs, .val (.ref C')] [] σ Q := by
  refine fn2 fun A g ρ z s Q' E' w₁ w₂ ok P r₁ r₂ q => ?_
  cases r₂
  cases r₁ with
  | obj hx hdx hE =>
    have I := InstAt.mk (h := s.heap) (C := C) (od := some (dictOf _ _)) (P.frz _ hx).1 rfl rfl (P.frz _ hdx).1
    exact isi_call (P.base.X.keeps P.keep) (fun M => I.type) e (by intro q; cases q) (q _ _ _ _ _ _ h P (Go.refl ..) (.bool _))
theorem fn_isi_bytes {b : List UInt8} (h : Q (.bool true) σ) : FN c D (.val (.builtin "isinstance")) [.bytes b, .val (.type "bytes")] [] σ Q := by
  refine fn2 fun A g ρ z s Q' E' w₁ w₂ ok P r₁ r₂ q => ?_
  cases r₂; cases r₁
  exact call_isinstance (isinstance_true (Tx := "bytes") F.isi_meta_bytes F.sub_bytes_bytes) ⟨typeIs_bytes _ _ _, q _ _ _ _ _ _ h P (Go.refl ..) (.bool _)⟩
end

section
variable {c : Cx} {env : Env} {D : Nat} {l : Loc} {σ : Hp} {Q : Fl → Loc → Hp → Prop}
-- STATEMENTS, AS THEY ARE BEST USED
theorem ex_assign' {x : Str} {e : Expr} {p pos : Pos} (h : EV c env D (eval e env) l σ fun v σ₁ => ∃ l', Up x v l l' ∧ Q .next l' σ₁) (hk : env.kindOf x = some .local := by (subst_vars; kernel_rfl))
    (hs : swapsWith e (some (.Name x p)) pos.line env = pure false := by (subst_vars; kernel_rfl)) : EX c env D (exec (.Assign [.Name x p] e pos) env) l σ Q := by
  intro A g ρ z s Q' E' ok R q
  refine wpAny_Assign_Name (h A g ρ z s _ _ ok R fun v w σ1 ρ1 z1 s1 h1 R1 G1 r1 => ?_) hs
  obtain ⟨l', hu, hq⟩ := h1
  exact store_local R1 r1 hk hu fun s2 R2 G2 => q _ _ _ _ _ _ _ hq R2 (G1.trans G2) .next
theorem ex_assignT {elts : List Expr} {k : Nat} {e : Expr} {p pos : Pos} (h : EV c env D (eval e env) l σ fun v σ₁ => EA c env D (.Tuple elts k p) v l σ₁ fun l' σ₂ => Q .next l' σ₂)
    (hs : swapsWithSole [.Tuple elts k p] e pos.line env = pure false := by (subst_vars; kernel_rfl)) (hw : swappedStores [.Tuple elts k p] e env = pure none := by (subst_vars; kernel_rfl)) : EX c env D (exec (.Assign [.Tuple elts k p] e pos) env) l σ Q := by
  intro A g ρ z s Q' E' ok R q
  refine PyProof.Rows.Assign_Tuple (h A g ρ z s _ _ ok R fun v w σ1 ρ1 z1 s1 h1 R1 G1 r1 => ?_) hs hw
  exact h1 A g ρ1 z1 s1 _ _ _ ok R1 r1 fun l' σ2 ρ2 z2 s2 h2 R2 G2 => q _ _ _ _ _ _ _ h2 R2 (G1.trans G2) .next
theorem ex_augName' {x : Str} {e : Expr} {op : Operator} {p pos : Pos} {v₀ : V} (hm : (x, v₀) ∈ l) (hp : v₀.plain = true) (h : EV c env D (eval e env) l σ fun v σ₁ => EV2 c env D v₀ v (inplaceOp op) l σ₁ fun r σ₂ => ∃ l', Up x r l l' ∧ Q .next l' σ₂)
    (hk : env.kindOf x = some .local := by (subst_vars; kernel_rfl)) : EX c env D (exec (.AugAssign (.Name x p) op e pos) env) l σ Q := by
  intro A g ρ z s Q' E' ok R q
  obtain ⟨m, hn, hl⟩ := R.ns
  rcases hl _ hm with h1 | ⟨i, a, h1, _⟩ | ⟨h1, w, h2, h3⟩
  · simp only at h1; subst h1; cases hp
  · simp only at h1; subst h1; cases hp
  · refine wpAny_AugAssign_Name (wpAny_loadName_local R.kind h1 hn h2 ?_)
    refine h A g ρ z s _ _ ok R fun v wv σ1 ρ1 z1 s1 h1' R1 G1 r1 => ?_
    refine h1' A g ρ1 z1 s1 _ _ _ _ ok R1 (h3.mono G1.toExt) r1 fun r wr σ2 ρ2 z2 s2 h2' R2 G2 r2 => ?_
    obtain ⟨l', hu, hq⟩ := h2'
    exact store_local R2 r2 hk hu fun s3 R3 G3 => q _ _ _ _ _ _ _ hq R3 ((G1.trans G2).trans G3) .next
theorem ex_augSub {o i e : Expr} {op : Operator} {p pos : Pos} (h : EV c env D (eval o env) l σ fun ov σ₁ => EV c env D (eval i env) l σ₁ fun iv σ₂ => EV2 c env D ov iv getItem l σ₂ fun old σ₃ => EV c env D (eval e env) l σ₃ fun v σ₄ =>
    EV2 c env D old v (inplaceOp op) l σ₄ fun r σ₅ => EU3 c env D ov iv r setItem l σ₅ fun σ₆ => Q .next l σ₆)
    (hi : ∀ ov iv new, augStore i ov iv new = (do holding [new, ov, iv] (setItem ov iv new); release [new, ov, iv] []; pure .next) := by intros; rfl) : EX c env D (exec (.AugAssign (.Subscript o i p) op e pos) env) l σ Q := by
  intro A g ρ z s Q' E' ok R q
  refine wpAny_AugAssign_SubscriptAny (h A g ρ z s _ _ ok R fun ov ow σ1 ρ1 z1 s1 h1 R1 G1 r1 => ?_) hi
  refine h1 A g ρ1 z1 s1 _ _ ok R1 fun iv iw σ2 ρ2 z2 s2 h2 R2 G2 r2 => ?_
  have o2 := r1.mono G2.toExt
  refine h2 A g ρ2 z2 s2 _ _ _ _ ok R2 o2 r2 fun old wo σ3 ρ3 z3 s3 h3 R3 G3 r3 => ?_
  refine h3 A g ρ3 z3 s3 _ _ ok R3 fun v w σ4 ρ4 z4 s4 h4 R4 G4 r4 => ?_
  refine h4 A g ρ4 z4 s4 _ _ _ _ ok R4 (r3.mono G4.toExt) r4 fun r wr σ5 ρ5 z5 s5 h5 R5 G5 r5 => ?_
  have G35 := (G3.trans G4).trans G5
  exact h5 A g ρ5 z5 s5 _ _ _ _ _ ok R5 (o2.mono G35.toExt) (r2.mono G35.toExt) r5 fun σ6 ρ6 z6 s6 h6 R6 G6 => q _ _ _ _ _ _ _ h6 R6 (((G1.trans G2).trans G35).trans G6) .next
theorem ei_own {i : Nat} {vs : List V} {k : Int} {v : V} {Q : V → Hp → Prop} (hi : σ[i]? = some (.list vs)) (h0 : 0 ≤ k) (hz : k < 2 ^ 63) (hv : vs[k.toNat]? = some v) (h : Q v σ) : EV2 c env D (.ref i) (.int k) getItem l σ Q := by
  intro A g ρ z s Q' E' w₁ w₂ ok R r₁ r₂ q
  cases r₁ with
  | ref hr =>
    cases r₂
    obtain ⟨ws, n, h1, h2, h3, h4⟩ := R.toRp.list hi hr
    obtain ⟨w, hw, rw'⟩ := h2.get hv
    exact wpAny_getItem_list (isList_of h1) h0 hz (by simpa using hw) (q _ _ _ _ _ _ h R (Go.refl ..) rw')
end
section
variable {c : Cx} {env : Env} {D : Nat} {l : Loc} {σ : Hp}
theorem ev_attr' {oe : Expr} {attr : Str} {pos : Pos} {Q : V → Hp → Prop} (h : EV c env D (eval oe env) l σ fun ov σ₁ => EV1 c env D ov (fun a => getAttr a attr true) l σ₁ Q)
    (he : eval (.Attribute oe attr pos) env = (do
      let o ← eval oe env
      standAt pos.atName
      let r ← holding [o] (getAttr o attr true)
      letTemporaryGo oe o r
      pure r) := by with_unfolding_all rfl) : EV c env D (eval (.Attribute oe attr pos) env) l σ Q := ev_attr h fun A s Q' E' hh => PyProof.Rows.Attribute_any_ hh he
theorem thenx {rest : List Stmt} {Q : Fl → Loc → Hp → Prop} (h : EX c env D (execs rest env) l σ Q) : ThenX c env D rest Q .next l σ := h
theorem thenr {rest : List Stmt} {Q : Fl → Loc → Hp → Prop} {v : V} (h : Q (.ret v) l σ) : ThenX c env D rest Q (.ret v) l σ := h
theorem thenb {rest : List Stmt} {Q : Fl → Loc → Hp → Prop} (h : Q .brk l σ) : ThenX c env D rest Q .brk l σ := h
theorem thenc {rest : List Stmt} {Q : Fl → Loc → Hp → Prop} (h : Q .cont l σ) : ThenX c env D rest Q .cont l σ := h
theorem postN {Q : V → Hp → Prop} (h : Q .none σ) : postFn Q .next l σ := h
theorem postR {Q : V → Hp → Prop} {v : V} (h : Q v σ) : postFn Q (.ret v) l σ := h
theorem bindA1 {fd : FuncData} {x : Str} {v : V} (h : ∀ a, bindArgs fd ⟨[a], []⟩ = pure [(x, a)]) : BindA c fd [v] [] [(x, v)] := by
  intro z ρ ws kws s X rl rk
  cases rk
  cases rl with
  | cons r1 rl => cases rl; exact ⟨_, BindsTo.of_eq (h _), rfl, .cons r1 .nil⟩
theorem bindA2 {fd : FuncData} {x y : Str} {v u : V} (h : ∀ a b, bindArgs fd ⟨[a, b], []⟩ = pure [(x, a), (y, b)]) : BindA c fd [v, u] [] [(x, v), (y, u)] := by
  intro z ρ ws kws s X rl rk
  cases rk
  cases rl with
  | cons r1 rl => cases rl with
    | cons r2 rl => cases rl; exact ⟨_, BindsTo.of_eq (h _ _), rfl, .cons r1 (.cons r2 .nil)⟩
theorem bindA3 {fd : FuncData} {x y x' : Str} {v u v' : V} (h : ∀ a b d, bindArgs fd ⟨[a, b, d], []⟩ = pure [(x, a), (y, b), (x', d)]) : BindA c fd [v, u, v'] [] [(x, v), (y, u), (x', v')] := by
  intro z ρ ws kws s X rl rk
  cases rk
  cases rl with
  | cons r1 rl => cases rl with
    | cons r2 rl => cases rl with
      | cons r3 rl => cases rl; exact ⟨_, BindsTo.of_eq (h _ _ _), rfl, .cons r1 (.cons r2 (.cons r3 .nil))⟩
theorem fc_def' {f : Addr} {fd : FuncData} {body : List Stmt} {oc : Value} {od : Option Addr} {osl : Array (Option Value)} {args : List V} {kw : List (Str × V)} {bs : List (Str × V)} {Q : V → Hp → Prop}
    (un : List Str) (l : Loc) (ho : c.K.lookup f = some ⟨oc, od, .func fd, osl⟩) (hbody : fd.body = .stmts body) (hcd : codeIn c.K fd.code fd.qualname = true) (hbind : BindA c fd args kw bs)
    (bn : List Str) (hbn : bs.map (·.1) = bn) (hnd : (bn ++ un).Nodup) (hloc : ∀ x ∈ bn, fd.scope.names.lookup x = some .local) (hl : l = bs ++ un.map fun x => (x, V.unb))
    (hcell : ∀ x ∈ fd.scope.names, x.2 ≠ .cell) (hgl : fd.globals = mainGlobals) (hbl : fd.builtins = builtinsNs) (hco : fd.scope.isCoroutine = false) (hgen : fd.scope.isGenerator = false) (hk : fd.scope.kind = .function)
    (h : ∀ L env, env = callEnv fd L f → EX c env D (execs body env) l σ (postFn Q)) : FC c (D + 1) (.val (.ref f)) args kw σ Q := by
  subst hl hbn
  have h := fun L => h L _ rfl
  intro A g ρ z s RR' wf ws kws ok R rf rl rk q
  refine fc_def (bs := bs) (un := un) ho hbody hcd hbind ?_ (fun x hx => hloc _ (List.mem_map_of_mem hx)) h hcell hgl hbl hco hgen hk A g ρ z s RR' wf ws kws ok R rf rl rk q
  · have e : ((bs ++ un.map fun x => (x, V.unb)).map (·.1)) = bs.map (·.1) ++ un := by simp [List.map_map, Function.comp_def]
    rw [e]; exact hnd
theorem at_same {σ : Hp} {i : Nat} {o o' : AO} (h : σ[i]? = some o) : (σ.set i o')[i]? = some o' := by
  have hlt := (List.getElem?_eq_some_iff.mp h).1
  simp [hlt]
theorem at_other {σ : Hp} {i j : Nat} {o o' : AO} (hne : j ≠ i) (h : σ[i]? = some o) : (σ.set j o')[i]? = some o := by rw [List.getElem?_set_ne hne]; exact h
theorem at_app {σ τ : Hp} {i : Nat} {o : AO} (h : σ[i]? = some o) : (σ ++ τ)[i]? = some o := by
  rw [List.getElem?_append_left (List.getElem?_eq_some_iff.mp h).1]; exact h
theorem at_new {σ : Hp} {o : AO} : (σ ++ [o])[σ.length]? = some o := by simp
theorem at_ne {σ : Hp} {i j : Nat} {o o' : AO} (h : σ[i]? = some o) (h' : σ[j]? = some o') (hd : o ≠ o') : i ≠ j := fun e => by subst e; rw [h] at h'; exact hd (Option.some.inj h')
end
end
section
open PySem PySem.W PyProof.Rows PySem.Calls
section
variable {c : Cx} {env : Env} {D : Nat} {l : Loc} {σ : Hp} {Q : V → Hp → Prop} {a b : Int}
theorem ev_iadd (h : Q (.int (a + b)) σ) : EV2 c env D (.int a) (.int b) (inplaceOp .Add) l σ Q := ev2_int (fun _ _ _ _ _ _ h => PyProof.Rows.iadd_int h) h
theorem ev_isub (h : Q (.int (a - b)) σ) : EV2 c env D (.int a) (.int b) (inplaceOp .Sub) l σ Q := ev2_int (fun _ _ _ _ _ _ h => PyProof.Rows.isub_int h) h
theorem ev_ibor (h : Q (.int (Builtin.bitOr a b)) σ) : EV2 c env D (.int a) (.int b) (inplaceOp .BitOr) l σ Q := ev2_int (fun _ _ _ _ _ _ h => PyProof.Rows.ior_int h) h
theorem ev_ibxor (h : Q (.int (Builtin.bitXor a b)) σ) : EV2 c env D (.int a) (.int b) (inplaceOp .BitXor) l σ Q := ev2_int (fun _ _ _ _ _ _ h => PyProof.Rows.ixor_int h) h
theorem ev_ishr (hb : 0 ≤ b) (h : Q (.int (a.fdiv (2 ^ b.toNat))) σ) : EV2 c env D (.int a) (.int b) (inplaceOp .RShift) l σ Q := ev2_int (fun _ _ _ _ _ _ h => PyProof.Rows.irshift_int hb h) h
-- results told in naturals
theorem ev_fdivN {n k : Nat} (hk : 0 < k) (hk2 : k < 1073741824) (h : Q (.int (n / k : Nat)) σ) : EV2 c env D (.int n) (.int k) (binaryOp .FloorDiv) l σ Q :=
  ev_fdiv (by omega) (PyProof.noPylong_small (by omega)) (by rw [Int.fdiv_eq_ediv_of_nonneg _ (by omega)]; exact_mod_cast h)
theorem ev_fmodN {n k : Nat} (hk : 0 < k) (h : Q (.int (n % k : Nat)) σ) : EV2 c env D (.int n) (.int k) (binaryOp .Mod) l σ Q :=
  ev_fmod (by omega) (by rw [Int.fmod_eq_emod_of_nonneg _ (by omega)]; exact_mod_cast h)
theorem ev_shrN {n k : Nat} (h : Q (.int (n / 2 ^ k : Nat)) σ) : EV2 c env D (.int n) (.int k) (binaryOp .RShift) l σ Q :=
  ev_shr (by omega) (by rw [Int.fdiv_eq_ediv_of_nonneg _ (by exact Int.pow_nonneg (by omega))]; simpa using h)
theorem ev_iaddN {n k : Nat} (h : Q (.int (n + k : Nat)) σ) : EV2 c env D (.int n) (.int k) (inplaceOp .Add) l σ Q := ev_iadd (by exact_mod_cast h)
theorem ev_addN {n k : Nat} (h : Q (.int (n + k : Nat)) σ) : EV2 c env D (.int n) (.int k) (binaryOp .Add) l σ Q := ev_add (by exact_mod_cast h)
theorem keep_b {n : String} : KeepOk c (.val (.builtin n)) := trivial
theorem keep_t {n : String} : KeepOk c (.val (.type n)) := trivial
theorem keep_f {a : Addr} (h : keepIn c.K (.ref a) = true) : KeepOk c (.val (.ref a)) := h
theorem boolT {P P' : Prop} (h : P) : (true = true → P) ∧ (true = false → P') := ⟨fun _ => h, fun e => (nomatch e)⟩
theorem boolF {P P' : Prop} (h : P') : (false = true → P) ∧ (false = false → P') := ⟨fun e => (nomatch e), fun _ => h⟩
theorem upx {x : Str} {v : V} {l l' : Loc} {P : Loc → Prop} (u : Up x v l l') (h : P l') : ∃ l', Up x v l l' ∧ P l' := ⟨l', u, h⟩
theorem ev_bltn_b {x : Str} {pos : Pos} {n : String} (e : nsIn c.K mainGlobals x = some none) (hv : bootBuiltins x = some (.builtin n)) (h : Q (.val (.builtin n)) σ) (hx : env.kindOf x = some .globalImplicit := by (subst_vars; kernel_rfl)) (hn : x ≠ "__name__" := by decide +kernel) (hd : (x == ("__debug__" : Str)) = false := by decide +kernel) :
    EV c env D (eval (.Name x pos) env) l σ Q := ev_bltn e hv h hx hn hd
theorem ev_bltn_t {x : Str} {pos : Pos} {n : String} (e : nsIn c.K mainGlobals x = some none) (hv : bootBuiltins x = some (.type n)) (h : Q (.val (.type n)) σ) (hx : env.kindOf x = some .globalImplicit := by (subst_vars; kernel_rfl)) (hn : x ≠ "__name__" := by decide +kernel) (hd : (x == ("__debug__" : Str)) = false := by decide +kernel) :
    EV c env D (eval (.Name x pos) env) l σ Q := ev_bltn e hv h hx hn hd
theorem ev_glob_r {x : Str} {pos : Pos} {a : Addr} (e : nsIn c.K mainGlobals x = some (some (.ref a))) (h : Q (.val (.ref a)) σ) (hx : env.kindOf x = some .globalImplicit := by (subst_vars; kernel_rfl)) (hd : (x == ("__debug__" : Str)) = false := by decide +kernel) :
    EV c env D (eval (.Name x pos) env) l σ Q := ev_glob e h hx hd
theorem ev_glob_b {x : Str} {pos : Pos} {n : String} (e : nsIn c.K mainGlobals x = some (some (.builtin n))) (h : Q (.val (.builtin n)) σ) (hx : env.kindOf x = some .globalImplicit := by (subst_vars; kernel_rfl)) (hd : (x == ("__debug__" : Str)) = false := by decide +kernel) :
    EV c env D (eval (.Name x pos) env) l σ Q := ev_glob e h hx hd
theorem ev_glob_i {x : Str} {pos : Pos} {n : Int} {t : Tok} (e : nsIn c.K mainGlobals x = some (some (.int n t))) (h : Q (.int n) σ) (hx : env.kindOf x = some .globalImplicit := by (subst_vars; kernel_rfl)) (hd : (x == ("__debug__" : Str)) = false := by decide +kernel) :
    EV c env D (eval (.Name x pos) env) l σ Q := ev_glob e h hx hd
theorem ev_glob_y {x : Str} {pos : Pos} {b : Array UInt8} {t : Tok} (e : nsIn c.K mainGlobals x = some (some (.bytes b t))) (h : Q (.bytes b.toList) σ) (hx : env.kindOf x = some .globalImplicit := by (subst_vars; kernel_rfl)) (hd : (x == ("__debug__" : Str)) = false := by decide +kernel) :
    EV c env D (eval (.Name x pos) env) l σ Q := ev_glob e h hx hd
-- lists of ints
theorem fn_appendI {i : Nat} {ns : List Int} {v : Int} (hi : σ[i]? = some (.list (ns.map V.int))) (hz : ns.length ≤ 1000000) (h : Q .none (σ.set i (.list ((ns ++ [v]).map V.int)))) : FN c D (.val (.builtin "list.append")) [.ref i, .int v] [] σ Q :=
  fn_append hi (by simpa using hz) (by simpa using h)
theorem ei_ownI {i : Nat} {ns : List Int} {k : Nat} (hi : σ[i]? = some (.list (ns.map V.int))) (hk : k < ns.length) (hz : ns.length ≤ 1000000) (h : Q (.int (ns.getD k 0)) σ) : EV2 c env D (.ref i) (.int k) getItem l σ Q :=
  ei_own (v := .int (ns.getD k 0)) hi (by omega) (by omega) (by simp [hk]) h
theorem ei_listI {oe ie : Expr} {i : Nat} {ns : List Int} {k : Nat} (hi : σ[i]? = some (.list (ns.map V.int))) (hk : k < ns.length) (hz : ns.length ≤ 1000000) (h : Q (.int (ns.getD k 0)) σ)
    (hs : ∀ a b t, subscripted ie false (.ref a) (.int b t) = operate [.ref a, .int b t] (getItem (.ref a) (.int b t)) := by intro _ _ _; with_unfolding_all rfl) : EV2 c env D (.ref i) (.int k) (subscriptTail oe ie) l σ Q :=
  ei_list (v := .int (ns.getD k 0)) hi (by omega) (by omega) (by simp [hk]) h hs
theorem ei_lstI {oe ie : Expr} {ns : List Int} {k : Nat} (hk : k < ns.length) (hz : ns.length ≤ 1000000) (h : Q (.int (ns.getD k 0)) σ)
    (hs : ∀ a b t, subscripted ie false (.ref a) (.int b t) = operate [.ref a, .int b t] (getItem (.ref a) (.int b t)) := by intro _ _ _; with_unfolding_all rfl) : EV2 c env D (.lst (ns.map V.int)) (.int k) (subscriptTail oe ie) l σ Q :=
  ei_lst (v := .int (ns.getD k 0)) (by omega) (by omega) (by simp [hk]) h hs
theorem eu_listI {Q : Hp → Prop} {i : Nat} {ns : List Int} {k : Nat} {v : Int} (hi : σ[i]? = some (.list (ns.map V.int))) (hk : k < ns.length) (hz : ns.length ≤ 1000000) (h : Q (σ.set i (.list ((ns.set k v).map V.int)))) : EU3 c env D (.ref i) (.int k) (.int v) setItem l σ Q :=
  eu_list hi (by omega) (by simpa using hk) (by omega) (by simpa [List.map_set] using h)
theorem fn_len_listI {i : Nat} {ns : List Int} (hi : σ[i]? = some (.list (ns.map V.int))) (hz : ns.length ≤ 1000000) (h : Q (.int ns.length) σ) : FN c D (.val (.builtin "len")) [.ref i] [] σ Q := fn_len_list hi (by simpa using hz) (by simpa using h)
-- SHAPES THAT ARE MET OFTEN
theorem ev_attrN {x attr : Str} {p pos : Pos} (h : EV c env D (eval (.Name x p) env) l σ fun ov σ₁ => EV1 c env D ov (fun a => getAttr a attr true) l σ₁ Q) : EV c env D (eval (.Attribute (.Name x p) attr pos) env) l σ Q := ev_attr' h (by with_unfolding_all rfl)
theorem ev_attrA {e : Expr} {a2 attr : Str} {p pos : Pos} (h : EV c env D (eval (.Attribute e a2 p) env) l σ fun ov σ₁ => EV1 c env D ov (fun a => getAttr a attr true) l σ₁ Q) : EV c env D (eval (.Attribute (.Attribute e a2 p) attr pos) env) l σ Q := ev_attr' h (by with_unfolding_all rfl)
theorem ev_callN {x : Str} {p pos : Pos} {args : List Expr} {kws : List Keyword} (hkw : (backToKw pos (keywordEach kws env)).all (·.1.isSome) = true)
    (h : EV c env D (eval (.Name x p) env) l σ fun vf σ₁ => KeepOk c vf ∧ EL c env D pos args l σ₁ fun vs σ₂ => EK c env D pos kws l σ₂ fun ks σ₃ => FN c D vf vs ks σ₃ Q) : EV c env D (eval (.Call (.Name x p) args kws pos) env) l σ Q := ev_call hkw h
theorem set_same {σ : Hp} {i : Nat} {o : AO} (h : σ[i]? = some o) : σ.set i o = σ := by
  obtain ⟨hl, e⟩ := List.getElem?_eq_some_iff.mp h
  subst e; exact List.set_getElem_self hl
theorem it_rangeN {n : Nat} (hn : n ≤ 1000000) : Iterable c (.rng 0 n 1) (rngVs 0 1 n) (fun _ => True) :=
  it_range (small_one (by omega) (by omega) (by omega) (by omega)) (by rw [rangeSize_one]; split <;> omega)
theorem rng_get {n k : Nat} {v : V} (h : (rngVs 0 1 n)[k]? = some v) : k < n ∧ v = .int k := by
  unfold rngVs at h
  rw [List.getElem?_map] at h
  by_cases hk : k < n
  · simp [hk] at h; exact ⟨hk, h.symm⟩
  · simp [hk] at h
theorem rng_len {a st : Int} {n : Nat} : (rngVs a st n).length = n := by simp [rngVs]
end
end
section
open PySem PySem.W PyProof.Rows PySem.Calls

-- DICTS OF INTS THAT THE CALL MADE
theorem isDict_any {p p' : Program} {w w' : World} {o : Obj} {kvs : List (Int × Value)} (h : o.IsDictOf (intKind p w) kvs) : o.IsDictOf (intKind p' w') kvs := by
  obtain ⟨es, ep, a, b, k, d, e⟩ := h
  refine ⟨es, ep, a, b, ?_, ?_, e⟩
  · exact k
  · clear a b k e
    generalize es.toList = es' at d
    induction d with
    | nil => exact .nil
    | cons h1 h2 h3 ih => exact .cons h1 h2 ih
section
variable {c : Cx} {env : Env} {D : Nat} {l : Loc} {σ : Hp} {Q : V → Hp → Prop}
theorem PR.dict_inv {z : Led} {ρ : List Addr} {ks : List Int} {vs : List V} {a : Addr} {p : Led} (h : PR z ρ (.dict ks vs) a p) : ∃ o ws, p = [(a, o)] ∧ (a == sysModules) = false ∧ IDict o ks ws ∧ VRL z ρ vs ws := by
  cases h with
  | dict a b d => exact ⟨_, _, rfl, a, b, d⟩
theorem Rp.dictAt {g X ρ z} {s : Shared} (R : Rp c g X ρ z σ s) {i : Nat} {ks : List Int} {vs : List V} (hi : σ[i]? = some (.dict ks vs)) {a : Addr} (ha : ρ[i]? = some a) :
    ∃ o ws, s.heap.get? a = some o ∧ (a == sysModules) = false ∧ IDict o ks ws ∧ VRL z ρ vs ws := by
  obtain ⟨a', p, h1, h2, h3⟩ := R.at hi
  rw [ha] at h1; cases h1
  obtain ⟨o, ws, rfl, a1, a2, a3⟩ := h2.dict_inv
  exact ⟨o, ws, (h3 _ (.head _)).1, a1, a2, a3⟩
theorem ei_dict {oe ie : Expr} {i : Nat} {ks : List Int} {vs : List V} {k : Int} {v : V} (hi : σ[i]? = some (.dict ks vs)) (hv : (ks.zip vs).find? (fun p => p.1 == k) = some (k, v)) (h : Q v σ)
    (hs : ∀ a b t, subscripted ie false (.ref a) (.int b t) = operate [.ref a, .int b t] (getItem (.ref a) (.int b t)) := by intro _ _ _; with_unfolding_all rfl) : EV2 c env D (.ref i) (.int k) (subscriptTail oe ie) l σ Q := by
  intro A g ρ z s Q' E' w₁ w₂ ok R r₁ r₂ q
  cases r₁ with
  | ref hr =>
    cases r₂
    rename_i t
    obtain ⟨o, ws, ho, hsm, hd, hl⟩ := R.toRp.dictAt hi hr
    obtain ⟨w, hw, r⟩ := zip_valueAt hd.1 hl hv
    have hD := idict_at (p := c.prog) (w := c.w) ho hd
    exact tail_any hD.typeIs slot_dict_getitem.lookup (wpAny_getItem_of (intKind_is _ _ k t) hD.mapOf hw (q _ _ _ _ _ _ h (R.toks _) (Go.toks ..) r)) (hs _ _ _)
theorem ev_in_dict {i : Nat} {ks : List Int} {vs : List V} {k : Int} (hi : σ[i]? = some (.dict ks vs)) (h : Q (.bool (ks.contains k)) σ) : EV2 c env D (.int k) (.ref i) (compareOp .In) l σ Q := by
  intro A g ρ z s Q' E' w₁ w₂ ok R r₁ r₂ q
  cases r₂ with
  | ref hr =>
    cases r₁
    rename_i t
    obtain ⟨o, ws, ho, hsm, hd, hl⟩ := R.toRp.dictAt hi hr
    have hD := idict_at (p := c.prog) (w := c.w) ho hd
    refine wpAny_in_of (intKind_is _ _ k t) hsm hD.mapOf (q _ _ _ _ _ _ h (R.toks _) (Go.toks ..) ?_)
    cases e : ks.contains k with
    | false => rw [zip_valueAt_none e]; exact .bool _
    | true => obtain ⟨w, hw⟩ := zip_valueAt_some hd.1 e; rw [hw]; exact .bool _
def newDictObj : Obj := { cls := .type "dict", data := .dict #[] }
theorem newDict_is : IDict newDictObj [] [] := ⟨rfl, fun p w => ⟨#[], 0, ⟨rfl, rfl, rfl⟩, rfl, (by intro e he; simp at he), .nil, by simp⟩⟩
theorem Rp.newDict {g X ρ z} {s : Shared} (P : Rp c g X ρ z σ s) :
    Rp c g X (ρ ++ [s.heap.objs.size]) z (σ ++ [.dict [] []]) { s with heap := s.heap.push newDictObj } ∧ Go g ρ z s (ρ ++ [s.heap.objs.size]) z { s with heap := s.heap.push newDictObj } ∧
    VR z (ρ ++ [s.heap.objs.size]) (.ref σ.length) (.ref s.heap.objs.size) ∧ (s.heap.objs.size == sysModules) = false := by
  have hlow : (s.heap.objs.size == sysModules) = false := by
    exact beq_eq_false_iff_ne.mpr (Nat.ne_of_gt (PyProof.Rows.modules_low (P.base.nolimit.keeps P.keep)))
  have hfree : newDictObj.isFreed = false := rfl
  have g1 : (s.heap.push newDictObj).get? s.heap.objs.size = some newDictObj := Heap.get?_push_size _ hfree
  obtain ⟨led0, a0, _⟩ := P.own
  have hlen : σ.length = ρ.length := a0.length
  refine ⟨P.new (s' := { s with heap := s.heap.push newDictObj }) (fun b o e => Heap.get?_push_of_some _ e) (p := [(s.heap.objs.size, newDictObj)]) (.dict hlow newDict_is .nil) (by simp) (fun q hq => ?_), ⟨Ext.push .., fun b o e => ⟨o, Heap.get?_push_of_some _ e⟩, fun _ h => .inl h⟩, .ref (by rw [hlen]; simp), hlow⟩
  cases List.mem_singleton.mp hq
  exact ⟨g1, fresh_at (Nat.le_refl _)⟩
/-- the pairs of a display -/
def EPs (c : Cx) (env : Env) (D : Nat) (keys : List (Option Expr)) (values : List Expr) (pos : Pos) (l : Loc) (σ : Hp) (Q : List Int → List V → Hp → Prop) : Prop :=
  ∀ (A : Around) (g : Heap) (ρ : List Addr) (z : Led) (s : Shared) (Q' : List (Value × Value) → Shared → Prop) (E' : Value → Shared → Prop), Ok A D → Rep c env g ρ z σ l s →
    (∀ ks vs ws kvs σ' ρ' z' s', Q ks vs σ' → Rep c env g ρ' z' σ' l s' → Go g ρ z s ρ' z' s' → VRL z' ρ' vs ws → ks.length = ws.length → Carries (intKind c.prog c.w) kvs (ks.zip ws) → Q' kvs s') → wpAny c.M A (evalPairs (pairTrees keys values env pos)) Q' E' s
theorem eps_nil {pos : Pos} {Q : List Int → List V → Hp → Prop} (h : Q [] [] σ) : EPs c env D [] [] pos l σ Q := fun A g ρ z s Q' E' ok R q => pairTrees_nil_walk (q _ _ [] _ _ _ _ _ h R (Go.refl ..) .nil rfl trivial)
theorem eps_cons {pos : Pos} {k v : Expr} {ks : List (Option Expr)} {vs : List Expr} {Q : List Int → List V → Hp → Prop}
    (h : EV c env D (eval k env) l σ fun kv σ₁ => ∃ i, kv = .int i ∧ EV c env D (eval v env) l σ₁ fun vv σ₂ => EPs c env D ks vs pos l σ₂ fun is us σ₃ => Q (i :: is) (vv :: us) σ₃) : EPs c env D (some k :: ks) (v :: vs) pos l σ Q := by
  intro A g ρ z s Q' E' ok R q
  refine pairTrees_cons_walk (h A g ρ z s _ _ ok R fun kv wk σ1 ρ1 z1 s1 h1 R1 G1 r1 => ?_)
  obtain ⟨i, rfl, h1⟩ := h1
  cases r1
  rename_i t
  refine h1 A g ρ1 z1 s1 _ _ ok R1 fun vv wv σ2 ρ2 z2 s2 h2 R2 G2 r2 => ?_
  refine h2 A g ρ2 z2 s2 _ _ ok R2 fun is us ws kvs σ3 ρ3 z3 s3 h3 R3 G3 r3 hl hc => ?_
  exact q (i :: is) (vv :: us) (wv :: ws) _ _ _ _ _ h3 R3 ((G1.trans G2).trans G3) (.cons (r2.mono G3.toExt) r3) (by simp [hl]) ⟨intKind_is _ _ i t, rfl, hc⟩
theorem ev_dict0 {pos : Pos} (h : Q (.ref σ.length) (σ ++ [.dict [] []])) : EV c env D (eval (.Dict [] [] pos) env) l σ Q := by
  intro A g ρ z s Q' E' ok R q
  refine wpAny_Dict_empty ?_
  obtain ⟨P', G', r', _⟩ := R.toRp.newDict
  exact q _ _ _ _ _ _ h (R.mk' P' G'.toExt fun m hm => hm.push _) G' r'
theorem ev_dict {keys : List (Option Expr)} {values : List Expr} {pos : Pos} (hall : keys.all (·.isSome) = true) (hl : keys.length = values.length) (h0 : keys ≠ []) (hlen : keys.length ≤ 15)
    (h : EPs c env D keys values pos l (σ ++ [.dict [] []]) fun ks vs σ₁ => σ₁[σ.length]? = some (.dict [] []) ∧ ks.Nodup ∧ Q (.ref σ.length) (σ₁.set σ.length (.dict ks vs))) : EV c env D (eval (.Dict keys values pos) env) l σ Q := by
  intro A g ρ z s Q' E' ok R q
  obtain ⟨P', G', r', hlow⟩ := R.toRp.newDict
  have R' := R.mk' P' G'.toExt fun m hm => hm.push _
  refine wpAny_Dict_walk (knd := intKind c.prog c.w) hall hl h0 hlen ?_
  refine h A g _ z _ _ _ ok R' fun ks vs ws kvs σ1 ρ1 z1 s1 h1 R1 G1 r1 hlw hc => ?_
  obtain ⟨hd, hnd, hq⟩ := h1
  cases r' with
  | ref hr =>
    have hr1 := G1.r _ _ hr
    obtain ⟨o, ws0, ho, hsm, hdi, _⟩ := R1.toRp.dictAt hd hr1
    have hz : ws0 = [] := by have := hdi.1; simp at this; simpa using this.symm
    subst hz
    refine ⟨ks.zip ws, hc, idict_at ho hdi, fun h' hD hs => ?_⟩
    have hfst : (ks.zip ws).map (·.1) = ks := by rw [List.map_fst_zip]; omega
    rw [merged_nil_of_nodup _ (by rw [hfst]; exact hnd)] at hD
    obtain ⟨o', ho', hI⟩ := Heap.dictOf_iff.mp hD
    have hI' : IDict o' ks ws := ⟨hlw, fun p w => isDict_any hI⟩
    have hL : env.locals ≠ s.heap.objs.size := fun e => by
      obtain ⟨m, hm, _⟩ := R.ns
      obtain ⟨ob, _, _, e', _⟩ := hm
      exact absurd (Heap.lt_size e') (by rw [e]; exact Nat.lt_irrefl _)
    have P2 : Rp c g [env.locals] ρ1 z1 (σ1.set σ.length (.dict ks vs)) { s1 with heap := h', toks := s1.toks + kvs.length } := R1.toRp.upd (s' := { s1 with heap := h', toks := s1.toks + kvs.length }) hd hr1 (b := s.heap.objs.size) (o' := .dict ks vs) (fun p hp hh => by
      obtain ⟨o2, ws2, rfl, b1, b2, b3⟩ := hp.dict_inv
      exact ⟨by simp, [(s.heap.objs.size, o')], .dict b1 hI' r1, rfl, fun q hq => by cases List.mem_singleton.mp hq; exact ho'⟩) hs
    refine q _ _ _ _ _ _ hq (R1.mk' P2 (Ext.refl ..) fun m hm => hm.sameBut hs hL) ((G'.trans G1).trans ⟨Ext.refl .., fun b o e => ?_, fun _ h => .inl h⟩) (.ref hr1)
    by_cases hb : b = s.heap.objs.size
    · subst hb; exact ⟨o', ho'⟩
    · exact ⟨o, (hs.2 b hb).trans e⟩
end
end
section
open PySem PySem.W PyProof.Rows PySem.Calls
/-- an object of the frame's own becomes an owned list -/
theorem Rp.ownX {c g X ρ z σ} {s : Shared} {a : Addr} {acc : List V} {ws : List Value} {n : Nat} (R : Rp c g (a :: X) ρ z σ s) (hv : VRL z ρ acc ws) (ha : a ∉ X ++ c.tk) (e : s.heap.get? a = some (listOf ws.toArray n)) :
    Rp c g X (ρ ++ [a]) z (σ ++ [.list acc]) s ∧ Go g ρ z s (ρ ++ [a]) z s ∧ VR z (ρ ++ [a]) (.ref σ.length) (.ref a) := by
  obtain ⟨led, a', b, d⟩ := R.own
  have hlen : σ.length = ρ.length := a'.length
  have sub : ∀ x, x ∈ X ++ c.tk → x ∈ (a :: X) ++ c.tk := fun x h => by simp only [List.mem_append, List.mem_cons] at h ⊢; rcases h with h | h <;> simp [h]
  have hp : PR z (ρ ++ [a]) (.list acc) a [(a, listOf ws.toArray n)] := .list (hv.mono (Ext.push ..))
  refine ⟨⟨R.base, R.keep, ⟨led ++ [(a, listOf ws.toArray n)], (a'.mono (Ext.push ..)).snoc hp, ?_, fun p hp => ?_⟩, fun q hq => ⟨(R.frz q hq).1, fun h => (R.frz q hq).2 (sub _ h)⟩, fun x hx => R.off x (sub x hx), R.tabs, R.os, R.dr, R.gens, R.kz⟩,
    ⟨Ext.push .., fun b o e => ⟨o, e⟩, fun _ h => .inl h⟩, .ref (by rw [hlen]; simp)⟩
  · rw [List.map_append, List.nodup_append]
    refine ⟨b, by simp, fun x hx y hy => ?_⟩
    obtain ⟨q, hq, rfl⟩ := List.mem_map.mp hx
    have hya : y = a := by simpa using hy
    subst hya
    intro h
    exact (d q hq).2.2.1 (by rw [h]; simp)
  · rcases List.mem_append.mp hp with h | h
    · exact ⟨(d p h).1, (d p h).2.1, fun h' => (d p h).2.2.1 (sub _ h'), (d p h).2.2.2⟩
    · cases List.mem_singleton.mp h
      refine ⟨e, (R.off a (by simp)).1, ha, fun q hq h' => ?_⟩
      exact (R.frz q hq).2 (by rw [h']; simp)
section
variable {c : Cx} {env : Env} {D : Nat} {l : Loc} {σ : Hp}
theorem ev_compO {elt target iter : Expr} {ifs : List Expr} {scope : Scope} {pos : Pos} {cl : List (Str × Addr)} {lc : Loc} {Q : V → Hp → Prop}
    (hclos : closureFor scope env = pure cl) (hcell : ∀ y ∈ scope.names, y.2 ≠ .cell) (hkind : scope.kind = .function) (hnames : ∀ y ∈ scope.names, y.2 = .local → scope.names.lookup y.1 = some .local) (hlc : CompLoc env scope cl l lc) (hnd : (lc.map (·.1)).Nodup)
    (h : EIt c env D iter l σ fun vs Sg σ₁ => vs.length ≤ 1000000 ∧ ∃ J : Nat → List V → Hp → Prop, J 0 [] σ₁ ∧ (∀ i acc σ₁, J i acc σ₁ → Sg σ₁) ∧
      (∀ C i v acc σ₁, vs[i]? = some v → J i acc σ₁ → EA c (compEnvC scope cl C env) D target v lc σ₁ fun l₂ σ₂ => EB c (compEnvC scope cl C env) D (testsOf ifs (compEnvC scope cl C env)) l₂ σ₂ fun b σ₃ =>
        (b = true → EV c (compEnvC scope cl C env) D (eval elt (compEnvC scope cl C env)) l₂ σ₃ fun u σ₄ => J (i + 1) (acc ++ [u]) σ₄) ∧ (b = false → J (i + 1) acc σ₃)) ∧
      ∀ acc σ₁, J vs.length acc σ₁ → Q (.ref σ₁.length) (σ₁ ++ [.list acc]))
    (hs : ∀ x, foldedSetIterable iter env x = pure x := by (subst_vars; intro _; kernel_rfl)) : EV c env D (eval (.ListComp elt [⟨target, iter, ifs, 0⟩] scope pos) env) l σ Q := by
  intro A g ρ z s Q' E' ok R q
  rw [eval_ListComp]
  refine wpAny_comprehension_free (use := none) rfl hs hclos hkind hnames (h A g ρ z s _ _ ok R fun vs Sg σ1 I Xs St ρ1 z1 s2 h1 hSg K R2 RI2 nX G2 nX0 st0 => ?_)
  obtain ⟨hsz, J, j0, jS, step, fin⟩ := h1
  have tX : ∀ x ∈ Xs, x ∉ c.tk := fun x hx hm => nX x hx (List.mem_append_right _ hm)
  have lX : ∀ x ∈ Xs, x ≠ env.locals := fun x hx e => nX x hx (List.mem_append_left _ (by simp [e]))
  have exX : ∀ x ∈ Xs, ∃ o, s2.heap.get? x = some o := K.sole _ _ _ _ st0
  have exL : ∃ o, s2.heap.get? env.locals = some o := (R2.off env.locals (by simp)).2
  obtain ⟨hp2, gens2, dr2, tk2, os2⟩ := s2
  dsimp only at st0 exX exL ⊢
  -- the list that is built
  refine wpAny_newObj_type (wpAny_newFunctionEnv hcell (by intro y hy; simp at hy) (fun h₁ hns₁ hsb₁ => ?_) hkind)
  dsimp only at hns₁ hsb₁ ⊢
  generalize hH2 : hp2.push { cls := .type "list", dict := none, data := .seq ([] : List Value).toArray } = H2 at hns₁ hsb₁ ⊢
  have hD2 : H2.get? hp2.objs.size = some (listOf #[] 0) := by rw [← hH2]; exact Heap.get?_push_size _ rfl
  have nD2 : hp2.get? hp2.objs.size = none := fresh_at (Nat.le_refl _)
  have k23 : ∀ b o, hp2.get? b = some o → H2.get? b = some o := fun b o e => by rw [← hH2]; exact Heap.get?_push_of_some _ e
  have nC2 : H2.get? H2.objs.size = none := fresh_at (Nat.le_refl _)
  have k3 : ∀ b o, H2.get? b = some o → h₁.get? b = some o := fun b o e => (hsb₁.2 b (Nat.ne_of_lt (Heap.lt_size e))).trans (Heap.get?_push_of_some _ e)
  have eC : ∃ o, h₁.get? H2.objs.size = some o := let ⟨o, _, _, e, _⟩ := hns₁; ⟨o, e⟩
  generalize hp2.objs.size = Da at hD2 nD2 ⊢
  generalize H2.objs.size = C at nC2 hns₁ hsb₁ eC ⊢
  have P3 : Rp c g (Da :: (Xs ++ [env.locals])) ρ1 z1 σ1 ⟨H2, gens2, dr2, tk2, os2⟩ := RI2.addX' (s' := ⟨H2, gens2, dr2, tk2, os2⟩) k23 nD2 ⟨_, hD2⟩
  have P4 : Rp c g (C :: Da :: (Xs ++ [env.locals])) ρ1 z1 σ1 ⟨h₁, gens2, dr2, tk2, os2⟩ := P3.addX' (s' := ⟨h₁, gens2, dr2, tk2, os2⟩) k3 nC2 eC
  have notTk : ∀ {x : Addr} {XX : List Addr} {ss : Shared} {ρρ zz σσ}, Rp c g XX ρρ zz σσ ss → ss.heap.get? x = none → x ∉ c.tk := fun PP e hm => by
    obtain ⟨_, e'⟩ := (PP.off _ (List.mem_append_right _ hm)).2
    rw [e] at e'; cases e'
  have tD : Da ∉ c.tk := notTk RI2 nD2
  have tC : C ∉ c.tk := notTk P3 nC2
  have nDX : Da ∉ Xs := fun h => by obtain ⟨o, e'⟩ := exX _ h; rw [e'] at nD2; cases nD2
  have nDL : Da ≠ env.locals := fun e => by obtain ⟨o, e'⟩ := exL; rw [e, e'] at nD2; cases nD2
  have nCD : C ≠ Da := fun e => by rw [e, hD2] at nC2; cases nC2
  have nCX : C ∉ Xs := fun h => by obtain ⟨o, e'⟩ := exX _ h; rw [k23 _ _ e'] at nC2; cases nC2
  have nCL : C ≠ env.locals := fun e => by obtain ⟨o, e'⟩ := exL; rw [e, k23 _ _ e'] at nC2; cases nC2
  have nLX : env.locals ∉ Xs := fun h => lX _ h rfl
  obtain ⟨oL, eL⟩ := exL
  have k13 : ∀ b o, hp2.get? b = some o → h₁.get? b = some o := fun b o e => k3 _ _ (k23 _ _ e)
  have G4 : Go g ρ z s ρ1 z1 ⟨h₁, gens2, dr2, tk2, os2⟩ := G2.trans (Go.same _ _ _ _ _ k13)
  have st1 : St 0 ρ1 z1 h₁ := K.keep _ _ _ _ _ _ _ st0 (Ext.refl ..) (fun x _ o e => k13 _ _ e) (fun p hp => (RI2.frz p hp).1) (fun p hp => (P4.frz p hp).1)
  obtain ⟨mL, hmL, hlL⟩ := R2.ns
  have nrc : ∀ {ρ' z' m'}, Ext ρ1 z1 ρ' z' → ∀ p ∈ lc, NR (compEnvC scope cl C env) ρ' z' m' p := fun {ρ' z' m'} ex p hp => by
    rcases hlc p hp with h | ⟨i, h1, h2, h3, h4⟩
    · exact .inl h
    · rcases hlL p h2 with h5 | ⟨i', a, h5, _, h6, h7⟩ | ⟨h5, w', h6, h7⟩
      · rw [h1] at h5; cases h5
      · rw [h1] at h5; cases h5
        exact .inr (.inl ⟨i, a, h1, h4, h3.trans h6, ex.r _ _ h7⟩)
      · rw [h1] at h7; cases h7
  -- the turns
  have loop : ∀ tk, codeAny c.M A (.compLoop (.ListComp elt [⟨target, iter, ifs, 0⟩] scope pos) 0 (.ref I) (.ref Da) (compEnvC scope cl C env)) (compPost c.M A E' none Q' (.ref Da) C) ⟨h₁, gens2, dr2, tk, os2⟩ := fun tk => by
    refine compLoop_gen (fun k s' => ∃ i acc σ' ρ' z' ws n, k = vs.length + 1 - i ∧ i ≤ vs.length ∧ acc.length ≤ i ∧ Rp c g (C :: Da :: (Xs ++ [env.locals])) ρ' z' σ' s' ∧ s'.heap.get? Da = some (listOf ws n) ∧ VRL z' ρ' acc ws.toList ∧ (∃ m, s'.heap.Ns C m) ∧ s'.heap.get? env.locals = some oL ∧ Go g ρ z s ρ' z' s' ∧ Ext ρ1 z1 ρ' z' ∧ St i ρ' z' s'.heap ∧ J i acc σ') ?_ (vs.length + 1)
      ⟨0, [], σ1, ρ1, z1, #[], 0, by simp, Nat.zero_le _, Nat.le_refl _, P4.grow (s' := ⟨h₁, gens2, dr2, tk, os2⟩) (fun _ _ e => e), k3 _ _ hD2, .nil, ⟨_, hns₁⟩, k13 _ _ eL, G4.trans (Go.same _ _ _ _ _ fun _ _ e => e), Ext.refl .., st1, j0⟩
    rintro k s' ⟨i, acc, σ', ρ', z', ws, n, rfl, hi, hacc, P', hD, hVR, ⟨mC, hmC⟩, hL, G', X', st', hJ⟩
    have hXX : ∀ x ∈ Xs, x ∈ C :: Da :: (Xs ++ [env.locals]) ∧ x ∉ c.tk := fun x hx => ⟨by simp [hx], tX x hx⟩
    by_cases hlt : i < vs.length
    · refine K.item i vs[i] g _ ρ' z' σ' s' _ _ (by simp [hlt]) P' hXX (jS _ _ _ hJ) st' fun wv ρ2 z2 s2' P₂ G₂ k₂ rv st₂ lg => ?_
      refine lg _ _ _ fun s3' P₃ G₃ k₃ st₃ => ?_
      have kk : ∀ b o, b ∉ Xs → s'.heap.get? b = some o → s3'.heap.get? b = some o := fun b o hb e => k₃ b o hb (k₂ b o hb e)
      have eo : ∀ x, x ∈ C :: Da :: (Xs ++ [env.locals]) → x ∈ [C] ++ (Da :: (Xs ++ [env.locals])) := fun x hx => hx
      obtain ⟨g1, Pg, back⟩ := (P₃.perm (Y := [C] ++ (Da :: (Xs ++ [env.locals]))) fun x hx => hx).inner (by
        intro x hx
        simp only [List.mem_cons, List.mem_append, List.not_mem_nil, or_false] at hx ⊢
        rcases hx with rfl | hx | rfl
        · exact ⟨nCD.symm, tD⟩
        · exact ⟨fun e => nCX (e ▸ hx), tX x hx⟩
        · exact ⟨nCL.symm, R2.lt⟩)
      have ex3 := G₂.trans G₃
      have RR : Rep c (compEnvC scope cl C env) g1 ρ2 z2 σ' lc s3' :=
        ⟨Pg, ⟨mC, hmC.at' fun o e => kk _ o nCX e, nrc (X'.trans ex3.toExt)⟩, hnd, hkind, R2.glob, R2.bltn, tC⟩
      refine step C i vs[i] acc σ' (by simp [hlt]) hJ A g1 ρ2 z2 _ _ _ wv ok RR (rv.mono G₃.toExt) fun l3 σ3 ρ3 z3 s3 h3 R3 G3 => ?_
      refine h3 A g1 ρ3 z3 s3 _ _ ok R3 fun b σb ρb zb sb hb Rb Gb => ?_
      cases b with
      | false =>
        rw [if_neg (by simp)]
        obtain ⟨PB, GB, kO⟩ := back _ _ _ _ Rb.toRp (G3.trans Gb)
        have GT := (G'.trans ex3).trans GB
        obtain ⟨m4, hm4, _⟩ := Rb.ns
        exact ⟨vs.length + 1 - (i + 1), by omega, i + 1, acc, σb, ρb, zb, ws, n, rfl, hlt, by omega, PB, kO Da (by simp) _ (kk _ _ nDX hD), hVR.mono (ex3.trans GB).toExt, ⟨m4, hm4⟩, kO env.locals (by simp) _ (kk _ _ nLX hL), GT, X'.trans (ex3.trans GB).toExt,
          K.keep _ _ _ _ _ _ _ st₃ GB.toExt (fun x hx o e => kO x (by simp [hx]) o e) (fun p hp => (P₃.frz p hp).1) (fun p hp => (PB.frz p (GB.zz p hp)).1), hb.2 rfl⟩
      | true =>
        rw [if_pos rfl]
        refine hb.1 rfl A g1 ρb zb sb _ _ ok Rb fun u wu σ4 ρ4 z4 s4 h4 R4 G4' r4 => ?_
        obtain ⟨PB, GB, kO⟩ := back _ _ _ _ R4.toRp ((G3.trans Gb).trans G4')
        have hD4 : s4.heap.get? Da = some (listOf ws n) := kO Da (by simp) _ (kk _ _ nDX hD)
        have hVR4 := hVR.mono (ex3.trans GB).toExt
        have hws : ws.size ≤ sizeLine := by
          have := hVR.length
          simp only [Array.length_toList] at this
          rw [sizeLine_eq]; omega
        refine wpAny_list_append_plain ⟨n, hD4⟩ (fun h₅ hD5 hs5 => ?_) hws
        obtain ⟨n5, hD5⟩ := hD5
        have P5 : Rp c g (C :: Da :: (Xs ++ [env.locals])) ρ4 z4 σ4 { s4 with heap := h₅ } := PB.atX' (a := Da) (by simp) tD (fun b o hb e => (hs5.2 b hb).trans e) ⟨_, hD5⟩
        have G5 : Go g ρ4 z4 s4 ρ4 z4 { s4 with heap := h₅ } := ⟨Ext.refl .., fun b o e => by
          by_cases hb : b = Da
          · subst hb; exact ⟨_, hD5⟩
          · exact ⟨o, (hs5.2 b hb).trans e⟩, fun _ h => .inl h⟩
        have GT := (G'.trans ex3).trans (GB.trans G5)
        obtain ⟨m4, hm4, _⟩ := R4.ns
        refine ⟨vs.length + 1 - (i + 1), by omega, i + 1, acc ++ [u], σ4, ρ4, z4, ws.push wu, n5, rfl, hlt, by simp; omega, P5, hD5, ?_, ⟨m4, hm4.sameBut hs5 nCD⟩, ?_, GT, X'.trans (ex3.trans (GB.trans G5)).toExt, ?_, h4⟩
        · have := hVR4.append (.cons r4 .nil)
          simpa using this
        · exact (hs5.2 _ nDL.symm).trans (kO env.locals (by simp) _ (kk _ _ nLX hL))
        · refine K.keep _ _ _ _ _ _ _ st₃ GB.toExt (fun x hx o e => ?_) (fun p hp => (P₃.frz p hp).1) (fun p hp => (P5.frz p (GB.zz p hp)).1)
          exact (hs5.2 _ fun e => nDX (e ▸ hx)).trans (kO x (by simp [hx]) o e)
    · have hin : i = vs.length := by omega
      subst hin
      refine K.done g _ ρ' z' σ' s' _ _ P' hXX (jS _ _ _ hJ) st' fun s₁ kk e1 e2 e3 => ?_
      refine ⟨mC, hmC.at' fun o e => kk _ o nCX e, fun h₃ hs₃ => ?_⟩
      -- what is left is the frame and the list
      have kC : ∀ b o, b ≠ C → s₁.heap.get? b = some o → h₃.get? b = some o := fun b o hb e => (hs₃.2 b hb).trans e
      have P6 : Rp c g (Xs ++ [C, Da, env.locals]) ρ' z' σ' s' := P'.perm (by
        intro x hx
        simp only [List.mem_cons, List.mem_append, List.not_mem_nil, or_false] at hx ⊢
        rcases hx with h | h | h | h <;> simp [h])
      have P7 : Rp c g [C, Da, env.locals] ρ' z' σ' s₁ := P6.offXs (by
        intro x hx
        simp only [List.mem_append, List.mem_cons, List.not_mem_nil, or_false]
        rintro ((h | h | h) | h)
        · exact nCX (h ▸ hx)
        · exact nDX (h ▸ hx)
        · exact lX x hx h
        · exact tX x hx h) kk e1 e2 e3
      have P8 : Rp c g [Da, env.locals] ρ' z' σ' { s₁ with heap := h₃ } := P7.offI (s' := { s₁ with heap := h₃ }) (by
        simp only [List.mem_append, List.mem_cons, List.not_mem_nil, or_false]
        rintro ((h | h) | h)
        · exact nCD h
        · exact nCL h
        · exact tC h) kC
      obtain ⟨P9, G9, r9⟩ := P8.ownX (a := Da) (ws := ws.toList) (n := n) hVR (by
        simp only [List.mem_append, List.mem_cons, List.not_mem_nil, or_false]
        rintro (h | h)
        · exact nDL h
        · exact tD h) (by simpa using kC _ _ nCD.symm (kk _ _ nDX hD))
      have hL3 : h₃.get? env.locals = some oL := kC _ _ nCL.symm (kk _ _ nLX hL)
      have G8 : Go g ρ z s ρ' z' { s₁ with heap := h₃ } := ⟨G'.toExt, fun b o e => by
        obtain ⟨o1, e1⟩ := G2.dom b o e
        obtain ⟨o', e'⟩ := G'.dom b o e
        exact ⟨o', kC _ _ (fresh_ne (k23 _ _ e1) nC2) (kk _ _ (fun hb => by rw [nX0 b hb] at e; cases e) e')⟩, G'.fr⟩
      refine q _ _ _ _ _ _ (fin _ _ hJ) (R2.mk' P9 (X'.trans G9.toExt) fun m hm => ?_) (G8.trans G9) r9
      obtain ⟨o, es, ep, e, r⟩ := hm
      have : o = oL := Option.some.inj (e.symm.trans eL)
      subst this
      exact ⟨o, es, ep, hL3, r⟩
  exact codeAny_compStart_list (loop _) (K.self _ _ _ _ _ _ st1 (loop _))
end
end
section
open PySem PySem.W PyProof.Rows PySem.Calls
-- WHAT THE CALLER NO LONGER REACHES IS LET GO
mutual
def V.bl (n : Nat) : V → Prop
  | .ref i => i < n
  | .tup vs => V.blL n vs
  | .lst vs => V.blL n vs
  | .obj _ fs => V.blF n fs
  | .dct _ vs => V.blL n vs
  | .ntup _ vs => V.blL n vs
  | _ => True
def V.blL (n : Nat) : List V → Prop
  | [] => True
  | v :: vs => v.bl n ∧ V.blL n vs
def V.blF (n : Nat) : List (Nat × V) → Prop
  | [] => True
  | p :: vs => p.2.bl n ∧ V.blF n vs
end
def AO.bl (n : Nat) : AO → Prop
  | .dead => True
  | .list vs => V.blL n vs
  | .inst _ fs => V.blF n fs
  | .cell v => v.bl n
  | .dict _ vs => V.blL n vs
def Hp.bl (n : Nat) : Hp → Prop
  | [] => True
  | o :: σ => o.bl n ∧ Hp.bl n σ
mutual
theorem VR.cut {z : Led} {ρ ρ' : List Addr} : ∀ {v w}, VR z (ρ ++ ρ') v w → v.bl ρ.length → VR z ρ v w
  | _, _, .none, _ => .none
  | _, _, .bool b, _ => .bool b
  | _, _, .int i t, _ => .int i t
  | _, _, .bytes b t, _ => .bytes b t
  | _, _, .str x t, _ => .str x t
  | _, _, .val v, _ => .val v
  | _, _, .ref h, hb => .ref (by unfold V.bl at hb; rwa [List.getElem?_append_left hb] at h)
  | _, _, .rng h, _ => .rng h
  | _, _, .tup h l, hb => .tup h (VRL.cut' l (by unfold V.bl at hb; exact hb))
  | _, _, .lst h l, hb => .lst h (VRL.cut' l (by unfold V.bl at hb; exact hb))
  | _, _, .obj h h' l, hb => .obj h h' (ER.cut' l (by unfold V.bl at hb; exact hb))
  | _, _, .dct h m d l, hb => .dct h m d (VRL.cut' l (by unfold V.bl at hb; exact hb))
  | _, _, .ntup h h2 l, hb => .ntup h h2 (VRL.cut' l (by unfold V.bl at hb; exact hb))
theorem VRL.cut' {z : Led} {ρ ρ' : List Addr} : ∀ {v w}, VRL z (ρ ++ ρ') v w → V.blL ρ.length v → VRL z ρ v w
  | _, _, .nil, _ => .nil
  | _, _, .cons h l, hb => .cons (VR.cut h (by unfold V.blL at hb; exact hb.1)) (VRL.cut' l (by unfold V.blL at hb; exact hb.2))
theorem ER.cut' {z : Led} {ρ ρ' : List Addr} : ∀ {v w}, ER z (ρ ++ ρ') v w → V.blF ρ.length v → ER z ρ v w
  | _, _, .nil, _ => .nil
  | _, _, .cons h l, hb => .cons (VR.cut h (by unfold V.blF at hb; exact hb.1)) (ER.cut' l (by unfold V.blF at hb; exact hb.2))
end
theorem PR.cut {z : Led} {ρ ρ' : List Addr} {o a p} : PR z (ρ ++ ρ') o a p → o.bl ρ.length → PR z ρ o a p
  | .dead a, _ => .dead a
  | .list l, h => .list (l.cut' h)
  | .inst l, h => .inst (l.cut' h)
  | .cell r d, h => .cell (r.cut h) d
  | .cell0 d, _ => .cell0 d
  | .dict m d l, h => .dict m d (l.cut' h)
theorem SR.cut {z : Led} {ρ ρ' : List Addr} : ∀ {σ τ r l}, SR z (ρ ++ ρ') (σ ++ τ) r l → Hp.bl ρ.length σ → ∃ r1 r2 l1 l2, r = r1 ++ r2 ∧ l = l1 ++ l2 ∧ r1.length = σ.length ∧ SR z ρ σ r1 l1
  | [], τ, r, l, h, _ => ⟨[], r, [], l, rfl, rfl, rfl, .nil⟩
  | o :: σ, τ, _, _, .cons (a := a) (p := p) h hs, hb => by
    unfold Hp.bl at hb
    obtain ⟨r1, r2, l1, l2, rfl, rfl, e, s⟩ := SR.cut (σ := σ) (τ := τ) hs hb.2
    exact ⟨a :: r1, r2, p ++ l1, l2, rfl, by simp, by simp [e], .cons (h.cut hb.1) s⟩
theorem FC.gc {c : Cx} {D : Nat} {f : V} {args : List V} {kw : List (Str × V)} {σ : Hp} {Q : V → Hp → Prop}
    (h : FC c D f args kw σ fun v σ' => ∃ σ'' τ, σ' = σ'' ++ τ ∧ σ.length ≤ σ''.length ∧ v.bl σ''.length ∧ Hp.bl σ''.length σ'' ∧ Q v σ'') : FC c D f args kw σ Q := by
  intro A g ρ z s R wf ws kws ok P r1 r2 r3 q
  refine h A g ρ z s R wf ws kws ok P r1 r2 r3 fun v w σ' ρ' z' s' hq P' G' r' => ?_
  obtain ⟨σ'', τ, rfl, hle, hv, hb, hq⟩ := hq
  obtain ⟨led, sr, nd, d⟩ := P'.own
  have hlen : (σ'' ++ τ).length = ρ'.length := sr.length
  have hρ : ρ' = ρ'.take σ''.length ++ ρ'.drop σ''.length := (List.take_append_drop _ _).symm
  have ht : (ρ'.take σ''.length).length = σ''.length := by rw [List.length_take]; simp at hlen; omega
  have sr' : SR z' (ρ'.take σ''.length ++ ρ'.drop σ''.length) (σ'' ++ τ) ρ' led := by rw [← hρ]; exact sr
  obtain ⟨r1', r2', l1, l2, e1, rfl, e3, s1⟩ := sr'.cut (by rw [ht]; exact hb)
  have e4 : r1' = ρ'.take σ''.length := by
    rw [e1, ← e3]; simp
  rw [e4] at s1
  obtain ⟨led0, sr0, _⟩ := P.own
  have hl0 : σ.length = ρ.length := sr0.length
  refine q _ _ σ'' (ρ'.take σ''.length) z' s' hq ⟨P'.base, P'.keep, ⟨l1, s1, ?_, fun p hp => d p (List.mem_append_left _ hp)⟩, P'.frz, P'.off, P'.tabs, P'.os, P'.dr, P'.gens, P'.kz⟩
    ⟨⟨fun i a hi => ?_, G'.zz⟩, G'.dom, G'.fr⟩ ?_
  · rw [List.map_append, List.nodup_append] at nd; exact nd.1
  · have h1 := G'.r i a hi
    have h2 : i < ρ.length := (List.getElem?_eq_some_iff.mp hi).1
    rw [List.getElem?_take_of_lt (by omega)]; exact h1
  · have : VR z' (ρ'.take σ''.length ++ ρ'.drop σ''.length) v w := by rw [← hρ]; exact r'
    exact this.cut (by rw [ht]; exact hv)
theorem blL_ints {n : Nat} : ∀ {ns : List Int}, V.blL n (ns.map V.int)
  | [] => by simp [V.blL]
  | _ :: ns => by simp only [List.map_cons, V.blL]; exact ⟨by simp [V.bl], blL_ints⟩
mutual
theorem VR.isbl {z : Led} {ρ : List Addr} : ∀ {v w}, VR z ρ v w → v.bl ρ.length
  | _, _, .none => by simp [V.bl]
  | _, _, .bool b => by simp [V.bl]
  | _, _, .int i t => by simp [V.bl]
  | _, _, .bytes b t => by simp [V.bl]
  | _, _, .str x t => by simp [V.bl]
  | _, _, .val v => by simp [V.bl]
  | _, _, .ref h => by unfold V.bl; exact (List.getElem?_eq_some_iff.mp h).1
  | _, _, .rng h => by simp [V.bl]
  | _, _, .tup h l => by unfold V.bl; exact VRL.isbl l
  | _, _, .lst h l => by unfold V.bl; exact VRL.isbl l
  | _, _, .obj h h' l => by unfold V.bl; exact ER.isbl l
  | _, _, .dct h m d l => by unfold V.bl; exact VRL.isbl l
  | _, _, .ntup h _ l => by unfold V.bl; exact VRL.isbl l
theorem VRL.isbl {z : Led} {ρ : List Addr} : ∀ {v w}, VRL z ρ v w → V.blL ρ.length v
  | _, _, .nil => by simp [V.blL]
  | _, _, .cons h l => by unfold V.blL; exact ⟨VR.isbl h, VRL.isbl l⟩
theorem ER.isbl {z : Led} {ρ : List Addr} : ∀ {v w}, ER z ρ v w → V.blF ρ.length v
  | _, _, .nil => by simp [V.blF]
  | _, _, .cons h l => by unfold V.blF; exact ⟨VR.isbl h, ER.isbl l⟩
end
theorem PR.isbl {z : Led} {ρ : List Addr} {o a p} : PR z ρ o a p → o.bl ρ.length
  | .dead a => by simp [AO.bl]
  | .list l => l.isbl
  | .inst l => l.isbl
  | .cell r d => r.isbl
  | .cell0 d => by simp [AO.bl, V.bl]
  | .dict m d l => l.isbl
theorem SR.isbl {z : Led} {R : List Addr} : ∀ {σ r l}, SR z R σ r l → Hp.bl R.length σ
  | _, _, _, .nil => by simp [Hp.bl]
  | _, _, _, .cons h l => by unfold Hp.bl; exact ⟨h.isbl, l.isbl⟩
/-- the heap and the arguments of a call are whole -/
theorem FC.wf {c : Cx} {D : Nat} {f : V} {args : List V} {kw : List (Str × V)} {σ : Hp} {Q : V → Hp → Prop} (h : Hp.bl σ.length σ → V.blL σ.length args → FC c D f args kw σ Q) : FC c D f args kw σ Q := by
  intro A g ρ z s R wf ws kws ok P r1 r2 r3 q
  obtain ⟨led, sr, _⟩ := P.own
  have e : σ.length = ρ.length := sr.length
  exact h (by rw [e]; exact sr.isbl) (by rw [e]; exact r2.isbl) A g ρ z s R wf ws kws ok P r1 r2 r3 q
end
section
open PySem PySem.W PyProof.Rows PySem.Calls PySem.Builtin
set_option maxRecDepth 100000
/-- len of an instance, by its class's own def -/
theorem len_inst {prog : Program} {w : World} {A : Around} {E : Value → Shared → Prop} {s : Shared} {K : Frag} {x C f : Addr} {ox : Obj} {od : Option Obj} {Q : Value → Shared → Prop} (X : K.In s.heap) (I : InstAt s.heap x ox C od)
    (hs : findIn K (.ref C) "__len__" = some (some (.ref f))) (hf : isFn K (.ref f) = true) (h : wpAny (model prog w) A.in1 (call (.ref f) [.ref x]) (PySem.W.LenBack Q) E s) : wpAny (model prog w) A (call (.builtin "len") [.ref x]) Q E s := by
  refine Calls.call_function_entry kind_len plain_len entry_len (args_len1 _) ?_
  unfold Builtin.«len»
  refine wpAny_bind (m := oneArg "len" _) (wpAny_pure ?_)
  refine wpAny_bind (m := callSpecial? (.ref x) (Str.ofString "__len__")) (special_fn X I hs (beq_iff_eq.mp hf) (wpAny_mono h (fun r s' hr => ?_) fun _ _ y => y))
  unfold PySem.W.LenBack at hr
  split at hr
  · rename_i n u
    obtain ⟨⟨h0, h1⟩, hq⟩ := hr
    refine wpAny_bind (wpAny_holding (wpAny_pure ?_))
    refine wpAny_bind (wpAny_letGo ?_)
    show wpAny _ _ (if n < 0 then _ else _) _ _ _
    rw [if_neg (by omega)]
    show wpAny _ _ (if n ≥ 2 ^ 63 then _ else _) _ _ _
    rw [if_neg (by omega)]
    exact wpAny_bind (wpAny_mkInt (wpAny_pure ⟨_, rfl, hq⟩))
  · exact hr.elim
section
variable {c : Cx} {D : Nat} {σ : Hp} {Q : V → Hp → Prop}
theorem fn_len_raw {v : V} {C f : Addr} (hI : ∀ (g : Heap) (ρ : List Addr) (z : Led) (s : Shared) (w : Value), Rp c g [] ρ z σ s → VR z ρ v w → ∃ x ox od, w = .ref x ∧ InstAt s.heap x ox C od)
    (hs : findIn c.K (.ref C) "__len__" = some (some (.ref f))) (hf : isFn c.K (.ref f) = true) (h : FC c D (.val (.ref f)) [v] [] σ fun r σ' => ∃ n, r = .int n ∧ 0 ≤ n ∧ n < 2 ^ 63 ∧ Q (.int n) σ') : FN c (D + 1) (.val (.builtin "len")) [v] [] σ Q := by
  intro A g ρ z s Q' E' wf ws kws ok R rf rl rk q
  cases rf
  cases rl with
  | cons r rn =>
  cases rn
  cases rk
  obtain ⟨x, ox, od, rfl, I⟩ := hI g ρ z s _ R r
  have ok' : Ok A.in1 D := ⟨ok.h, by have := ok.d; show A.depth + 3 * D + 3 < _; omega, by have := ok.u; show A.units + 1 + 20 * D + 20 < _; omega⟩
  refine len_inst (R.base.X.keeps R.keep) I hs hf ?_
  refine h.fn A.in1 g ρ z s _ _ (.ref f) [.ref x] [] ok' R (.val _) (.cons r .nil) .nil fun v w σ' ρ' z' s' hq R' G' r' => ?_
  obtain ⟨n, rfl, h0, h1, hq⟩ := hq
  cases r'
  exact ⟨⟨h0, h1⟩, q _ _ _ _ _ _ hq (R'.toks _) (G'.trans (Go.toks ..)) (.int _ _)⟩
theorem fn_len_inst {i : Nat} {C f : Addr} {fs : List (Nat × V)} (hi : σ[i]? = some (.inst C fs)) (hs : findIn c.K (.ref C) "__len__" = some (some (.ref f))) (hf : isFn c.K (.ref f) = true)
    (h : FC c D (.val (.ref f)) [.ref i] [] σ fun r σ' => ∃ n, r = .int n ∧ 0 ≤ n ∧ n < 2 ^ 63 ∧ Q (.int n) σ') : FN c (D + 1) (.val (.builtin "len")) [.ref i] [] σ Q :=
  fn_len_raw (fun g ρ z s w R r => by
    cases r with
    | ref hr =>
      obtain ⟨x', p, h1, h2, h3⟩ := R.at hi
      rw [hr] at h1; cases h1
      obtain ⟨dx, sl, es, n, rfl, hE⟩ := h2.inst_inv
      exact ⟨_, ⟨.ref C, some dx, .plain, sl⟩, some (dictOf es n), rfl, ⟨(h3 _ (.head _)).1, rfl, rfl, (h3 _ (.tail _ (.head _))).1⟩⟩) hs hf h
theorem fn_len_obj {C f : Addr} {fs : List (Nat × V)} (hs : findIn c.K (.ref C) "__len__" = some (some (.ref f))) (hf : isFn c.K (.ref f) = true)
    (h : FC c D (.val (.ref f)) [.obj C fs] [] σ fun r σ' => ∃ n, r = .int n ∧ 0 ≤ n ∧ n < 2 ^ 63 ∧ Q (.int n) σ') : FN c (D + 1) (.val (.builtin "len")) [.obj C fs] [] σ Q :=
  fn_len_raw (fun g ρ z s w R r => by
    cases r with
    | obj hx hdx hE => exact ⟨_, _, _, rfl, InstAt.mk (od := some (dictOf _ _)) (R.frz _ hx).1 rfl rfl (R.frz _ hdx).1⟩) hs hf h
end
end
section
open PySem PySem.W PyProof.Rows PySem.Calls

/-- what a class says of a name -/
inductive CA where
  | bad | no | val (v : V) | meth (f : Addr) | prop (g s : Addr) | tg (i : Nat)

/-- what a walk is run with -/
structure Ex where
  c : Cx
  D : Nat
  cls : Addr → Nat → CA
  pur : Addr → List V → Option V
  kv : Addr → Option V
  run : Bool

def CAok (c : Cx) (C : Addr) (k : Nat) : CA → Prop
  | .bad => True
  | .no => ClsR c C (nm k) ∧ ClsW c C ∧ (∃ a, findIn c.K (.ref C) (nm k) = some a ∧ noGet c.K a = true) ∧ takerIn c.K C (nm k) = some none
  | .val v => ClsR c C (nm k) ∧ ClsW c C ∧ takerIn c.K C (nm k) = some none ∧ ∃ a, absV a = v ∧ findIn c.K (.ref C) (nm k) = some (some a) ∧ specialIn c.K a "__get__" = some none ∧ handedIn a = true ∧ copiedNames.contains (nm k) = false ∧ noGet c.K (some a) = true
  | .meth f => ClsR c C (nm k) ∧ findIn c.K (.ref C) (nm k) = some (some (.ref f)) ∧ isFn c.K (.ref f) = true ∧ keepIn c.K (.ref f) = true
  | .prop g s => ClsR c C (nm k) ∧ ClsW c C ∧ ∃ p rest, findIn c.K (.ref C) (nm k) = some (some (.ref p)) ∧ specialIn c.K (.ref p) "__get__" = some (some (.builtin "property.__get__")) ∧ takesIn c.K (.ref p) = some true ∧
      recIn c.K p "property" = some (.ref g :: .ref s :: rest) ∧ takerIn c.K C (nm k) = some (some (.ref p)) ∧ typeIn c.K (.ref p) = some (.type "property")
  | .tg _ => False

structure XOk (X : Ex) : Prop where
  cls : ∀ C k, CAok X.c C k (X.cls C k)
  pur : ∀ f args v, X.pur f args = some v → ∀ σ Q, Q v σ → FC X.c X.D (.val (.ref f)) args [] σ Q
  kv : ∀ a v, X.kv a = some v → ∀ (z : Led) (ρ : List Addr), (∀ p ∈ X.c.kz, p ∈ z) → VR z ρ v (.ref a)

abbrev WE := Ex → List V → Hp → (V → Hp → Prop) → Prop
abbrev WB := Ex → List V → Hp → (Bool → Hp → Prop) → Prop
abbrev WX := Ex → List V → Hp → (Fl → List V → Hp → Prop) → Prop
abbrev WA := Ex → V → List V → Hp → (List V → Hp → Prop) → Prop
abbrev WL := Ex → List V → Hp → (List V → Hp → Prop) → Prop
abbrev WK := Ex → List V → Hp → (List (Str × V) → Hp → Prop) → Prop

-- WHAT THE WALK STOPS AT
/-- a condition -/
@[irreducible] def chk (P : Prop) [d : Decidable P] (K : Prop) : Prop := match d with | .isTrue _ => K | .isFalse _ => False
theorem chk_of {P : Prop} {d : Decidable P} {K : Prop} (h : P) (k : K) : chk P K := by
  unfold chk; cases d with
  | isTrue _ => exact k
  | isFalse n => exact absurd h n
theorem of_chk {P : Prop} {d : Decidable P} {K : Prop} (h : chk P K) : P ∧ K := by
  unfold chk at h; cases d with
  | isTrue p => exact ⟨p, h⟩
  | isFalse n => exact h.elim
/-- a fork -/
@[irreducible] def br (b : Bool) (P P' : Prop) : Prop := match b with | true => P | false => P'
theorem br_t {b : Bool} {P P' : Prop} (h : b = true) (p : P) : br b P P' := by subst h; unfold br; exact p
theorem br_f {b : Bool} {P P' : Prop} (h : b = false) (p : P') : br b P P' := by subst h; unfold br; exact p
theorem br_both {b : Bool} {P P' : Prop} (h : b = true → P) (h' : b = false → P') : br b P P' := by cases b; exact br_f rfl (h' rfl); exact br_t rfl (h rfl)
theorem of_br {b : Bool} {P P' : Prop} (h : br b P P') : (b = true → P) ∧ (b = false → P') := by
  unfold br at h; cases b
  · exact ⟨fun e => (nomatch e), fun _ => h⟩
  · exact ⟨fun _ => h, fun e => (nomatch e)⟩
/-- an object of the heap -/
@[irreducible] def getO (σ : Hp) (i : Nat) (K : AO → Prop) : Prop := match σ[i]? with | some o => K o | none => False
theorem getO_of {σ : Hp} {i : Nat} {o : AO} {K : AO → Prop} (h : σ[i]? = some o) (k : K o) : getO σ i K := by unfold getO; rw [h]; exact k
theorem of_getO {σ : Hp} {i : Nat} {K : AO → Prop} (h : getO σ i K) : ∃ o, σ[i]? = some o ∧ K o := by
  unfold getO at h; split at h
  · rename_i o e; exact ⟨o, e, h⟩
  · exact h.elim
/-- an item -/
@[irreducible] def getV (vs : List V) (i : Nat) (K : V → Prop) : Prop := match vs[i]? with | some v => K v | none => False
theorem getV_of {vs : List V} {i : Nat} {v : V} {K : V → Prop} (h : vs[i]? = some v) (k : K v) : getV vs i K := by unfold getV; rw [h]; exact k
theorem of_getV {vs : List V} {i : Nat} {K : V → Prop} (h : getV vs i K) : ∃ v, vs[i]? = some v ∧ K v := by
  unfold getV at h; split at h
  · rename_i o e; exact ⟨o, e, h⟩
  · exact h.elim

-- LOCALS
def nth : List V → Nat → V
  | [], _ => .unb
  | v :: _, 0 => v
  | _ :: r, i + 1 => nth r i
def updK : List V → Nat → V → (List V → Prop) → Prop
  | [], _, _, _ => hi False
  | _ :: r, 0, v, K => hi (K (v :: r))
  | u :: r, i + 1, v, K => hi (updK r i v fun r' => K (u :: r'))
theorem updK_set : ∀ {l : List V} {i : Nat} {v : V} {K : List V → Prop}, updK l i v K → i < l.length ∧ K (l.set i v)
  | [], _, _, _, h => h.elim
  | _ :: r, 0, v, K, h => ⟨by simp, h⟩
  | u :: r, i + 1, v, K, h => by
    obtain ⟨a, b⟩ := updK_set (l := r) (K := fun r' => K (u :: r')) h
    exact ⟨by simpa using a, by simpa using b⟩
inductive At {α : Type} : List α → Nat → α → Prop
  | hd {x r} : At (x :: r) 0 x
  | tl {x y r i} : At r i x → At (y :: r) (i + 1) x
theorem zip_nth : ∀ {ns : List Str} {l : List V} {i : Nat} {x : Str}, At ns i x → l.length = ns.length → (x, nth l i) ∈ ns.zip l
  | _, [], _, _, .hd, e => by simp at e
  | _, v :: l, _, _, .hd, _ => by simp [nth]
  | _, [], _, _, .tl _, e => by simp at e
  | _, v :: l, _, _, .tl h, e => by
    simp only [List.zip_cons_cons, nth]
    exact .tail _ (zip_nth h (by simpa using e))
theorem zip_up : ∀ {ns : List Str} {l : List V} {i : Nat} {x : Str} (v : V), At ns i x → l.length = ns.length → Up x v (ns.zip l) (ns.zip (l.set i v))
  | _, [], _, _, _, .hd, e => by simp at e
  | _, u :: l, _, _, _, .hd, _ => by simp only [List.zip_cons_cons, List.set_cons_zero]; exact .hd
  | _, [], _, _, _, .tl _, e => by simp at e
  | _, u :: l, _, _, v, .tl h, e => by
    simp only [List.zip_cons_cons, List.set_cons_succ]
    exact .tl (zip_up v h (by simpa using e))

-- THE TRANSLATION
def CE (c : Cx) (env : Env) (ns : List Str) (e : Expr) (w : WE) : Prop :=
  ∀ X : Ex, X.c = c → XOk X → ∀ l σ Q, l.length = ns.length → w X l σ Q → EV c env X.D (eval e env) (ns.zip l) σ Q
def CB (c : Cx) (env : Env) (ns : List Str) (e : Expr) (w : WB) : Prop :=
  ∀ X : Ex, X.c = c → XOk X → ∀ l σ Q, l.length = ns.length → w X l σ Q → EB c env X.D (isTrue e env (eval e env)) (ns.zip l) σ Q
def CBs (c : Cx) (env : Env) (ns : List Str) (op : BoolOp) (es : List Expr) (w : WB) : Prop :=
  ∀ X : Ex, X.c = c → XOk X → ∀ l σ Q, l.length = ns.length → w X l σ Q → EB c env X.D (allTrue op es env) (ns.zip l) σ Q
def QX (ns : List Str) (Q : Fl → List V → Hp → Prop) : Fl → Loc → Hp → Prop := fun f L τ => ∃ l', l'.length = ns.length ∧ L = ns.zip l' ∧ Q f l' τ
def QA (ns : List Str) (Q : List V → Hp → Prop) : Loc → Hp → Prop := fun L τ => ∃ l', l'.length = ns.length ∧ L = ns.zip l' ∧ Q l' τ
def CX (c : Cx) (env : Env) (ns : List Str) (s : Stmt) (w : WX) : Prop :=
  ∀ X : Ex, X.c = c → XOk X → ∀ l σ Q, l.length = ns.length → w X l σ Q → EX c env X.D (exec s env) (ns.zip l) σ (QX ns Q)
def CXs (c : Cx) (env : Env) (ns : List Str) (s : List Stmt) (w : WX) : Prop :=
  ∀ X : Ex, X.c = c → XOk X → ∀ l σ Q, l.length = ns.length → w X l σ Q → EX c env X.D (execs s env) (ns.zip l) σ (QX ns Q)
def CAs (c : Cx) (env : Env) (ns : List Str) (t : Expr) (w : WA) : Prop :=
  ∀ X : Ex, X.c = c → XOk X → ∀ v l σ Q, l.length = ns.length → w X v l σ Q → EA c env X.D t v (ns.zip l) σ (QA ns Q)
def CL (c : Cx) (env : Env) (ns : List Str) (pos : Pos) (es : List Expr) (w : WL) : Prop :=
  (backTo pos (starEach es env)).any (·.1) = false ∧ ∀ X : Ex, X.c = c → XOk X → ∀ l σ Q, l.length = ns.length → w X l σ Q → EL c env X.D pos es (ns.zip l) σ Q
def CK (c : Cx) (env : Env) (ns : List Str) (pos : Pos) (es : List Keyword) (w : WK) : Prop :=
  (backToKw pos (keywordEach es env)).all (·.1.isSome) = true ∧ ∀ X : Ex, X.c = c → XOk X → ∀ l σ Q, l.length = ns.length → w X l σ Q → EK c env X.D pos es (ns.zip l) σ Q

section mono
variable {c : Cx} {env : Env} {D : Nat} {l : Loc} {σ : Hp}
theorem EL.mono {pos : Pos} {es : List Expr} {Q Q' : List V → Hp → Prop} (h : EL c env D pos es l σ Q) (k : ∀ v σ', Q v σ' → Q' v σ') : EL c env D pos es l σ Q' :=
  ⟨h.1, fun A g ρ z s Q₁ E₁ ok R q => h.2 A g ρ z s Q₁ E₁ ok R fun v w σ' ρ' z' s' hq => q v w σ' ρ' z' s' (k _ _ hq)⟩
theorem EK.mono {pos : Pos} {es : List Keyword} {Q Q' : List (Str × V) → Hp → Prop} (h : EK c env D pos es l σ Q) (k : ∀ v σ', Q v σ' → Q' v σ') : EK c env D pos es l σ Q' :=
  ⟨h.1, fun A g ρ z s Q₁ E₁ ok R q => h.2 A g ρ z s Q₁ E₁ ok R fun v w σ' ρ' z' s' hq => q v w σ' ρ' z' s' (k _ _ hq)⟩
theorem EA.mono {t : Expr} {v : V} {Q Q' : Loc → Hp → Prop} (h : EA c env D t v l σ Q) (k : ∀ l' σ', Q l' σ' → Q' l' σ') : EA c env D t v l σ Q' :=
  fun A g ρ z s Q₁ E₁ w ok R r q => h A g ρ z s Q₁ E₁ w ok R r fun l' σ' ρ' z' s' hq => q l' σ' ρ' z' s' (k _ _ hq)
end mono

section
variable {c : Cx} {env : Env} {ns : List Str} {pos : Pos}

-- NAMES, CONSTANTS
def plK (v : V) (K : V → Prop) : Prop := hi (match v.plain with
  | true => K v
  | false => False)
theorem of_plK {v : V} {K : V → Prop} (h : plK v K) : v.plain = true ∧ K v := by
  unfold plK at h; split at h
  · exact ⟨by assumption, h⟩
  · exact h.elim
def locW (i : Nat) : WE := fun X l σ Q => plK (nth l i) fun v => Q v σ
theorem ce_loc {x : Str} {i : Nat} (h : At ns i x) (hd : (x == ("__debug__" : Str)) = false := by decide +kernel) : CE c env ns (.Name x pos) (locW i) :=
  fun X hc ok l σ Q hl h1 => ev_name (zip_nth h hl) (of_plK h1).1 (of_plK h1).2 hd
def celO (σ : Hp) (Q : V → Hp → Prop) : AO → Prop
  | .cell v => plK v fun v => Q v σ
  | _ => False
def celW (i : Nat) : WE := fun X l σ Q => match nth l i with
  | .cell j => getO σ j (celO σ Q)
  | _ => False
theorem ce_cell {x : Str} {i : Nat} (h : At ns i x) (hd : (x == ("__debug__" : Str)) = false := by decide +kernel) (hc : (x == ("__classdict__" : Str)) = false := by decide +kernel) : CE c env ns (.Name x pos) (celW i) := by
  intro X _ ok l σ Q hl h1
  have hm := zip_nth h hl
  unfold celW at h1
  split at h1
  · rename_i j e
    obtain ⟨o, ho, h2⟩ := of_getO h1
    unfold celO at h2
    split at h2
    · rw [e] at hm
      exact ev_cell hm ho (of_plK h2).1 (of_plK h2).2 hd hc
    · exact h2.elim
  · exact h1.elim
def cstW (v : V) : WE := fun X l σ Q => Q v σ
theorem ce_int {i : Int} {k : Nat} : CE c env ns (.Constant (.int i) k pos) (cstW (.int i)) := fun X _ _ l σ Q _ h => ev_int h
theorem ce_none {k : Nat} : CE c env ns (.Constant .none k pos) (cstW .none) := fun X _ _ l σ Q _ h => ev_none h
theorem ce_bool {b : Bool} {k : Nat} : CE c env ns (.Constant (.bool b) k pos) (cstW (.bool b)) := fun X _ _ l σ Q _ h => ev_bool h
theorem ce_str {x : Str} {k : Nat} : CE c env ns (.Constant (.str x) k pos) (cstW (.str x)) := fun X _ _ l σ Q _ h => ev_str h
theorem ce_bytes {b : List UInt8} {k : Nat} : CE c env ns (.Constant (.bytes b) k pos) (cstW (.bytes b)) := fun X _ _ l σ Q _ h => ev_bytes h
theorem ce_globK {x : Str} {w : Value} {v : V} (n : Nat) (e : nsIn c.K mainGlobals x = some (some w)) (hv : kvOf c.kz n w = v) (hx : env.kindOf x = some .globalImplicit := by kernel_rfl) (hd : (x == ("__debug__" : Str)) = false := by decide +kernel) :
    CE c env ns (.Name x pos) (cstW v) := fun X _ _ l σ Q _ h => ev_globK n e hv h hx hd

-- OPERATORS
def lsO (v : V) (σ : Hp) (K : List V → Prop) : Prop := match v with
  | .lst vs => K vs
  | .ref i => getO σ i fun o => match o with | .list vs => K vs | _ => False
  | _ => False
theorem of_lsO {v : V} {σ : Hp} {K : List V → Prop} (h : lsO v σ K) : ∃ vs, LsOf σ v vs ∧ K vs := by
  unfold lsO at h
  split at h
  · exact ⟨_, .lst, h⟩
  · obtain ⟨o, ho, h2⟩ := of_getO h
    split at h2
    · exact ⟨_, .own ho, h2⟩
    · exact h2.elim
  · exact h.elim
def newL (X : Ex) (vs : List V) (σ : Hp) (Q : V → Hp → Prop) : Prop := chk (vs.length ≤ 1000000) (Q (.ref σ.length) (σ ++ [.list vs]))
def opAdd (X : Ex) (a b : V) (σ : Hp) (Q : V → Hp → Prop) : Prop := match a with
  | .int a => match b with | .int b => Q (.int (a + b)) σ | _ => False
  | .lst vs => lsO b σ fun us => chk (vs.length + us.length ≤ 1000000) (Q (.ref σ.length) (σ ++ [.list (vs ++ us)]))
  | .ref i => lsO (.ref i) σ fun vs => lsO b σ fun us => chk (vs.length + us.length ≤ 1000000) (Q (.ref σ.length) (σ ++ [.list (vs ++ us)]))
  | _ => False
def decMul (a b : Int) : Decidable (IntMulOk a b) := by unfold IntMulOk; infer_instance
def opMul (X : Ex) (a b : V) (σ : Hp) (Q : V → Hp → Prop) : Prop := match b with
  | .int k => match a with
    | .int a => chk (d := decMul a k) (IntMulOk a k) (Q (.int (a * k)) σ)
    | v => lsO v σ fun vs => chk (-1000000 ≤ k ∧ k ≤ 1000000 ∧ vs.length * k.toNat ≤ 1000000) (Q (.ref σ.length) (σ ++ [.list (List.replicate k.toNat vs).flatten]))
  | _ => False
def intsO (a b : V) (K : Int → Int → Prop) : Prop := hi (match a with
  | .int a => match b with | .int b => K a b | _ => False
  | _ => False)
theorem of_intsO {a b : V} {K : Int → Int → Prop} (h : intsO a b K) : ∃ i j, a = .int i ∧ b = .int j ∧ K i j := by
  unfold intsO at h
  split at h
  · split at h
    · exact ⟨_, _, rfl, rfl, h⟩
    · exact h.elim
  · exact h.elim
def opBin (X : Ex) (op : Operator) (a b : V) (σ : Hp) (Q : V → Hp → Prop) : Prop := match op with
  | .Add => opAdd X a b σ Q
  | .Mult => opMul X a b σ Q
  | .Sub => intsO a b fun a b => Q (.int (a - b)) σ
  | .FloorDiv => intsO a b fun a b => chk (b ≠ 0 ∧ Builtin.divisionGoesByPylong a b = false) (Q (.int (a.fdiv b)) σ)
  | .Mod => intsO a b fun a b => chk (b ≠ 0) (Q (.int (a.fmod b)) σ)
  | .BitAnd => intsO a b fun a b => Q (.int (Builtin.bitAnd a b)) σ
  | .BitOr => intsO a b fun a b => Q (.int (Builtin.bitOr a b)) σ
  | .BitXor => intsO a b fun a b => Q (.int (Builtin.bitXor a b)) σ
  | .RShift => intsO a b fun a b => chk (0 ≤ b) (Q (.int (a.fdiv (2 ^ b.toNat))) σ)
  | .LShift => intsO a b fun a b => chk (0 ≤ b ∧ b ≤ 1000000 ∧ a.natAbs < 2 ^ 64) (Q (.int (a * 2 ^ b.toNat)) σ)
  | .Pow => intsO a b fun a b => chk (0 ≤ b ∧ b ≤ 1000000 ∧ a.natAbs < 2 ^ 64) (Q (.int (a ^ b.toNat)) σ)
  | _ => False
theorem opBin_ok {X : Ex} {op : Operator} {a b : V} {l : Loc} {σ : Hp} {Q : V → Hp → Prop} (h : opBin X op a b σ Q) : EV2 X.c env X.D a b (binaryOp op) l σ Q := by
  unfold opBin at h
  split at h
  · unfold opAdd at h
    split at h
    · split at h
      · exact ev_add h
      · exact h.elim
    · obtain ⟨us, hu, h2⟩ := of_lsO h
      exact ev_addL .lst hu (of_chk h2).1 (of_chk h2).2
    · obtain ⟨vs, hv, h1⟩ := of_lsO h
      obtain ⟨us, hu, h2⟩ := of_lsO h1
      exact ev_addL hv hu (of_chk h2).1 (of_chk h2).2
    · exact h.elim
  · unfold opMul at h
    split at h
    · split at h
      · exact ev_mul (of_chk h).1 (of_chk h).2
      · obtain ⟨vs, hv, h1⟩ := of_lsO h
        obtain ⟨⟨k0, k1, k2⟩, h2⟩ := of_chk h1
        exact ev_mulL hv k0 k1 k2 h2
    · exact h.elim
  · obtain ⟨i, j, rfl, rfl, h⟩ := of_intsO h
    exact ev_sub h
  · obtain ⟨i, j, rfl, rfl, h⟩ := of_intsO h
    exact ev_fdiv (of_chk h).1.1 (of_chk h).1.2 (of_chk h).2
  · obtain ⟨i, j, rfl, rfl, h⟩ := of_intsO h
    exact ev_fmod (of_chk h).1 (of_chk h).2
  · obtain ⟨i, j, rfl, rfl, h⟩ := of_intsO h
    exact ev_band h
  · obtain ⟨i, j, rfl, rfl, h⟩ := of_intsO h
    exact ev_bor h
  · obtain ⟨i, j, rfl, rfl, h⟩ := of_intsO h
    exact ev_bxor h
  · obtain ⟨i, j, rfl, rfl, h⟩ := of_intsO h
    exact ev_shr (of_chk h).1 (of_chk h).2
  · obtain ⟨i, j, rfl, rfl, h⟩ := of_intsO h
    obtain ⟨⟨k0, k1, k2⟩, h2⟩ := of_chk h
    exact ev_shl k0 k1 k2 h2
  · obtain ⟨i, j, rfl, rfl, h⟩ := of_intsO h
    obtain ⟨⟨k0, k1, k2⟩, h2⟩ := of_chk h
    exact ev_pow k0 k1 k2 h2
  · exact h.elim
def opInp (X : Ex) (op : Operator) (a b : V) (σ : Hp) (Q : V → Hp → Prop) : Prop := match op with
  | .Add => intsO a b fun a b => Q (.int (a + b)) σ
  | .Sub => intsO a b fun a b => Q (.int (a - b)) σ
  | .BitOr => intsO a b fun a b => Q (.int (Builtin.bitOr a b)) σ
  | .BitXor => intsO a b fun a b => Q (.int (Builtin.bitXor a b)) σ
  | .RShift => intsO a b fun a b => chk (0 ≤ b) (Q (.int (a.fdiv (2 ^ b.toNat))) σ)
  | _ => False
theorem opInp_ok {X : Ex} {op : Operator} {a b : V} {l : Loc} {σ : Hp} {Q : V → Hp → Prop} (h : opInp X op a b σ Q) : EV2 X.c env X.D a b (inplaceOp op) l σ Q := by
  unfold opInp at h
  split at h
  · obtain ⟨i, j, rfl, rfl, h⟩ := of_intsO h
    exact ev_iadd h
  · obtain ⟨i, j, rfl, rfl, h⟩ := of_intsO h
    exact ev_isub h
  · obtain ⟨i, j, rfl, rfl, h⟩ := of_intsO h
    exact ev_ibor h
  · obtain ⟨i, j, rfl, rfl, h⟩ := of_intsO h
    exact ev_ibxor h
  · obtain ⟨i, j, rfl, rfl, h⟩ := of_intsO h
    exact ev_ishr (of_chk h).1 (of_chk h).2
  · exact h.elim
def binW (op : Operator) (wa wb : WE) : WE := fun X l σ Q => wa X l σ fun va σ₁ => wb X l σ₁ fun vb σ₂ => opBin X op va vb σ₂ Q
end
end
section
open PySem PySem.W PyProof.Rows PySem.Calls

-- A MODULE's TABLE STANDS FOR ITS ADDRESS
def Co (X : Ex) (v u : V) : Prop := ∀ (z : Led) (ρ : List Addr) (w : Value), (∀ p ∈ X.c.kz, p ∈ z) → VR z ρ v w → VR z ρ u w
theorem Co.refl (X : Ex) (v : V) : Co X v v := fun _ _ _ _ h => h
def kvN (X : Ex) (v : V) (K : V → Prop) : Prop := hi (match v with
  | .val w => match w with
    | .ref a => match X.kv a with | some u => K u | none => K (.val (.ref a))
    | w => K (.val w)
  | v => K v)
theorem of_kvN {X : Ex} (ok : XOk X) {v : V} {K : V → Prop} (h : kvN X v K) : ∃ u, Co X v u ∧ K u := by
  unfold kvN at h
  split at h
  · split at h
    · split at h
      · rename_i a _ u e
        exact ⟨u, fun z ρ w hz r => by cases r; exact ok.kv _ _ e z ρ hz, h⟩
      · exact ⟨_, Co.refl _ _, h⟩
    · exact ⟨_, Co.refl _ _, h⟩
  · exact ⟨_, Co.refl _ _, h⟩
section
variable {X : Ex} {env : Env} {l : Loc} {σ : Hp} {Q : V → Hp → Prop}
theorem Co.ev2 {v u b : V} {f : Value → Value → Sem Value} (k : Co X v u) (h : EV2 X.c env X.D u b f l σ Q) : EV2 X.c env X.D v b f l σ Q :=
  fun A g ρ z s Q' E' w₁ w₂ ok R r₁ r₂ q => h A g ρ z s Q' E' w₁ w₂ ok R (k _ _ _ R.kz r₁) r₂ q
theorem Co.ev2r {v u b : V} {f : Value → Value → Sem Value} (k : Co X v u) (h : EV2 X.c env X.D b u f l σ Q) : EV2 X.c env X.D b v f l σ Q :=
  fun A g ρ z s Q' E' w₁ w₂ ok R r₁ r₂ q => h A g ρ z s Q' E' w₁ w₂ ok R r₁ (k _ _ _ R.kz r₂) q
theorem Co.et {v u : V} {QB : Bool → Hp → Prop} (k : Co X v u) (h : ET X.c env X.D u l σ QB) : ET X.c env X.D v l σ QB :=
  fun A g ρ z s Q' E' w ok R r q => h A g ρ z s Q' E' w ok R (k _ _ _ R.kz r) q
theorem Co.es {v u : V} {lo hi : Option Int} (k : Co X v u) (h : ES X.c env X.D u lo hi l σ Q) : ES X.c env X.D v lo hi l σ Q :=
  fun A g ρ z s Q' E' w wl wu sl ok R r pl pu hs q => h A g ρ z s Q' E' w wl wu sl ok R (k _ _ _ R.kz r) pl pu hs q
theorem Co.iter {v u : V} {vs : List V} {Sg : Hp → Prop} (k : Co X v u) (h : Iterable X.c u vs Sg) : Iterable X.c v vs Sg :=
  fun A g Xs ρ z σ s Q' E' w hA R hs r q => h A g Xs ρ z σ s Q' E' w hA R hs (k _ _ _ R.kz r) q
theorem Co.fn1 {v u : V} {f : V} {vs : List V} (k : Co X v u) (h : FN X.c X.D f (u :: vs) [] σ Q) : FN X.c X.D f (v :: vs) [] σ Q :=
  fun A g ρ z s Q' E' wf ws kws ok R r₁ r₂ r₃ q => by
    cases r₂ with
    | cons ra rr => exact h A g ρ z s Q' E' wf _ kws ok R r₁ (.cons (k _ _ _ R.kz ra) rr) r₃ q
end

-- TRUTH
def opT (X : Ex) (v : V) (σ : Hp) (K : Bool → Prop) : Prop := match v with
  | .bool b => K b
  | .int a => K (a != 0)
  | .none => K false
  | .bytes b => chk (b.length ≤ 1000000) (K (!b.isEmpty))
  | .tup vs => chk (vs.length ≤ 1000000) (K (!vs.isEmpty))
  | .ref i => lsO (.ref i) σ fun vs => chk (vs.length ≤ 1000000) (K (!vs.isEmpty))
  | .lst vs => chk (vs.length ≤ 1000000) (K (!vs.isEmpty))
  | _ => False
theorem opT_ok {X : Ex} {env : Env} {v : V} {l : Loc} {σ : Hp} {Q : Bool → Hp → Prop} (h : opT X v σ fun b => Q b σ) : ET X.c env X.D v l σ Q := by
  unfold opT at h
  split at h
  · exact et_bool h
  · exact et_int h
  · exact et_none h
  · exact et_bytes (of_chk h).1 (of_chk h).2
  · exact et_tup (of_chk h).1 (of_chk h).2
  · obtain ⟨vs, hv, h1⟩ := of_lsO h
    exact et_list hv (of_chk h1).1 (of_chk h1).2
  · exact et_list .lst (of_chk h).1 (of_chk h).2
  · exact h.elim

-- COMPARISONS
def eqInts (a b : List Int) : Bool := a == b
def opEq (X : Ex) (a b : V) (σ : Hp) (K : Bool → Prop) : Prop := match a with
  | .int a => match b with
    | .int b => K (a == b)
    | .bool b => K (a == (if b then 1 else 0))
    | .none => K false
    | _ => False
  | .bool a => match b with
    | .bool b => K (a == b)
    | .int b => K ((if a then 1 else 0) == b)
    | .none => K false
    | _ => False
  | .bytes a => match b with
    | .bytes b => K (a == b)
    | _ => False
  | .none => match b with
    | .none => K true
    | _ => False
  | _ => False
theorem opEq_ok {X : Ex} {env : Env} {a b : V} {l : Loc} {σ : Hp} {Q : V → Hp → Prop} (h : opEq X a b σ fun r => Q (.bool r) σ) : EV2 X.c env X.D a b (compareOp .Eq) l σ Q := by
  intro A g ρ z s Q' E' w₁ w₂ ok R r₁ r₂ q
  unfold opEq at h
  split at h
  · split at h
    · cases r₁; cases r₂; exact PyProof.Rows.eq_int (q _ _ _ _ _ _ h R (Go.refl ..) (.bool _))
    · cases r₁; cases r₂; exact EqBoolInt.eq_int_bool (q _ _ _ _ _ _ h R (Go.refl ..) (.bool _))
    · cases r₁; cases r₂; exact EqNone.eq_int_none (q _ _ _ _ _ _ h R (Go.refl ..) (.bool _))
    · exact h.elim
  · split at h
    · cases r₁; cases r₂; exact PyProof.Rows.eq_bool (q _ _ _ _ _ _ h R (Go.refl ..) (.bool _))
    · cases r₁; cases r₂; exact EqBoolInt.eq_bool_int (q _ _ _ _ _ _ h R (Go.refl ..) (.bool _))
    · cases r₁; cases r₂; exact EqNone.eq_bool_none (q _ _ _ _ _ _ h R (Go.refl ..) (.bool _))
    · exact h.elim
  · split at h
    · cases r₁; cases r₂
      refine PySem.W.eq_bytes (q _ _ _ _ _ _ ?_ R (Go.refl ..) (.bool _))
      simpa using h
    · exact h.elim
  · split at h
    · cases r₁; cases r₂; exact EqNone.eq_none_none (q _ _ _ _ _ _ h R (Go.refl ..) (.bool _))
    · exact h.elim
  · exact h.elim
theorem opNe_ok {X : Ex} {env : Env} {a b : V} {l : Loc} {σ : Hp} {Q : V → Hp → Prop} (h : opEq X a b σ fun r => Q (.bool (!r)) σ) : EV2 X.c env X.D a b (compareOp .NotEq) l σ Q := by
  intro A g ρ z s Q' E' w₁ w₂ ok R r₁ r₂ q
  unfold opEq at h
  split at h
  · split at h
    · cases r₁; cases r₂; exact PyProof.Rows.ne_int (q _ _ _ _ _ _ h R (Go.refl ..) (.bool _))
    · cases r₁; cases r₂; exact EqBoolInt.ne_int_bool (q _ _ _ _ _ _ h R (Go.refl ..) (.bool _))
    · cases r₁; cases r₂; exact EqNone.ne_int_none (q _ _ _ _ _ _ h R (Go.refl ..) (.bool _))
    · exact h.elim
  · split at h
    · cases r₁; cases r₂; exact PyProof.Rows.ne_bool (q _ _ _ _ _ _ h R (Go.refl ..) (.bool _))
    · cases r₁; cases r₂; exact EqBoolInt.ne_bool_int (q _ _ _ _ _ _ h R (Go.refl ..) (.bool _))
    · cases r₁; cases r₂; exact EqNone.ne_bool_none (q _ _ _ _ _ _ h R (Go.refl ..) (.bool _))
    · exact h.elim
  · split at h
    · cases r₁; cases r₂
      refine PySem.W.ne_bytes (q _ _ _ _ _ _ ?_ R (Go.refl ..) (.bool _))
      simpa [bne] using h
    · exact h.elim
  · split at h
    · cases r₁; cases r₂; exact EqNone.ne_none_none (q _ _ _ _ _ _ h R (Go.refl ..) (.bool _))
    · exact h.elim
  · exact h.elim
def isNoneV (v : V) (K : Bool → Prop) : Prop := hi (match v with
  | .none => K true | .int _ => K false | .bool _ => K false | .bytes _ => K false | .str _ => K false | .ref _ => K false | .tup _ => K false | .lst _ => K false | .obj _ _ => K false | .dct _ _ => K false | .ntup _ _ => K false | _ => False)
def isRef (X : Ex) (x y : Addr) (K : Bool → Prop) : Prop := hi (match x.beq y with
  | true => K true
  | false => match X.kv x with
    | some u => match u with
      | .dct _ _ => match X.kv y with
        | some u => match u with
          | .dct _ _ => K false
          | _ => False
        | none => False
      | _ => False
    | none => False)
theorem isRef_inv {X : Ex} (ok : XOk X) {x y : Addr} {K : Bool → Prop} (h : isRef X x y K) :
    (x = y ∧ K true) ∨ (x ≠ y ∧ K false ∧ ∀ (z : Led) (ρ : List Addr) (hp : Heap), (∀ p ∈ X.c.kz, p ∈ z) → (∀ q ∈ z, hp.get? q.1 = some q.2) → ∃ ox oy, hp.get? x = some ox ∧ hp.get? y = some oy ∧ ox.cls ≠ .type "tuple") := by
  unfold isRef at h
  split at h
  · rename_i e; exact .inl ⟨Nat.eq_of_beq_eq_true e, h⟩
  · rename_i e
    have hne : x ≠ y := Nat.ne_of_beq_eq_false e
    split at h
    · rename_i u eu
      split at h
      · rename_i ks vs
        split at h
        · rename_i u' eu'
          split at h
          · rename_i ks' vs'
            refine .inr ⟨hne, h, fun z ρ hp hz hf => ?_⟩
            have r1 := ok.kv _ _ eu z ρ hz
            have r2 := ok.kv _ _ eu' z ρ hz
            cases r1 with
            | dct m1 _ d1 _ =>
              cases r2 with
              | dct m2 _ d2 _ =>
                refine ⟨_, _, hf _ m1, hf _ m2, ?_⟩
                obtain ⟨es, ep, hx, _⟩ := d1.2 X.c.prog X.c.w
                rw [hx.1]; simp
          · exact h.elim
        · exact h.elim
      · exact h.elim
    · exact h.elim
def opIs (X : Ex) (a b : V) (σ : Hp) (K : Bool → Prop) : Prop := match b with
  | .none => isNoneV a K
  | .val w => match w with
    | .ref y => match a with
      | .val u => match u with | .ref x => isRef X x y K | _ => False
      | _ => False
    | _ => False
  | _ => False
theorem opIs_ok {X : Ex} (ok : XOk X) {env : Env} {a b : V} {l : Loc} {σ : Hp} {Q : V → Hp → Prop} (h : opIs X a b σ fun r => Q (.bool r) σ) : EV2 X.c env X.D a b (compareOp .Is) l σ Q := by
  unfold opIs at h
  split at h
  · unfold isNoneV at h
    split at h <;> first | exact ev_is_none rfl h | exact h.elim
  · split at h
    · split at h
      · split at h
        · intro A g ρ z s Q' E' w₁ w₂ okd R r₁ r₂ q
          cases r₁; cases r₂
          rcases isRef_inv ok h with ⟨he, h2⟩ | ⟨hne, h2, hh⟩
          · subst he; exact wpAny_is_ref_self (q _ _ _ _ _ _ h2 R (Go.refl ..) (.bool _))
          · obtain ⟨ox, oy, e1, e2, e3⟩ := hh z ρ s.heap R.kz fun q hq => (R.frz q hq).1
            exact wpAny_is_ref_other hne e1 e2 e3 (q _ _ _ _ _ _ h2 R (Go.refl ..) (.bool _))
        · exact h.elim
      · exact h.elim
    · exact h.elim
  · exact h.elim
theorem opIsNot_ok {X : Ex} (ok : XOk X) {env : Env} {a b : V} {l : Loc} {σ : Hp} {Q : V → Hp → Prop} (h : opIs X a b σ fun r => Q (.bool (!r)) σ) : EV2 X.c env X.D a b (compareOp .IsNot) l σ Q := by
  unfold opIs at h
  split at h
  · unfold isNoneV at h
    split at h <;> first | exact ev_isnot_none rfl h | exact h.elim
  · split at h
    · split at h
      · split at h
        · intro A g ρ z s Q' E' w₁ w₂ okd R r₁ r₂ q
          cases r₁; cases r₂
          rcases isRef_inv ok h with ⟨he, h2⟩ | ⟨hne, h2, hh⟩
          · subst he; exact wpAny_isNot_ref_self (q _ _ _ _ _ _ h2 R (Go.refl ..) (.bool _))
          · obtain ⟨ox, oy, e1, e2, e3⟩ := hh z ρ s.heap R.kz fun q hq => (R.frz q hq).1
            exact wpAny_isNot_ref_other hne e1 e2 e3 (q _ _ _ _ _ _ h2 R (Go.refl ..) (.bool _))
        · exact h.elim
      · exact h.elim
    · exact h.elim
  · exact h.elim
def inObj (a : V) (K : Bool → Prop) : AO → Prop
  | .list vs => chk (a.atom = true ∧ vs.all V.atom = true) (K (vs.any (eqA · a)))
  | .dict ks _ => match a with | .int k => K (ks.contains k) | _ => False
  | _ => False
def opIn (X : Ex) (a b : V) (σ : Hp) (K : Bool → Prop) : Prop := kvN X b fun b => match b with
  | .dct ks _ => match a with | .int k => K (ks.contains k) | _ => False
  | .tup vs => chk (a.atom = true ∧ vs.all V.atom = true) (K (vs.any (eqA · a)))
  | .bytes b => match a with | .int k => chk (0 ≤ k ∧ k < 256) (K (b.contains k.toNat.toUInt8)) | _ => False
  | .ref i => getO σ i (inObj a K)
  | .lst vs => chk (a.atom = true ∧ vs.all V.atom = true) (K (vs.any (eqA · a)))
  | _ => False
theorem opIn_ok {X : Ex} (ok : XOk X) {env : Env} {a b : V} {l : Loc} {σ : Hp} {Q : V → Hp → Prop} (h : opIn X a b σ fun r => Q (.bool r) σ) : EV2 X.c env X.D a b (compareOp .In) l σ Q := by
  obtain ⟨u, k, h⟩ := of_kvN ok h
  refine k.ev2r ?_
  split at h
  · split at h
    · exact ev_in_dct h
    · exact h.elim
  · exact ev_in_tup (of_chk h).1.1 (of_chk h).1.2 (of_chk h).2
  · split at h
    · exact ev_in_bytes (of_chk h).1.1 (of_chk h).1.2 (of_chk h).2
    · exact h.elim
  · obtain ⟨o, ho, h1⟩ := of_getO h
    unfold inObj at h1
    split at h1
    · exact ev_in_list (of_chk h1).1.1 (.own ho) (of_chk h1).1.2 (of_chk h1).2
    · split at h1
      · exact ev_in_dict ho h1
      · exact h1.elim
    · exact h1.elim
  · exact ev_in_list (of_chk h).1.1 .lst (of_chk h).1.2 (of_chk h).2
  · exact h.elim
def opNotIn (X : Ex) (a b : V) (σ : Hp) (K : Bool → Prop) : Prop := kvN X b fun b => match b with
  | .dct ks _ => match a with | .int k => K (!ks.contains k) | _ => False
  | .tup vs => chk (a.atom = true ∧ vs.all V.atom = true) (K (!vs.any (eqA · a)))
  | .bytes b => match a with | .int k => chk (0 ≤ k ∧ k < 256) (K (!b.contains k.toNat.toUInt8)) | _ => False
  | _ => False
theorem opNotIn_ok {X : Ex} (ok : XOk X) {env : Env} {a b : V} {l : Loc} {σ : Hp} {Q : V → Hp → Prop} (h : opNotIn X a b σ fun r => Q (.bool r) σ) : EV2 X.c env X.D a b (compareOp .NotIn) l σ Q := by
  obtain ⟨u, k, h⟩ := of_kvN ok h
  refine k.ev2r ?_
  split at h
  · split at h
    · exact ev_notin_dct h
    · exact h.elim
  · exact ev_notin_tup (of_chk h).1.1 (of_chk h).1.2 (of_chk h).2
  · split at h
    · exact ev_notin_bytes (of_chk h).1.1 (of_chk h).1.2 (of_chk h).2
    · exact h.elim
  · exact h.elim
def opCmp (X : Ex) (op : CmpOp) (a b : V) (σ : Hp) (K : Bool → Prop) : Prop := match op with
  | .Lt => intsO a b fun a b => K (decide (a < b))
  | .LtE => intsO a b fun a b => K (decide (a ≤ b))
  | .Gt => intsO a b fun a b => K (decide (b < a))
  | .GtE => intsO a b fun a b => K (decide (a ≥ b))
  | .Eq => opEq X a b σ K
  | .NotEq => opEq X a b σ fun r => K (!r)
  | .Is => opIs X a b σ K
  | .IsNot => opIs X a b σ fun r => K (!r)
  | .In => opIn X a b σ K
  | .NotIn => opNotIn X a b σ K
theorem EV2.mono {c : Cx} {env : Env} {D : Nat} {a b : V} {f : Value → Value → Sem Value} {l : Loc} {σ : Hp} {Q Q' : V → Hp → Prop} (h : EV2 c env D a b f l σ Q) (k : ∀ v σ', Q v σ' → Q' v σ') : EV2 c env D a b f l σ Q' :=
  fun A g ρ z s Q₁ E₁ w₁ w₂ ok R h1 h2 q => h A g ρ z s Q₁ E₁ w₁ w₂ ok R h1 h2 fun v w σ' ρ' z' s' hq => q v w σ' ρ' z' s' (k _ _ hq)
theorem opCmp_ok {X : Ex} (ok : XOk X) {env : Env} {op : CmpOp} {a b : V} {l : Loc} {σ : Hp} {Q : V → Hp → Prop} (h : opCmp X op a b σ fun r => Q (.bool r) σ) : EV2 X.c env X.D a b (compareOp op) l σ Q := by
  unfold opCmp at h
  split at h
  · obtain ⟨i, j, rfl, rfl, h⟩ := of_intsO h; exact ev_lt h
  · obtain ⟨i, j, rfl, rfl, h⟩ := of_intsO h; exact ev_le h
  · obtain ⟨i, j, rfl, rfl, h⟩ := of_intsO h; exact ev_gt h
  · obtain ⟨i, j, rfl, rfl, h⟩ := of_intsO h; exact ev_ge h
  · exact opEq_ok h
  · exact opNe_ok h
  · exact opIs_ok ok h
  · exact opIsNot_ok ok h
  · exact opIn_ok ok h
  · exact opNotIn_ok ok h
def cmpW (op : CmpOp) (wa wb : WE) : WE := fun X l σ Q => wa X l σ fun va σ₁ => wb X l σ₁ fun vb σ₂ => opCmp X op va vb σ₂ fun r => Q (.bool r) σ₂
def cmpB (op : CmpOp) (wa wb : WE) : WB := fun X l σ Q => wa X l σ fun va σ₁ => wb X l σ₁ fun vb σ₂ => opCmp X op va vb σ₂ fun r => Q r σ₂

section
variable {c : Cx} {env : Env} {ns : List Str} {pos : Pos}
theorem ce_bin {a b : Expr} {op : Operator} {wa wb : WE} (ha : CE c env ns a wa) (hb : CE c env ns b wb) : CE c env ns (.BinOp a op b pos) (binW op wa wb) :=
  fun X e ok l σ Q hl h => by
    subst e
    exact ev_bin ((ha X rfl ok l σ _ hl h).mono fun va σ₁ h1 => (hb X rfl ok l σ₁ _ hl h1).mono fun vb σ₂ h2 => opBin_ok h2)
theorem ce_cmp {a b : Expr} {op : CmpOp} {wa wb : WE} (ha : CE c env ns a wa) (hb : CE c env ns b wb) (hm : behindInMarks op b = false := by with_unfolding_all rfl) : CE c env ns (.Compare a [op] [b] pos) (cmpW op wa wb) :=
  fun X e ok l σ Q hl h => by
    subst e
    exact ev_cmp ((ha X rfl ok l σ _ hl h).mono fun va σ₁ h1 => (hb X rfl ok l σ₁ _ hl h1).mono fun vb σ₂ h2 => opCmp_ok ok h2) hm
theorem cb_cmp {a b : Expr} {op : CmpOp} {wa wb : WE} (ha : CE c env ns a wa) (hb : CE c env ns b wb) (hm : behindInMarks op b = false := by with_unfolding_all rfl) : CB c env ns (.Compare a [op] [b] pos) (cmpB op wa wb) :=
  fun X e ok l σ Q hl h => by
    subst e
    exact eb_cmp ((ha X rfl ok l σ _ hl h).mono fun va σ₁ h1 => (hb X rfl ok l σ₁ _ hl h1).mono fun vb σ₂ h2 => (by
      have e : (fun r => Q r σ₂) = fun r => (∃ r', V.bool r = V.bool r' ∧ Q r' σ₂) := by
        funext r; apply propext; constructor
        · intro h; exact ⟨r, rfl, h⟩
        · rintro ⟨r', e, h⟩; cases e; exact h
      rw [e] at h2
      exact (opCmp_ok (Q := fun v σ => ∃ r', v = V.bool r' ∧ Q r' σ) ok h2).mono fun v σ₃ ⟨r, e, h3⟩ => by subst e; exact et_bool h3)) hm
end
end
section
open PySem PySem.W PyProof.Rows PySem.Calls

-- ATTRIBUTES
def hdK (v : V) (K : Prop) : Prop := hi (match v.handed with
  | true => K
  | false => False)
theorem of_hdK {v : V} {K : Prop} (h : hdK v K) : v.handed = true ∧ K := by
  unfold hdK at h; split at h
  · exact ⟨by assumption, h⟩
  · exact h.elim
def getF : List (Nat × V) → Nat → (V → Prop) → Prop → Prop
  | [], _, _, N => hi N
  | (y, v) :: r, k, K, N => hi (match y.beq k with | true => K v | false => getF r k K N)
def setF : List (Nat × V) → Nat → V → (List (Nat × V) → Prop) → Prop
  | [], k, v, K => hi (K [(k, v)])
  | (y, u) :: r, k, v, K => hi (match y.beq k with | true => K ((k, v) :: r) | false => setF r k v fun r' => K ((y, u) :: r'))
theorem getF_inv : ∀ {fs : List (Nat × V)} {k : Nat} {K : V → Prop} {N : Prop}, getF fs k K N → (∃ v, FG k v fs ∧ K v) ∨ (noKey k fs = true ∧ N)
  | [], _, _, _, h => .inr ⟨rfl, h⟩
  | (y, v) :: r, k, K, N, h => by
    unfold getF at h
    split at h
    · rename_i e; cases Nat.eq_of_beq_eq_true e; exact .inl ⟨v, .hd, h⟩
    · rename_i e
      have ne := Nat.ne_of_beq_eq_false e
      rcases getF_inv h with ⟨u, g, hk⟩ | ⟨g, hn⟩
      · exact .inl ⟨u, .tl ne g, hk⟩
      · exact .inr ⟨by simp only [noKey, List.all_cons, Bool.and_eq_true]; exact ⟨by simpa using ne, g⟩, hn⟩
theorem setF_inv : ∀ {fs : List (Nat × V)} {k : Nat} {v : V} {K : List (Nat × V) → Prop}, setF fs k v K → ∃ fs', FP k v fs fs' ∧ K fs'
  | [], _, _, _, h => ⟨_, .nil, h⟩
  | (y, u) :: r, k, v, K, h => by
    unfold setF at h
    split at h
    · rename_i e; cases Nat.eq_of_beq_eq_true e; exact ⟨_, .hd, h⟩
    · rename_i e
      obtain ⟨fs', p, hk⟩ := setF_inv (K := fun r' => K ((y, u) :: r')) h
      exact ⟨_, .tl (Nat.ne_of_beq_eq_false e) p, hk⟩
def FCd (X : Ex) (f : Addr) (args : List V) (σ : Hp) (Q : V → Hp → Prop) : Prop := match X.D with
  | 0 => False
  | D + 1 => FC X.c D (.val (.ref f)) args [] σ Q
theorem of_FCd {X : Ex} {f : Addr} {args : List V} {σ : Hp} {Q : V → Hp → Prop} (h : FCd X f args σ Q) : ∃ D, X.D = D + 1 ∧ FC X.c D (.val (.ref f)) args [] σ Q := by
  unfold FCd at h
  split at h
  · exact h.elim
  · exact ⟨_, by assumption, h⟩
def rdInst (X : Ex) (i k : Nat) (σ : Hp) (Q : V → Hp → Prop) : AO → Prop
  | .inst C fs => match X.cls C k with
    | .no => getF fs k (fun v => hdK v (Q v σ)) False
    | .val a => getF fs k (fun v => hdK v (Q v σ)) (Q a σ)
    | .prop g _ => FCd X g [.ref i] σ fun v σ' => hdK v (Q v σ')
    | _ => False
  | _ => False
def opAttr (X : Ex) (k : Nat) (ov : V) (σ : Hp) (Q : V → Hp → Prop) : Prop := match ov with
  | .ref i => getO σ i (rdInst X i k σ Q)
  | .obj C fs => match X.cls C k with
    | .no => getF fs k (fun v => hdK v (Q v σ)) False
    | _ => False
  | _ => False
theorem EV1.mono {c : Cx} {env : Env} {D : Nat} {a : V} {f : Value → Sem Value} {l : Loc} {σ : Hp} {Q Q' : V → Hp → Prop} (h : EV1 c env D a f l σ Q) (k : ∀ v σ', Q v σ' → Q' v σ') : EV1 c env D a f l σ Q' :=
  fun A g ρ z s Q₁ E₁ w₁ ok R h1 q => h A g ρ z s Q₁ E₁ w₁ ok R h1 fun v w σ' ρ' z' s' hq => q v w σ' ρ' z' s' (k _ _ hq)
theorem opAttr_ok {X : Ex} (ok : XOk X) {env : Env} {k : Nat} {v : V} {l : Loc} {σ : Hp} {Q : V → Hp → Prop} (h : opAttr X k v σ Q) : EV1 X.c env X.D v (fun a => getAttr a (nm k) true) l σ Q := by
  unfold opAttr at h
  split at h
  · obtain ⟨o, ho, h1⟩ := of_getO h
    unfold rdInst at h1
    split at h1
    · rename_i C fs
      have hc := ok.cls C k
      split at h1
      · rename_i e; rw [e] at hc
        obtain ⟨c1, _, ⟨a, c2, c3⟩, _⟩ := hc
        rcases getF_inv h1 with ⟨u, g, hk⟩ | ⟨_, hf⟩
        · exact ev1_attr ho g c1 a c2 c3 (of_hdK hk).1 (of_hdK hk).2
        · exact hf.elim
      · rename_i b e; rw [e] at hc
        obtain ⟨c1, _, _, a, rfl, c2, c3, c4, c5, c6⟩ := hc
        rcases getF_inv h1 with ⟨u, g, hk⟩ | ⟨g, hf⟩
        · exact ev1_attr ho g c1 (some a) c2 c6 (of_hdK hk).1 (of_hdK hk).2
        · exact ev1_cattr ho g c1 a c2 c3 c4 c5 hf
      · rename_i g s e; rw [e] at hc
        obtain ⟨c1, _, p, rest, c2, c3, c4, c5, _⟩ := hc
        obtain ⟨D, eD, hf⟩ := of_FCd h1
        rw [eD]
        exact ev1_prop ho c1 c2 c3 c4 c5 (hf.mono fun v σ' h => of_hdK h)
      · exact h1.elim
    · exact h1.elim
  · rename_i C fs
    have hc := ok.cls C k
    split at h
    · rename_i e; rw [e] at hc
      obtain ⟨c1, _, ⟨a, c2, c3⟩, _⟩ := hc
      rcases getF_inv h with ⟨u, g, hk⟩ | ⟨_, hf⟩
      · exact ev1_attrZ g c1 a c2 c3 (of_hdK hk).1 (of_hdK hk).2
      · exact hf.elim
    · exact h.elim
  · exact h.elim
def stInst (X : Ex) (i k : Nat) (v : V) (σ : Hp) (K : Hp → Prop) : AO → Prop
  | .inst C fs => match X.cls C k with
    | .no => setF fs k v fun fs' => chk (fs'.length ≤ 1000) (K (σ.set i (.inst C fs')))
    | .val _ => setF fs k v fun fs' => chk (fs'.length ≤ 1000) (K (σ.set i (.inst C fs')))
    | .prop _ s => FCd X s [.ref i, v] σ fun _ σ' => K σ'
    | _ => False
  | _ => False
def opSet (X : Ex) (k : Nat) (ov v : V) (σ : Hp) (K : Hp → Prop) : Prop := match ov with
  | .ref i => getO σ i (stInst X i k v σ K)
  | _ => False
theorem opSet_ok {X : Ex} (ok : XOk X) {env : Env} {k : Nat} {ov v u : V} {l : Loc} {σ : Hp} {K : Hp → Prop} (h : opSet X k ov v σ K) : EU3 X.c env X.D ov v u (fun a b _ => setAttr a (nm k) b) l σ K := by
  unfold opSet at h
  split at h
  · obtain ⟨o, ho, h1⟩ := of_getO h
    unfold stInst at h1
    split at h1
    · rename_i C fs
      have hc := ok.cls C k
      split at h1
      · rename_i e; rw [e] at hc
        obtain ⟨_, c1, _, c2⟩ := hc
        obtain ⟨fs', p, hk⟩ := setF_inv h1
        exact eu_set ho p c1 c2 (of_chk hk).1 (of_chk hk).2
      · rename_i b e; rw [e] at hc
        obtain ⟨_, c1, c2, _⟩ := hc
        obtain ⟨fs', p, hk⟩ := setF_inv h1
        exact eu_set ho p c1 c2 (of_chk hk).1 (of_chk hk).2
      · rename_i g s e; rw [e] at hc
        obtain ⟨_, c1, p, rest, _, _, _, c5, c6, c7⟩ := hc
        obtain ⟨D, eD, hf⟩ := of_FCd h1
        rw [eD]
        exact eu_prop ho c1 c6 c7 c5 hf
      · exact h1.elim
    · exact h1.elim
  · exact h.elim

-- ITEMS
def notSlice : Expr → Bool
  | .Slice _ _ none _ => false
  | _ => true
theorem notSlice_is {e : Expr} (h : notSlice e = true) (a b : Value) : subscripted e false a b = operate [a, b] (getItem a b) := by
  cases e with
  | Slice lo hi st pos => cases st with
    | none => simp [notSlice] at h
    | some x => rfl
  | _ => rfl
def dGet : List Int → List V → Int → (V → Prop) → Prop
  | k' :: ks, v :: vs, k, K => hi (br (k' == k) (K v) (dGet ks vs k K))
  | _, _, _, _ => hi False
theorem dGet_inv : ∀ {ks : List Int} {vs : List V} {k : Int} {K : V → Prop}, dGet ks vs k K → ∃ v, (ks.zip vs).find? (fun p => p.1 == k) = some (k, v) ∧ K v
  | k' :: ks, v :: vs, k, K, h => by
    unfold dGet at h
    obtain ⟨h1, h2⟩ := of_br h
    by_cases e : k' = k
    · subst e
      exact ⟨v, by rw [List.zip_cons_cons, List.find?_cons_of_pos (by simp)], h1 (by simp)⟩
    · obtain ⟨u, a, b⟩ := dGet_inv (h2 (by simpa using e))
      exact ⟨u, by rw [List.zip_cons_cons, List.find?_cons_of_neg (by simpa using e)]; exact a, b⟩
  | [], _, _, _, h => by unfold dGet at h; exact h.elim
  | _ :: _, [], _, _, h => by unfold dGet at h; exact h.elim
def ixO (vs : List V) (i : V) (K : V → Prop) : Prop := hi (match i with
  | .int k => chk (0 ≤ k ∧ k < 9223372036854775808) (getV vs k.toNat K)
  | _ => False)
theorem ixO_inv {vs : List V} {i : V} {K : V → Prop} (h : ixO vs i K) : ∃ k v, i = .int k ∧ 0 ≤ k ∧ k < 2 ^ 63 ∧ vs[k.toNat]? = some v ∧ K v := by
  unfold ixO at h
  split at h
  · obtain ⟨⟨h0, h1⟩, h2⟩ := of_chk h
    obtain ⟨v, h3, h4⟩ := of_getV h2
    exact ⟨_, v, rfl, h0, by omega, h3, h4⟩
  · exact h.elim
def itDct (ks : List Int) (vs : List V) (i : V) (σ : Hp) (Q : V → Hp → Prop) : Prop := match i with
  | .int k => dGet ks vs k fun v => Q v σ
  | _ => False
def itObj (i : V) (σ : Hp) (Q : V → Hp → Prop) : AO → Prop
  | .list vs => ixO vs i fun v => Q v σ
  | .dict ks vs => itDct ks vs i σ Q
  | _ => False
def itObj' (i : V) (σ : Hp) (Q : V → Hp → Prop) : AO → Prop
  | .list vs => ixO vs i fun v => Q v σ
  | _ => False
def itBytes (b : List UInt8) (i : V) (σ : Hp) (Q : V → Hp → Prop) : Prop := match i with
  | .int k => chk (b.length ≤ 1000000 ∧ 0 ≤ k ∧ k < b.length) (Q (.int (b.getD k.toNat 0).toNat) σ)
  | _ => False
def opItem (X : Ex) (o i : V) (σ : Hp) (Q : V → Hp → Prop) : Prop := kvN X o fun o => match o with
  | .ref j => getO σ j (itObj i σ Q)
  | .lst vs => ixO vs i fun v => Q v σ
  | .tup vs => ixO vs i fun v => Q v σ
  | .bytes b => itBytes b i σ Q
  | .dct ks vs => itDct ks vs i σ Q
  | _ => False
theorem opItem_ok {X : Ex} (ok : XOk X) {env : Env} {oe ie : Expr} (hs : notSlice ie = true) {o i : V} {l : Loc} {σ : Hp} {Q : V → Hp → Prop} (h : opItem X o i σ Q) : EV2 X.c env X.D o i (subscriptTail oe ie) l σ Q := by
  obtain ⟨u, k, h⟩ := of_kvN ok h
  refine k.ev2 ?_
  split at h
  · obtain ⟨o, ho, h1⟩ := of_getO h
    unfold itObj at h1
    split at h1
    · obtain ⟨k, v, rfl, a, b, c, d⟩ := ixO_inv h1
      exact ei_list ho a b c d (fun _ _ _ => notSlice_is hs _ _)
    · unfold itDct at h1
      split at h1
      · obtain ⟨v, a, b⟩ := dGet_inv h1
        exact ei_dict ho a b (fun _ _ _ => notSlice_is hs _ _)
      · exact h1.elim
    · exact h1.elim
  · obtain ⟨k, v, rfl, a, b, c, d⟩ := ixO_inv h
    exact ei_lst a b c d (fun _ _ _ => notSlice_is hs _ _)
  · obtain ⟨k, v, rfl, a, b, c, d⟩ := ixO_inv h
    exact ei_tup a b c d (fun _ _ _ => notSlice_is hs _ _)
  · unfold itBytes at h
    split at h
    · obtain ⟨⟨a, b, c⟩, d⟩ := of_chk h
      exact ei_bytes a b c d (fun _ _ _ _ => notSlice_is hs _ _)
    · exact h.elim
  · unfold itDct at h
    split at h
    · obtain ⟨v, a, b⟩ := dGet_inv h
      exact ei_dct a b (fun _ _ _ => notSlice_is hs _ _)
    · exact h.elim
  · exact h.elim
/-- read before it is stored anew -/
def opItem' (X : Ex) (o i : V) (σ : Hp) (Q : V → Hp → Prop) : Prop := match o with
  | .ref j => getO σ j (itObj' i σ Q)
  | _ => False
theorem opItem'_ok {X : Ex} {env : Env} {o i : V} {l : Loc} {σ : Hp} {Q : V → Hp → Prop} (h : opItem' X o i σ Q) : EV2 X.c env X.D o i getItem l σ Q := by
  unfold opItem' at h
  split at h
  · obtain ⟨o, ho, h1⟩ := of_getO h
    unfold itObj' at h1
    split at h1
    · obtain ⟨k, v, rfl, a, b, c, d⟩ := ixO_inv h1
      exact ei_own ho a b c d
    · exact h1.elim
  · exact h.elim
def suObj (j : Nat) (i v : V) (σ : Hp) (K : Hp → Prop) : AO → Prop
  | .list vs => match i with
    | .int k => chk (0 ≤ k ∧ k < vs.length ∧ k < 9223372036854775808) (K (σ.set j (.list (vs.set k.toNat v))))
    | _ => False
  | _ => False
def opStore (X : Ex) (o i v : V) (σ : Hp) (K : Hp → Prop) : Prop := match o with
  | .ref j => getO σ j (suObj j i v σ K)
  | _ => False
theorem opStore_ok {X : Ex} {env : Env} {o i v : V} {l : Loc} {σ : Hp} {K : Hp → Prop} (h : opStore X o i v σ K) : EU3 X.c env X.D o i v setItem l σ K := by
  unfold opStore at h
  split at h
  · obtain ⟨o, ho, h1⟩ := of_getO h
    unfold suObj at h1
    split at h1
    · split at h1
      · obtain ⟨⟨a, b, c⟩, d⟩ := of_chk h1
        exact eu_list ho a b (by omega) d
      · exact h1.elim
    · exact h1.elim
  · exact h.elim

-- SLICES
theorem Subscript_SliceN {prog : Program} {w : World} {A : Around} {E : Value → Shared → Prop} {s : Shared} {env : Env} {pos p : Pos} {value : Expr} {lower upper : Option Expr} {Q : Value → Shared → Prop}
    (h : wpAny (model prog w) A (eval value env) (fun o s₁ => wpAny (model prog w) A (eval (.Slice lower upper none p) env) (fun i s₂ => ItemOn (model prog w) A E o i Q s₂) E s₁) E s) :
    wpAny (model prog w) A (eval (.Subscript value (.Slice lower upper none p) pos) env) Q E s := by
  rw [eval_Subscript]
  refine wpAny_bind (wpAny_mono h (fun o s₁ h₁ => wpAny_bind (wpAny_holding (wpAny_mono h₁ (fun i s₂ h₂ => wpAny_bind (wpAny_standAt ?_)) fun _ _ x => x)))
    fun _ _ x => x)
  obtain ⟨T, id, hl, hT, hg⟩ := h₂
  refine wpAny_bind ?_
  rw [getitemInPython_of_ne hT.not_modules]
  refine wpAny_bind (wpAny_specialOf hT hl ?_)
  have fin : wpAny (model prog w) A (operate [i, o] (getItem o i)) (fun r s₃ => wpAny (model prog w) A (letTemporaryGo value o r >>= fun _ => pure r) Q E s₃) E s₂ :=
    wpAny_operating (wpAny_mono hg (fun r s₃ h₃ => wpAny_bind (wpAny_letTemporaryGo (wpAny_pure h₃))) fun _ _ x => x)
  first
    | exact wpAny_pure (wpAny_bind fin)
    | exact wpAny_bind (wpAny_pure (wpAny_bind fin))
    | exact wpAny_bind fin
theorem ev_sliceN {c : Cx} {env : Env} {D : Nat} {l : Loc} {σ : Hp} {Q : V → Hp → Prop} {o : Expr} {lo hi : Option Expr} {p pos : Pos} (h : EV c env D (eval o env) l σ fun ov σ₁ => EO c env D lo l σ₁ fun a σ₂ => EO c env D hi l σ₂ fun b σ₃ => ES c env D ov a b l σ₃ Q) : EV c env D (eval (.Subscript o (.Slice lo hi none p) pos) env) l σ Q := by
  intro A g ρ z s Q' E' ok R q
  refine Subscript_SliceN (h A g ρ z s _ _ ok R fun ov ow σ1 ρ1 z1 s1 h1 R1 G1 r1 => ?_)
  refine wpAny_Slice (h1 A g ρ1 z1 s1 _ _ ok R1 fun a wa σ2 ρ2 z2 s2 h2 R2 G2 p2 => ?_)
  refine h2 A g ρ2 z2 s2 _ _ ok R2 fun b wb σ3 ρ3 z3 s3 h3 R3 G3 p3 => ?_
  refine evalPart_none_step ?_
  have R4 := R3.junk { cls := .type "slice", data := .fields #[wa, wb, .none] }
  exact h3 A g ρ3 z3 _ _ _ ow wa wb s3.heap.objs.size ok R4 ((r1.mono G2.toExt).mono G3.toExt) p2 p3 (Heap.IsSliceOf.new ..) fun v w σ' ρ' z' s' hq R' G' r' =>
    q v w σ' ρ' z' s' hq R' (((G1.trans G2).trans G3).trans ((Go.same _ _ _ _ _ fun _ _ e => Heap.get?_push_of_some _ e).trans G')) r'
def slTup (vs : List V) (lo hi : Option Int) (σ : Hp) (Q : V → Hp → Prop) : Prop := match lo with
  | some a => match hi with
    | some b => chk (0 ≤ a ∧ a ≤ vs.length ∧ 0 ≤ b ∧ vs.length ≤ 1000000) (Q (.tup ((vs.drop a.toNat).take (b.toNat - a.toNat))) σ)
    | none => False
  | none => False
def opSlice (X : Ex) (o : V) (lo hi : Option Int) (σ : Hp) (Q : V → Hp → Prop) : Prop := kvN X o fun o => match o with
  | .bytes b => chk (b.length ≤ 1000000) (Q (.bytes (cut b lo hi)) σ)
  | .ref i => lsO (.ref i) σ fun vs => chk (vs.length ≤ 1000000) (Q (.ref σ.length) (σ ++ [.list (cut vs lo hi)]))
  | .lst vs => chk (vs.length ≤ 1000000) (Q (.ref σ.length) (σ ++ [.list (cut vs lo hi)]))
  | .tup vs => slTup vs lo hi σ Q
  | _ => False
theorem opSlice_ok {X : Ex} (ok : XOk X) {env : Env} {o : V} {lo hi : Option Int} {l : Loc} {σ : Hp} {Q : V → Hp → Prop} (h : opSlice X o lo hi σ Q) : ES X.c env X.D o lo hi l σ Q := by
  obtain ⟨u, k, h⟩ := of_kvN ok h
  refine k.es ?_
  split at h
  · exact es_bytes (of_chk h).1 (of_chk h).2
  · obtain ⟨vs, hv, h1⟩ := of_lsO h
    cases hv with
    | own hv => exact es_list hv (of_chk h1).1 (of_chk h1).2
  · exact es_lst (of_chk h).1 (of_chk h).2
  · unfold slTup at h
    split at h
    · split at h
      · rename_i a _ b
        obtain ⟨⟨a0, a1, b0, hz⟩, h⟩ := of_chk h
        obtain ⟨a, rfl⟩ := Int.eq_ofNat_of_zero_le a0
        obtain ⟨b, rfl⟩ := Int.eq_ofNat_of_zero_le b0
        exact es_tup (by omega) hz (by simpa using h)
      · exact h.elim
    · exact h.elim
  · exact h.elim
end
section
open PySem PySem.W PyProof.Rows PySem.Calls

-- BUILT-INS
inductive Bi where
  | len | abs | range | int | sum | bytes | isinstance | bisect | append | isdigit | find | decode
  deriving DecidableEq
def Bi.val : Bi → Value
  | .len => .builtin "len" | .abs => .builtin "abs" | .range => .type "range" | .int => .type "int" | .sum => .builtin "sum" | .bytes => .type "bytes"
  | .isinstance => .builtin "isinstance" | .bisect => .builtin "_bisect.bisect_left" | .append => .builtin "list.append" | .isdigit => .builtin "bytes.isdigit" | .find => .builtin "bytes.find" | .decode => .builtin "bytes.decode"
theorem Bi.keep {c : Cx} (b : Bi) : KeepOk c (.val b.val) := by cases b <;> trivial
def intsL : List V → (List Int → Prop) → Prop
  | [], K => K []
  | v :: vs, K => match v with
    | .int i => intsL vs fun is => K (i :: is)
    | _ => False
theorem intsL_inv : ∀ {vs : List V} {K : List Int → Prop}, intsL vs K → ∃ is : List Int, vs = is.map V.int ∧ K is
  | [], _, h => ⟨[], rfl, h⟩
  | v :: vs, K, h => by
    unfold intsL at h
    split at h
    · obtain ⟨is, rfl, hk⟩ := intsL_inv h
      exact ⟨_ :: is, rfl, hk⟩
    · exact h.elim
theorem intsL_of {is : List Int} {K : List Int → Prop} (h : K is) : intsL (is.map V.int) K := by
  induction is generalizing K with
  | nil => exact h
  | cons i is ih => exact ih (K := fun is => K (i :: is)) h
/-- a list of intsV -/
@[irreducible] def intsV (vs : List V) (K : List Int → Prop) : Prop := ∃ is : List Int, vs = is.map V.int ∧ K is
theorem intsV_of {is : List Int} {vs : List V} {K : List Int → Prop} (e : vs = is.map V.int) (h : K is) : intsV vs K := by unfold intsV; exact ⟨is, e, h⟩
theorem of_intsV {vs : List V} {K : List Int → Prop} (h : intsV vs K) : ∃ is : List Int, vs = is.map V.int ∧ K is := by unfold intsV at h; exact h
@[irreducible] def ascii (b : List UInt8) (K : Str → Prop) : Prop := ∃ x, Ascii b x ∧ K x
theorem ascii_of {b : List UInt8} {x : Str} {K : Str → Prop} (h : Ascii b x) (k : K x) : ascii b K := by unfold ascii; exact ⟨x, h, k⟩
@[irreducible] def intText (x : Str) (K : Int → Prop) : Prop := ∃ n, PySem.intText? x = some n ∧ x.length ≤ 640 ∧ K n
theorem intText_of {x : Str} {n : Int} {K : Int → Prop} (h : PySem.intText? x = some n) (hl : x.length ≤ 640) (k : K n) : intText x K := by unfold intText; exact ⟨n, h, hl, k⟩
def lenR (Q : V → Hp → Prop) : V → Hp → Prop := fun r σ => match r with
  | .int n => chk (0 ≤ n ∧ n < 9223372036854775808) (Q (.int n) σ)
  | _ => False
theorem lenR_inv {Q : V → Hp → Prop} {r : V} {σ : Hp} (h : lenR Q r σ) : ∃ n, r = .int n ∧ 0 ≤ n ∧ n < 2 ^ 63 ∧ Q (.int n) σ := by
  unfold lenR at h
  split at h
  · obtain ⟨⟨a, b⟩, d⟩ := of_chk h
    exact ⟨_, rfl, a, by omega, d⟩
  · exact h.elim
def lenObj (X : Ex) (i : Nat) (σ : Hp) (Q : V → Hp → Prop) : AO → Prop
  | .list vs => chk (vs.length ≤ 1000000) (Q (.int vs.length) σ)
  | .inst C _ => match X.cls C 42 with
    | .meth f => FCd X f [.ref i] σ (lenR Q)
    | _ => False
  | _ => False
def biLen (X : Ex) (v : V) (σ : Hp) (Q : V → Hp → Prop) : Prop := kvN X v fun v => match v with
  | .bytes b => chk (b.length ≤ 1000000) (Q (.int b.length) σ)
  | .tup vs => chk (vs.length ≤ 1000000) (Q (.int vs.length) σ)
  | .lst vs => chk (vs.length ≤ 1000000) (Q (.int vs.length) σ)
  | .ref i => getO σ i (lenObj X i σ Q)
  | .obj C fs => match X.cls C 42 with
    | .meth f => FCd X f [.obj C fs] σ (lenR Q)
    | _ => False
  | _ => False
def biInt (v : V) (σ : Hp) (Q : V → Hp → Prop) : Prop := match v with
  | .int i => Q (.int i) σ
  | .bool b => Q (.int (if b then 1 else 0)) σ
  | .str x => intText x fun n => Q (.int n) σ
  | _ => False
def biRange : List V → Hp → (V → Hp → Prop) → Prop
  | [.int n], σ, Q => Q (.rng 0 n 1) σ
  | [.int a, .int b], σ, Q => Q (.rng a b 1) σ
  | [.int a, .int b, .int k], σ, Q => chk (k ≠ 0 ∧ Builtin.divisionGoesByPylong (b - a) k = false) (Q (.rng a b k) σ)
  | _, _, _ => False
def biIsi (X : Ex) (a b : V) (σ : Hp) (Q : V → Hp → Prop) : Prop := match a with
  | .obj C _ => match b with
    | .val w => match w with
      | .ref C' => isIn X.c.K (.ref C) C' = true ∧ Q (.bool true) σ
      | _ => False
    | _ => False
  | .bytes _ => match b with
    | .val w => w = .type "bytes" ∧ Q (.bool true) σ
    | _ => False
  | _ => False
def biBis (X : Ex) (v : V) (x lo : V) (σ : Hp) (Q : V → Hp → Prop) : Prop := kvN X v fun v => lsO v σ fun vs => intsV vs fun ns => match x with
  | .int x => match lo with
    | .int lo => chk (0 ≤ lo ∧ lo ≤ 1000000 ∧ ns.length ≤ 1000000) (Q (.int (FX.bisL ns x lo.toNat ns.length)) σ)
    | _ => False
  | _ => False
def apObj (i : Nat) (v : V) (σ : Hp) (Q : V → Hp → Prop) : AO → Prop
  | .list vs => chk (vs.length ≤ 1000000) (Q .none (σ.set i (.list (vs ++ [v]))))
  | _ => False
def opBi (X : Ex) (b : Bi) (args : List V) (σ : Hp) (Q : V → Hp → Prop) : Prop := match b with
  | .len => match args with | [v] => biLen X v σ Q | _ => False
  | .abs => match args with | [.int a] => Q (.int (if a < 0 then -a else a)) σ | _ => False
  | .int => match args with | [v] => biInt v σ Q | _ => False
  | .range => biRange args σ Q
  | .sum => match args with | [v] => lsO v σ fun vs => intsV vs fun ns => Q (.int ns.sum) σ | _ => False
  | .bytes => match args with | [v] => lsO v σ fun vs => intsV vs fun ns => chk ((∀ n ∈ ns, 0 ≤ n ∧ n < 256) ∧ ns.length ≤ 1000000) (Q (.bytes (ns.map fun n => n.toNat.toUInt8)) σ) | _ => False
  | .isinstance => match args with | [a, b] => biIsi X a b σ Q | _ => False
  | .bisect => match args with | [v, x, lo] => biBis X v x lo σ Q | _ => False
  | .append => match args with | [.ref i, v] => getO σ i (apObj i v σ Q) | _ => False
  | .isdigit => match args with | [.bytes b] => Q (.bool (PySem.Builtin.Bytes.allOf PySem.Builtin.Bytes.isDigit b)) σ | _ => False
  | .find => match args with | [.bytes b, .bytes x] => Q (.int (FX.findB b.toArray x.toArray)) σ | _ => False
  | .decode => match args with | [.bytes b, .str e] => e = "ascii" ∧ ascii b fun x => Q (.str x) σ | _ => False
theorem opBi_ok {X : Ex} (ok : XOk X) {b : Bi} {args : List V} {σ : Hp} {Q : V → Hp → Prop} (h : opBi X b args σ Q) : FN X.c X.D (.val b.val) args [] σ Q := by
  unfold opBi at h
  split at h
  · split at h
    · obtain ⟨u, k, h⟩ := of_kvN ok h
      refine k.fn1 ?_
      split at h
      · exact fn_len_bytes (of_chk h).1 (of_chk h).2
      · exact fn_len_tup (of_chk h).1 (of_chk h).2
      · exact fn_len_lst (of_chk h).1 (of_chk h).2
      · obtain ⟨o, ho, h1⟩ := of_getO h
        unfold lenObj at h1
        split at h1
        · exact fn_len_list ho (of_chk h1).1 (of_chk h1).2
        · rename_i C fs
          have hc := ok.cls C 42
          split at h1
          · rename_i f e; rw [e] at hc
            obtain ⟨_, c2, c3, _⟩ := hc
            obtain ⟨D, eD, hf⟩ := of_FCd h1
            rw [eD]
            exact fn_len_inst ho c2 c3 (hf.mono fun v σ' h => lenR_inv h)
          · exact h1.elim
        · exact h1.elim
      · rename_i C fs
        have hc := ok.cls C 42
        split at h
        · rename_i f e; rw [e] at hc
          obtain ⟨_, c2, c3, _⟩ := hc
          obtain ⟨D, eD, hf⟩ := of_FCd h
          rw [eD]
          exact fn_len_obj c2 c3 (hf.mono fun v σ' h => lenR_inv h)
        · exact h.elim
      · exact h.elim
    · exact h.elim
  · split at h
    · exact fn_abs h
    · exact h.elim
  · split at h
    · unfold biInt at h
      split at h
      · exact fn_int h
      · exact fn_int_bool h
      · unfold intText at h
        obtain ⟨n, h1, h2, h3⟩ := h
        exact fn_int_text h1 h2 h3
      · exact h.elim
    · exact h.elim
  · unfold biRange at h
    split at h
    · exact fn_range1 h
    · exact fn_range2 h
    · exact fn_range3 (of_chk h).1.1 (of_chk h).1.2 (of_chk h).2
    · exact h.elim
  · split at h
    · obtain ⟨vs, hv, h1⟩ := of_lsO h
      obtain ⟨is, rfl, h2⟩ := of_intsV h1
      exact fn_sum hv h2
    · exact h.elim
  · split at h
    · obtain ⟨vs, hv, h1⟩ := of_lsO h
      obtain ⟨is, rfl, h2⟩ := of_intsV h1
      exact fn_bytes hv (of_chk h2).1.1 (of_chk h2).1.2 (of_chk h2).2
    · exact h.elim
  · split at h
    · unfold biIsi at h
      split at h
      · split at h
        · split at h
          · exact fn_isi_obj h.1 h.2
          · exact h.elim
        · exact h.elim
      · split at h
        · obtain ⟨rfl, h⟩ := h
          exact fn_isi_bytes h
        · exact h.elim
      · exact h.elim
    · exact h.elim
  · split at h
    · obtain ⟨u, k, h⟩ := of_kvN ok h
      refine k.fn1 ?_
      obtain ⟨vs, hv, h1⟩ := of_lsO h
      obtain ⟨is, rfl, h2⟩ := of_intsV h1
      split at h2
      · split at h2
        · obtain ⟨⟨a, b, c⟩, d⟩ := of_chk h2
          obtain ⟨lo, rfl⟩ := Int.eq_ofNat_of_zero_le a
          exact fn_bisect hv c (by omega) (by simpa using d)
        · exact h2.elim
      · exact h2.elim
    · exact h.elim
  · split at h
    · obtain ⟨o, ho, h1⟩ := of_getO h
      unfold apObj at h1
      split at h1
      · exact fn_append ho (of_chk h1).1 (of_chk h1).2
      · exact h1.elim
    · exact h.elim
  · split at h
    · exact fn_isdigit h
    · exact h.elim
  · split at h
    · exact fn_find h
    · exact h.elim
  · split at h
    · obtain ⟨rfl, h⟩ := h
      unfold ascii at h
      obtain ⟨x, h1, h2⟩ := h
      exact fn_decode h1 h2
    · exact h.elim

-- CALLS
inductive Tg where | fn (f : Addr) | bi (b : Bi)
def Tg.v : Tg → V
  | .fn f => .val (.ref f)
  | .bi b => .val b.val
def callF (X : Ex) (f : Addr) (args : List V) (kws : List (Str × V)) (σ : Hp) (Q : V → Hp → Prop) : Prop := match kws with
  | [] => match X.pur f args with
    | some v => Q v σ
    | none => FC X.c X.D (.val (.ref f)) args [] σ Q
  | kws => FC X.c X.D (.val (.ref f)) args kws σ Q
theorem callF_ok {X : Ex} (ok : XOk X) {f : Addr} {args : List V} {kws : List (Str × V)} {σ : Hp} {Q : V → Hp → Prop} (h : callF X f args kws σ Q) : FN X.c X.D (.val (.ref f)) args kws σ Q := by
  unfold callF at h
  split at h
  · split at h
    · rename_i v e; exact (ok.pur _ _ _ e _ _ h).fn
    · exact h.fn
  · exact h.fn
def callT (X : Ex) (t : Tg) (args : List V) (kws : List (Str × V)) (σ : Hp) (Q : V → Hp → Prop) : Prop := match t with
  | .fn f => callF X f args kws σ Q
  | .bi b => match kws with | [] => opBi X b args σ Q | _ => False
theorem callT_ok {X : Ex} (ok : XOk X) {t : Tg} {args : List V} {kws : List (Str × V)} {σ : Hp} {Q : V → Hp → Prop} (h : callT X t args kws σ Q) : FN X.c X.D t.v args kws σ Q := by
  unfold callT at h
  split at h
  · exact callF_ok ok h
  · split at h
    · exact opBi_ok ok h
    · exact h.elim
def lmObj (X : Ex) (i k : Nat) (QM : Tg → V → Prop) : AO → Prop
  | .inst C fs => hi (match X.cls C k with
    | .meth f => match noKey k fs with | true => QM (.fn f) (.ref i) | false => False
    | _ => False)
  | .list _ => hi (match k with | 0 => QM (.bi .append) (.ref i) | _ => False)
  | _ => False
def opMeth (X : Ex) (k : Nat) (ov : V) (σ : Hp) (QM : Tg → V → Prop) : Prop := match ov with
  | .ref i => getO σ i (lmObj X i k QM)
  | .obj C fs => match X.cls C k with
    | .meth f => match noKey k fs with | true => QM (.fn f) (.obj C fs) | false => False
    | _ => False
  | .bytes b => match k with | 2 => QM (.bi .isdigit) (.bytes b) | 3 => QM (.bi .find) (.bytes b) | 4 => QM (.bi .decode) (.bytes b) | _ => False
  | _ => False
theorem opMeth_ok {X : Ex} (ok : XOk X) {env : Env} {k : Nat} {ov : V} {l : Loc} {σ : Hp} {QM : Tg → V → Prop} (h : opMeth X k ov σ QM) :
    EM X.c env X.D ov (nm k) l σ fun vf first σ' => ∃ t f, vf = t.v ∧ first = [f] ∧ σ' = σ ∧ KeepOk X.c vf ∧ QM t f := by
  unfold opMeth at h
  split at h
  · obtain ⟨o, ho, h1⟩ := of_getO h
    unfold lmObj at h1
    split at h1
    · rename_i C fs
      have hc := ok.cls C k
      split at h1
      · rename_i f e; rw [e] at hc
        obtain ⟨c1, c2, c3, c4⟩ := hc
        split at h1
        · rename_i g
          exact em_inst ho g c1 c2 c3 ⟨.fn f, _, rfl, rfl, rfl, c4, h1⟩
        · exact h1.elim
      · exact h1.elim
    · split at h1
      · exact em_append ho ⟨.bi .append, _, rfl, rfl, rfl, Bi.keep .append, h1⟩
      · exact h1.elim
    · exact h1.elim
  · rename_i C fs
    have hc := ok.cls C k
    split at h
    · rename_i f e; rw [e] at hc
      obtain ⟨c1, c2, c3, c4⟩ := hc
      split at h
      · rename_i g
        exact em_obj g c1 c2 c3 ⟨.fn f, _, rfl, rfl, rfl, c4, h⟩
      · exact h.elim
    · exact h.elim
  · split at h
    · exact em_bytes FX.slot_isdigit FX.type_isdigit ⟨.bi .isdigit, _, rfl, rfl, rfl, Bi.keep .isdigit, h⟩
    · exact em_bytes FX.slot_find FX.type_find ⟨.bi .find, _, rfl, rfl, rfl, Bi.keep .find, h⟩
    · exact em_bytes FB.slot_bytes_decode FB.type_bytes_decode ⟨.bi .decode, _, rfl, rfl, rfl, Bi.keep .decode, h⟩
    · exact h.elim
  · exact h.elim

-- LOOPS
def rngI (a b st : Int) (K : List V → Prop) : Prop := hi (match st == 1 with
  | true => chk (-1000000 ≤ a ∧ a ≤ 1000000 ∧ -1000000 ≤ b ∧ b ≤ 1000000) (K (rngVs a 1 (b - a).toNat))
  | false => chk (Builtin.Range.small a b st = true ∧ 0 ≤ Builtin.Range.rangeSize a b st) (K (rngVs a st (Builtin.Range.rangeSize a b st).toNat)))
abbrev Sgo := Option (Nat × List V)
def sgP (sg : Sgo) (σ : Hp) : Prop := match sg with
  | none => True
  | some p => σ[p.1]? = some (.list p.2)
def sgC (sg : Sgo) (σ : Hp) (K : Prop) : Prop := match sg with
  | none => K
  | some p => σ[p.1]? = some (.list p.2) ∧ K
theorem of_sgC {sg : Sgo} {σ : Hp} {K : Prop} (h : sgC sg σ K) : sgP sg σ ∧ K := by
  cases sg with
  | none => exact ⟨trivial, h⟩
  | some p => exact h
def itObjs (i : Nat) (K : List V → Sgo → Prop) : AO → Prop
  | .list vs => hi (K vs (some (i, vs)))
  | _ => False
def opIter (X : Ex) (v : V) (σ : Hp) (K : List V → Sgo → Prop) : Prop := kvN X v fun v => match v with
  | .rng a b st => rngI a b st fun vs => K vs none
  | .lst vs => K vs none
  | .tup vs => K vs none
  | .bytes b => K (b.map fun x => V.int (x.toNat : Int)) none
  | .ref i => getO σ i (itObjs i K)
  | _ => False
theorem it_rng1 {c : Cx} {a b : Int} (h : -1000000 ≤ a ∧ a ≤ 1000000 ∧ -1000000 ≤ b ∧ b ≤ 1000000) : Iterable c (.rng a b 1) (rngVs a 1 (b - a).toNat) (fun _ => True) :=
  it_range (small_one (by omega) (by omega) (by omega) (by omega)) (by rw [rangeSize_one]; split <;> omega)
theorem opIter_ok {X : Ex} (ok : XOk X) {v : V} {σ : Hp} {K : List V → Sgo → Prop} (h : opIter X v σ K) : ∃ vs sg, Iterable X.c v vs (sgP sg) ∧ sgP sg σ ∧ K vs sg := by
  obtain ⟨u, k, h⟩ := of_kvN ok h
  split at h
  · unfold rngI at h
    split at h
    · rename_i e
      have e1 := eq_of_beq e
      rw [e1] at k
      exact ⟨_, none, k.iter (it_rng1 (of_chk h).1), trivial, (of_chk h).2⟩
    · obtain ⟨⟨h1, h2⟩, h3⟩ := of_chk h
      exact ⟨_, none, k.iter (it_range h1 (by omega)), trivial, h3⟩
  · exact ⟨_, none, k.iter it_lst, trivial, h⟩
  · exact ⟨_, none, k.iter it_tup, trivial, h⟩
  · exact ⟨_, none, k.iter it_bytes, trivial, h⟩
  · obtain ⟨o, ho, h1⟩ := of_getO h
    unfold itObjs at h1
    split at h1
    · exact ⟨_, some (_, _), k.iter it_own, ho, h1⟩
    · exact h1.elim
  · exact h.elim
def aft (N : List V → Hp → Prop) (Q : Fl → List V → Hp → Prop) : Fl → List V → Hp → Prop := fun f l σ => match f with
  | .next => N l σ
  | .cont => N l σ
  | .brk => Q .next l σ
  | .ret v => Q (.ret v) l σ
def forU (X : Ex) (wt : WA) (wb : WX) (sg : Sgo) : List V → List V → Hp → (Fl → List V → Hp → Prop) → Prop
  | [], l, σ, Q => Q .next l σ
  | v :: vs, l, σ, Q => wt X v l σ fun l₁ σ₁ => wb X l₁ σ₁ (aft (fun l₂ σ₂ => sgC sg σ₂ (forU X wt wb sg vs l₂ σ₂ Q)) Q)
@[irreducible] def forJ (X : Ex) (wt : WA) (wb : WX) (sg : Sgo) (vs : List V) (l : List V) (σ : Hp) (Q : Fl → List V → Hp → Prop) : Prop :=
  ∃ J : Nat → List V → Hp → Prop, J 0 l σ ∧ (∀ i l σ, J i l σ → sgP sg σ) ∧ (∀ i v l σ, vs[i]? = some v → J i l σ → wt X v l σ fun l₁ σ₁ => wb X l₁ σ₁ (aft (J (i + 1)) Q)) ∧ ∀ l σ, J vs.length l σ → Q .next l σ
theorem forJ_of {X : Ex} {wt : WA} {wb : WX} {sg : Sgo} {vs : List V} {l : List V} {σ : Hp} {Q : Fl → List V → Hp → Prop} (J : Nat → List V → Hp → Prop) (h0 : J 0 l σ) (hs : ∀ i l σ, J i l σ → sgP sg σ)
    (ht : ∀ i v l σ, vs[i]? = some v → J i l σ → wt X v l σ fun l₁ σ₁ => wb X l₁ σ₁ (aft (J (i + 1)) Q)) (he : ∀ l σ, J vs.length l σ → Q .next l σ) : forJ X wt wb sg vs l σ Q := by unfold forJ; exact ⟨J, h0, hs, ht, he⟩
theorem forJ_un {X : Ex} {wt : WA} {wb : WX} {sg : Sgo} {vs : List V} {l : List V} {σ : Hp} {Q : Fl → List V → Hp → Prop} (h0 : sgP sg σ) (h : forU X wt wb sg vs l σ Q) : forJ X wt wb sg vs l σ Q := by
  refine forJ_of (fun i l σ => sgC sg σ (forU X wt wb sg (vs.drop i) l σ Q)) ?_ (fun i l σ h => (of_sgC h).1) (fun i v l σ hv hj => ?_) (fun l σ hj => ?_)
  · cases sg with
    | none => exact h
    | some p => exact ⟨h0, h⟩
  · have := (of_sgC hj).2
    rw [List.drop_eq_getElem_cons (List.getElem?_eq_some_iff.mp hv).1, (List.getElem?_eq_some_iff.mp hv).2] at this
    exact this
  · have := (of_sgC hj).2
    rw [List.drop_length] at this
    exact this
def forS (X : Ex) (wt : WA) (wb : WX) (sg : Sgo) (vs : List V) (l : List V) (σ : Hp) (Q : Fl → List V → Hp → Prop) : Prop := match X.run with
  | true => forU X wt wb sg vs l σ Q
  | false => forJ X wt wb sg vs l σ Q
def whileU (X : Ex) (wt : WB) (wb : WX) : Nat → List V → Hp → (Fl → List V → Hp → Prop) → Prop
  | 0, _, _, _ => False
  | n + 1, l, σ, Q => wt X l σ fun b σ₁ => br b (wb X l σ₁ (aft (fun l₂ σ₂ => whileU X wt wb n l₂ σ₂ Q) Q)) (Q .next l σ₁)
@[irreducible] def whileJ (X : Ex) (wt : WB) (wb : WX) (l : List V) (σ : Hp) (Q : Fl → List V → Hp → Prop) : Prop :=
  ∃ (J : Nat → List V → Hp → Prop) (n : Nat), J n l σ ∧ ∀ n l σ, J n l σ → wt X l σ fun b σ₁ => br b (wb X l σ₁ (aft (fun l₂ σ₂ => ∃ m, m < n ∧ J m l₂ σ₂) Q)) (Q .next l σ₁)
theorem whileJ_of {X : Ex} {wt : WB} {wb : WX} {l : List V} {σ : Hp} {Q : Fl → List V → Hp → Prop} (J : Nat → List V → Hp → Prop) (n : Nat) (h0 : J n l σ)
    (ht : ∀ n l σ, J n l σ → wt X l σ fun b σ₁ => br b (wb X l σ₁ (aft (fun l₂ σ₂ => ∃ m, m < n ∧ J m l₂ σ₂) Q)) (Q .next l σ₁)) : whileJ X wt wb l σ Q := by unfold whileJ; exact ⟨J, n, h0, ht⟩
def whileS (X : Ex) (wt : WB) (wb : WX) (l : List V) (σ : Hp) (Q : Fl → List V → Hp → Prop) : Prop := match X.run with
  | true => whileU X wt wb 10000 l σ Q
  | false => whileJ X wt wb l σ Q
end
section
open PySem PySem.W PyProof.Rows PySem.Calls
section
variable {c : Cx} {env : Env} {ns : List Str} {pos : Pos}

-- CONDITIONS
def valB (w : WE) : WB := fun X l σ Q => w X l σ fun v σ₁ => opT X v σ₁ fun b => Q b σ₁
theorem cb_val {e : Expr} {w : WE} (h : CE c env ns e w) (hs : isTrue e env (eval e env) = (do let v ← eval e env; standAt e.pos; holding [v] (truthy v)) := by with_unfolding_all rfl) : CB c env ns e (valB w) :=
  fun X ec ok l σ Q hl h1 => by
    subst ec
    exact eb_plain ((h X rfl ok l σ _ hl h1).mono fun v σ₁ h2 => opT_ok h2) hs
def notB (w : WB) : WB := fun X l σ Q => w X l σ fun b σ₁ => Q (!b) σ₁
theorem cb_not {e : Expr} {w : WB} (h : CB c env ns e w) : CB c env ns (.UnaryOp .Not e pos) (notB w) :=
  fun X ec ok l σ Q hl h1 => eb_not (h X ec ok l σ _ hl h1)
def andB (a b : WB) : WB := fun X l σ Q => a X l σ fun r σ₁ => br r (b X l σ₁ Q) (Q false σ₁)
def orB (a b : WB) : WB := fun X l σ Q => a X l σ fun r σ₁ => br r (Q true σ₁) (b X l σ₁ Q)
def litB (r : Bool) : WB := fun X l σ Q => Q r σ
theorem cbs_and {e : Expr} {es : List Expr} {a b : WB} (h : CB c env ns e a) (h' : CBs c env ns .And es b) : CBs c env ns .And (e :: es) (andB a b) :=
  fun X ec ok l σ Q hl h1 => by
    subst ec
    exact eb_and ((h X rfl ok l σ _ hl h1).mono fun r σ₁ h2 => ⟨fun e => h' X rfl ok l σ₁ Q hl ((of_br h2).1 e), fun e => (of_br h2).2 e⟩)
theorem cbs_or {e : Expr} {es : List Expr} {a b : WB} (h : CB c env ns e a) (h' : CBs c env ns .Or es b) : CBs c env ns .Or (e :: es) (orB a b) :=
  fun X ec ok l σ Q hl h1 => by
    subst ec
    exact eb_or ((h X rfl ok l σ _ hl h1).mono fun r σ₁ h2 => ⟨fun e => h' X rfl ok l σ₁ Q hl ((of_br h2).2 e), fun e => (of_br h2).1 e⟩)
theorem cbs_andE : CBs c env ns .And [] (litB true) := fun X ec ok l σ Q hl h => eb_andE h
theorem cbs_orE : CBs c env ns .Or [] (litB false) := fun X ec ok l σ Q hl h => eb_orE h
theorem cb_bop {op : BoolOp} {es : List Expr} {w : WB} (h : CBs c env ns op es w) : CB c env ns (.BoolOp op es pos) w :=
  fun X ec ok l σ Q hl h1 => eb_bop (h X ec ok l σ Q hl h1)

-- EXPRESSIONS
def notW (w : WE) : WE := fun X l σ Q => w X l σ fun v σ₁ => opT X v σ₁ fun b => Q (.bool (!b)) σ₁
theorem ce_not {e : Expr} {w : WE} (h : CE c env ns e w) : CE c env ns (.UnaryOp .Not e pos) (notW w) :=
  fun X ec ok l σ Q hl h1 => by
    subst ec
    exact ev_not ((h X rfl ok l σ _ hl h1).mono fun v σ₁ h2 => opT_ok h2)
def iteW (t : WB) (a b : WE) : WE := fun X l σ Q => t X l σ fun r σ₁ => br r (a X l σ₁ Q) (b X l σ₁ Q)
theorem ce_ite {t a b : Expr} {wt : WB} {wa wb : WE} (ht : CB c env ns t wt) (ha : CE c env ns a wa) (hb : CE c env ns b wb) : CE c env ns (.IfExp t a b pos) (iteW wt wa wb) :=
  fun X ec ok l σ Q hl h1 => by
    subst ec
    exact ev_if ((ht X rfl ok l σ _ hl h1).mono fun r σ₁ h2 => ⟨fun e => ha X rfl ok l σ₁ Q hl ((of_br h2).1 e), fun e => hb X rfl ok l σ₁ Q hl ((of_br h2).2 e)⟩)
def andW (a b : WE) : WE := fun X l σ Q => a X l σ fun v σ₁ => opT X v σ₁ fun r => br r (b X l σ₁ Q) (Q v σ₁)
def orW (a b : WE) : WE := fun X l σ Q => a X l σ fun v σ₁ => opT X v σ₁ fun r => br r (Q v σ₁) (b X l σ₁ Q)
theorem ET.mono {c : Cx} {env : Env} {D : Nat} {v : V} {l : Loc} {σ : Hp} {Q Q' : Bool → Hp → Prop} (h : ET c env D v l σ Q) (k : ∀ v σ', Q v σ' → Q' v σ') : ET c env D v l σ Q' :=
  fun A g ρ z s Q₁ E₁ w ok R r q => h A g ρ z s Q₁ E₁ w ok R r fun v σ' ρ' z' s' hq => q v σ' ρ' z' s' (k _ _ hq)
theorem opT_okF {X : Ex} {env : Env} {v : V} {l : Loc} {σ : Hp} {F : Bool → Prop} (h : opT X v σ F) : ET X.c env X.D v l σ (fun r σ' => σ' = σ ∧ F r) :=
  opT_ok (by have e : F = fun b => σ = σ ∧ F b := by funext b; simp
             rw [e] at h; exact h)
theorem ce_bop1 {a : Expr} {op : BoolOp} {wa : WE} (ha : CE c env ns a wa) : CE c env ns (.BoolOp op [a] pos) wa := fun X ec ok l σ Q hl h1 => ev_bool1 (ha X ec ok l σ Q hl h1)
theorem ce_and {a b : Expr} {rest : List Expr} {wa wb : WE} (ha : CE c env ns a wa) (hb : CE c env ns (.BoolOp .And (b :: rest) pos) wb) : CE c env ns (.BoolOp .And (a :: b :: rest) pos) (andW wa wb) :=
  fun X ec ok l σ Q hl h1 => by
    subst ec
    exact ev_and ((ha X rfl ok l σ _ hl h1).mono fun v σ₁ h2 => (opT_okF h2).mono fun r σ₂ ⟨e, h⟩ => by
      subst e; exact ⟨fun e => hb X rfl ok l _ Q hl ((of_br h).1 e), fun e => (of_br h).2 e⟩)
theorem ce_or {a b : Expr} {rest : List Expr} {wa wb : WE} (ha : CE c env ns a wa) (hb : CE c env ns (.BoolOp .Or (b :: rest) pos) wb) : CE c env ns (.BoolOp .Or (a :: b :: rest) pos) (orW wa wb) :=
  fun X ec ok l σ Q hl h1 => by
    subst ec
    exact ev_or ((ha X rfl ok l σ _ hl h1).mono fun v σ₁ h2 => (opT_okF h2).mono fun r σ₂ ⟨e, h⟩ => by
      subst e; exact ⟨fun e => hb X rfl ok l _ Q hl ((of_br h).2 e), fun e => (of_br h).1 e⟩)
def attrW (k : Nat) (w : WE) : WE := fun X l σ Q => w X l σ fun v σ₁ => opAttr X k v σ₁ Q
theorem ce_attr {o : Expr} {attr : Str} {k : Nat} {w : WE} (ho : CE c env ns o w) (hk : nm k = attr) (he : eval (.Attribute o attr pos) env = (do
      let ov ← eval o env
      standAt pos.atName
      let r ← holding [ov] (getAttr ov attr true)
      letTemporaryGo o ov r
      pure r) := by with_unfolding_all rfl) : CE c env ns (.Attribute o attr pos) (attrW k w) :=
  fun X ec ok l σ Q hl h1 => by
    subst ec hk
    exact ev_attr' ((ho X rfl ok l σ _ hl h1).mono fun v σ₁ h2 => opAttr_ok ok h2) he
def itemW (wo wi : WE) : WE := fun X l σ Q => wo X l σ fun ov σ₁ => wi X l σ₁ fun iv σ₂ => opItem X ov iv σ₂ Q
theorem ce_item {o i : Expr} {wo wi : WE} (ho : CE c env ns o wo) (hi : CE c env ns i wi) (hs : notSlice i = true) : CE c env ns (.Subscript o i pos) (itemW wo wi) :=
  fun X ec ok l σ Q hl h1 => by
    subst ec
    exact ev_item ((ho X rfl ok l σ _ hl h1).mono fun ov σ₁ h2 => (hi X rfl ok l σ₁ _ hl h2).mono fun iv σ₂ h3 => opItem_ok ok hs h3)
abbrev WO := Ex → List V → Hp → (Option Int → Hp → Prop) → Prop
def CO (c : Cx) (env : Env) (ns : List Str) (e : Option Expr) (w : WO) : Prop :=
  ∀ X : Ex, X.c = c → XOk X → ∀ l σ Q, l.length = ns.length → w X l σ Q → EO c env X.D e (ns.zip l) σ Q
def noneO : WO := fun X l σ Q => Q none σ
def partO (v : V) (K : Option Int → Prop) : Prop := hi (match v with
  | .int i => K (some i)
  | _ => False)
def someO (w : WE) : WO := fun X l σ Q => w X l σ fun v σ₁ => partO v fun i => Q i σ₁
theorem co_none : CO c env ns none noneO := fun X ec ok l σ Q hl h => eo_none h
theorem co_some {e : Expr} {w : WE} (h : CE c env ns e w) : CO c env ns (some e) (someO w) :=
  fun X ec ok l σ Q hl h1 => by
    subst ec
    refine eo_some ((h X rfl ok l σ _ hl h1).mono fun v σ₁ h2 => ?_)
    unfold partO at h2
    split at h2
    · exact ⟨_, rfl, h2⟩
    · exact h2.elim
def sliceW (wo : WE) (lo hi : WO) : WE := fun X l σ Q => wo X l σ fun ov σ₁ => lo X l σ₁ fun a σ₂ => hi X l σ₂ fun b σ₃ => opSlice X ov a b σ₃ Q
theorem EO.mono {c : Cx} {env : Env} {D : Nat} {x : Option Expr} {l : Loc} {σ : Hp} {Q Q' : Option Int → Hp → Prop} (h : EO c env D x l σ Q) (k : ∀ v σ', Q v σ' → Q' v σ') : EO c env D x l σ Q' :=
  fun A g ρ z s Q₁ E₁ ok R q => h A g ρ z s Q₁ E₁ ok R fun v w σ' ρ' z' s' hq => q v w σ' ρ' z' s' (k _ _ hq)
theorem ce_slice {o : Expr} {lo hi : Option Expr} {p : Pos} {wo : WE} {wl wh : WO} (ho : CE c env ns o wo) (hl : CO c env ns lo wl) (hh : CO c env ns hi wh) : CE c env ns (.Subscript o (.Slice lo hi none p) pos) (sliceW wo wl wh) :=
  fun X ec ok l σ Q hn h1 => by
    subst ec
    exact ev_sliceN ((ho X rfl ok l σ _ hn h1).mono fun ov σ₁ h2 => (hl X rfl ok l σ₁ _ hn h2).mono fun a σ₂ h3 => (hh X rfl ok l σ₂ _ hn h3).mono fun b σ₃ h4 => opSlice_ok ok h4)

-- ARGUMENTS
def nilL : WL := fun X l σ Q => Q [] σ
def consL (w : WE) (ws : WL) : WL := fun X l σ Q => w X l σ fun v σ₁ => ws X l σ₁ fun vs σ₂ => Q (v :: vs) σ₂
theorem cl_nil : CL c env ns pos [] nilL := ⟨rfl, fun X ec ok l σ Q hl h => el_nil h⟩
theorem cl_cons {e : Expr} {es : List Expr} {w : WE} {ws : WL} (h : CE c env ns e w) (hs : CL c env ns pos es ws) (he : starEach (e :: es) env = (false, eval e env) :: starEach es env := by (subst_vars; kernel_rfl)) : CL c env ns pos (e :: es) (consL w ws) :=
  ⟨by rw [he]; simpa [backTo] using hs.1, fun X ec ok l σ Q hl h1 => by
    subst ec
    exact el_cons hs.1 ((h X rfl ok l σ _ hl h1).mono fun v σ₁ h2 => hs.2 X rfl ok l σ₁ _ hl h2) he⟩
def nilK : WK := fun X l σ Q => Q [] σ
def consK (x : Str) (w : WE) (ws : WK) : WK := fun X l σ Q => w X l σ fun v σ₁ => ws X l σ₁ fun vs σ₂ => Q ((x, v) :: vs) σ₂
theorem ck_nil : CK c env ns pos [] nilK := ⟨rfl, fun X ec ok l σ Q hl h => ek_nil h⟩
theorem ck_cons {x : Str} {e : Expr} {kp : Pos} {es : List Keyword} {w : WE} {ws : WK} (h : CE c env ns e w) (hs : CK c env ns pos es ws) : CK c env ns pos (⟨some x, e, kp⟩ :: es) (consK x w ws) :=
  ⟨by simpa [backToKw, keywordEach] using hs.1, fun X ec ok l σ Q hl h1 => by
    subst ec
    exact ek_cons hs.1 ((h X rfl ok l σ _ hl h1).mono fun v σ₁ h2 => hs.2 X rfl ok l σ₁ _ hl h2)⟩

-- DISPLAYS
def listW (ws : WL) : WE := fun X l σ Q => ws X l σ fun vs σ₁ => chk (vs.length ≤ 1000000) (Q (.ref σ₁.length) (σ₁ ++ [.list vs]))
theorem ce_list {es : List Expr} {ws : WL} (h : CL c env ns pos es ws) : CE c env ns (.List es pos) (listW ws) :=
  fun X ec ok l σ Q hl h1 => by
    subst ec
    exact ev_list ((h.2 X rfl ok l σ _ hl h1).mono fun vs σ₁ h2 => of_chk h2)
def tupW (ws : WL) : WE := fun X l σ Q => ws X l σ fun vs σ₁ => chk (vs.length ≤ 1000000) (Q (.tup vs) σ₁)
theorem ce_tup {es : List Expr} {k : Nat} {ws : WL} (h : CL c env ns pos es ws) : CE c env ns (.Tuple es k pos) (tupW ws) :=
  fun X ec ok l σ Q hl h1 => by
    subst ec
    exact ev_tuple ((h.2 X rfl ok l σ _ hl h1).mono fun vs σ₁ h2 => of_chk h2)

-- CALLS
def callW (t : Tg) (ws : WL) (wk : WK) : WE := fun X l σ Q => ws X l σ fun vs σ₁ => wk X l σ₁ fun ks σ₂ => callT X t vs ks σ₂ Q
theorem ce_callT {x : Str} {p : Pos} {args : List Expr} {kws : List Keyword} {t : Tg} {ws : WL} {wk : WK} (hx : ∀ X : Ex, X.c = c → ∀ l σ (Q : V → Hp → Prop), Q t.v σ → EV c env X.D (eval (.Name x p) env) l σ Q) (hk : KeepOk c t.v)
    (h : CL c env ns pos args ws) (hw : CK c env ns pos kws wk) (he : eval (.Call (.Name x p) args kws pos) env = (do callWith pos (← eval (.Name x p) env) [] (backTo pos (starEach args env)) (backToKw pos (keywordEach kws env))) := by (subst_vars; kernel_rfl)) :
    CE c env ns (.Call (.Name x p) args kws pos) (callW t ws wk) :=
  fun X ec ok l σ Q hl h1 => by
    subst ec
    exact ev_call hw.1 (hx X rfl _ _ _ ⟨hk, (h.2 X rfl ok l σ _ hl h1).mono fun vs σ₁ h2 => (hw.2 X rfl ok l σ₁ _ hl h2).mono fun ks σ₂ h3 => callT_ok ok h3⟩) he
theorem ce_calld {x : Str} {p : Pos} {args : List Expr} {kws : List Keyword} {f : Addr} {ws : WL} {wk : WK} (e : nsIn c.K mainGlobals x = some (some (.ref f))) (hk : keepIn c.K (.ref f) = true)
    (h : CL c env ns pos args ws) (hw : CK c env ns pos kws wk) (he : eval (.Call (.Name x p) args kws pos) env = (do callWith pos (← eval (.Name x p) env) [] (backTo pos (starEach args env)) (backToKw pos (keywordEach kws env))) := by (subst_vars; kernel_rfl))
    (hkd : env.kindOf x = some .globalImplicit := by (subst_vars; kernel_rfl)) (hd : (x == ("__debug__" : Str)) = false := by decide +kernel) : CE c env ns (.Call (.Name x p) args kws pos) (callW (.fn f) ws wk) :=
  ce_callT (t := .fn f) (fun X _ l σ Q hq => ev_glob e hq hkd hd) hk h hw he
theorem absV_val (b : Bi) : absV b.val = .val b.val := by cases b <;> rfl
theorem ce_callb {x : Str} {p : Pos} {args : List Expr} {kws : List Keyword} (b : Bi) {ws : WL} {wk : WK} (e : nsIn c.K mainGlobals x = some none) {bv : Value} (hb : bootBuiltins x = some bv) (hbv : bv = b.val)
    (h : CL c env ns pos args ws) (hw : CK c env ns pos kws wk) (he : eval (.Call (.Name x p) args kws pos) env = (do callWith pos (← eval (.Name x p) env) [] (backTo pos (starEach args env)) (backToKw pos (keywordEach kws env))) := by (subst_vars; kernel_rfl))
    (hkd : env.kindOf x = some .globalImplicit := by (subst_vars; kernel_rfl)) (hn : x ≠ "__name__" := by decide +kernel) (hd : (x == ("__debug__" : Str)) = false := by decide +kernel) : CE c env ns (.Call (.Name x p) args kws pos) (callW (.bi b) ws wk) :=
  ce_callT (t := .bi b) (fun X _ l σ Q hq => ev_bltn e (hbv ▸ hb) (by rw [absV_val]; exact hq) hkd hn hd) (Bi.keep b) h hw he
/-- a built-in that stands in the module's own namespace (an imported name) -/
theorem ce_callg {x : Str} {p : Pos} {args : List Expr} {kws : List Keyword} (b : Bi) {ws : WL} {wk : WK} {bv : Value} (e : nsIn c.K mainGlobals x = some (some bv)) (hbv : bv = b.val)
    (h : CL c env ns pos args ws) (hw : CK c env ns pos kws wk) (he : eval (.Call (.Name x p) args kws pos) env = (do callWith pos (← eval (.Name x p) env) [] (backTo pos (starEach args env)) (backToKw pos (keywordEach kws env))) := by (subst_vars; kernel_rfl))
    (hkd : env.kindOf x = some .globalImplicit := by (subst_vars; kernel_rfl)) (hd : (x == ("__debug__" : Str)) = false := by decide +kernel) : CE c env ns (.Call (.Name x p) args kws pos) (callW (.bi b) ws wk) :=
  ce_callT (t := .bi b) (fun X _ l σ Q hq => ev_glob (hbv ▸ e) (by rw [absV_val]; exact hq) hkd hd) (Bi.keep b) h hw he
def methW (k : Nat) (wo : WE) (ws : WL) (wk : WK) : WE := fun X l σ Q => wo X l σ fun ov σ₁ => opMeth X k ov σ₁ fun t f => ws X l σ₁ fun vs σ₂ => wk X l σ₂ fun ks σ₃ => callT X t (f :: vs) ks σ₃ Q
theorem EM.mono {c : Cx} {env : Env} {D : Nat} {v : V} {name : Str} {l : Loc} {σ : Hp} {Q Q' : V → List V → Hp → Prop} (h : EM c env D v name l σ Q) (k : ∀ v fs σ', Q v fs σ' → Q' v fs σ') : EM c env D v name l σ Q' :=
  fun A g ρ z s Q₁ E₁ w pl ok R r q => h A g ρ z s Q₁ E₁ w pl ok R r fun vf first wf wfirst σ' ρ' z' s' hq => q vf first wf wfirst σ' ρ' z' s' (k _ _ _ hq)
theorem ce_meth {o : Expr} {name : Str} {apos : Pos} {args : List Expr} {kws : List Keyword} {k : Nat} {pl : Sem Bool} {wo : WE} {ws : WL} {wk : WK} (ho : CE c env ns o wo) (hk : nm k = name) (h : CL c env ns pos args ws) (hw : CK c env ns pos kws wk)
    (he : eval (.Call (.Attribute o name apos) args kws pos) env = (do
      let ov ← eval o env
      standAt apos.atName
      let (f, first) ← holding [ov] (getMethod ov name pl)
      callWith pos f first (backTo pos (starEach args env)) (backToKw pos (keywordEach kws env))) := by with_unfolding_all rfl) : CE c env ns (.Call (.Attribute o name apos) args kws pos) (methW k wo ws wk) :=
  fun X ec ok l σ Q hl h1 => by
    subst ec hk
    refine ev_mcall (pl := pl) hw.1 ((ho X rfl ok l σ _ hl h1).mono fun ov σ₁ h2 => (opMeth_ok ok h2).mono fun vf first σ₂ hm => ?_) he
    obtain ⟨t, f, rfl, rfl, rfl, hkp, h3⟩ := hm
    exact ⟨hkp, (h.2 X rfl ok l _ _ hl h3).mono fun vs σ₃ h4 => (hw.2 X rfl ok l σ₃ _ hl h4).mono fun ks σ₄ h5 => callT_ok ok h5⟩

-- TARGETS
def asgA (i : Nat) : WA := fun X v l σ Q => updK l i v fun l' => Q l' σ
theorem ca_name {x : Str} {i : Nat} (h : At ns i x) (hk : env.kindOf x = some .local := by (subst_vars; kernel_rfl)) : CAs c env ns (.Name x pos) (asgA i) :=
  fun X ec ok v l σ Q hl h1 => by
    obtain ⟨hi, h2⟩ := updK_set h1
    exact ea_name (zip_up v h hl) ⟨l.set i v, by simpa using hl, rfl, h2⟩ hk
abbrev WAs := Ex → List V → List V → Hp → (List V → Hp → Prop) → Prop
def CAss (c : Cx) (env : Env) (ns : List Str) (ts : List Expr) (w : WAs) : Prop :=
  (assignEach ts env).length = ts.length ∧ (assignEach ts env).findIdx? (·.1) = none ∧
  ∀ X : Ex, X.c = c → XOk X → ∀ vs l σ Q, l.length = ns.length → vs.length = ts.length → w X vs l σ Q → EAs c env X.D ts vs (ns.zip l) σ (QA ns Q)
def nilA : WAs := fun X vs l σ Q => Q l σ
def consA (a : WA) (as : WAs) : WAs := fun X vs l σ Q => match vs with | v :: vs => a X v l σ fun l₁ σ₁ => as X vs l₁ σ₁ Q | [] => False
def tupA (n : Nat) (as : WAs) : WA := fun X v l σ Q => match v with | .tup vs => chk (vs.length = n) (as X vs l σ Q) | _ => False
theorem cas_nil : CAss c env ns [] nilA := ⟨rfl, rfl, fun X ec ok vs l σ Q hl hn h => by
  cases vs with
  | nil => exact eas_nil ⟨l, hl, rfl, h⟩
  | cons v vs => simp at hn⟩
theorem cas_cons {t : Expr} {ts : List Expr} {a : WA} {as : WAs} (h : CAs c env ns t a) (h' : CAss c env ns ts as) (he : assignEach (t :: ts) env = (false, assign t env) :: assignEach ts env := by (subst_vars; kernel_rfl)) : CAss c env ns (t :: ts) (consA a as) := by
  refine ⟨by rw [he]; simpa using h'.1, by rw [he, List.findIdx?_cons]; simpa using h'.2.1, fun X ec ok vs l σ Q hl hn h1 => ?_⟩
  subst ec
  cases vs with
  | nil => simp at hn
  | cons v vs =>
    refine eas_cons ((h X rfl ok v l σ _ hl h1).mono fun L τ h2 => ?_) he
    obtain ⟨l', hl', rfl, h3⟩ := h2
    exact h'.2.2 X rfl ok vs l' τ Q hl' (by simpa using hn) h3
theorem ca_tup {ts : List Expr} {k : Nat} {as : WAs} (h : CAss c env ns ts as) : CAs c env ns (.Tuple ts k pos) (tupA ts.length as) :=
  fun X ec ok v l σ Q hl h1 => by
    subst ec
    unfold tupA at h1
    split at h1
    · obtain ⟨hn, h2⟩ := of_chk h1
      exact ea_tuple (h.2.2 X rfl ok _ l σ Q hl hn h2) (by rw [h.1, hn]) h.2.1
    · exact h1.elim

-- STATEMENTS
def nilX : WX := fun X l σ Q => Q .next l σ
def thn (N : List V → Hp → Prop) (Q : Fl → List V → Hp → Prop) : Fl → List V → Hp → Prop := fun f l σ => match f with
  | .next => N l σ
  | .brk => Q .brk l σ
  | .cont => Q .cont l σ
  | .ret v => Q (.ret v) l σ
def seqX (a b : WX) : WX := fun X l σ Q => a X l σ (thn (fun l₁ σ₁ => b X l₁ σ₁ Q) Q)
theorem cxs_nil : CXs c env ns [] nilX := fun X ec ok l σ Q hl h => ex_nil ⟨l, hl, rfl, h⟩
theorem cxs_cons {s : Stmt} {r : List Stmt} {a b : WX} (h : CX c env ns s a) (h' : CXs c env ns r b) : CXs c env ns (s :: r) (seqX a b) :=
  fun X ec ok l σ Q hl h1 => by
    subst ec
    refine ex_cons ((h X rfl ok l σ _ hl h1).mono fun f L τ h2 => ?_)
    obtain ⟨l', hl', rfl, h3⟩ := h2
    cases f with
    | next => exact h' X rfl ok l' τ Q hl' h3
    | brk => exact ⟨l', hl', rfl, h3⟩
    | cont => exact ⟨l', hl', rfl, h3⟩
    | ret v => exact ⟨l', hl', rfl, h3⟩
theorem cxs_one {s : Stmt} {a : WX} (h : CX c env ns s a) : CXs c env ns [s] a :=
  fun X ec ok l σ Q hl h1 => by
    subst ec
    refine ex_cons ((h X rfl ok l σ _ hl h1).mono fun f L τ h2 => ?_)
    obtain ⟨l', hl', rfl, h3⟩ := h2
    cases f with
    | next => exact ex_nil ⟨l', hl', rfl, h3⟩
    | brk => exact ⟨l', hl', rfl, h3⟩
    | cont => exact ⟨l', hl', rfl, h3⟩
    | ret v => exact ⟨l', hl', rfl, h3⟩
def flX (f : Fl) : WX := fun X l σ Q => Q f l σ
theorem cx_pass : CX c env ns (.Pass pos) (flX .next) := fun X ec ok l σ Q hl h => ex_pass ⟨l, hl, rfl, h⟩
theorem cx_break : CX c env ns (.Break pos) (flX .brk) := fun X ec ok l σ Q hl h => ex_break ⟨l, hl, rfl, h⟩
theorem cx_continue : CX c env ns (.Continue pos) (flX .cont) := fun X ec ok l σ Q hl h => ex_continue ⟨l, hl, rfl, h⟩
theorem cx_retN : CX c env ns (.Return none pos) (flX (.ret .none)) := fun X ec ok l σ Q hl h => ex_retN ⟨l, hl, rfl, h⟩
def retX (w : WE) : WX := fun X l σ Q => w X l σ fun v σ₁ => Q (.ret v) l σ₁
theorem cx_ret {e : Expr} {w : WE} (h : CE c env ns e w) : CX c env ns (.Return (some e) pos) (retX w) := fun X ec ok l σ Q hl h1 => by
  subst ec
  exact ex_ret ((h X rfl ok l σ _ hl h1).mono fun v σ₁ h2 => ⟨l, hl, rfl, h2⟩)
def exprX (w : WE) : WX := fun X l σ Q => w X l σ fun _ σ₁ => Q .next l σ₁
theorem cx_expr {e : Expr} {w : WE} (h : CE c env ns e w) (hi : interactive env = false := by (subst_vars; kernel_rfl)) (hs : swapsWith e none pos.line env = pure false := by (subst_vars; kernel_rfl)) : CX c env ns (.Expr e pos) (exprX w) := fun X ec ok l σ Q hl h1 => by
  subst ec
  exact ex_expr ((h X rfl ok l σ _ hl h1).mono fun v σ₁ h2 => ⟨l, hl, rfl, h2⟩) hi hs
def asgX (i : Nat) (w : WE) : WX := fun X l σ Q => w X l σ fun v σ₁ => updK l i v fun l' => Q .next l' σ₁
theorem cx_asg {x : Str} {e : Expr} {p : Pos} {i : Nat} {w : WE} (hx : At ns i x) (h : CE c env ns e w) (hk : env.kindOf x = some .local := by (subst_vars; kernel_rfl)) (hs : swapsWith e (some (.Name x p)) pos.line env = pure false := by (subst_vars; kernel_rfl)) : CX c env ns (.Assign [.Name x p] e pos) (asgX i w) := fun X ec ok l σ Q hl h1 => by
  subst ec
  exact ex_assign' ((h X rfl ok l σ _ hl h1).mono fun v σ₁ h2 => by
    obtain ⟨hi, h3⟩ := updK_set h2
    exact ⟨_, zip_up v hx hl, l.set i v, by simpa using hl, rfl, h3⟩) hk hs
def asgC (i : Nat) (w : WE) : WX := fun X l σ Q => match nth l i with
  | .cell j => w X l σ fun v σ₁ => getO σ₁ j fun o => (∃ u, o = .cell u) ∧ Q .next l (σ₁.set j (.cell v))
  | _ => False
theorem cx_asgC {x : Str} {e : Expr} {p : Pos} {i : Nat} {w : WE} (hx : At ns i x) (h : CE c env ns e w) (hk : env.kindOf x = some .cell := by (subst_vars; kernel_rfl)) (hs : swapsWith e (some (.Name x p)) pos.line env = pure false := by (subst_vars; kernel_rfl)) : CX c env ns (.Assign [.Name x p] e pos) (asgC i w) := fun X ec ok l σ Q hl h1 => by
  subst ec
  have hm := zip_nth hx hl
  unfold asgC at h1
  split at h1
  · rename_i j e
    rw [e] at hm
    exact ex_assignC hm ((h X rfl ok l σ _ hl h1).mono fun v σ₁ h2 => by
      obtain ⟨o, ho, ⟨u, rfl⟩, h3⟩ := of_getO h2
      exact ⟨⟨u, ho⟩, l, hl, rfl, h3⟩) hk hs
  · exact h1.elim
def asgTX (a : WA) (w : WE) : WX := fun X l σ Q => w X l σ fun v σ₁ => a X v l σ₁ fun l' σ₂ => Q .next l' σ₂
theorem cx_asgT {ts : List Expr} {k : Nat} {e : Expr} {p : Pos} {a : WA} {w : WE} (ha : CAs c env ns (.Tuple ts k p) a) (h : CE c env ns e w) (hs : swapsWithSole [.Tuple ts k p] e pos.line env = pure false := by (subst_vars; kernel_rfl)) (hw : swappedStores [.Tuple ts k p] e env = pure none := by (subst_vars; kernel_rfl)) :
    CX c env ns (.Assign [.Tuple ts k p] e pos) (asgTX a w) := fun X ec ok l σ Q hl h1 => by
  subst ec
  exact ex_assignT ((h X rfl ok l σ _ hl h1).mono fun v σ₁ h2 => (ha X rfl ok v l σ₁ _ hl h2).mono fun L τ ⟨l', hl', e, h3⟩ => ⟨l', hl', e, h3⟩) hs hw
def setX (k : Nat) (wo w : WE) : WX := fun X l σ Q => w X l σ fun v σ₁ => wo X l σ₁ fun ov σ₂ => opSet X k ov v σ₂ fun σ₃ => Q .next l σ₃
theorem EU3.mono {c : Cx} {env : Env} {D : Nat} {a b d : V} {f : Value → Value → Value → Sem Unit} {l : Loc} {σ : Hp} {Q Q' : Hp → Prop} (h : EU3 c env D a b d f l σ Q) (k : ∀ σ', Q σ' → Q' σ') : EU3 c env D a b d f l σ Q' :=
  fun A g ρ z s Q₁ E₁ w₁ w₂ w₃ ok R h1 h2 h3 q => h A g ρ z s Q₁ E₁ w₁ w₂ w₃ ok R h1 h2 h3 fun σ' ρ' z' s' hq => q σ' ρ' z' s' (k _ hq)
theorem cx_set {o e : Expr} {attr : Str} {p : Pos} {k : Nat} {wo w : WE} (ho : CE c env ns o wo) (h : CE c env ns e w) (hk : nm k = attr) (hs : swapsWith e (some (.Attribute o attr p)) pos.line env = pure false := by (subst_vars; kernel_rfl)) : CX c env ns (.Assign [.Attribute o attr p] e pos) (setX k wo w) := fun X ec ok l σ Q hl h1 => by
  subst ec hk
  exact ex_attr ((h X rfl ok l σ _ hl h1).mono fun v σ₁ h2 => (ho X rfl ok l σ₁ _ hl h2).mono fun ov σ₂ h3 => (opSet_ok ok h3).mono fun σ₃ h4 => ⟨l, hl, rfl, h4⟩) hs
def subX (wo wi w : WE) : WX := fun X l σ Q => w X l σ fun v σ₁ => wo X l σ₁ fun ov σ₂ => wi X l σ₂ fun iv σ₃ => opStore X ov iv v σ₃ fun σ₄ => Q .next l σ₄
theorem cx_sub {o i e : Expr} {p : Pos} {wo wi w : WE} (ho : CE c env ns o wo) (hi : CE c env ns i wi) (h : CE c env ns e w) (hs : swapsWith e (some (.Subscript o i p)) pos.line env = pure false := by (subst_vars; kernel_rfl)) : CX c env ns (.Assign [.Subscript o i p] e pos) (subX wo wi w) := fun X ec ok l σ Q hl h1 => by
  subst ec
  exact ex_sub ((h X rfl ok l σ _ hl h1).mono fun v σ₁ h2 => (ho X rfl ok l σ₁ _ hl h2).mono fun ov σ₂ h3 => (hi X rfl ok l σ₂ _ hl h3).mono fun iv σ₃ h4 => (opStore_ok h4).mono fun σ₄ h5 => ⟨l, hl, rfl, h5⟩) hs
def augX (i : Nat) (op : Operator) (w : WE) : WX := fun X l σ Q => plK (nth l i) fun u => w X l σ fun v σ₁ => opInp X op u v σ₁ fun r σ₂ => updK l i r fun l' => Q .next l' σ₂
theorem cx_aug {x : Str} {e : Expr} {op : Operator} {p : Pos} {i : Nat} {w : WE} (hx : At ns i x) (h : CE c env ns e w) (hk : env.kindOf x = some .local := by (subst_vars; kernel_rfl)) : CX c env ns (.AugAssign (.Name x p) op e pos) (augX i op w) := fun X ec ok l σ Q hl h1 => by
  subst ec
  obtain ⟨hp, h1⟩ := of_plK h1
  exact ex_augName' (zip_nth hx hl) hp ((h X rfl ok l σ _ hl h1).mono fun v σ₁ h2 => (opInp_ok h2).mono fun r σ₂ h3 => by
    obtain ⟨hi, h4⟩ := updK_set h3
    exact ⟨_, zip_up r hx hl, l.set i r, by simpa using hl, rfl, h4⟩) hk
def augSetX (k : Nat) (op : Operator) (wo w : WE) : WX := fun X l σ Q => wo X l σ fun ov σ₁ => opAttr X k ov σ₁ fun old σ₂ => w X l σ₂ fun v σ₃ => opInp X op old v σ₃ fun r σ₄ => opSet X k ov r σ₄ fun σ₅ => Q .next l σ₅
theorem cx_augSet {o e : Expr} {attr : Str} {op : Operator} {p : Pos} {k : Nat} {wo w : WE} (ho : CE c env ns o wo) (h : CE c env ns e w) (hk : nm k = attr) : CX c env ns (.AugAssign (.Attribute o attr p) op e pos) (augSetX k op wo w) := fun X ec ok l σ Q hl h1 => by
  subst ec hk
  exact ex_augAttr ((ho X rfl ok l σ _ hl h1).mono fun ov σ₁ h2 => (opAttr_ok ok h2).mono fun old σ₂ h3 => (h X rfl ok l σ₂ _ hl h3).mono fun v σ₃ h4 => (opInp_ok h4).mono fun r σ₄ h5 => (opSet_ok ok h5).mono fun σ₅ h6 => ⟨l, hl, rfl, h6⟩)
def augSubX (op : Operator) (wo wi w : WE) : WX := fun X l σ Q => wo X l σ fun ov σ₁ => wi X l σ₁ fun iv σ₂ => opItem' X ov iv σ₂ fun old σ₃ => w X l σ₃ fun v σ₄ => opInp X op old v σ₄ fun r σ₅ => opStore X ov iv r σ₅ fun σ₆ => Q .next l σ₆
theorem cx_augSub {o i e : Expr} {op : Operator} {p : Pos} {wo wi w : WE} (ho : CE c env ns o wo) (hi : CE c env ns i wi) (h : CE c env ns e w)
    (hs : ∀ ov iv new, augStore i ov iv new = (do holding [new, ov, iv] (setItem ov iv new); release [new, ov, iv] []; pure .next) := by intros; with_unfolding_all rfl) : CX c env ns (.AugAssign (.Subscript o i p) op e pos) (augSubX op wo wi w) := fun X ec ok l σ Q hl h1 => by
  subst ec
  exact ex_augSub ((ho X rfl ok l σ _ hl h1).mono fun ov σ₁ h2 => (hi X rfl ok l σ₁ _ hl h2).mono fun iv σ₂ h3 => (opItem'_ok h3).mono fun old σ₃ h4 => (h X rfl ok l σ₃ _ hl h4).mono fun v σ₄ h5 => (opInp_ok h5).mono fun r σ₅ h6 => (opStore_ok h6).mono fun σ₆ h7 => ⟨l, hl, rfl, h7⟩) hs
def ifX (t : WB) (a b : WX) : WX := fun X l σ Q => t X l σ fun r σ₁ => br r (a X l σ₁ Q) (b X l σ₁ Q)
theorem cx_if {t : Expr} {a b : List Stmt} {wt : WB} {wa wb : WX} (ht : CB c env ns t wt) (ha : CXs c env ns a wa) (hb : CXs c env ns b wb) : CX c env ns (.If t a b pos) (ifX wt wa wb) := fun X ec ok l σ Q hl h1 => by
  subst ec
  exact ex_if ((ht X rfl ok l σ _ hl h1).mono fun r σ₁ h2 => ⟨fun e => ha X rfl ok l σ₁ Q hl ((of_br h2).1 e), fun e => hb X rfl ok l σ₁ Q hl ((of_br h2).2 e)⟩)
def forX (wt : WA) (wi : WE) (wb : WX) : WX := fun X l σ Q => wi X l σ fun v σ₁ => opIter X v σ₁ fun vs sg => forS X wt wb sg vs l σ₁ Q
theorem forS_J {X : Ex} {wt : WA} {wb : WX} {sg : Sgo} {vs : List V} {l : List V} {σ : Hp} {Q : Fl → List V → Hp → Prop} (h0 : sgP sg σ) (h : forS X wt wb sg vs l σ Q) :
    ∃ J : Nat → List V → Hp → Prop, J 0 l σ ∧ (∀ i l σ, J i l σ → sgP sg σ) ∧ (∀ i v l σ, vs[i]? = some v → J i l σ → wt X v l σ fun l₁ σ₁ => wb X l₁ σ₁ (aft (J (i + 1)) Q)) ∧ ∀ l σ, J vs.length l σ → Q .next l σ := by
  have : forJ X wt wb sg vs l σ Q := by
    unfold forS at h
    split at h
    · exact forJ_un h0 h
    · exact h
  unfold forJ at this
  exact this
theorem cx_for {t it : Expr} {b : List Stmt} {wt : WA} {wi : WE} {wb : WX} (ht : CAs c env ns t wt) (hi : CE c env ns it wi) (hb : CXs c env ns b wb) (hs : ∀ x, foldedSetIterable it env x = pure x := by (subst_vars; intro _; kernel_rfl)) : CX c env ns (.For t it b [] pos) (forX wt wi wb) := fun X ec ok l σ Q hl h1 => by
  subst ec
  refine ex_for (eit_of ((hi X rfl ok l σ _ hl h1).mono fun v σ₁ h2 => ?_)) hs
  obtain ⟨vs, sg, hI, hg, h3⟩ := opIter_ok ok h2
  obtain ⟨J, j0, js, jt, je⟩ := forS_J hg h3
  refine ⟨vs, sgP sg, hI, hg, fun i L τ => ∃ l', l'.length = ns.length ∧ L = ns.zip l' ∧ J i l' τ, ⟨l, hl, rfl, j0⟩, fun i L τ ⟨l', _, _, hj⟩ => js _ _ _ hj, ?_, ?_⟩
  · rintro i v L τ hv ⟨l', hl', rfl, hj⟩
    refine (ht X rfl ok v l' τ _ hl' (jt i v l' τ hv hj)).mono fun L₁ τ₁ h4 => ?_
    obtain ⟨l₁, hl₁, rfl, h5⟩ := h4
    refine (hb X rfl ok l₁ τ₁ _ hl₁ h5).mono fun f L₂ τ₂ h6 => ?_
    obtain ⟨l₂, hl₂, rfl, h7⟩ := h6
    cases f with
    | next => exact ⟨l₂, hl₂, rfl, h7⟩
    | cont => exact ⟨l₂, hl₂, rfl, h7⟩
    | brk => exact ⟨l₂, hl₂, rfl, h7⟩
    | ret v => exact ⟨l₂, hl₂, rfl, h7⟩
  · rintro L τ ⟨l', hl', rfl, hj⟩
    exact ⟨l', hl', rfl, je _ _ hj⟩
def whileX (wt : WB) (wb : WX) : WX := fun X l σ Q => whileS X wt wb l σ Q
theorem whileJ_un {X : Ex} {wt : WB} {wb : WX} {Q : Fl → List V → Hp → Prop} (n : Nat) {l : List V} {σ : Hp} (h : whileU X wt wb n l σ Q) (mono : ∀ l σ (F G : Fl → List V → Hp → Prop), (∀ f l σ, F f l σ → G f l σ) → wb X l σ F → wb X l σ G)
    (monoT : ∀ l σ (F G : Bool → Hp → Prop), (∀ b σ, F b σ → G b σ) → wt X l σ F → wt X l σ G) : whileJ X wt wb l σ Q := by
  refine whileJ_of (fun n l σ => whileU X wt wb n l σ Q) n h fun n l σ hj => ?_
  cases n with
  | zero => exact hj.elim
  | succ n =>
    refine monoT l σ _ _ (fun b σ₁ hb => ?_) hj
    obtain ⟨h1, h2⟩ := of_br hb
    refine br_both (fun e => mono _ _ _ _ (fun f l₂ σ₂ hf => ?_) (h1 e)) h2
    cases f with
    | next => exact ⟨n, Nat.lt_succ_self n, hf⟩
    | cont => exact ⟨n, Nat.lt_succ_self n, hf⟩
    | brk => exact hf
    | ret v => exact hf
theorem cx_while {t : Expr} {b : List Stmt} {wt : WB} {wb : WX} (ht : CB c env ns t wt) (hb : CXs c env ns b wb) : CX c env ns (.While t b [] pos) (whileX wt wb) := fun X ec ok l σ Q hl h1 => by
  subst ec
  unfold whileX whileS at h1
  have key : ∃ (J : Nat → List V → Hp → Prop) (n : Nat), J n l σ ∧ ∀ n l σ, l.length = ns.length → J n l σ → EB X.c env X.D (isTrue t env (eval t env)) (ns.zip l) σ fun r σ₁ => (r = true → EX X.c env X.D (execs b env) (ns.zip l) σ₁ (QX ns (aft (fun l₂ σ₂ => ∃ m, m < n ∧ J m l₂ σ₂) Q))) ∧ (r = false → Q .next l σ₁) := by
    split at h1
    · refine ⟨fun n l σ => whileU X wt wb n l σ Q, 10000, h1, fun n l σ hl hj => ?_⟩
      cases n with
      | zero => exact hj.elim
      | succ n =>
        refine (ht X rfl ok l σ _ hl hj).mono fun r σ₁ h2 => ⟨fun e => ?_, (of_br h2).2⟩
        refine (hb X rfl ok l σ₁ _ hl ((of_br h2).1 e)).mono fun f L τ h3 => ?_
        obtain ⟨l', hl', rfl, h4⟩ := h3
        refine ⟨l', hl', rfl, ?_⟩
        cases f with
        | next => exact ⟨n, Nat.lt_succ_self n, h4⟩
        | cont => exact ⟨n, Nat.lt_succ_self n, h4⟩
        | brk => exact h4
        | ret v => exact h4
    · unfold whileJ at h1
      obtain ⟨J, n, j0, jt⟩ := h1
      exact ⟨J, n, j0, fun n l σ hl hj => (ht X rfl ok l σ _ hl (jt n l σ hj)).mono fun r σ₁ h2 => ⟨fun e => hb X rfl ok l σ₁ _ hl ((of_br h2).1 e), (of_br h2).2⟩⟩
  obtain ⟨J, n, j0, jt⟩ := key
  refine ex_while (fun n L τ => ∃ l', l'.length = ns.length ∧ L = ns.zip l' ∧ J n l' τ) n ⟨l, hl, rfl, j0⟩ ?_
  rintro n L τ ⟨l', hl', rfl, hj⟩
  refine (jt n l' τ hl' hj).mono fun r σ₁ h2 => ⟨fun e => (h2.1 e).mono fun f L₂ τ₂ h3 => ?_, fun e => ⟨l', hl', rfl, h2.2 e⟩⟩
  obtain ⟨l₂, hl₂, rfl, h4⟩ := h3
  cases f with
  | next => obtain ⟨m, hm, h5⟩ := h4; exact ⟨m, hm, l₂, hl₂, rfl, h5⟩
  | cont => obtain ⟨m, hm, h5⟩ := h4; exact ⟨m, hm, l₂, hl₂, rfl, h5⟩
  | brk => exact ⟨l₂, hl₂, rfl, h4⟩
  | ret v => exact ⟨l₂, hl₂, rfl, h4⟩

-- DEFS
def pst (Q : V → Hp → Prop) : Fl → List V → Hp → Prop := fun f _ σ => match f with
  | .ret v => Q v σ
  | .next => Q .none σ
  | .brk => Q .none σ
  | .cont => Q .none σ
abbrev Shape := List V → List (Str × V) → List V → Prop
def shP (n : Nat) : Shape := fun a k v => k = [] ∧ v = a ∧ a.length = n
/-- a def without cells -/
structure Def (c : Cx) (f : Addr) (bn un : List Str) (sh : Shape) (w : WX) : Prop where
  x : ∃ (fd : FuncData) (body : List Stmt) (oc : Value) (od : Option Addr) (osl : Array (Option Value)), c.K.lookup f = some ⟨oc, od, .func fd, osl⟩ ∧ fd.body = .stmts body ∧ codeIn c.K fd.code fd.qualname = true ∧
    ((bn ++ un).Nodup ∧ (∀ x ∈ bn, fd.scope.names.lookup x = some .local) ∧ (∀ x ∈ fd.scope.names, x.2 ≠ .cell)) ∧ (fd.globals = mainGlobals ∧ fd.builtins = builtinsNs ∧ fd.scope.isCoroutine = false ∧ fd.scope.isGenerator = false ∧ fd.scope.kind = .function) ∧
    (∀ args kw vals, sh args kw vals → BindA c fd args kw (bn.zip vals) ∧ vals.length = bn.length) ∧ ∀ L env, env = callEnv fd L f → CXs c env (bn ++ un) body w
theorem zip_app {α β : Type} : ∀ {a : List α} {b : List β} {a' : List α} {b' : List β}, b.length = a.length → (a ++ a').zip (b ++ b') = a.zip b ++ a'.zip b'
  | [], [], _, _, _ => rfl
  | x :: a, y :: b, a', b', h => by simp [zip_app (a := a) (b := b) (by simpa using h)]
  | [], _ :: _, _, _, h => by simp at h
  | _ :: _, [], _, _, h => by simp at h
theorem zip_unb (un : List Str) : un.zip (un.map fun _ => V.unb) = un.map fun x => (x, V.unb) := by
  induction un with
  | nil => rfl
  | cons x un ih => simp [ih]
def argU : List Str → (List V → Prop) → Prop
  | [], K => hi (K [])
  | _ :: us, K => hi (argU us fun r => K (.unb :: r))
def argK : List V → List Str → (List V → Prop) → Prop
  | [], us, K => hi (argU us K)
  | v :: vs, us, K => hi (argK vs us fun r => K (v :: r))
theorem argU_inv : ∀ {us : List Str} {K : List V → Prop}, argU us K → K (us.map fun _ => V.unb)
  | [], _, h => h
  | _ :: us, K, h => argU_inv (us := us) (K := fun r => K (.unb :: r)) h
theorem argK_inv : ∀ {vs : List V} {us : List Str} {K : List V → Prop}, argK vs us K → K (vs ++ us.map fun _ => V.unb)
  | [], us, K, h => argU_inv h
  | v :: vs, us, K, h => argK_inv (vs := vs) (us := us) (K := fun r => K (v :: r)) h
theorem Def.fc {c : Cx} {f : Addr} {bn un : List Str} {sh : Shape} {w : WX} (d : Def c f bn un sh w) (X : Ex) (hX : X.c = c) (ok : XOk X) {args vals : List V} {kw : List (Str × V)} {σ : Hp} {Q : V → Hp → Prop} (hs : sh args kw vals)
    (h : argK vals un fun ls => w X ls σ (pst Q)) : FC c (X.D + 1) (.val (.ref f)) args kw σ Q := by
  obtain ⟨fd, body, oc, od, osl, h1, h2, h3, ⟨h4, h5, h6⟩, ⟨h7, h8, h9, h10, h11⟩, h12, h13⟩ := d.x
  obtain ⟨hb, hn⟩ := h12 _ _ _ hs
  have h := argK_inv h
  generalize hl : vals ++ un.map (fun _ => V.unb) = ls at h
  have e : bn.zip vals ++ un.map (fun x => (x, V.unb)) = (bn ++ un).zip ls := by rw [← hl, zip_app hn, zip_unb]
  have e1 : (bn.zip vals).map (·.1) = bn := by rw [List.map_fst_zip]; omega
  refine fc_def' (bs := bn.zip vals) un _ h1 h2 h3 hb bn e1 h4 h5 e.symm h6 h7 h8 h9 h10 h11 fun L env he => ?_
  subst hX
  refine (h13 L env he X rfl ok ls σ _ (by rw [← hl]; simp [hn]) h).mono fun fl L' τ h14 => ?_
  obtain ⟨l', _, rfl, h15⟩ := h14
  cases fl with
  | next => exact h15
  | brk => exact h15
  | cont => exact h15
  | ret v => exact h15
theorem sh1 {c : Cx} {fd : FuncData} {x : Str} (h : ∀ a, bindArgs fd ⟨[a], []⟩ = pure [(x, a)]) : ∀ args kw vals, shP 1 args kw vals → BindA c fd args kw ([x].zip vals) ∧ vals.length = [x].length := by
  rintro args kw vals ⟨rfl, rfl, hn⟩
  obtain ⟨a, rfl⟩ := List.length_eq_one_iff.mp hn
  exact ⟨bindA1 h, rfl⟩
theorem sh2 {c : Cx} {fd : FuncData} {x y : Str} (h : ∀ a b, bindArgs fd ⟨[a, b], []⟩ = pure [(x, a), (y, b)]) : ∀ args kw vals, shP 2 args kw vals → BindA c fd args kw ([x, y].zip vals) ∧ vals.length = [x, y].length := by
  rintro args kw vals ⟨rfl, e, hn⟩
  subst e
  match vals, hn with
  | [a, b], _ => exact ⟨bindA2 h, rfl⟩
theorem sh3 {c : Cx} {fd : FuncData} {x y z : Str} (h : ∀ a b d, bindArgs fd ⟨[a, b, d], []⟩ = pure [(x, a), (y, b), (z, d)]) : ∀ args kw vals, shP 3 args kw vals → BindA c fd args kw ([x, y, z].zip vals) ∧ vals.length = [x, y, z].length := by
  rintro args kw vals ⟨rfl, e, hn⟩
  subst e
  match vals, hn with
  | [a, b, d], _ => exact ⟨bindA3 h, rfl⟩
inductive AtS : List String → Nat → String → Prop
  | hd {x r} : AtS (x :: r) 0 x
  | tl {x y r i} : AtS r i x → AtS (y :: r) (i + 1) x
theorem AtS.get : ∀ {l : List String} {k : Nat} {s : String}, AtS l k s → l[k]? = some s
  | _, _, _, .hd => rfl
  | _, _, _, .tl h => by simpa using h.get
theorem nm_of {k : Nat} {s : String} (h : AtS nmS k s) : nm k = PySem.Str.ofString s := by
  unfold nm nmL
  rw [List.getElem?_map, h.get]
  rfl
end
end
section
open PySem PySem.W PyProof.Rows PySem.Calls
section
variable {α : Type} {r : List α}
theorem at0 {x0 : α} : At (x0 :: r) 0 x0 := .hd
theorem at1 {x0 x1 : α} : At (x0 :: x1 :: r) 1 x1 := .tl at0
theorem at2 {x0 x1 x2 : α} : At (x0 :: x1 :: x2 :: r) 2 x2 := .tl at1
theorem at3 {x0 x1 x2 x3 : α} : At (x0 :: x1 :: x2 :: x3 :: r) 3 x3 := .tl at2
theorem at4 {x0 x1 x2 x3 x4 : α} : At (x0 :: x1 :: x2 :: x3 :: x4 :: r) 4 x4 := .tl at3
theorem at5 {x0 x1 x2 x3 x4 x5 : α} : At (x0 :: x1 :: x2 :: x3 :: x4 :: x5 :: r) 5 x5 := .tl at4
theorem at6 {x0 x1 x2 x3 x4 x5 x6 : α} : At (x0 :: x1 :: x2 :: x3 :: x4 :: x5 :: x6 :: r) 6 x6 := .tl at5
theorem at7 {x0 x1 x2 x3 x4 x5 x6 x7 : α} : At (x0 :: x1 :: x2 :: x3 :: x4 :: x5 :: x6 :: x7 :: r) 7 x7 := .tl at6
theorem at8 {x0 x1 x2 x3 x4 x5 x6 x7 x8 : α} : At (x0 :: x1 :: x2 :: x3 :: x4 :: x5 :: x6 :: x7 :: x8 :: r) 8 x8 := .tl at7
theorem at9 {x0 x1 x2 x3 x4 x5 x6 x7 x8 x9 : α} : At (x0 :: x1 :: x2 :: x3 :: x4 :: x5 :: x6 :: x7 :: x8 :: x9 :: r) 9 x9 := .tl at8
theorem at10 {x0 x1 x2 x3 x4 x5 x6 x7 x8 x9 x10 : α} : At (x0 :: x1 :: x2 :: x3 :: x4 :: x5 :: x6 :: x7 :: x8 :: x9 :: x10 :: r) 10 x10 := .tl at9
theorem at11 {x0 x1 x2 x3 x4 x5 x6 x7 x8 x9 x10 x11 : α} : At (x0 :: x1 :: x2 :: x3 :: x4 :: x5 :: x6 :: x7 :: x8 :: x9 :: x10 :: x11 :: r) 11 x11 := .tl at10
theorem at12 {x0 x1 x2 x3 x4 x5 x6 x7 x8 x9 x10 x11 x12 : α} : At (x0 :: x1 :: x2 :: x3 :: x4 :: x5 :: x6 :: x7 :: x8 :: x9 :: x10 :: x11 :: x12 :: r) 12 x12 := .tl at11
theorem at13 {x0 x1 x2 x3 x4 x5 x6 x7 x8 x9 x10 x11 x12 x13 : α} : At (x0 :: x1 :: x2 :: x3 :: x4 :: x5 :: x6 :: x7 :: x8 :: x9 :: x10 :: x11 :: x12 :: x13 :: r) 13 x13 := .tl at12
theorem at14 {x0 x1 x2 x3 x4 x5 x6 x7 x8 x9 x10 x11 x12 x13 x14 : α} : At (x0 :: x1 :: x2 :: x3 :: x4 :: x5 :: x6 :: x7 :: x8 :: x9 :: x10 :: x11 :: x12 :: x13 :: x14 :: r) 14 x14 := .tl at13
theorem at15 {x0 x1 x2 x3 x4 x5 x6 x7 x8 x9 x10 x11 x12 x13 x14 x15 : α} : At (x0 :: x1 :: x2 :: x3 :: x4 :: x5 :: x6 :: x7 :: x8 :: x9 :: x10 :: x11 :: x12 :: x13 :: x14 :: x15 :: r) 15 x15 := .tl at14
theorem at16 {x0 x1 x2 x3 x4 x5 x6 x7 x8 x9 x10 x11 x12 x13 x14 x15 x16 : α} : At (x0 :: x1 :: x2 :: x3 :: x4 :: x5 :: x6 :: x7 :: x8 :: x9 :: x10 :: x11 :: x12 :: x13 :: x14 :: x15 :: x16 :: r) 16 x16 := .tl at15
theorem at17 {x0 x1 x2 x3 x4 x5 x6 x7 x8 x9 x10 x11 x12 x13 x14 x15 x16 x17 : α} : At (x0 :: x1 :: x2 :: x3 :: x4 :: x5 :: x6 :: x7 :: x8 :: x9 :: x10 :: x11 :: x12 :: x13 :: x14 :: x15 :: x16 :: x17 :: r) 17 x17 := .tl at16
theorem at18 {x0 x1 x2 x3 x4 x5 x6 x7 x8 x9 x10 x11 x12 x13 x14 x15 x16 x17 x18 : α} : At (x0 :: x1 :: x2 :: x3 :: x4 :: x5 :: x6 :: x7 :: x8 :: x9 :: x10 :: x11 :: x12 :: x13 :: x14 :: x15 :: x16 :: x17 :: x18 :: r) 18 x18 := .tl at17
theorem at19 {x0 x1 x2 x3 x4 x5 x6 x7 x8 x9 x10 x11 x12 x13 x14 x15 x16 x17 x18 x19 : α} : At (x0 :: x1 :: x2 :: x3 :: x4 :: x5 :: x6 :: x7 :: x8 :: x9 :: x10 :: x11 :: x12 :: x13 :: x14 :: x15 :: x16 :: x17 :: x18 :: x19 :: r) 19 x19 := .tl at18
theorem at20 {x0 x1 x2 x3 x4 x5 x6 x7 x8 x9 x10 x11 x12 x13 x14 x15 x16 x17 x18 x19 x20 : α} : At (x0 :: x1 :: x2 :: x3 :: x4 :: x5 :: x6 :: x7 :: x8 :: x9 :: x10 :: x11 :: x12 :: x13 :: x14 :: x15 :: x16 :: x17 :: x18 :: x19 :: x20 :: r) 20 x20 := .tl at19
theorem at21 {x0 x1 x2 x3 x4 x5 x6 x7 x8 x9 x10 x11 x12 x13 x14 x15 x16 x17 x18 x19 x20 x21 : α} : At (x0 :: x1 :: x2 :: x3 :: x4 :: x5 :: x6 :: x7 :: x8 :: x9 :: x10 :: x11 :: x12 :: x13 :: x14 :: x15 :: x16 :: x17 :: x18 :: x19 :: x20 :: x21 :: r) 21 x21 := .tl at20
theorem at22 {x0 x1 x2 x3 x4 x5 x6 x7 x8 x9 x10 x11 x12 x13 x14 x15 x16 x17 x18 x19 x20 x21 x22 : α} : At (x0 :: x1 :: x2 :: x3 :: x4 :: x5 :: x6 :: x7 :: x8 :: x9 :: x10 :: x11 :: x12 :: x13 :: x14 :: x15 :: x16 :: x17 :: x18 :: x19 :: x20 :: x21 :: x22 :: r) 22 x22 := .tl at21
theorem at23 {x0 x1 x2 x3 x4 x5 x6 x7 x8 x9 x10 x11 x12 x13 x14 x15 x16 x17 x18 x19 x20 x21 x22 x23 : α} : At (x0 :: x1 :: x2 :: x3 :: x4 :: x5 :: x6 :: x7 :: x8 :: x9 :: x10 :: x11 :: x12 :: x13 :: x14 :: x15 :: x16 :: x17 :: x18 :: x19 :: x20 :: x21 :: x22 :: x23 :: r) 23 x23 := .tl at22
theorem at24 {x0 x1 x2 x3 x4 x5 x6 x7 x8 x9 x10 x11 x12 x13 x14 x15 x16 x17 x18 x19 x20 x21 x22 x23 x24 : α} : At (x0 :: x1 :: x2 :: x3 :: x4 :: x5 :: x6 :: x7 :: x8 :: x9 :: x10 :: x11 :: x12 :: x13 :: x14 :: x15 :: x16 :: x17 :: x18 :: x19 :: x20 :: x21 :: x22 :: x23 :: x24 :: r) 24 x24 := .tl at23
theorem at25 {x0 x1 x2 x3 x4 x5 x6 x7 x8 x9 x10 x11 x12 x13 x14 x15 x16 x17 x18 x19 x20 x21 x22 x23 x24 x25 : α} : At (x0 :: x1 :: x2 :: x3 :: x4 :: x5 :: x6 :: x7 :: x8 :: x9 :: x10 :: x11 :: x12 :: x13 :: x14 :: x15 :: x16 :: x17 :: x18 :: x19 :: x20 :: x21 :: x22 :: x23 :: x24 :: x25 :: r) 25 x25 := .tl at24
end
theorem nm0 : nm 0 = PySem.Str.ofString "append" := rfl
theorem nm1 : nm 1 = PySem.Str.ofString "extend" := rfl
theorem nm2 : nm 2 = PySem.Str.ofString "isdigit" := rfl
theorem nm3 : nm 3 = PySem.Str.ofString "find" := rfl
theorem nm4 : nm 4 = PySem.Str.ofString "decode" := rfl
theorem nm5 : nm 5 = PySem.Str.ofString "join" := rfl
theorem nm6 : nm 6 = PySem.Str.ofString "buffer" := rfl
theorem nm7 : nm 7 = PySem.Str.ofString "length" := rfl
theorem nm8 : nm 8 = PySem.Str.ofString "put" := rfl
theorem nm9 : nm 9 = PySem.Str.ofString "put_bit" := rfl
theorem nm10 : nm 10 = PySem.Str.ofString "get" := rfl
theorem nm11 : nm 11 = PySem.Str.ofString "mode" := rfl
theorem nm12 : nm 12 = PySem.Str.ofString "data" := rfl
theorem nm13 : nm 13 = PySem.Str.ofString "write" := rfl
theorem nm14 : nm 14 = PySem.Str.ofString "version" := rfl
theorem nm15 : nm 15 = PySem.Str.ofString "_version" := rfl
theorem nm16 : nm 16 = PySem.Str.ofString "error_correction" := rfl
theorem nm17 : nm 17 = PySem.Str.ofString "box_size" := rfl
theorem nm18 : nm 18 = PySem.Str.ofString "border" := rfl
theorem nm19 : nm 19 = PySem.Str.ofString "mask_pattern" := rfl
theorem nm20 : nm 20 = PySem.Str.ofString "_mask_pattern" := rfl
theorem nm21 : nm 21 = PySem.Str.ofString "image_factory" := rfl
theorem nm22 : nm 22 = PySem.Str.ofString "precomputed_qr_blanks" := rfl
theorem nm23 : nm 23 = PySem.Str.ofString "clear" := rfl
theorem nm24 : nm 24 = PySem.Str.ofString "modules" := rfl
theorem nm25 : nm 25 = PySem.Str.ofString "modules_count" := rfl
theorem nm26 : nm 26 = PySem.Str.ofString "data_cache" := rfl
theorem nm27 : nm 27 = PySem.Str.ofString "data_list" := rfl
theorem nm28 : nm 28 = PySem.Str.ofString "add_data" := rfl
theorem nm29 : nm 29 = PySem.Str.ofString "best_fit" := rfl
theorem nm30 : nm 30 = PySem.Str.ofString "makeImpl" := rfl
theorem nm31 : nm 31 = PySem.Str.ofString "setup_position_probe_pattern" := rfl
theorem nm32 : nm 32 = PySem.Str.ofString "setup_timing_pattern" := rfl
theorem nm33 : nm 33 = PySem.Str.ofString "setup_position_adjust_pattern" := rfl
theorem nm34 : nm 34 = PySem.Str.ofString "setup_type_number" := rfl
theorem nm35 : nm 35 = PySem.Str.ofString "setup_type_info" := rfl
theorem nm36 : nm 36 = PySem.Str.ofString "map_data" := rfl
theorem nm37 : nm 37 = PySem.Str.ofString "num" := rfl
theorem nm38 : nm 38 = PySem.Str.ofString "total_count" := rfl
theorem nm39 : nm 39 = PySem.Str.ofString "data_count" := rfl
theorem nm40 : nm 40 = PySem.Str.ofString "index" := rfl
theorem nm41 : nm 41 = PySem.Str.ofString "__init__" := rfl
theorem nm42 : nm 42 = PySem.Str.ofString "__len__" := rfl
theorem nm43 : nm 43 = PySem.Str.ofString "__getitem__" := rfl
theorem nm44 : nm 44 = PySem.Str.ofString "__iter__" := rfl
theorem nm45 : nm 45 = PySem.Str.ofString "__mul__" := rfl
theorem nm46 : nm 46 = PySem.Str.ofString "__mod__" := rfl
theorem nm47 : nm 47 = PySem.Str.ofString "__get__" := rfl
theorem nm48 : nm 48 = PySem.Str.ofString "__new__" := rfl
theorem nm49 : nm 49 = PySem.Str.ofString "__doc__" := rfl
theorem nm50 : nm 50 = PySem.Str.ofString "make" := rfl
theorem nm51 : nm 51 = PySem.Str.ofString "encode" := rfl
theorem nm52 : nm 52 = PySem.Str.ofString "items" := rfl
end
section
open PySem PySem.W PyProof.Rows PySem.Calls
section
variable {c : Cx} {env : Env} {ns : List Str} {pos : Pos}
-- DICT DISPLAYS
abbrev WP := Ex → List V → Hp → (List Int → List V → Hp → Prop) → Prop
def nilP : WP := fun X l σ Q => Q [] [] σ
def keyI (v : V) (K : Int → Prop) : Prop := hi (match v with
  | .int i => K i
  | _ => False)
def consP (wk wv : WE) (ws : WP) : WP := fun X l σ Q => wk X l σ fun k σ₁ => keyI k fun i => wv X l σ₁ fun v σ₂ => ws X l σ₂ fun is us σ₃ => Q (i :: is) (v :: us) σ₃
def CP (c : Cx) (env : Env) (ns : List Str) (pos : Pos) (ks : List (Option Expr)) (vs : List Expr) (w : WP) : Prop :=
  (ks.all (·.isSome) = true ∧ ks.length = vs.length) ∧ ∀ X : Ex, X.c = c → XOk X → ∀ l σ Q, l.length = ns.length → w X l σ Q → EPs c env X.D ks vs pos (ns.zip l) σ Q
theorem EPs.mono {D : Nat} {ks : List (Option Expr)} {vs : List Expr} {l : Loc} {σ : Hp} {Q Q' : List Int → List V → Hp → Prop} (h : EPs c env D ks vs pos l σ Q) (k : ∀ a b σ', Q a b σ' → Q' a b σ') : EPs c env D ks vs pos l σ Q' :=
  fun A g ρ z s Q₁ E₁ ok R q => h A g ρ z s Q₁ E₁ ok R fun a b d e σ' ρ' z' s' hq => q a b d e σ' ρ' z' s' (k _ _ _ hq)
theorem cp_nil : CP c env ns pos [] [] nilP := ⟨⟨rfl, rfl⟩, fun X ec ok l σ Q hl h => eps_nil h⟩
theorem cp_cons {k v : Expr} {ks : List (Option Expr)} {vs : List Expr} {wk wv : WE} {ws : WP} (hk : CE c env ns k wk) (hv : CE c env ns v wv) (hs : CP c env ns pos ks vs ws) : CP c env ns pos (some k :: ks) (v :: vs) (consP wk wv ws) :=
  ⟨⟨by simpa using hs.1.1, by simpa using hs.1.2⟩, fun X ec ok l σ Q hl h => by
    subst ec
    refine eps_cons ((hk X rfl ok l σ _ hl h).mono fun kv σ₁ h1 => ?_)
    unfold keyI at h1
    split at h1
    · exact ⟨_, rfl, (hv X rfl ok l σ₁ _ hl h1).mono fun vv σ₂ h2 => hs.2 X rfl ok l σ₂ _ hl h2⟩
    · exact h1.elim⟩
def emptyD (K : Prop) : AO → Prop
  | .dict [] [] => hi K
  | _ => False
def dictW (w : WP) : WE := fun X l σ Q => w X l (σ ++ [.dict [] []]) fun ks vs σ₁ => getO σ₁ σ.length (emptyD (chk ks.Nodup (Q (.ref σ.length) (σ₁.set σ.length (.dict ks vs)))))
theorem ce_dict {ks : List (Option Expr)} {vs : List Expr} {w : WP} (h : CP c env ns pos ks vs w) (h0 : ks ≠ []) (hlen : ks.length ≤ 15) : CE c env ns (.Dict ks vs pos) (dictW w) :=
  fun X ec ok l σ Q hl h1 => by
    subst ec
    refine ev_dict h.1.1 h.1.2 h0 hlen ((h.2 X rfl ok l _ _ hl h1).mono fun is us σ₁ h2 => ?_)
    obtain ⟨o, ho, h3⟩ := of_getO h2
    unfold emptyD at h3
    split at h3
    · exact ⟨ho, (of_chk h3).1, (of_chk h3).2⟩
    · exact h3.elim
def dict0W : WE := fun X l σ Q => Q (.ref σ.length) (σ ++ [.dict [] []])
theorem ce_dict0 : CE c env ns (.Dict [] [] pos) dict0W := fun X ec ok l σ Q hl h => ev_dict0 h

-- COMPREHENSIONS
inductive CSlots (env : Env) (scope : Scope) (cl : List (Str × Addr)) (ns : List Str) : List Str → List (Option Nat) → Prop
  | nil : CSlots env scope cl ns [] []
  | loc {x xs sl} : CSlots env scope cl ns xs sl → CSlots env scope cl ns (x :: xs) (none :: sl)
  | fre {x xs sl k} : At ns k x → cl.lookup x = env.cells.lookup x → ((relabel scope env).names.lookup x = some .cell ∨ (relabel scope env).names.lookup x = some .free) → CSlots env scope cl ns xs sl → CSlots env scope cl ns (x :: xs) (some k :: sl)
def celO' (v : V) (K : Prop) : Prop := hi (match v with
  | .cell _ => K
  | _ => False)
def slotK : List (Option Nat) → List V → (List V → Prop) → Prop
  | [], _, K => hi (K [])
  | none :: sl, l, K => hi (slotK sl l fun r => K (.unb :: r))
  | some k :: sl, l, K => hi (celO' (nth l k) (slotK sl l fun r => K (nth l k :: r)))
theorem slotK_inv {env : Env} {scope : Scope} {cl : List (Str × Addr)} {ns : List Str} {l : List V} (hl : l.length = ns.length) : ∀ {xs sl}, CSlots env scope cl ns xs sl → ∀ {K : List V → Prop}, slotK sl l K → ∃ lc, lc.length = xs.length ∧ CompLoc env scope cl (ns.zip l) (xs.zip lc) ∧ K lc
  | _, _, .nil, K, h => ⟨[], rfl, fun p hp => by simp at hp, h⟩
  | x :: _, _, .loc hs, K, h => by
    obtain ⟨lc, h1, h2, h3⟩ := slotK_inv hl hs (K := fun r => K (.unb :: r)) h
    refine ⟨_, by simp [h1], fun p hp => ?_, h3⟩
    rw [List.zip_cons_cons] at hp
    rcases List.mem_cons.mp hp with rfl | hp
    · exact .inl rfl
    · exact h2 p hp
  | x :: _, some k :: sl, .fre ha h1 h2 hs, K, h => by
    unfold slotK celO' at h
    split at h
    · rename_i i e
      obtain ⟨lc, h3, h4, h5⟩ := slotK_inv hl hs (K := fun r => K (nth l k :: r)) h
      refine ⟨_, by simp [h3], fun p hp => ?_, h5⟩
      rw [List.zip_cons_cons] at hp
      rcases List.mem_cons.mp hp with rfl | hp
      · exact .inr ⟨i, e, zip_nth ha hl, h1, h2⟩
      · exact h4 p hp
    · exact h.elim
def compU (X : Ex) (wt : WA) (wf : WB) (we : WE) (sg : Sgo) (lc : List V) (Q : V → Hp → Prop) : List V → List V → Hp → Prop
  | [], acc, σ => Q (.ref σ.length) (σ ++ [.list acc])
  | v :: vs, acc, σ => wt X v lc σ fun l₁ σ₁ => wf X l₁ σ₁ fun b σ₂ => br b (we X l₁ σ₂ fun u σ₃ => sgC sg σ₃ (compU X wt wf we sg lc Q vs (acc ++ [u]) σ₃)) (sgC sg σ₂ (compU X wt wf we sg lc Q vs acc σ₂))
@[irreducible] def compJ (X : Ex) (wt : WA) (wf : WB) (we : WE) (sg : Sgo) (lc : List V) (Q : V → Hp → Prop) (vs : List V) (σ : Hp) : Prop :=
  ∃ J : Nat → List V → Hp → Prop, J 0 [] σ ∧ (∀ i acc σ, J i acc σ → sgP sg σ) ∧ (∀ i v acc σ, vs[i]? = some v → J i acc σ → wt X v lc σ fun l₁ σ₁ => wf X l₁ σ₁ fun b σ₂ => br b (we X l₁ σ₂ fun u σ₃ => J (i + 1) (acc ++ [u]) σ₃) (J (i + 1) acc σ₂)) ∧
    ∀ acc σ, J vs.length acc σ → Q (.ref σ.length) (σ ++ [.list acc])
theorem compJ_of {X : Ex} {wt : WA} {wf : WB} {we : WE} {sg : Sgo} {lc : List V} {Q : V → Hp → Prop} {vs : List V} {σ : Hp} (J : Nat → List V → Hp → Prop) (h0 : J 0 [] σ) (hs : ∀ i acc σ, J i acc σ → sgP sg σ)
    (ht : ∀ i v acc σ, vs[i]? = some v → J i acc σ → wt X v lc σ fun l₁ σ₁ => wf X l₁ σ₁ fun b σ₂ => br b (we X l₁ σ₂ fun u σ₃ => J (i + 1) (acc ++ [u]) σ₃) (J (i + 1) acc σ₂))
    (he : ∀ acc σ, J vs.length acc σ → Q (.ref σ.length) (σ ++ [.list acc])) : compJ X wt wf we sg lc Q vs σ := by unfold compJ; exact ⟨J, h0, hs, ht, he⟩
theorem compJ_un {X : Ex} {wt : WA} {wf : WB} {we : WE} {sg : Sgo} {lc : List V} {Q : V → Hp → Prop} {vs : List V} {σ : Hp} (h0 : sgP sg σ) (h : compU X wt wf we sg lc Q vs [] σ) : compJ X wt wf we sg lc Q vs σ := by
  refine compJ_of (fun i acc σ => sgC sg σ (compU X wt wf we sg lc Q (vs.drop i) acc σ)) ?_ (fun i l σ h => (of_sgC h).1) (fun i v l σ hv hj => ?_) (fun l σ hj => ?_)
  · cases sg with
    | none => exact h
    | some p => exact ⟨h0, h⟩
  · have := (of_sgC hj).2
    rw [List.drop_eq_getElem_cons (List.getElem?_eq_some_iff.mp hv).1, (List.getElem?_eq_some_iff.mp hv).2] at this
    exact this
  · have := (of_sgC hj).2
    rw [List.drop_length] at this
    exact this
def compW (sl : List (Option Nat)) (wt : WA) (wi : WE) (wf : WB) (we : WE) : WE := fun X l σ Q => slotK sl l fun lc => wi X l σ fun v σ₁ => opIter X v σ₁ fun vs sg => chk (vs.length ≤ 1000000) (match X.run with
  | true => compU X wt wf we sg lc Q vs [] σ₁
  | false => compJ X wt wf we sg lc Q vs σ₁)
def CBt (c : Cx) (env : Env) (ns : List Str) (ifs : List Expr) (w : WB) : Prop :=
  ∀ X : Ex, X.c = c → XOk X → ∀ l σ Q, l.length = ns.length → w X l σ Q → EB c env X.D (testsOf ifs env) (ns.zip l) σ Q
theorem cbt_nil : CBt c env ns [] (litB true) := fun X ec ok l σ Q hl h => eb_tests0 h
theorem cbt_one {t : Expr} {w : WB} (h : CB c env ns t w) : CBt c env ns [t] w := fun X ec ok l σ Q hl h1 => eb_tests1 (h X ec ok l σ Q hl h1)
theorem ce_comp {elt target iter : Expr} {ifs : List Expr} {scope : Scope} {cl : List (Str × Addr)} {xs : List Str} {sl : List (Option Nat)} {wt : WA} {wi : WE} {wf : WB} {we : WE}
    (hclos : closureFor scope env = pure cl) (hcell : ∀ y ∈ scope.names, y.2 ≠ .cell) (hkind : scope.kind = .function) (hnames : ∀ y ∈ scope.names, y.2 = .local → scope.names.lookup y.1 = some .local) (hnd : xs.Nodup)
    (hsl : CSlots env scope cl ns xs sl) (hi : CE c env ns iter wi) (ht : ∀ C env', env' = compEnvC scope cl C env → CAs c env' xs target wt) (hf : ∀ C env', env' = compEnvC scope cl C env → CBt c env' xs ifs wf) (he : ∀ C env', env' = compEnvC scope cl C env → CE c env' xs elt we)
    (hs : ∀ x, foldedSetIterable iter env x = pure x := by (subst_vars; intro _; kernel_rfl)) : CE c env ns (.ListComp elt [⟨target, iter, ifs, 0⟩] scope pos) (compW sl wt wi wf we) := fun X ec ok l σ Q hl h1 => by
  subst ec
  obtain ⟨lc, h5, h6, h7⟩ := slotK_inv hl hsl h1
  refine ev_compO hclos hcell hkind hnames h6 (by rw [List.map_fst_zip (by omega)]; exact hnd) (eit_of ((hi X rfl ok l σ _ hl h7).mono fun v σ₁ h2 => ?_)) hs
  obtain ⟨vs, sg, hI, hg, h3⟩ := opIter_ok ok h2
  obtain ⟨hz, h4⟩ := of_chk h3
  have h8 : compJ X wt wf we sg lc Q vs σ₁ := by
    split at h4
    · exact compJ_un hg h4
    · exact h4
  unfold compJ at h8
  obtain ⟨J, j0, js, jt, je⟩ := h8
  refine ⟨vs, sgP sg, hI, hg, hz, J, j0, js, fun C i v acc σ₂ hv hj => ?_, je⟩
  refine (ht C _ rfl X rfl ok v lc σ₂ _ h5 (jt i v acc σ₂ hv hj)).mono fun L τ h9 => ?_
  obtain ⟨l', hl', rfl, h10⟩ := h9
  exact (hf C _ rfl X rfl ok l' τ _ hl' h10).mono fun b σ₃ h11 => ⟨fun e => he C _ rfl X rfl ok l' σ₃ _ hl' ((of_br h11).1 e), (of_br h11).2⟩
-- all(x in SIGNS for x in bytes)
def allB (signs : List UInt8) (v : V) (σ : Hp) (Q : V → Hp → Prop) : Prop := match v with
  | .bytes data => Q (.bool (data.all fun o => signs.contains o)) σ
  | _ => False
def allW (signs : List UInt8) (wi : WE) : WE := fun X l σ Q => wi X l σ fun v σ₁ => allB signs v σ₁ Q
theorem ce_allG {iter : Expr} {x y : Str} {p1 p2 p3 px gpos p0 : Pos} {scope : Scope} {cc P : Addr} {signs : Array UInt8} {t : Tok} {wi : WE}
    (e0 : nsIn c.K mainGlobals "all" = some none) (e : nsIn c.K mainGlobals y = some (some (.bytes signs t))) (hi : CE c env ns iter wi)
    (hgi : ∀ a, c.gi a ↔ AllBare a) (hcode : env.code = .ref cc) (htt : (cc, P) ∈ c.tt) (hu : ∀ t ∈ c.tt, t.2 = P → t = (cc, P))
    (hclos : closureFor scope env = pure []) (hcell : ∀ y ∈ scope.names, y.2 ≠ .cell) (h0 : scope.names.lookup (".0" : Str) = some NameKind.local) (hx : scope.names.lookup x = some .local) (hy : scope.names.lookup y = some .globalImplicit)
    (hco : scope.isCoroutine = false) (hkind : scope.kind = .function) (hdx : (x == ("__debug__" : Str)) = false) (hdy : (y == ("__debug__" : Str)) = false) (hk0 : env.kindOf ("all" : Str) = some .globalImplicit) (hs : ∀ y, genFold iter env y = pure y) :
    CE c env ns (.Call (.Name ("all" : Str) p0) [.GeneratorExp (.Compare (.Name x p1) [.In] [.Name y p2] p3) [⟨.Name x px, iter, [], 0⟩] scope gpos] [] pos) (allW signs.toList wi) := fun X ec ok l σ Q hl h1 => by
  subst ec
  refine ev_all (fun o => signs.contains o) hgi hcode htt hu hco hclos hcell h0 hx hkind (ev_bltn e0 Boot.all ⟨rfl, rfl⟩ hk0) ((hi X rfl ok l σ _ hl h1).mono fun v σ₁ h2 => ?_) hs
  unfold allB at h2
  split at h2
  · rename_i data
    refine ⟨data, rfl, hel_glob hkind hx hy e hdx hdy, ?_⟩
    simpa using h2
  · exact h2.elim
end
end
section
open PySem PySem.W PyProof.Rows PySem.Calls
def celL (n : Nat) : List Str → List V
  | [] => []
  | _ :: r => .cell n :: celL (n + 1) r
theorem celL_zip : ∀ (cn : List Str) (n k : Nat), cn.zip (celL (n + k) cn) = (cn.zipIdx k).map fun p => (p.1, V.cell (n + p.2))
  | [], _, _ => rfl
  | x :: cn, n, k => by
    simp only [celL, List.zip_cons_cons, List.zipIdx_cons, List.map_cons]
    rw [Nat.add_assoc, celL_zip cn n (k + 1)]
theorem celL_len : ∀ (cn : List Str) (n : Nat), (celL n cn).length = cn.length
  | [], _ => rfl
  | _ :: cn, n => by simp [celL, celL_len cn (n + 1)]
/-- a def some of whose names live in cells: lo the parameters that do not, un the other locals, cn the names in cells -/
structure DefC (c : Cx) (f : Addr) (bn lo un cn : List Str) (pk co : List V → List V) (sh : Shape) (w : WX) : Prop where
  x : ∃ (fd : FuncData) (body : List Stmt) (oc : Value) (od : Option Addr) (osl : Array (Option Value)), c.K.lookup f = some ⟨oc, od, .func fd, osl⟩ ∧ fd.body = .stmts body ∧ codeIn c.K fd.code fd.qualname = true ∧
    ((∀ n, cellsFrom n fd.scope.names [] = (cn.zipIdx.map fun p => (p.1, n + p.2)).reverse) ∧ cn.Nodup ∧ (∀ x ∈ bn, fd.scope.names.lookup x = some .local ∨ (fd.scope.names.lookup x = some .cell ∧ x ∈ cn)) ∧ (∀ x ∈ cn, fd.scope.names.lookup x = some .cell) ∧ bn.Nodup ∧ (lo ++ un ++ cn).Nodup) ∧
    (fd.closure = [] ∧ fd.globals = mainGlobals ∧ fd.builtins = builtinsNs ∧ fd.scope.isCoroutine = false ∧ fd.scope.isGenerator = false ∧ fd.scope.kind = .function) ∧
    (∀ vals : List V, vals.length = bn.length → (bn.zip vals).filter (fun p => fd.scope.names.lookup p.1 == some .local) = lo.zip (pk vals) ∧ (pk vals).length = lo.length ∧ cn.map (fun x => ((bn.zip vals).lookup x).getD .unb) = co vals) ∧
    (∀ args kw vals, sh args kw vals → BindA c fd args kw (bn.zip vals) ∧ vals.length = bn.length) ∧ ∀ L env, env = callEnvC fd L f → CXs c env (lo ++ un ++ cn) body w
theorem DefC.fc {c : Cx} {f : Addr} {bn lo un cn : List Str} {pk co : List V → List V} {sh : Shape} {w : WX} (d : DefC c f bn lo un cn pk co sh w) (X : Ex) (hX : X.c = c) (ok : XOk X) {args vals : List V} {kw : List (Str × V)} {σ : Hp} {Q : V → Hp → Prop} (hs : sh args kw vals)
    (h : argK (pk vals) un fun ls => w X (ls ++ celL σ.length cn) (σ ++ (co vals).map AO.cell) (pst Q)) : FC c (X.D + 1) (.val (.ref f)) args kw σ Q := by
  obtain ⟨fd, body, oc, od, osl, h1, h2, h3, ⟨k1, k2, k3, k4, k5, k6⟩, ⟨h7, h8, h9, h10, h11, h12⟩, h13, h14, h15⟩ := d.x
  obtain ⟨hb, hn⟩ := h14 _ _ _ hs
  obtain ⟨e1, e2, e3⟩ := h13 vals hn
  have h := argK_inv h
  have ez : (lo ++ un ++ cn).zip ((pk vals ++ un.map fun _ => V.unb) ++ celL σ.length cn) = lo.zip (pk vals) ++ un.map (fun x => (x, V.unb)) ++ cn.zipIdx.map fun p => (p.1, V.cell (σ.length + p.2)) := by
    rw [zip_app (by simp [e2]), zip_app e2, zip_unb]
    congr 1
    exact celL_zip cn σ.length 0
  have hlen : ((pk vals ++ un.map fun _ => V.unb) ++ celL σ.length cn).length = (lo ++ un ++ cn).length := by simp [e2, celL_len]
  have hbn : (bn.zip vals).map (·.1) = bn := by rw [List.map_fst_zip]; omega
  subst hX
  refine fc_cells (bs := bn.zip vals) (un := un) (cn := cn) (l := lo.zip (pk vals) ++ un.map (fun x => (x, V.unb)) ++ cn.zipIdx.map fun p => (p.1, V.cell (σ.length + p.2))) (os := (co vals).map AO.cell) h1 h2 h3 hb k1 k2 (fun x hx => k3 x.1 (by rw [← hbn]; exact List.mem_map_of_mem hx)) k4
    (by rw [hbn]; exact k5) (by rw [e1]) (by rw [← e3]; simp) (by
      rw [← ez, List.map_fst_zip (by omega)]; exact k6) (fun L => ?_) h7 h8 h9 h10 h11 h12
  rw [← ez]
  refine (h15 L _ rfl X rfl ok _ _ _ hlen h).mono fun fl L' τ h16 => ?_
  obtain ⟨l', _, rfl, h17⟩ := h16
  cases fl with
  | next => exact h17
  | brk => exact h17
  | cont => exact h17
  | ret v => exact h17

-- A CLASS IS CALLED
theorem FC.cls {c : Cx} {D : Nat} {C fI : Addr} {args : List V} {kw : List (Str × V)} {σ : Hp} {Q : V → Hp → Prop} (hm : makesIn c.K C = true ∧ findIn c.K (.ref C) "__init__" = some (some (.ref fI)) ∧ typeIn c.K (.ref fI) = some (.type "function"))
    (h : FC c D (.val (.ref fI)) (.ref σ.length :: args) kw (σ ++ [.inst C []]) fun v σ' => v = .none ∧ Q (.ref σ.length) σ') : FC c (D + 1) (.val (.ref C)) args kw σ Q := fc_class hm.1 hm.2.1 hm.2.2 h
/-- what is made is kept as it is, and nothing else of what the call made is left -/
theorem FC.keepOne {c : Cx} {D : Nat} {f : V} {args : List V} {kw : List (Str × V)} {σ : Hp} {Q : V → Hp → Prop}
    (h : FC c D f args kw σ fun v σ' => ∃ o v' τ, v = .ref σ.length ∧ σ' = σ ++ o :: τ ∧ Fz o v' ∧ v'.bl σ.length ∧ Q v' σ) : FC c D f args kw σ Q := by
  refine FC.wf fun hb _ => FC.gc (FC.freeze (h.mono fun v σ' hh => ?_))
  obtain ⟨o, v', τ, rfl, rfl, hz, hv, hq⟩ := hh
  refine ⟨σ.length, o, v', rfl, by simp, hz, ?_⟩
  refine ⟨σ, .dead :: τ, by simp, Nat.le_refl _, hv, hb, hq⟩
end
section
open PySem PySem.W PyProof.Rows PySem.Calls
def clsGet : List (Addr × Nat × CA) → Addr → Nat → CA
  | [], _, _ => .bad
  | e :: r, C, k => match e.1.beq C with
    | true => match e.2.1.beq k with
      | true => e.2.2
      | false => clsGet r C k
    | false => clsGet r C k
theorem clsGet_ok {c : Cx} : ∀ {L : List (Addr × Nat × CA)}, (∀ e ∈ L, CAok c e.1 e.2.1 e.2.2) → ∀ C k, CAok c C k (clsGet L C k)
  | [], _, _, _ => trivial
  | e :: r, h, C, k => by
    unfold clsGet
    split
    · rename_i h1
      split
      · rename_i h2
        have e1 := Nat.eq_of_beq_eq_true h1
        have e2 := Nat.eq_of_beq_eq_true h2
        rw [← e1, ← e2]; exact h e (.head _)
      · exact clsGet_ok (fun e he => h e (.tail _ he)) C k
    · exact clsGet_ok (fun e he => h e (.tail _ he)) C k
def kvGet : List (Addr × V) → Addr → Option V
  | [], _ => none
  | e :: r, a => match e.1.beq a with
    | true => some e.2
    | false => kvGet r a
theorem kvGet_ok {c : Cx} : ∀ {L : List (Addr × V)}, (∀ e ∈ L, ∃ n, kvOf c.kz n (.ref e.1) = e.2) → ∀ a v, kvGet L a = some v → ∀ (z : Led) (ρ : List Addr), (∀ p ∈ c.kz, p ∈ z) → VR z ρ v (.ref a)
  | [], _, _, _, h, _, _, _ => by cases h
  | e :: r, h, a, v, hg, z, ρ, hz => by
    unfold kvGet at hg
    split at hg
    · rename_i h1
      have e1 := Nat.eq_of_beq_eq_true h1
      cases hg
      obtain ⟨n, hn⟩ := h e (.head _)
      rw [← e1, ← hn]
      exact kvOf_is (p₀ := c.prog) (w₀ := c.w) ρ hz n _
    · exact kvGet_ok (fun e he => h e (.tail _ he)) a v hg z ρ hz
theorem mem_nil {α : Type} {P : α → Prop} : ∀ e ∈ ([] : List α), P e := fun _ h => (nomatch h)
theorem mem_cons {α : Type} {P : α → Prop} {a : α} {l : List α} (h : P a) (h' : ∀ e ∈ l, P e) : ∀ e ∈ a :: l, P e := fun e he => by
  rcases List.mem_cons.mp he with rfl | he
  · exact h
  · exact h' e he
/-- arguments with defaults -/
theorem bindD {c : Cx} {fd : FuncData} {T : Addr} {o : Obj} {items : Array Value} {n : Nat} (ho : c.K.lookup T = some o) (hd : fd.defaults = .ref T) (hs : o.data = .seq items n) {args : List V} {kw : List (Str × V)} {bs : List (Str × V)}
    (h : ∀ ws kws : List Value, ws.length = args.length → kws.length = kw.length → ∃ k binds, bindArgs fd ⟨ws, (kw.map (·.1)).zip kws⟩ = seqItems? fd.defaults >>= k ∧ k (some items) = pure binds ∧
      ∀ (z : Led) (ρ : List Addr), VRL z ρ args ws → VRL z ρ (kw.map (·.2)) kws → binds.map (·.1) = bs.map (·.1) ∧ VRL z ρ (bs.map (·.2)) (binds.map (·.2))) : BindA c fd args kw bs := by
  intro z ρ ws kws s X rl rk
  obtain ⟨k, binds, h1, h2, h3⟩ := h ws kws rl.length.symm (by have := rk.length; simpa using this.symm)
  obtain ⟨h4, h5⟩ := h3 z ρ rl rk
  exact ⟨binds, BindsTo.of_defaults hd (X _ _ ho) hs h1 h2, h4, h5⟩
theorem vrl1 {z : Led} {ρ : List Addr} {a : V} {w : Value} (h : VRL z ρ [a] [w]) : VR z ρ a w := by cases h; assumption
theorem vrl2 {z : Led} {ρ : List Addr} {a b : V} {w x : Value} (h : VRL z ρ [a, b] [w, x]) : VR z ρ a w ∧ VR z ρ b x := by cases h with | cons h1 h => cases h with | cons h2 h => exact ⟨h1, h2⟩
theorem vrl3 {z : Led} {ρ : List Addr} {a b d : V} {w x y : Value} (h : VRL z ρ [a, b, d] [w, x, y]) : VR z ρ a w ∧ VR z ρ b x ∧ VR z ρ d y := by cases h with | cons h1 h => cases h with | cons h2 h => cases h with | cons h3 h => exact ⟨h1, h2, h3⟩
theorem len0 {α : Type} {l : List α} (h : l.length = 0) : l = [] := List.length_eq_zero_iff.mp h
theorem len1 {α : Type} {l : List α} (h : l.length = 1) : ∃ a, l = [a] := List.length_eq_one_iff.mp h
theorem len2 {α : Type} {l : List α} (h : l.length = 2) : ∃ a b, l = [a, b] := match l, h with | [a, b], _ => ⟨a, b, rfl⟩
theorem len3 {α : Type} {l : List α} (h : l.length = 3) : ∃ a b d, l = [a, b, d] := match l, h with | [a, b, d], _ => ⟨a, b, d, rfl⟩
section
variable {c : Cx} {env : Env} {ns : List Str} {pos : Pos}
theorem ce_globi {x : Str} {n : Int} {t : Tok} (e : nsIn c.K mainGlobals x = some (some (.int n t))) (hx : env.kindOf x = some .globalImplicit := by (subst_vars; kernel_rfl)) (hd : (x == ("__debug__" : Str)) = false := by decide +kernel) : CE c env ns (.Name x pos) (cstW (.int n)) := fun X ec _ l σ Q _ h => by subst ec; exact ev_glob_i e h hx hd
theorem ce_globr {x : Str} {a : Addr} (e : nsIn c.K mainGlobals x = some (some (.ref a))) (hx : env.kindOf x = some .globalImplicit := by (subst_vars; kernel_rfl)) (hd : (x == ("__debug__" : Str)) = false := by decide +kernel) : CE c env ns (.Name x pos) (cstW (.val (.ref a))) := fun X ec _ l σ Q _ h => by subst ec; exact ev_glob_r e h hx hd
theorem ce_globy {x : Str} {b : Array UInt8} {t : Tok} (e : nsIn c.K mainGlobals x = some (some (.bytes b t))) (hx : env.kindOf x = some .globalImplicit := by (subst_vars; kernel_rfl)) (hd : (x == ("__debug__" : Str)) = false := by decide +kernel) : CE c env ns (.Name x pos) (cstW (.bytes b.toList)) := fun X ec _ l σ Q _ h => by subst ec; exact ev_glob_y e h hx hd
theorem ce_bltt {x : Str} {n : String} (e : nsIn c.K mainGlobals x = some none) (hv : bootBuiltins x = some (.type n)) (hx : env.kindOf x = some .globalImplicit := by (subst_vars; kernel_rfl)) (hn : x ≠ "__name__" := by decide +kernel) (hd : (x == ("__debug__" : Str)) = false := by decide +kernel) :
    CE c env ns (.Name x pos) (cstW (.val (.type n))) := fun X ec _ l σ Q _ h => by subst ec; exact ev_bltn_t e hv h hx hn hd
/-- what is never reached -/
def badX : WX := fun _ _ _ _ => False
theorem cx_bad {s : Stmt} : CX c env ns s badX := fun _ _ _ _ _ _ _ h => h.elim
end
end
section
open PySem PySem.W PyProof.Rows PySem.Calls
theorem vrl_of_ints {z : Led} {ρ : List Addr} : ∀ {ns : List Int} {ws : List Value}, IntsAre ws ns → VRL z ρ (ns.map V.int) ws
  | _, _, .nil => .nil
  | _, _, .cons _ _ h => .cons (.int _ _) (vrl_of_ints h)
/-- from the top's facts to a first state: nothing owned, the script as it is -/
theorem bridge {prog : Program} {w : World} {Kf : Params → Frag} {mg mb : Str → Option Value} {p : Program} {loose : List Str} {mean : ExcName → Option Value} {s₁ : Shared} {kz : Led} {tt : List (Addr × Addr)} {l fa : Addr} {vs : List Value} {ns : List Int} {n D : Nat} {A : Around} {Q' E' : Value → Shared → Prop}
    (T : Top p loose mean mg mb s₁.heap) (KX : (Kf w.params).In s₁.heap) (hg : s₁.gens = #[]) (hkz : ∀ q ∈ kz, (q.1, q.2) ∈ Kf w.params ∧ (Kf w.params).lookup q.1 = some q.2) (htt : ∀ t ∈ tt, s₁.heap.IsCode t.1 t.2 #[] ∧ s₁.heap.TableAt t.1 t.2 #[])
    (hK : ∀ q ∈ Kf w.params, q.1 ∉ tt.map (·.2)) (hl : s₁.heap.get? l = some (listOf vs.toArray n)) (hI : IntsAre vs ns) (ok : Ok A D)
    (h : FN (⟨prog, w, Kf, mg, mb, s₁.os, s₁.drawn, s₁.heap, tt, kz, AllBare⟩ : Cx) D (.val (.ref fa)) [.lst (ns.map V.int)] [] [] fun v _ => v = .bool true)
    (q : ∀ s', OldK s₁.heap s'.heap → s'.os = s₁.os → AllBare s'.gens → Q' (.bool true) s') : wpAny (model prog w) A (call (.ref fa) [.ref l]) Q' E' s₁ := by
  let c : Cx := ⟨prog, w, Kf, mg, mb, s₁.os, s₁.drawn, s₁.heap, tt, kz, AllBare⟩
  let tk := tt.map (·.2)
  have atP : ∀ a ∈ tk, s₁.heap.get? a = some { cls := .none, data := .fields #[] } := fun a ha => by
    obtain ⟨t, ht, rfl⟩ := List.mem_map.mp ha
    exact (htt t ht).2.2
  have nP : ∀ {a : Addr} {o : Obj}, s₁.heap.get? a = some o → (o.cls ≠ .none ∨ ∀ vs, o.data ≠ .fields vs) → a ∉ tk := fun {a o} e hd hm => by
    rw [atP a hm] at e; cases e
    rcases hd with h | h
    · exact h rfl
    · exact h _ rfl
  have nsP : ∀ {a : Addr} {m : Str → Option Value}, s₁.heap.Ns a m → a ∉ tk := fun {a m} hn hm => by
    obtain ⟨o, es, ep, e, r⟩ := hn
    rw [atP a hm] at e; cases e
    simp at r
  have up : ∀ x o, s₁.heap.get? x = some o → x ∉ tk → (hideAll s₁.heap tk).get? x = some o := fun x o e hx => hideAll_get _ e hx
  have nsUp : ∀ {a : Addr} {m : Str → Option Value}, s₁.heap.Ns a m → (hideAll s₁.heap tk).Ns a m := fun {a m} hn => by
    have h1 := nsP hn
    obtain ⟨o, es, ep, e, r⟩ := hn
    exact ⟨o, es, ep, up _ _ e h1, r⟩
  obtain ⟨bm, ob, b1, b2, b3, b4, b5, b6⟩ := T.bmain
  have B : Base c (hideAll s₁.heap tk) := by
    refine ⟨fun a o ha => up a o (KX a o ha) (hK (a, o) ?_), nsUp T.g, nsUp T.b, ?_, T.builtins, fun t ht => ?_, ⟨bm, ob, b1, b2, up _ _ b3 (nP b3 (.inl (by rw [b4]; simp))), b4, b5, b6⟩⟩
    · exact assoc_mem ha
    · obtain ⟨m, hn, r⟩ := T.nolimit
      exact ⟨m, nsUp hn, r⟩
    · obtain ⟨⟨o, vs, a1, a2, _⟩, _⟩ := (htt t ht).2
      exact ⟨o, up _ _ a1 (nP a1 (.inl (by rw [a2]; simp)))⟩
  have hlP : l ∉ tk := nP hl (.inl (by simp))
  have R : Rp c (hideAll s₁.heap tk) [] [] ((l, listOf vs.toArray n) :: kz) [] s₁ := by
    refine ⟨B, fun b o e => of_hideAll _ e, ⟨[], .nil, by simp, by simp⟩, fun q hq => ?_, fun a ha => ?_, fun t ht => ⟨#[], htt t ht⟩, rfl, rfl, hg ▸ AllBare.empty, fun p hp => .tail _ hp⟩
    · rcases List.mem_cons.mp hq with rfl | hq
      · exact ⟨hl, fun hm => hlP (by simpa [c, tk, Cx.tk] using hm)⟩
      · exact ⟨KX _ _ (hkz q hq).2, fun hm => hK _ (hkz q hq).1 (by simpa [c, tk, Cx.tk] using hm)⟩
    · have ha' : a ∈ tk := by simpa [c, tk, Cx.tk] using ha
      exact ⟨hideAll_none _ ha', _, atP a ha'⟩
  refine h A (hideAll s₁.heap tk) [] _ s₁ Q' E' (.ref fa) [.ref l] [] ok R (.val _) (.cons (.lst (.head _) (vrl_of_ints hI)) .nil) .nil fun v w' σ' ρ' z' s' hv R' G' r' => ?_
  subst hv
  cases r'
  refine q s' ⟨fun b o e => ?_, fun b o e => ?_⟩ R'.os R'.gens
  · by_cases hb : b ∈ tk
    · obtain ⟨t, ht, rfl⟩ := List.mem_map.mp hb
      obtain ⟨ps, _, hta⟩ := R'.tabs t ht
      rw [atP _ hb] at e; cases e
      exact .inr (.inl ⟨(htt t ht).2.isCodeTable, rfl, #[], ps, rfl, by rw [hta.2]; simp⟩)
    · exact .inl (R'.keep _ _ (up _ _ e hb))
  · by_cases hb : b ∈ tk
    · obtain ⟨t, ht, rfl⟩ := List.mem_map.mp hb
      obtain ⟨ps, _, hta⟩ := R'.tabs t ht
      exact ⟨_, hta.2⟩
    · exact ⟨o, R'.keep _ _ (up _ _ e hb)⟩
end
section
open PySem PySem.W PyProof.Rows PySem.Calls
-- PLAIN FACTS FOR WALKS
theorem getVI {ns : List Int} {i : Nat} {K : V → Prop} (h : i < ns.length) (k : K (.int (ns.getD i 0))) : getV (ns.map V.int) i K := by
  refine getV_of (v := .int (ns.getD i 0)) ?_ k
  rw [List.getElem?_map, List.getElem?_eq_getElem h]
  simp [List.getD_eq_getElem?_getD, List.getElem?_eq_getElem h]
theorem fdivN (n k : Nat) : (n : Int).fdiv k = ((n / k : Nat) : Int) := by rw [Int.fdiv_eq_ediv_of_nonneg _ (by omega)]; exact (Int.natCast_ediv n k).symm
theorem fmodN (n k : Nat) : (n : Int).fmod k = ((n % k : Nat) : Int) := by rw [Int.fmod_eq_emod_of_nonneg _ (by omega)]; exact (Int.natCast_emod n k).symm
def padB (ns : List Int) (n : Nat) : List Int := if ns.length ≤ n / 8 then ns ++ [0] else ns
def putB (ns : List Int) (n : Nat) (b : Bool) : List Int := if b then (padB ns n).set (n / 8) (Builtin.bitOr ((padB ns n).getD (n / 8) 0) (128 / 2 ^ (n % 8))) else padB ns n
abbrev Buf := List Int × Nat
def pbit (p : Buf) (b : Bool) : Buf := (putB p.1 p.2 b, p.2 + 1)
def BOk (p : Buf) : Prop := p.2 / 8 ≤ p.1.length ∧ p.1.length ≤ p.2 / 8 + 1 ∧ p.2 ≤ 100000
theorem putB_len (ns : List Int) (n : Nat) (b : Bool) : (putB ns n b).length = (padB ns n).length := by
  unfold putB; split <;> simp
theorem padB_len {ns : List Int} {n : Nat} (h : n / 8 ≤ ns.length) (h2 : ns.length ≤ n / 8 + 1) : (padB ns n).length = n / 8 + 1 := by
  unfold padB
  split
  · rw [List.length_append, List.length_singleton]; omega
  · omega
theorem pbit_ok {p : Buf} (h : BOk p) (h2 : p.2 + 1 ≤ 100000) (b : Bool) : BOk (pbit p b) := by
  obtain ⟨h0, h1, _⟩ := h
  unfold pbit BOk
  rw [putB_len, padB_len h0 h1]
  simp only
  omega
def bitsOf (num : Int) (len : Nat) : List Bool := (List.range len).map fun k => Builtin.bitAnd (num.fdiv (2 ^ (len - k - 1))) 1 == 1
def pbits (p : Buf) (bs : List Bool) : Buf := bs.foldl pbit p
theorem pbits_n (p : Buf) (bs : List Bool) : (pbits p bs).2 = p.2 + bs.length := by
  unfold pbits
  induction bs generalizing p with
  | nil => rfl
  | cons b bs ih => rw [List.foldl_cons, ih]; simp [pbit]; omega
theorem pbits_ok {p : Buf} (h : BOk p) {bs : List Bool} (h2 : p.2 + bs.length ≤ 100000) : BOk (pbits p bs) := by
  unfold pbits
  induction bs generalizing p with
  | nil => exact h
  | cons b bs ih =>
    rw [List.foldl_cons]
    simp only [List.length_cons] at h2
    exact ih (pbit_ok h (by omega) b) (by simp [pbit]; omega)
theorem pbits_append (p : Buf) (a b : List Bool) : pbits p (a ++ b) = pbits (pbits p a) b := by unfold pbits; rw [List.foldl_append]
theorem rng_get1 {a : Int} {n k : Nat} {v : V} (h : (rngVs a 1 n)[k]? = some v) : k < n ∧ v = .int (a + k) := by
  unfold rngVs at h
  obtain ⟨h1, h2⟩ := List.getElem?_eq_some_iff.mp h
  have h3 : k < n := by simpa using h1
  refine ⟨h3, ?_⟩
  rw [← h2]
  simp
theorem mapApp (ns : List Int) (a : Int) : ns.map V.int ++ [V.int a] = (ns ++ [a]).map V.int := by simp
theorem mapSet (ns : List Int) (k : Nat) (a : Int) : (ns.map V.int).set k (V.int a) = (ns.set k a).map V.int := by simp
/-- the buffer, in the heap -/
def bufH (C : Addr) (σ : Hp) (i j : Nat) (p : Buf) : Hp := (σ.set j (.list (p.1.map V.int))).set i (.inst C [(6, .ref j), (7, .int p.2)])
def IsBuf (C : Addr) (σ : Hp) (i j : Nat) (p : Buf) : Prop := σ[i]? = some (.inst C [(6, .ref j), (7, .int p.2)]) ∧ σ[j]? = some (.list (p.1.map V.int)) ∧ BOk p
theorem IsBuf.ne {C : Addr} {σ : Hp} {i j : Nat} {p : Buf} (h : IsBuf C σ i j p) : i ≠ j := at_ne h.1 h.2.1 (by simp)
theorem IsBuf.self {C : Addr} {σ : Hp} {i j : Nat} {p : Buf} (h : IsBuf C σ i j p) : bufH C σ i j p = σ := by
  unfold bufH; rw [Mine.set_same h.2.1, Mine.set_same h.1]
theorem bufH_twice {C : Addr} {σ : Hp} {i j : Nat} {p q : Buf} (hij : i ≠ j) : bufH C (bufH C σ i j p) i j q = bufH C σ i j q := by
  unfold bufH
  rw [List.set_comm _ _ hij, List.set_set, List.set_set]
theorem IsBuf.buf {C : Addr} {σ : Hp} {i j : Nat} {p q : Buf} (h : IsBuf C σ i j p) (hq : BOk q) : IsBuf C (bufH C σ i j q) i j q :=
  ⟨at_same (at_other h.ne.symm h.1), at_other h.ne (at_same h.2.1), hq⟩
theorem bufH_len {C : Addr} {σ : Hp} {i j : Nat} {p : Buf} : (bufH C σ i j p).length = σ.length := by simp [bufH]
theorem bufH_at {C : Addr} {σ : Hp} {i j k : Nat} {p : Buf} {o : AO} (h : σ[k]? = some o) (h1 : i ≠ k) (h2 : j ≠ k) : (bufH C σ i j p)[k]? = some o := at_other h1 (at_other h2 h)
theorem bitsOf_len (num : Int) (len : Nat) : (bitsOf num len).length = len := by simp [bitsOf]
theorem bitsOf_get {num : Int} {len k : Nat} (h : k < len) : (bitsOf num len)[k]? = some (Builtin.bitAnd (num.fdiv (2 ^ (len - k - 1))) 1 == 1) := by
  unfold bitsOf
  rw [List.getElem?_map, List.getElem?_range h]
  rfl
theorem take_get {α : Type} {l : List α} {k : Nat} {x : α} (h : l[k]? = some x) : l.take (k + 1) = l.take k ++ [x] := by
  rw [List.take_add_one, h]; rfl
end
section
open PySem PySem.W PyProof.Rows PySem.Calls
set_option maxRecDepth 100000
@[reducible] noncomputable def KF := Mine.hd.heap_39
def kzL : List Addr := [106, 353, 354, 355, 356, 357, 358, 359, 360, 361, 267] ++ (List.range 160).map (· + 107)
noncomputable def kzOf (K : Frag) : Led := kzL.filterMap fun a => (K.lookup a).map fun o => (a, o)
structure C3 (c : Cx) : Prop where
  kf : c.Kf = KF
  prog : c.prog = PySem.Challenge.rw_bj0064_03.prog
  kz : c.kz = kzOf (KF c.w.params)
  tt : c.tt = [(403, 399)]
  gi : ∀ a, c.gi a ↔ AllBare a
theorem C3.k {c : Cx} (h : C3 c) : c.K = Mine.hd.heap_39 c.w.params := by unfold Cx.K; rw [h.kf]
end
section
def flat3 : List (Nat × Int × Int) → List Int
  | [] => []
  | (n, t, d) :: r => (n : Int) :: t :: d :: flat3 r
def rsT3 : List (List (Nat × Int × Int)) := [[(1, 26, 19)], [(1, 26, 16)], [(1, 26, 13)], [(1, 26, 9)], [(1, 44, 34)], [(1, 44, 28)], [(1, 44, 22)], [(1, 44, 16)], [(1, 70, 55)], [(1, 70, 44)], [(2, 35, 17)], [(2, 35, 13)], [(1, 100, 80)], [(2, 50, 32)], [(2, 50, 24)], [(4, 25, 9)], [(1, 134, 108)], [(2, 67, 43)], [(2, 33, 15), (2, 34, 16)], [(2, 33, 11), (2, 34, 12)], [(2, 86, 68)], [(4, 43, 27)], [(4, 43, 19)], [(4, 43, 15)], [(2, 98, 78)], [(4, 49, 31)], [(2, 32, 14), (4, 33, 15)], [(4, 39, 13), (1, 40, 14)], [(2, 121, 97)], [(2, 60, 38), (2, 61, 39)], [(4, 40, 18), (2, 41, 19)], [(4, 40, 14), (2, 41, 15)], [(2, 146, 116)], [(3, 58, 36), (2, 59, 37)], [(4, 36, 16), (4, 37, 17)], [(4, 36, 12), (4, 37, 13)], [(2, 86, 68), (2, 87, 69)], [(4, 69, 43), (1, 70, 44)], [(6, 43, 19), (2, 44, 20)], [(6, 43, 15), (2, 44, 16)], [(4, 101, 81)], [(1, 80, 50), (4, 81, 51)], [(4, 50, 22), (4, 51, 23)], [(3, 36, 12), (8, 37, 13)], [(2, 116, 92), (2, 117, 93)], [(6, 58, 36), (2, 59, 37)], [(4, 46, 20), (6, 47, 21)], [(7, 42, 14), (4, 43, 15)], [(4, 133, 107)], [(8, 59, 37), (1, 60, 38)], [(8, 44, 20), (4, 45, 21)], [(12, 33, 11), (4, 34, 12)], [(3, 145, 115), (1, 146, 116)], [(4, 64, 40), (5, 65, 41)], [(11, 36, 16), (5, 37, 17)], [(11, 36, 12), (5, 37, 13)], [(5, 109, 87), (1, 110, 88)], [(5, 65, 41), (5, 66, 42)], [(5, 54, 24), (7, 55, 25)], [(11, 36, 12), (7, 37, 13)], [(5, 122, 98), (1, 123, 99)], [(7, 73, 45), (3, 74, 46)], [(15, 43, 19), (2, 44, 20)], [(3, 45, 15), (13, 46, 16)], [(1, 135, 107), (5, 136, 108)], [(10, 74, 46), (1, 75, 47)], [(1, 50, 22), (15, 51, 23)], [(2, 42, 14), (17, 43, 15)], [(5, 150, 120), (1, 151, 121)], [(9, 69, 43), (4, 70, 44)], [(17, 50, 22), (1, 51, 23)], [(2, 42, 14), (19, 43, 15)], [(3, 141, 113), (4, 142, 114)], [(3, 70, 44), (11, 71, 45)], [(17, 47, 21), (4, 48, 22)], [(9, 39, 13), (16, 40, 14)], [(3, 135, 107), (5, 136, 108)], [(3, 67, 41), (13, 68, 42)], [(15, 54, 24), (5, 55, 25)], [(15, 43, 15), (10, 44, 16)], [(4, 144, 116), (4, 145, 117)], [(17, 68, 42)], [(17, 50, 22), (6, 51, 23)], [(19, 46, 16), (6, 47, 17)], [(2, 139, 111), (7, 140, 112)], [(17, 74, 46)], [(7, 54, 24), (16, 55, 25)], [(34, 37, 13)], [(4, 151, 121), (5, 152, 122)], [(4, 75, 47), (14, 76, 48)], [(11, 54, 24), (14, 55, 25)], [(16, 45, 15), (14, 46, 16)], [(6, 147, 117), (4, 148, 118)], [(6, 73, 45), (14, 74, 46)], [(11, 54, 24), (16, 55, 25)], [(30, 46, 16), (2, 47, 17)], [(8, 132, 106), (4, 133, 107)], [(8, 75, 47), (13, 76, 48)], [(7, 54, 24), (22, 55, 25)], [(22, 45, 15), (13, 46, 16)], [(10, 142, 114), (2, 143, 115)], [(19, 74, 46), (4, 75, 47)], [(28, 50, 22), (6, 51, 23)], [(33, 46, 16), (4, 47, 17)], [(8, 152, 122), (4, 153, 123)], [(22, 73, 45), (3, 74, 46)], [(8, 53, 23), (26, 54, 24)], [(12, 45, 15), (28, 46, 16)], [(3, 147, 117), (10, 148, 118)], [(3, 73, 45), (23, 74, 46)], [(4, 54, 24), (31, 55, 25)], [(11, 45, 15), (31, 46, 16)], [(7, 146, 116), (7, 147, 117)], [(21, 73, 45), (7, 74, 46)], [(1, 53, 23), (37, 54, 24)], [(19, 45, 15), (26, 46, 16)], [(5, 145, 115), (10, 146, 116)], [(19, 75, 47), (10, 76, 48)], [(15, 54, 24), (25, 55, 25)], [(23, 45, 15), (25, 46, 16)], [(13, 145, 115), (3, 146, 116)], [(2, 74, 46), (29, 75, 47)], [(42, 54, 24), (1, 55, 25)], [(23, 45, 15), (28, 46, 16)], [(17, 145, 115)], [(10, 74, 46), (23, 75, 47)], [(10, 54, 24), (35, 55, 25)], [(19, 45, 15), (35, 46, 16)], [(17, 145, 115), (1, 146, 116)], [(14, 74, 46), (21, 75, 47)], [(29, 54, 24), (19, 55, 25)], [(11, 45, 15), (46, 46, 16)], [(13, 145, 115), (6, 146, 116)], [(14, 74, 46), (23, 75, 47)], [(44, 54, 24), (7, 55, 25)], [(59, 46, 16), (1, 47, 17)], [(12, 151, 121), (7, 152, 122)], [(12, 75, 47), (26, 76, 48)], [(39, 54, 24), (14, 55, 25)], [(22, 45, 15), (41, 46, 16)], [(6, 151, 121), (14, 152, 122)], [(6, 75, 47), (34, 76, 48)], [(46, 54, 24), (10, 55, 25)], [(2, 45, 15), (64, 46, 16)], [(17, 152, 122), (4, 153, 123)], [(29, 74, 46), (14, 75, 47)], [(49, 54, 24), (10, 55, 25)], [(24, 45, 15), (46, 46, 16)], [(4, 152, 122), (18, 153, 123)], [(13, 74, 46), (32, 75, 47)], [(48, 54, 24), (14, 55, 25)], [(42, 45, 15), (32, 46, 16)], [(20, 147, 117), (4, 148, 118)], [(40, 75, 47), (7, 76, 48)], [(43, 54, 24), (22, 55, 25)], [(10, 45, 15), (67, 46, 16)], [(19, 148, 118), (6, 149, 119)], [(18, 75, 47), (31, 76, 48)], [(34, 54, 24), (34, 55, 25)], [(20, 45, 15), (61, 46, 16)]]
def rsT : List (List Int) := rsT3.map flat3
def bitsT : List (List Int) := [[0, 128, 224, 352, 512, 688, 864, 992, 1232, 1456, 1728, 2032, 2320, 2672, 2920, 3320, 3624, 4056, 4504, 5016, 5352, 5712, 6256, 6880, 7312, 8000, 8496, 9024, 9544, 10136, 10984, 11640, 12328, 13048, 13800, 14496, 15312, 15936, 16816, 17728, 18672], [0, 152, 272, 440, 640, 864, 1088, 1248, 1552, 1856, 2192, 2592, 2960, 3424, 3688, 4184, 4712, 5176, 5768, 6360, 6888, 7456, 8048, 8752, 9392, 10208, 10960, 11744, 12248, 13048, 13880, 14744, 15640, 16568, 17528, 18448, 19472, 20528, 21616, 22496, 23648], [0, 72, 128, 208, 288, 368, 480, 528, 688, 800, 976, 1120, 1264, 1440, 1576, 1784, 2024, 2264, 2504, 2728, 3080, 3248, 3536, 3712, 4112, 4304, 4768, 5024, 5288, 5608, 5960, 6344, 6760, 7208, 7688, 7888, 8432, 8768, 9136, 9776, 10208], [0, 104, 176, 272, 384, 496, 608, 704, 880, 1056, 1232, 1440, 1648, 1952, 2088, 2360, 2600, 2936, 3176, 3560, 3880, 4096, 4544, 4912, 5312, 5744, 6032, 6464, 6968, 7288, 7880, 8264, 8920, 9368, 9848, 10288, 10832, 11408, 12016, 12656, 13328]]
theorem flat3_len : ∀ l : List (Nat × Int × Int), (flat3 l).length = 3 * l.length
  | [] => rfl
  | (n, t, d) :: r => by simp [flat3, flat3_len r]; omega
theorem flat3_cut : ∀ {l : List (Nat × Int × Int)} {k : Nat} {p : Nat × Int × Int}, l[k]? = some p → ((flat3 l).drop (3 * k)).take 3 = [(p.1 : Int), p.2.1, p.2.2]
  | (n, t, d) :: r, 0, p, h => by simp at h; subst h; simp [flat3]
  | (n, t, d) :: r, k + 1, p, h => by
    have e : 3 * (k + 1) = (3 * k + 1 + 1) + 1 := by omega
    simp only [flat3, e, List.drop_succ_cons]
    exact flat3_cut (l := r) (k := k) (by simpa using h)
end
section
set_option maxRecDepth 100000
set_option maxHeartbeats 4000000
theorem fill_XT3 (P : Params) : Mine.hd.heap_39 P = Mine.hd.heap_39 P ∧ PySem.Challenge.rw_bj0064_03 = PySem.Challenge.rw_bj0064_03 := by
  k_fill
  exact ⟨rfl, rfl⟩
end
local macro_rules | `(tactic| k_in) => `(tactic| (rw [C3.k ‹C3 _›]; k_is))
local macro_rules | `(tactic| k_mem) => `(tactic| (first | with_reducible exact at0 | with_reducible exact at1 | with_reducible exact at2 | with_reducible exact at3 | with_reducible exact at4 | with_reducible exact at5 | with_reducible exact at6 | with_reducible exact at7 | with_reducible exact at8 | with_reducible exact at9 | with_reducible exact at10 | with_reducible exact at11 | with_reducible exact at12 | with_reducible exact at13 | with_reducible exact at14 | with_reducible exact at15 | with_reducible exact at16 | with_reducible exact at17 | with_reducible exact at18 | with_reducible exact at19 | with_reducible exact at20 | with_reducible exact at21 | with_reducible exact at22 | with_reducible exact at23 | with_reducible exact at24 | with_reducible exact at25))
local macro_rules | `(tactic| k_flat) => `(tactic| (first | with_reducible exact nm0 | with_reducible exact nm1 | with_reducible exact nm2 | with_reducible exact nm3 | with_reducible exact nm4 | with_reducible exact nm5 | with_reducible exact nm6 | with_reducible exact nm7 | with_reducible exact nm8 | with_reducible exact nm9 | with_reducible exact nm10 | with_reducible exact nm11 | with_reducible exact nm12 | with_reducible exact nm13 | with_reducible exact nm14 | with_reducible exact nm15 | with_reducible exact nm16 | with_reducible exact nm17 | with_reducible exact nm18 | with_reducible exact nm19 | with_reducible exact nm20 | with_reducible exact nm21 | with_reducible exact nm22 | with_reducible exact nm23 | with_reducible exact nm24 | with_reducible exact nm25 | with_reducible exact nm26 | with_reducible exact nm27 | with_reducible exact nm28 | with_reducible exact nm29 | with_reducible exact nm30 | with_reducible exact nm31 | with_reducible exact nm32 | with_reducible exact nm33 | with_reducible exact nm34 | with_reducible exact nm35 | with_reducible exact nm36 | with_reducible exact nm37 | with_reducible exact nm38 | with_reducible exact nm39 | with_reducible exact nm40 | with_reducible exact nm41 | with_reducible exact nm42 | with_reducible exact nm43 | with_reducible exact nm44 | with_reducible exact nm45 | with_reducible exact nm46 | with_reducible exact nm47 | with_reducible exact nm48 | with_reducible exact nm49 | with_reducible exact nm50 | with_reducible exact nm51 | with_reducible exact nm52))
local macro_rules | `(tactic| kda_here) => `(tactic| (first
  | ((with_reducible show CE _ _ _ _ _); first
    | ((with_reducible refine' ce_loc ?awa); (case awa => k_mem))
    | ((with_reducible refine' ce_globi ?awe); (case awe => k_in))
    | ((with_reducible refine' ce_globr ?awe); (case awe => k_in))
    | ((with_reducible refine' ce_globy ?awe); (case awe => k_in))
    | ((with_reducible refine' ce_bltt ?awe ?awh); (case awe => k_in); (case awh => boot_by_name))
    | with_reducible exact ce_int | with_reducible exact ce_none | with_reducible exact ce_bool | with_reducible exact ce_str | with_reducible exact ce_bytes
    | ((with_reducible refine' ce_attr ?awa ?awb); (case awa => kda_here); (case awb => k_flat))
    | ((with_reducible refine' ce_bin ?awa ?awb); (case awa => kda_here); (case awb => kda_here))
    | ((with_reducible refine' ce_cmp ?awa ?awb); (case awa => kda_here); (case awb => kda_here))
    | ((with_reducible refine' ce_slice ?awa ?awb ?awc); (case awa => kda_here); (case awb => kda_here); (case awc => kda_here))
    | ((with_reducible refine' ce_item ?awa ?awb ?awc); (case awc => rfl); (case awa => kda_here); (case awb => kda_here))
    | ((with_reducible refine' ce_not ?awa); (case awa => kda_here))
    | ((with_reducible refine' ce_ite ?awa ?awb ?awc); (case awa => kda_here); (case awb => kda_here); (case awc => kda_here))
    | ((with_reducible refine' ce_list ?awa); (case awa => kda_here))
    | ((with_reducible refine' ce_tup ?awa); (case awa => kda_here))
    | ((with_reducible refine' ce_calld ?awe ?awk ?awa ?awb); (case awe => k_in); (case awk => k_in); (case awa => kda_here); (case awb => kda_here))
    | ((with_reducible refine' ce_callb .len ?awe ?awh ?awv ?awa ?awb); (case awe => k_in); (case awh => boot_by_name); (case awv => rfl); (case awa => kda_here); (case awb => kda_here))
    | ((with_reducible refine' ce_callb .range ?awe ?awh ?awv ?awa ?awb); (case awe => k_in); (case awh => boot_by_name); (case awv => rfl); (case awa => kda_here); (case awb => kda_here))
    | ((with_reducible refine' ce_callb .abs ?awe ?awh ?awv ?awa ?awb); (case awe => k_in); (case awh => boot_by_name); (case awv => rfl); (case awa => kda_here); (case awb => kda_here))
    | ((with_reducible refine' ce_callb .int ?awe ?awh ?awv ?awa ?awb); (case awe => k_in); (case awh => boot_by_name); (case awv => rfl); (case awa => kda_here); (case awb => kda_here))
    | ((with_reducible refine' ce_callb .sum ?awe ?awh ?awv ?awa ?awb); (case awe => k_in); (case awh => boot_by_name); (case awv => rfl); (case awa => kda_here); (case awb => kda_here))
    | ((with_reducible refine' ce_callb .bytes ?awe ?awh ?awv ?awa ?awb); (case awe => k_in); (case awh => boot_by_name); (case awv => rfl); (case awa => kda_here); (case awb => kda_here))
    | ((with_reducible refine' ce_callb .isinstance ?awe ?awh ?awv ?awa ?awb); (case awe => k_in); (case awh => boot_by_name); (case awv => rfl); (case awa => kda_here); (case awb => kda_here))
    | ((with_reducible refine' ce_callg .bisect ?awe ?awv ?awa ?awb); (case awe => k_in); (case awv => rfl); (case awa => kda_here); (case awb => kda_here))
    | ((with_reducible refine' ce_dict ?awa ?awb ?awc); (case awb => simp); (case awc => decide); (case awa => kda_here))
    | with_reducible exact ce_dict0
    | (refine' ce_meth (pl := ?awp) ?awa ?awh ?awb ?awc rfl; (case awa => kda_here); (case awh => k_flat); (case awb => kda_here); (case awc => kda_here))
    | ((with_reducible refine' ce_and ?awa ?awb); (case awa => kda_here); (case awb => kda_here))
    | ((with_reducible refine' ce_or ?awa ?awb); (case awa => kda_here); (case awb => kda_here))
    | ((with_reducible refine' ce_bop1 ?awa); (case awa => kda_here)))
  | ((with_reducible show CB _ _ _ _ _); first
    | ((with_reducible refine' cb_cmp ?awa ?awb); (case awa => kda_here); (case awb => kda_here))
    | ((with_reducible refine' cb_not ?awa); (case awa => kda_here))
    | ((with_reducible refine' cb_bop ?awa); (case awa => kda_here))
    | (refine' cb_val ?awa; (case awa => kda_here)))
  | ((with_reducible show CBs _ _ _ _ _ _); first
    | ((with_reducible refine' cbs_and ?awa ?awb); (case awa => kda_here); (case awb => kda_here))
    | ((with_reducible refine' cbs_or ?awa ?awb); (case awa => kda_here); (case awb => kda_here))
    | with_reducible exact cbs_andE | with_reducible exact cbs_orE)
  | ((with_reducible show CO _ _ _ _ _); first
    | with_reducible exact co_none
    | ((with_reducible refine' co_some ?awa); (case awa => kda_here)))
  | ((with_reducible show CL _ _ _ _ _ _); first
    | with_reducible exact cl_nil
    | ((with_reducible refine' cl_cons ?awa ?awb); (case awa => kda_here); (case awb => kda_here)))
  | ((with_reducible show CK _ _ _ _ _ _); first
    | with_reducible exact ck_nil
    | ((with_reducible refine' ck_cons ?awa ?awb); (case awa => kda_here); (case awb => kda_here)))
  | ((with_reducible show CP _ _ _ _ _ _ _); first
    | with_reducible exact cp_nil
    | ((with_reducible refine' cp_cons ?awa ?awb ?awc); (case awa => kda_here); (case awb => kda_here); (case awc => kda_here)))
  | ((with_reducible show CAs _ _ _ _ _); first
    | ((with_reducible refine' ca_name ?awa); (case awa => k_mem))
    | ((with_reducible refine' ca_tup ?awa); (case awa => kda_here)))
  | ((with_reducible show CAss _ _ _ _ _); first
    | with_reducible exact cas_nil
    | ((with_reducible refine' cas_cons ?awa ?awb); (case awa => kda_here); (case awb => kda_here)))
  | ((with_reducible show CXs _ _ _ _ _); first
    | with_reducible exact cxs_nil
    | ((with_reducible refine' cxs_one ?awa); (case awa => kda_here))
    | ((with_reducible refine' cxs_cons ?awa ?awb); (case awa => kda_here); (case awb => kda_here)))
  | ((with_reducible show CX _ _ _ _ _); first
    | ((with_reducible refine' cx_asg ?awx ?awa); (case awx => k_mem); (case awa => kda_here))
    | ((with_reducible refine' cx_expr ?awa); (case awa => kda_here))
    | ((with_reducible refine' cx_if ?awa ?awb ?awc); (case awa => kda_here); (case awb => kda_here); (case awc => kda_here))
    | ((with_reducible refine' cx_ret ?awa); (case awa => kda_here))
    | with_reducible exact cx_retN | with_reducible exact cx_pass | with_reducible exact cx_break | with_reducible exact cx_continue
    | ((with_reducible refine' cx_set ?awa ?awb ?awc); (case awa => kda_here); (case awb => kda_here); (case awc => k_flat))
    | ((with_reducible refine' cx_sub ?awa ?awb ?awc); (case awa => kda_here); (case awb => kda_here); (case awc => kda_here))
    | ((with_reducible refine' cx_aug ?awx ?awa); (case awx => k_mem); (case awa => kda_here))
    | ((with_reducible refine' cx_augSet ?awa ?awb ?awc); (case awa => kda_here); (case awb => kda_here); (case awc => k_flat))
    | ((with_reducible refine' cx_augSub ?awa ?awb ?awc); (case awa => kda_here); (case awb => kda_here); (case awc => kda_here))
    | ((with_reducible refine' cx_asgT ?awa ?awb); (case awa => kda_here); (case awb => kda_here))
    | ((with_reducible refine' cx_for ?awa ?awb ?awc); (case awa => kda_here); (case awb => kda_here); (case awc => kda_here))
    | ((with_reducible refine' cx_while ?awa ?awb); (case awa => kda_here); (case awb => kda_here))
    | with_reducible exact cx_bad)))
local macro_rules | `(tactic| walk_at "side") => `(tactic| (first | assumption | (with_reducible rfl) | omega | exact PyProof.noPylong_small (by omega) | decide | (refine ⟨?_, ?_⟩ <;> walk_at "side") | (simp only [List.length_map, List.length_append, List.length_cons, List.length_nil, List.length_set, List.length_replicate]; omega) | mul_fits | fail))
local macro_rules | `(tactic| walk_at "obj") => `(tactic| (first | assumption | (with_reducible rfl) | (refine' at_same (o := ?awo) ?awh; (case awh => walk_at "obj")) | (refine' at_other (by (first | assumption | (apply Ne.symm; assumption) | decide)) ?awh; (case awh => walk_at "obj")) | exact at_new | (refine' at_app ?awh; (case awh => walk_at "obj")) | rfl))
local macro_rules | `(tactic| walk_at "vc") => `(tactic| ((conv => whnf); first
  | ((with_reducible refine' getO_of ?awa ?awb); (case awa => walk_at "obj"))
  | ((with_reducible refine chk_of ?awa ?awb); (case awa => walk_at "side"))
  | ((with_reducible refine getVI ?awa ?awb); (case awa => walk_at "side"))
  | ((with_reducible refine' getV_of ?awa ?awb); (case awa => rfl))
  | ((with_reducible refine br_t ?awa ?awb); (case awa => first | rfl | assumption | (apply decide_eq_true; omega) | fail))
  | ((with_reducible refine And.intro ?awa ?awb); (case awa => first | (with_reducible rfl) | assumption | fail))
  | ((with_reducible refine' ascii_of ?awa ?awb); (case awa => assumption))
  | ((with_reducible refine' intText_of ?awa ?awc ?awb); (case awa => assumption); (case awc => assumption))
  | ((with_reducible refine br_f ?awa ?awb); (case awa => first | rfl | assumption | (apply decide_eq_false; omega) | fail))
  | fail))
section
open PySem PySem.W PyProof.Rows PySem.Calls
set_option maxRecDepth 100000
set_option maxHeartbeats 4000000
def clsL : List (Addr × Nat × CA) := [(497, 6, .no), (497, 7, .no), (497, 8, .meth 480), (497, 9, .meth 494), (497, 42, .meth 487),
  (443, 11, .no), (443, 12, .no), (443, 13, .meth 433), (443, 42, .meth 426),
  (675, 14, .prop 544 553), (675, 15, .val .none), (675, 16, .no), (675, 17, .no), (675, 18, .no), (675, 19, .prop 561 570), (675, 20, .no), (675, 21, .no), (675, 22, .no), (675, 23, .meth 578),
  (675, 24, .no), (675, 25, .no), (675, 26, .no), (675, 27, .no), (675, 28, .meth 586), (675, 29, .meth 616)]
set_option maxHeartbeats 40000000 in
theorem clsL_ok {c : Cx} (hC : C3 c) : ∀ e ∈ clsL, CAok c e.1 e.2.1 e.2.2 := by
  unfold clsL
  repeat' (first | exact mem_nil | refine mem_cons ?_ ?_)
  all_goals first
    | exact ⟨⟨by k_in, by k_in⟩, by k_in, by k_in, by k_in⟩
    | exact ⟨⟨by k_in, by k_in⟩, ⟨by k_in, by k_in, by k_in⟩, ⟨_, by k_in, by k_in⟩, by k_in⟩
    | exact ⟨⟨by k_in, by k_in⟩, ⟨by k_in, by k_in, by k_in⟩, by k_in, Value.none, rfl, by k_in, by k_in, rfl, by decide +kernel, by k_in⟩
    | exact ⟨⟨by k_in, by k_in⟩, ⟨by k_in, by k_in, by k_in⟩, _, _, by k_in, by k_in, by k_in, by k_in, by k_in, by k_in⟩
def rsV : V := .tup (rsT.map fun r => .tup (r.map V.int))
def bitsV : V := .lst (bitsT.map fun r => .lst (r.map V.int))
def kvL (P : Params) : List (Addr × V) := [(353, .dct [1, 2, 4, 8] [.int 10, .int 9, .int 8, .int 8]), (354, .dct [1, 2, 4, 8] [.int 12, .int 11, .int 16, .int 10]), (355, .dct [1, 2, 4, 8] [.int 14, .int 13, .int 16, .int 12]),
  (356, .dct [3, 2, 1] [.int 10, .int 7, .int 4]), (106, .dct [1, 0, 3, 2] [.int 0, .int 1, .int 2, .int 3]), (361, bitsV), (267, rsV)]
theorem kvL_ok {c : Cx} (hC : C3 c) : ∀ e ∈ kvL c.w.params, ∃ n, kvOf c.kz n (.ref e.1) = e.2 := by
  rw [hC.kz]
  unfold kvL
  repeat' (first | exact mem_nil | refine mem_cons ?_ ?_)
  all_goals exact ⟨3, by kernel_rfl⟩
def X3 (c : Cx) (D : Nat) : Ex := ⟨c, D, clsGet clsL, fun _ _ => none, kvGet (kvL c.w.params), false⟩
theorem X3_ok {c : Cx} (hC : C3 c) (D : Nat) : XOk (X3 c D) := ⟨clsGet_ok (clsL_ok hC), fun _ _ _ h => (nomatch h), kvGet_ok (kvL_ok hC)⟩
end
section
open PySem PySem.W PyProof.Rows PySem.Calls
set_option maxRecDepth 100000
set_option maxHeartbeats 4000000
def put_bit : { w : WX // ∀ c, C3 c → Def c 494 ["self", "bit"] ["buf_index"] (shP 2) w } := ⟨_, fun c hC => ⟨⟨_, _, _, _, _, by k_in, rfl, by k_in, ⟨by decide, by decide, by decide⟩, ⟨rfl, rfl, rfl, rfl, rfl⟩, sh2 (fun _ _ => rfl), fun L env he => by
  simp only [List.cons_append, List.nil_append]
  kda_here⟩⟩⟩
def put : { w : WX // ∀ c, C3 c → Def c 480 ["self", "num", "length"] ["i"] (shP 3) w } := ⟨_, fun c hC => ⟨⟨_, _, _, _, _, by k_in, rfl, by k_in, ⟨by decide, by decide, by decide⟩, ⟨rfl, rfl, rfl, rfl, rfl⟩, sh3 (fun _ _ _ => rfl), fun L env he => by
  simp only [List.cons_append, List.nil_append]
  kda_here⟩⟩⟩
def bb_init : { w : WX // ∀ c, C3 c → Def c 461 ["self"] [] (shP 1) w } := ⟨_, fun c hC => ⟨⟨_, _, _, _, _, by k_in, rfl, by k_in, ⟨by decide, by decide, by decide⟩, ⟨rfl, rfl, rfl, rfl, rfl⟩, sh1 (fun _ => rfl), fun L env he => by
  simp only [List.cons_append, List.nil_append]
  kda_here⟩⟩⟩
def bb_len : { w : WX // ∀ c, C3 c → Def c 487 ["self"] [] (shP 1) w } := ⟨_, fun c hC => ⟨⟨_, _, _, _, _, by k_in, rfl, by k_in, ⟨by decide, by decide, by decide⟩, ⟨rfl, rfl, rfl, rfl, rfl⟩, sh1 (fun _ => rfl), fun L env he => by
  simp only [List.cons_append, List.nil_append]
  kda_here⟩⟩⟩
def qd_len : { w : WX // ∀ c, C3 c → Def c 426 ["self"] [] (shP 1) w } := ⟨_, fun c hC => ⟨⟨_, _, _, _, _, by k_in, rfl, by k_in, ⟨by decide, by decide, by decide⟩, ⟨rfl, rfl, rfl, rfl, rfl⟩, sh1 (fun _ => rfl), fun L env he => by
  simp only [List.cons_append, List.nil_append]
  kda_here⟩⟩⟩
def qd_write : { w : WX // ∀ c, C3 c → Def c 433 ["self", "buffer"] ["i", "chars", "bit_length", "data", "c"] (shP 2) w } := ⟨_, fun c hC => ⟨⟨_, _, _, _, _, by k_in, rfl, by k_in, ⟨by decide, by decide, by decide⟩, ⟨rfl, rfl, rfl, rfl, rfl⟩, sh2 (fun _ _ => rfl), fun L env he => by
  simp only [List.cons_append, List.nil_append]
  kda_here⟩⟩⟩
def mode_sizes : { w : WX // ∀ c, C3 c → Def c 368 ["version"] [] (shP 1) w } := ⟨_, fun c hC => ⟨⟨_, _, _, _, _, by k_in, rfl, by k_in, ⟨by decide, by decide, by decide⟩, ⟨rfl, rfl, rfl, rfl, rfl⟩, sh1 (fun _ => rfl), fun L env he => by
  simp only [List.cons_append, List.nil_append]
  kda_here⟩⟩⟩
def to_bytes : { w : WX // ∀ c, C3 c → Def c 397 ["data"] [] (shP 1) w } := ⟨_, fun c hC => ⟨⟨_, _, _, _, _, by k_in, rfl, by k_in, ⟨by decide, by decide, by decide⟩, ⟨rfl, rfl, rfl, rfl, rfl⟩, sh1 (fun _ => rfl), fun L env he => by
  simp only [List.cons_append, List.nil_append]
  kda_here⟩⟩⟩
def chk_ver : { w : WX // ∀ c, C3 c → Def c 375 ["version"] [] (shP 1) w } := ⟨_, fun c hC => ⟨⟨_, _, _, _, _, by k_in, rfl, by k_in, ⟨by decide, by decide, by decide⟩, ⟨rfl, rfl, rfl, rfl, rfl⟩, sh1 (fun _ => rfl), fun L env he => by
  simp only [List.cons_append, List.nil_append]
  kda_here⟩⟩⟩
def chk_box : { w : WX // ∀ c, C3 c → Def c 508 ["size"] [] (shP 1) w } := ⟨_, fun c hC => ⟨⟨_, _, _, _, _, by k_in, rfl, by k_in, ⟨by decide, by decide, by decide⟩, ⟨rfl, rfl, rfl, rfl, rfl⟩, sh1 (fun _ => rfl), fun L env he => by
  simp only [List.cons_append, List.nil_append]
  kda_here⟩⟩⟩
def chk_border : { w : WX // ∀ c, C3 c → Def c 515 ["size"] [] (shP 1) w } := ⟨_, fun c hC => ⟨⟨_, _, _, _, _, by k_in, rfl, by k_in, ⟨by decide, by decide, by decide⟩, ⟨rfl, rfl, rfl, rfl, rfl⟩, sh1 (fun _ => rfl), fun L env he => by
  simp only [List.cons_append, List.nil_append]
  kda_here⟩⟩⟩
def chk_mask : { w : WX // ∀ c, C3 c → Def c 522 ["mask_pattern"] [] (shP 1) w } := ⟨_, fun c hC => ⟨⟨_, _, _, _, _, by k_in, rfl, by k_in, ⟨by decide, by decide, by decide⟩, ⟨rfl, rfl, rfl, rfl, rfl⟩, sh1 (fun _ => rfl), fun L env he => by
  simp only [List.cons_append, List.nil_append]
  kda_here⟩⟩⟩
def qr_ver_g : { w : WX // ∀ c, C3 c → Def c 544 ["self"] [] (shP 1) w } := ⟨_, fun c hC => ⟨⟨_, _, _, _, _, by k_in, rfl, by k_in, ⟨by decide, by decide, by decide⟩, ⟨rfl, rfl, rfl, rfl, rfl⟩, sh1 (fun _ => rfl), fun L env he => by
  simp only [List.cons_append, List.nil_append]
  kda_here⟩⟩⟩
def qr_ver_s : { w : WX // ∀ c, C3 c → Def c 553 ["self", "value"] [] (shP 2) w } := ⟨_, fun c hC => ⟨⟨_, _, _, _, _, by k_in, rfl, by k_in, ⟨by decide, by decide, by decide⟩, ⟨rfl, rfl, rfl, rfl, rfl⟩, sh2 (fun _ _ => rfl), fun L env he => by
  simp only [List.cons_append, List.nil_append]
  kda_here⟩⟩⟩
def qr_mask_s : { w : WX // ∀ c, C3 c → Def c 570 ["self", "pattern"] [] (shP 2) w } := ⟨_, fun c hC => ⟨⟨_, _, _, _, _, by k_in, rfl, by k_in, ⟨by decide, by decide, by decide⟩, ⟨rfl, rfl, rfl, rfl, rfl⟩, sh2 (fun _ _ => rfl), fun L env he => by
  simp only [List.cons_append, List.nil_append]
  kda_here⟩⟩⟩
def qr_clear : { w : WX // ∀ c, C3 c → Def c 578 ["self"] [] (shP 1) w } := ⟨_, fun c hC => ⟨⟨_, _, _, _, _, by k_in, rfl, by k_in, ⟨by decide, by decide, by decide⟩, ⟨rfl, rfl, rfl, rfl, rfl⟩, sh1 (fun _ => rfl), fun L env he => by
  simp only [List.cons_append, List.nil_append]
  kda_here⟩⟩⟩
def next : { w : WX // ∀ c, C3 c → Def c 686 ["state", "many"] ["found"] (shP 2) w } := ⟨_, fun c hC => ⟨⟨_, _, _, _, _, by k_in, rfl, by k_in, ⟨by decide, by decide, by decide⟩, ⟨rfl, rfl, rfl, rfl, rfl⟩, sh2 (fun _ _ => rfl), fun L env he => by
  simp only [List.cons_append, List.nil_append]
  kda_here⟩⟩⟩
def lsize : { w : WX // ∀ c, C3 c → Def c 698 ["texts", "version"] ["wide", "told", "mode", "size"] (shP 2) w } := ⟨_, fun c hC => ⟨⟨_, _, _, _, _, by k_in, rfl, by k_in, ⟨by decide, by decide, by decide⟩, ⟨rfl, rfl, rfl, rfl, rfl⟩, sh2 (fun _ _ => rfl), fun L env he => by
  simp only [List.cons_append, List.nil_append]
  kda_here⟩⟩⟩
end
section
open PySem PySem.W PyProof.Rows PySem.Calls
set_option maxRecDepth 100000
set_option maxHeartbeats 4000000
def shQI : Shape := fun a k v => (∃ s d m, a = [s, d] ∧ k = [(("mode" : Str), m)] ∧ v = [s, d, m, .bool true]) ∨ (∃ s d m q, a = [s, d] ∧ k = [(("mode" : Str), m), (("check_data" : Str), q)] ∧ v = [s, d, m, q])
theorem shQI_ok {c : Cx} {fd : FuncData} {T : Addr} {o : Obj} {items : Array Value} {n : Nat} (ho : c.K.lookup T = some o) (hd : fd.defaults = .ref T) (hs : o.data = .seq items n)
    (h1 : ∀ a b d, ∃ k, bindArgs fd ⟨[a, b], [(("mode" : Str), d)]⟩ = seqItems? fd.defaults >>= k ∧ k (some items) = pure [(("self" : Str), a), (("data" : Str), b), (("mode" : Str), d), (("check_data" : Str), .bool true)])
    (h2 : ∀ a b d e, ∃ k, bindArgs fd ⟨[a, b], [(("mode" : Str), d), (("check_data" : Str), e)]⟩ = seqItems? fd.defaults >>= k ∧ k (some items) = pure [(("self" : Str), a), (("data" : Str), b), (("mode" : Str), d), (("check_data" : Str), e)]) :
    ∀ args kw vals, shQI args kw vals → BindA c fd args kw (List.zip ["self", "data", "mode", "check_data"] vals) ∧ vals.length = List.length (α := Str) ["self", "data", "mode", "check_data"] := by
  rintro args kw vals (⟨s, d, m, rfl, rfl, rfl⟩ | ⟨s, d, m, q, rfl, rfl, rfl⟩)
  · refine ⟨bindD ho hd hs fun ws kws hw hk => ?_, rfl⟩
    obtain ⟨a, b, rfl⟩ := len2 hw
    obtain ⟨x, rfl⟩ := len1 hk
    obtain ⟨k, e1, e2⟩ := h1 a b x
    exact ⟨k, _, e1, e2, fun z ρ rl rk => ⟨rfl, .cons (vrl2 rl).1 (.cons (vrl2 rl).2 (.cons (vrl1 rk) (.cons (.bool _) .nil)))⟩⟩
  · refine ⟨bindD ho hd hs fun ws kws hw hk => ?_, rfl⟩
    obtain ⟨a, b, rfl⟩ := len2 hw
    obtain ⟨x, y, rfl⟩ := len2 hk
    obtain ⟨k, e1, e2⟩ := h2 a b x y
    exact ⟨k, _, e1, e2, fun z ρ rl rk => ⟨rfl, .cons (vrl2 rl).1 (.cons (vrl2 rl).2 (.cons (vrl2 rk).1 (.cons (vrl2 rk).2 .nil)))⟩⟩
def qd_init : { w : WX // ∀ c, C3 c → Def c 419 ["self", "data", "mode", "check_data"] [] shQI w } := ⟨_, fun c hC => ⟨⟨_, _, _, _, _, by k_in, rfl, by k_in, ⟨by decide, by decide, by decide⟩, ⟨rfl, rfl, rfl, rfl, rfl⟩, (by
  refine' shQI_ok ?b1 ?a1 ?c1 ?d1 ?e1
  case a1 => rfl
  case b1 => k_in
  case c1 => rfl
  case d1 => exact fun _ _ _ => ⟨_, rfl, rfl⟩
  case e1 => exact fun _ _ _ _ => ⟨_, rfl, rfl⟩), fun L env he => by
  simp only [List.cons_append, List.nil_append]
  kda_here⟩⟩⟩

def shBF : Shape := fun a k v => (∃ s, a = [s] ∧ k = [] ∧ v = [s, .none]) ∨ (∃ s u, a = [s] ∧ k = [(("start" : Str), u)] ∧ v = [s, u])
theorem shBF_ok {c : Cx} {fd : FuncData} {T : Addr} {o : Obj} {items : Array Value} {n : Nat} (ho : c.K.lookup T = some o) (hd : fd.defaults = .ref T) (hs : o.data = .seq items n)
    (h1 : ∀ a, ∃ k, bindArgs fd ⟨[a], []⟩ = seqItems? fd.defaults >>= k ∧ k (some items) = pure [(("self" : Str), a), (("start" : Str), .none)])
    (h2 : ∀ a b, ∃ k, bindArgs fd ⟨[a], [(("start" : Str), b)]⟩ = seqItems? fd.defaults >>= k ∧ k (some items) = pure [(("self" : Str), a), (("start" : Str), b)]) :
    ∀ args kw vals, shBF args kw vals → BindA c fd args kw (List.zip ["self", "start"] vals) ∧ vals.length = List.length (α := Str) ["self", "start"] := by
  rintro args kw vals (⟨s, rfl, rfl, rfl⟩ | ⟨s, u, rfl, rfl, rfl⟩)
  · refine ⟨bindD ho hd hs fun ws kws hw hk => ?_, rfl⟩
    obtain ⟨a, rfl⟩ := len1 hw
    obtain rfl := len0 hk
    obtain ⟨k, e1, e2⟩ := h1 a
    exact ⟨k, _, e1, e2, fun z ρ rl rk => ⟨rfl, .cons (vrl1 rl) (.cons .none .nil)⟩⟩
  · refine ⟨bindD ho hd hs fun ws kws hw hk => ?_, rfl⟩
    obtain ⟨a, rfl⟩ := len1 hw
    obtain ⟨x, rfl⟩ := len1 hk
    obtain ⟨k, e1, e2⟩ := h2 a x
    exact ⟨k, _, e1, e2, fun z ρ rl rk => ⟨rfl, .cons (vrl1 rl) (.cons (vrl1 rk) .nil)⟩⟩
def best_fit : { w : WX // ∀ c, C3 c → Def c 616 ["self", "start"] ["mode_sizes", "buffer", "data", "needed_bits"] shBF w } := ⟨_, fun c hC => ⟨⟨_, _, _, _, _, by k_in, rfl, by k_in, ⟨by decide, by decide, by decide⟩, ⟨rfl, rfl, rfl, rfl, rfl⟩, (by
  refine' shBF_ok ?b1 ?a1 ?c1 ?d1 ?e1
  case a1 => rfl
  case b1 => k_in
  case c1 => rfl
  case d1 => exact fun _ => ⟨_, rfl, rfl⟩
  case e1 => exact fun _ _ => ⟨_, rfl, rfl⟩), fun L env he => by
  simp only [List.cons_append, List.nil_append]
  kda_here⟩⟩⟩
end
section
open PySem PySem.W PyProof.Rows PySem.Calls
set_option maxRecDepth 100000
set_option maxHeartbeats 4000000
theorem put_bit_ {c : Cx} (hC : C3 c) {D : Nat} {σ : Hp} {i j : Nat} {p : Buf} {b : Bool} {Q : V → Hp → Prop} (hb : IsBuf 497 σ i j p)
    (h : Q .none (bufH 497 σ i j (pbit p b))) : FC c (D + 1) (.val (.ref 494)) [.ref i, .bool b] [] σ Q := by
  unfold bufH at h
  obtain ⟨ns, n⟩ := p
  obtain ⟨hi, hj, h0, h1, h2⟩ := hb
  simp only at h0 h1 h2 hi hj
  have hij : i ≠ j := at_ne hi hj (by simp)
  have e8 : (n : Int).fdiv 8 = ((n / 8 : Nat) : Int) := fdivN n 8
  have m8 : (n : Int).fmod 8 = ((n % 8 : Nat) : Int) := fmodN n 8
  have s1 : (128 : Int).fdiv (2 ^ ((n % 8 : Nat) : Int).toNat) = ((128 / 2 ^ (n % 8) : Nat) : Int) := by
    rw [Int.toNat_natCast]; have := fdivN 128 (2 ^ (n % 8)); simpa using this
  refine (put_bit.2 c hC).fc (X3 c D) rfl (X3_ok hC D) ⟨rfl, rfl, rfl⟩ ?_
  repeat' walk_at "vc"
  rw [e8]
  repeat' walk_at "vc"
  conv => whnf
  have key : ∀ (b' : Bool) (us : List Int), padB ns n = us → n / 8 < us.length → us.length ≤ 900000 → ∀ τ : Hp, τ = σ.set j (.list (us.map V.int)) →
      br b (augSubX Operator.BitOr (attrW 6 (locW 0)) (locW 2) (binW Operator.RShift (cstW (V.int 128)) (binW Operator.Mod (attrW 7 (locW 0)) (cstW (V.int 8)))) (X3 c D) [V.ref i, V.bool b, V.int ↑(n / 8)] τ
        (thn (fun l₁ σ₁ => augSetX 7 Operator.Add (locW 0) (cstW (V.int 1)) (X3 c D) l₁ σ₁ (pst Q)) (pst Q)))
      (nilX (X3 c D) [V.ref i, V.bool b, V.int ↑(n / 8)] τ (thn (fun l₁ σ₁ => augSetX 7 Operator.Add (locW 0) (cstW (V.int 1)) (X3 c D) l₁ σ₁ (pst Q)) (pst Q))) := by
    intro b' us hpad hlt hz τ hτ
    have hi' : τ[i]? = some (.inst 497 [(6, .ref j), (7, .int n)]) := by rw [hτ]; exact at_other (Ne.symm hij) hi
    have hj' : τ[j]? = some (.list (us.map V.int)) := by rw [hτ]; exact at_same hj
    refine br_both (fun hb2 => ?_) (fun hb2 => ?_)
    · repeat' walk_at "vc"
      rw [m8]
      repeat' walk_at "vc"
      rw [s1]
      repeat' walk_at "vc"
      conv => whnf
      have e : (pbit (ns, n) b).1 = us.set (n / 8) (Builtin.bitOr (us.getD (n / 8) 0) ((128 / 2 ^ (n % 8) : Nat) : Int)) := by unfold pbit putB; rw [hpad, hb2]; simp
      rw [e] at h
      rw [mapSet, hτ, List.set_set]
      exact h
    · repeat' walk_at "vc"
      conv => whnf
      have e : (pbit (ns, n) b).1 = us := by unfold pbit putB; rw [hpad, hb2]; simp
      rw [e] at h
      rw [hτ]
      exact h
  refine br_both (fun hb => ?_) (fun hb => ?_)
  · have hb' := of_decide_eq_true hb
    rw [List.length_map] at hb'
    have hpad : padB ns n = ns ++ [0] := by unfold padB; rw [if_pos (by omega)]
    repeat' walk_at "vc"
    conv => whnf
    exact key b (ns ++ [0]) hpad (by simp; omega) (by simp; omega) _ (by rw [mapApp])
  · have hb' := of_decide_eq_false hb
    rw [List.length_map] at hb'
    have hpad : padB ns n = ns := by unfold padB; rw [if_neg (by omega)]
    conv => whnf
    exact key b ns hpad (by omega) (by omega) _ (Mine.set_same hj).symm

theorem put_ {c : Cx} (hC : C3 c) {D : Nat} {σ : Hp} {i j len : Nat} {num : Int} {p : Buf} {Q : V → Hp → Prop} (hb : IsBuf 497 σ i j p) (hlen : p.2 + len ≤ 100000)
    (h : Q .none (bufH 497 σ i j (pbits p (bitsOf num len)))) : FC c (D + 2) (.val (.ref 480)) [.ref i, .int num, .int len] [] σ Q := by
  refine (put.2 c hC).fc (X3 c (D + 1)) rfl (X3_ok hC _) ⟨rfl, rfl, rfl⟩ ?_
  repeat' walk_at "vc"
  conv => whnf
  refine forJ_of (fun k l σ₁ => k ≤ len ∧ ∃ u, l = [.ref i, .int num, .int len, u] ∧ σ₁ = bufH 497 σ i j (pbits p ((bitsOf num len).take k))) ⟨Nat.zero_le _, _, rfl, hb.self.symm⟩ (fun _ _ _ _ => trivial) ?_ ?_
  · rintro k v l σ₁ hv ⟨_, u, rfl, rfl⟩
    obtain ⟨hk, rfl⟩ := rng_get1 hv
    have hk' : k < len := by omega
    have hok : BOk (pbits p ((bitsOf num len).take k)) := pbits_ok hb.2.2 (by rw [List.length_take, bitsOf_len]; omega)
    obtain ⟨b1, b2, b3⟩ := hb.buf hok
    repeat' walk_at "vc"
    conv => whnf
    have e : ((len : Int) - (0 + (k : Int)) - 1).toNat = len - k - 1 := by omega
    rw [e]
    refine put_bit_ hC ⟨b1, b2, b3⟩ ?_
    refine ⟨hk', _, rfl, ?_⟩
    rw [bufH_twice hb.ne, take_get (bitsOf_get hk'), pbits_append]
    rfl
  · rintro l σ₁ ⟨_, u, rfl, rfl⟩
    have e : (rngVs 0 1 ((len : Int) - 0).toNat).length = len := by rw [rng_len]; omega
    rw [e, List.take_of_length_le (by rw [bitsOf_len]; exact Nat.le_refl _)]
    exact h
end
section
open PySem PySem.W PyProof.Rows PySem.Calls
theorem clip_nat (n i : Nat) : clipAt n (i : Int) = min i n := by
  unfold clipAt; split <;> omega
theorem cut_nn {α : Type} (l : List α) (a d : Nat) : cut l (some (a : Int)) (some ((a + d : Nat) : Int)) = (l.drop a).take d := by
  unfold cut
  simp only [Option.elim, clip_nat]
  by_cases h : a ≤ l.length
  · rw [Nat.min_eq_left h]
    by_cases h2 : a + d ≤ l.length
    · rw [Nat.min_eq_left h2]; congr 1; omega
    · rw [Nat.min_eq_right (by omega)]
      rw [List.take_of_length_le (by rw [List.length_drop]; omega), List.take_of_length_le (by rw [List.length_drop]; omega)]
  · rw [List.drop_eq_nil_of_le (as := l) (i := min a l.length) (by omega), List.drop_eq_nil_of_le (as := l) (i := a) (by omega)]
    simp
/-- the bits of a run of figures -/
def numC : List UInt8 → List Bool
  | [x] => bitsOf ((x.toNat - 48 : Nat) : Int) 4
  | [x, y] => bitsOf ((10 * (x.toNat - 48) + (y.toNat - 48) : Nat) : Int) 7
  | [x, y, z] => bitsOf ((100 * (x.toNat - 48) + 10 * (y.toNat - 48) + (z.toNat - 48) : Nat) : Int) 10
  | _ => []
def numBits (b : List UInt8) : List Bool := (List.range ((b.length + 2) / 3)).flatMap fun k => numC ((b.drop (3 * k)).take 3)
def alphaS : List UInt8 := [48, 49, 50, 51, 52, 53, 54, 55, 56, 57, 65, 66, 67, 68, 69, 70, 71, 72, 73, 74, 75, 76, 77, 78, 79, 80, 81, 82, 83, 84, 85, 86, 87, 88, 89, 90, 32, 36, 37, 42, 43, 45, 46, 47, 58]
def alphaC : List UInt8 → List Bool
  | [x] => bitsOf (FX.findB alphaS.toArray #[x]) 6
  | [x, y] => bitsOf (FX.findB alphaS.toArray #[x] * 45 + FX.findB alphaS.toArray #[y]) 11
  | _ => []
def alphaBits (b : List UInt8) : List Bool := (List.range ((b.length + 1) / 2)).flatMap fun k => alphaC ((b.drop (2 * k)).take 2)
def byteBits (b : List UInt8) : List Bool := b.flatMap fun x => bitsOf (x.toNat : Int) 8
def wbits (m : Int) (b : List UInt8) : List Bool := if m = 1 then numBits b else if m = 2 then alphaBits b else byteBits b
theorem rng_pos {b c : Int} (hb0 : 0 ≤ b) (hb : b ≤ 1000000) (hc : 1 ≤ c) (hc2 : c ≤ 1000) : Builtin.Range.small 0 b c = true ∧ 0 ≤ Builtin.Range.rangeSize 0 b c := by
  have h1 : 0 ≤ (b + c - 1) / c := Int.ediv_nonneg (by omega) (by omega)
  have h2 : (b + c - 1) / c ≤ b + c - 1 := Int.ediv_le_self _ (by omega)
  rw [Builtin.Range.small, rangeSize_pos hc hb0]
  refine ⟨?_, h1⟩
  simp only [Builtin.Range.rangeFitsLong, Bool.and_eq_true, Bool.or_eq_true, decide_eq_true_eq, beq_iff_eq]
  refine ⟨⟨⟨⟨⟨by omega, by omega⟩, ⟨by omega, by omega⟩⟩, ⟨by omega, by omega⟩⟩, ⟨by omega, by omega⟩⟩, .inr ?_⟩
  rw [if_pos (by omega)]
  simp only [Bool.and_eq_true, decide_eq_true_eq]
  exact ⟨by omega, by omega⟩
theorem rng_size (n c : Nat) (hc : 0 < c) : (Builtin.Range.rangeSize 0 (n : Int) (c : Int)).toNat = (n + c - 1) / c := by
  rw [rangeSize_pos (by omega) (by omega)]
  have : ((n : Int) + c - 1) / c = (((n + c - 1) / c : Nat) : Int) := by
    rw [Int.natCast_ediv]; congr 1; omega
  rw [this, Int.toNat_natCast]
theorem rng_getS {a st : Int} {n k : Nat} {v : V} (h : (rngVs a st n)[k]? = some v) : k < n ∧ v = .int (a + k * st) := by
  unfold rngVs at h
  obtain ⟨h1, h2⟩ := List.getElem?_eq_some_iff.mp h
  have h3 : k < n := by simpa using h1
  refine ⟨h3, ?_⟩
  rw [← h2]
  simp
theorem flat_take {α β : Type} (f : α → List β) {l : List α} {k : Nat} {x : α} (h : l[k]? = some x) : (l.take (k + 1)).flatMap f = (l.take k).flatMap f ++ f x := by
  rw [take_get h, List.flatMap_append]; simp
theorem flat_le {α β : Type} (f : α → List β) (l : List α) (k : Nat) : ((l.take k).flatMap f).length ≤ (l.flatMap f).length := by
  have : l.flatMap f = (l.take k).flatMap f ++ (l.drop k).flatMap f := by rw [← List.flatMap_append, List.take_append_drop]
  rw [this, List.length_append]; omega
/-- the figure that up to three signs say -/
inductive Num3 : List UInt8 → Int → Nat → Prop
  | one {x} : 48 ≤ x.toNat → x.toNat ≤ 57 → Num3 [x] ((x.toNat - 48 : Nat) : Int) 4
  | two {x y} : 48 ≤ x.toNat → x.toNat ≤ 57 → 48 ≤ y.toNat → y.toNat ≤ 57 → Num3 [x, y] ((10 * (x.toNat - 48) + (y.toNat - 48) : Nat) : Int) 7
  | three {x y z} : 48 ≤ x.toNat → x.toNat ≤ 57 → 48 ≤ y.toNat → y.toNat ≤ 57 → 48 ≤ z.toNat → z.toNat ≤ 57 → Num3 [x, y, z] ((100 * (x.toNat - 48) + 10 * (y.toNat - 48) + (z.toNat - 48) : Nat) : Int) 10
theorem Num3.bits {l : List UInt8} {n : Int} {k : Nat} (h : Num3 l n k) : numC l = bitsOf n k := by cases h <;> rfl
theorem Num3.text {l : List UInt8} {n : Int} {k : Nat} (h : Num3 l n k) : ∃ x : Str, Ascii l x ∧ PySem.intText? x = some n ∧ x.length ≤ 640 := by
  have fin : ∀ x : UInt8, 48 ≤ x.toNat → x.toNat ≤ 57 → ∃ a : Fin 10, x.toNat = 48 + a.val ∧ x.toNat - 48 = a.val := fun x h1 h2 => ⟨⟨x.toNat - 48, by omega⟩, by simp only; omega, rfl⟩
  cases h with
  | @one x h1 h2 =>
    obtain ⟨a, ha, ha'⟩ := fin x h1 h2
    refine ⟨_, .one (by omega), ?_, by simp [Str.length]⟩
    rw [ha, show (48 + a.val - 48) = a.val by omega]; exact FX.int_text1 a
  | @two x y h1 h2 h3 h4 =>
    obtain ⟨a, ha, ha'⟩ := fin x h1 h2
    obtain ⟨b, hb, hb'⟩ := fin y h3 h4
    refine ⟨_, .two (by omega) (by omega), ?_, by simp [Str.length]⟩
    rw [ha', hb', ha, hb]; exact FX.int_text2 a b
  | @three x y z h1 h2 h3 h4 h5 h6 =>
    obtain ⟨a, ha, ha'⟩ := fin x h1 h2
    obtain ⟨b, hb, hb'⟩ := fin y h3 h4
    obtain ⟨d, hd, hd'⟩ := fin z h5 h6
    refine ⟨_, .three (by omega) (by omega) (by omega), ?_, by simp [Str.length]⟩
    rw [ha', hb', hd', ha, hb, hd]; exact FX.int_text3 a b d
theorem num3_of {l : List UInt8} (h : ∀ x ∈ l, 48 ≤ x.toNat ∧ x.toNat ≤ 57) (h0 : 0 < l.length) (h3 : l.length ≤ 3) : ∃ n k, Num3 l n k ∧ (l.length = 1 ∧ k = 4 ∨ l.length = 2 ∧ k = 7 ∨ l.length = 3 ∧ k = 10) := by
  match l, h0, h3 with
  | [x], _, _ => exact ⟨_, _, .one (h x (by simp)).1 (h x (by simp)).2, .inl ⟨rfl, rfl⟩⟩
  | [x, y], _, _ => exact ⟨_, _, .two (h x (by simp)).1 (h x (by simp)).2 (h y (by simp)).1 (h y (by simp)).2, .inr (.inl ⟨rfl, rfl⟩)⟩
  | [x, y, z], _, _ => exact ⟨_, _, .three (h x (by simp)).1 (h x (by simp)).2 (h y (by simp)).1 (h y (by simp)).2 (h z (by simp)).1 (h z (by simp)).2, .inr (.inr ⟨rfl, rfl⟩)⟩
end
section
open PySem PySem.W PyProof.Rows PySem.Calls
set_option maxRecDepth 100000
set_option maxHeartbeats 4000000
theorem bb_new {c : Cx} (hC : C3 c) {D : Nat} {σ : Hp} {Q : V → Hp → Prop} (h : Q (.ref σ.length) (σ ++ [.inst 497 [(6, .ref (σ.length + 1)), (7, .int 0)], .list []])) : FC c (D + 2) (.val (.ref 497)) [] [] σ Q := by
  refine FC.cls (fI := 461) ⟨by k_in, by k_in, by k_in⟩ ?_
  refine (bb_init.2 c hC).fc (X3 c D) rfl (X3_ok hC _) ⟨rfl, rfl, rfl⟩ ?_
  repeat' walk_at "vc"
  all_goals (conv => whnf)
  all_goals first | (refine ⟨rfl, ?_⟩; simpa using h) | simpa using h
theorem bb_len_ {c : Cx} (hC : C3 c) {D : Nat} {σ : Hp} {i j : Nat} {p : Buf} {Q : V → Hp → Prop} (hb : IsBuf 497 σ i j p) (h : Q (.int p.2) σ) : FC c (D + 1) (.val (.ref 487)) [.ref i] [] σ Q := by
  obtain ⟨hi, hj, _⟩ := hb
  refine (bb_len.2 c hC).fc (X3 c D) rfl (X3_ok hC _) ⟨rfl, rfl, rfl⟩ ?_
  repeat' walk_at "vc"
  all_goals (conv => whnf)
  all_goals exact h
theorem qd_len_ {c : Cx} (hC : C3 c) {D : Nat} {σ : Hp} {m : V} {b : List UInt8} {Q : V → Hp → Prop} (hz : b.length ≤ 1000000) (h : Q (.int b.length) σ) : FC c (D + 1) (.val (.ref 426)) [.obj 443 [(11, m), (12, .bytes b)]] [] σ Q := by
  refine (qd_len.2 c hC).fc (X3 c D) rfl (X3_ok hC _) ⟨rfl, rfl, rfl⟩ ?_
  repeat' walk_at "vc"
  all_goals (conv => whnf)
  all_goals exact h
def modeAddr (v : Int) : Addr := if v < 10 then 353 else if v < 27 then 354 else 355
theorem mode_sizes_ {c : Cx} (hC : C3 c) {D : Nat} {σ : Hp} {v : Int} {Q : V → Hp → Prop} (h : Q (.val (.ref (modeAddr v))) σ) : FC c (D + 1) (.val (.ref 368)) [.int v] [] σ Q := by
  refine (mode_sizes.2 c hC).fc (X3 c D) rfl (X3_ok hC _) ⟨rfl, rfl, rfl⟩ ?_
  conv => whnf
  unfold modeAddr at h
  refine br_both (fun hb => ?_) (fun hb => ?_)
  · rw [if_pos (of_decide_eq_true hb)] at h
    conv => whnf
    exact h
  · rw [if_neg (of_decide_eq_false hb)] at h
    conv => whnf
    refine br_both (fun hb => ?_) (fun hb => ?_)
    · rw [if_pos (of_decide_eq_true hb)] at h
      conv => whnf
      exact h
    · rw [if_neg (of_decide_eq_false hb)] at h
      conv => whnf
      exact h
theorem chk_ver_ {c : Cx} (hC : C3 c) {D : Nat} {σ : Hp} {v : Int} {Q : V → Hp → Prop} (h1 : 1 ≤ v) (h2 : v ≤ 40) (h : Q .none σ) : FC c (D + 1) (.val (.ref 375)) [.int v] [] σ Q := by
  refine (chk_ver.2 c hC).fc (X3 c D) rfl (X3_ok hC _) ⟨rfl, rfl, rfl⟩ ?_
  repeat' walk_at "vc"
  all_goals (conv => whnf)
  all_goals exact h
theorem to_bytes_ {c : Cx} (hC : C3 c) {D : Nat} {σ : Hp} {b : List UInt8} {Q : V → Hp → Prop} (h : Q (.bytes b) σ) : FC c (D + 1) (.val (.ref 397)) [.bytes b] [] σ Q := by
  refine (to_bytes.2 c hC).fc (X3 c D) rfl (X3_ok hC _) ⟨rfl, rfl, rfl⟩ ?_
  conv => whnf
  refine ⟨rfl, ?_⟩
  repeat' walk_at "vc"
  all_goals (conv => whnf)
  all_goals exact h
end
section
open PySem PySem.W PyProof.Rows PySem.Calls
set_option maxRecDepth 100000
set_option maxHeartbeats 4000000
def stO (k : Nat) (p s : Int) : AO := .list [.ref k, .int p, .int s]
/-- the draws' state -/
structure IsSt (σ : Hp) (i k : Nat) (ns : List Int) (p s : Int) : Prop where
  hi : σ[i]? = some (stO k p s)
  hk : σ[k]? = some (.list (ns.map V.int))
  p0 : 0 ≤ p
  s0 : 0 ≤ s
  s1 : s < 2147483647
  nz : ns.length ≤ 100
theorem IsSt.ne {σ : Hp} {i k : Nat} {ns : List Int} {p s : Int} (h : IsSt σ i k ns p s) : i ≠ k := by
  intro e
  have h1 := h.hi
  rw [e, h.hk] at h1
  unfold stO at h1
  cases ns <;> simp at h1
theorem IsSt.set {σ : Hp} {i k : Nat} {ns : List Int} {p s p' s' : Int} (h : IsSt σ i k ns p s) (h0 : 0 ≤ p') (h1 : 0 ≤ s') (h2 : s' < 2147483647) : IsSt (σ.set i (stO k p' s')) i k ns p' s' :=
  ⟨at_same h.hi, at_other h.ne h.hk, h0, h1, h2, h.nz⟩
theorem next_ {c : Cx} (hC : C3 c) {D : Nat} {σ : Hp} {i k : Nat} {ns : List Int} {p s many : Int} {Q : V → Hp → Prop} (hs : IsSt σ i k ns p s) (hm : 1 ≤ many)
    (h : ∀ r p' s', 0 ≤ r → r < many → 0 ≤ p' → 0 ≤ s' → s' < 2147483647 → Q (.int r) (σ.set i (stO k p' s'))) : FC c (D + 1) (.val (.ref 686)) [.ref i, .int many] [] σ Q := by
  have hne := hs.ne
  obtain ⟨hi, hk, p0, s0, s1, nz⟩ := hs
  unfold stO at hi h
  refine (next.2 c hC).fc (X3 c D) rfl (X3_ok hC _) ⟨rfl, rfl, rfl⟩ ?_
  repeat' walk_at "vc"
  conv => whnf
  refine br_both (fun hb => ?_) (fun hb => ?_)
  · have hlt := of_decide_eq_true hb
    rw [List.length_map] at hlt
    repeat' walk_at "vc"
    conv => whnf
    rw [List.set_set]
    exact h _ (p + 1) _ (Int.fmod_nonneg_of_pos _ (by omega)) (Int.fmod_lt_of_pos _ (by omega)) (by omega) (Int.fmod_nonneg_of_pos _ (by omega)) (Int.fmod_lt_of_pos _ (by omega))
  · have q0 : 0 ≤ (s * 48271 + 11).fmod 2147483647 := Int.fmod_nonneg_of_pos _ (by omega)
    have q1 : (s * 48271 + 11).fmod 2147483647 < 2147483647 := Int.fmod_lt_of_pos _ (by omega)
    repeat' walk_at "vc"
    conv => whnf
    exact h _ p _ (Int.fmod_nonneg_of_pos _ (by omega)) (Int.fmod_lt_of_pos _ (by omega)) (by omega) q0 q1
end
section
open PySem PySem.W PyProof.Rows PySem.Calls
set_option maxRecDepth 100000
set_option maxHeartbeats 4000000
local macro_rules | `(tactic| walk_at "cel") => `(tactic| (first
  | ((with_reducible show CE _ _ _ (Expr.Name ("state" : Str) _) _); refine' ce_cell ?awa; (case awa => k_mem))
  | ((with_reducible show CE _ _ _ (Expr.Name ("signs" : Str) _) _); refine' ce_cell ?awa; (case awa => k_mem))
  | ((with_reducible show CX _ _ _ (Stmt.Assign [Expr.Name ("signs" : Str) _] _ _) _); refine' cx_asgC ?awx ?awa; (case awx => k_mem); (case awa => kda_here))
  | ((with_reducible show CE _ _ _ (Expr.ListComp _ _ _ _) _); refine' ce_comp (xs := ["_", "state", "signs"]) ?c1 ?c2 ?c3 ?c4 ?c5 ?c6 ?c7 ?c8 ?c9 ?c10; (case c1 => (subst_vars; rfl)); (case c2 => decide); (case c3 => rfl); (case c4 => decide); (case c5 => decide);
      (case c6 => exact .loc (.fre at2 (by subst_vars; rfl) (.inl (by subst_vars; rfl)) (.fre at3 (by subst_vars; rfl) (.inl (by subst_vars; rfl)) .nil))); (case c7 => kda_here); (case c8 => (intro C env' he'; kda_here)); (case c9 => (intro C env' he'; exact cbt_nil)); (case c10 => (intro C env' he'; kda_here)))))
local macro_rules | `(tactic| kda_here) => `(tactic| walk_at "cel")
def octets : { w : WX // ∀ c, C3 c → DefC c 691 ["state", "size"] ["size"] ["kind"] ["state", "signs"] (fun v => v.drop 1) (fun v => [nth v 0, .unb]) (shP 2) w } := ⟨_, fun c hC => ⟨⟨_, _, _, _, _, by k_in, rfl, by k_in, ⟨fun _ => rfl, by decide, by decide, by decide, by decide, by decide⟩, ⟨rfl, rfl, rfl, rfl, rfl, rfl⟩, (by
  intro vals h
  obtain ⟨a, b, rfl⟩ := len2 h
  exact ⟨rfl, rfl, rfl⟩), sh2 (fun _ _ => rfl), fun L env he => by
  simp only [List.cons_append, List.nil_append]
  kda_here⟩⟩⟩
end
section
open PySem PySem.W PyProof.Rows PySem.Calls
set_option maxRecDepth 100000
set_option maxHeartbeats 4000000
theorem Hp.bl_set {n : Nat} : ∀ {σ : Hp} {i : Nat} {o : AO}, Hp.bl n σ → o.bl n → Hp.bl n (σ.set i o)
  | [], _, _, _, _ => trivial
  | _ :: _, 0, _, h, ho => ⟨ho, h.2⟩
  | _ :: _, i + 1, _, h, ho => ⟨h.1, Hp.bl_set (i := i) h.2 ho⟩
theorem IsSt.app {σ : Hp} {i k : Nat} {ns : List Int} {p s : Int} (h : IsSt σ i k ns p s) (τ : Hp) : IsSt (σ ++ τ) i k ns p s :=
  ⟨at_app h.hi, at_app h.hk, h.p0, h.s0, h.s1, h.nz⟩
theorem IsSt.lt {σ : Hp} {i k : Nat} {ns : List Int} {p s : Int} (h : IsSt σ i k ns p s) : i < σ.length ∧ k < σ.length :=
  ⟨(List.getElem?_eq_some_iff.mp h.hi).1, (List.getElem?_eq_some_iff.mp h.hk).1⟩
theorem IsSt.bl {σ : Hp} {i k : Nat} {ns : List Int} {p s : Int} (h : IsSt σ i k ns p s) (hb : Hp.bl σ.length σ) (p' s' : Int) : Hp.bl (σ.set i (stO k p' s')).length (σ.set i (stO k p' s')) := by
  rw [List.length_set]
  exact Hp.bl_set hb ⟨h.lt.2, trivial, trivial, trivial⟩
theorem set_app {α : Type} {σ τ : List α} {i : Nat} {o : α} (h : i < σ.length) : (σ ++ τ).set i o = σ.set i o ++ τ := List.set_append_left _ _ h
theorem t0 {σ r : Hp} {i : Nat} {o a : AO} : (σ.set i o ++ a :: r)[σ.length]? = some a := by simp
theorem t1 {σ r : Hp} {i : Nat} {o a b : AO} : (σ.set i o ++ a :: b :: r)[σ.length + 1]? = some b := by simp
theorem t1s {σ r : Hp} {i : Nat} {o a b b' : AO} : (σ.set i o ++ a :: b :: r).set (σ.length + 1) b' = σ.set i o ++ a :: b' :: r := by
  rw [List.set_append_right _ _ (by simp)]
  simp
theorem tss {σ r : Hp} {i : Nat} {o o' : AO} (h : i < σ.length) : (σ.set i o ++ r).set i o' = σ.set i o' ++ r := by
  rw [List.set_append_left _ _ (by simpa using h), List.set_set]
abbrev octE : WE := iteW (cmpB CmpOp.Is (celW 2) (cstW V.none)) (callW (Tg.fn 686) (consL (celW 1) (consL (cstW (V.int 256)) nilL)) nilK)
  (itemW (celW 2) (callW (Tg.fn 686) (consL (celW 1) (consL (callW (Tg.bi Bi.len) (consL (celW 2) nilL) nilK) nilL)) nilK))
theorem oct_loop {c : Cx} (hC : C3 c) {D : Nat} {σ rest : Hp} {i k n : Nat} {ns : List Int} {p s p1 s1 : Int} {sg : V} {Q : V → Hp → Prop} (hs : IsSt σ i k ns p s) (hp1 : 0 ≤ p1) (hs0 : 0 ≤ s1) (hs1 : s1 < 2147483647)
    (hsg : sg = .none ∨ ∃ b, sg = .bytes b ∧ 0 < b.length ∧ b.length ≤ 100)
    (h : ∀ (is : List Int) p' s', is.length = n → (∀ x ∈ is, 0 ≤ x ∧ x < 256) → 0 ≤ p' → 0 ≤ s' → s' < 2147483647 → ∀ T : Hp, T = σ.set i (stO k p' s') ++ (.cell (.ref i) :: .cell sg :: rest) → Q (.ref T.length) (T ++ [.list (is.map V.int)])) :
    compJ (X3 c (D + 1)) (asgA 0) (litB true) octE none [.unb, .cell σ.length, .cell (σ.length + 1)] Q (rngVs 0 1 n) (σ.set i (stO k p1 s1) ++ (.cell (.ref i) :: .cell sg :: rest)) := by
  have hlt := hs.lt
  refine compJ_of (fun j acc T => ∃ (is : List Int) (p' s' : Int), acc = is.map V.int ∧ is.length = j ∧ (∀ x ∈ is, 0 ≤ x ∧ x < 256) ∧ 0 ≤ p' ∧ 0 ≤ s' ∧ s' < 2147483647 ∧ T = σ.set i (stO k p' s') ++ (.cell (.ref i) :: .cell sg :: rest))
    ⟨[], p1, s1, rfl, rfl, by simp, hp1, hs0, hs1, rfl⟩ (fun _ _ _ _ => trivial) ?_ ?_
  · rintro j v acc T hv ⟨is, p', s', rfl, rfl, hb, h0, h1, h2, rfl⟩
    have q0 := t0 (σ := σ) (r := .cell sg :: rest) (i := i) (o := stO k p' s') (a := .cell (.ref i))
    have q1 := t1 (σ := σ) (r := rest) (i := i) (o := stO k p' s') (a := .cell (.ref i)) (b := .cell sg)
    have hst : IsSt (σ.set i (stO k p' s') ++ (.cell (.ref i) :: .cell sg :: rest)) i k ns p' s' := (hs.set h0 h1 h2).app _
    generalize hT : σ.set i (stO k p' s') ++ (AO.cell (.ref i) :: .cell sg :: rest) = T at q0 q1 hst
    have fin : ∀ x p'' s'' : Int, 0 ≤ x → x < 256 → 0 ≤ p'' → 0 ≤ s'' → s'' < 2147483647 → ∃ (is' : List Int) (p' s' : Int), is.map V.int ++ [V.int x] = is'.map V.int ∧ is'.length = is.length + 1 ∧ (∀ x ∈ is', 0 ≤ x ∧ x < 256) ∧ 0 ≤ p' ∧ 0 ≤ s' ∧ s' < 2147483647 ∧ T.set i (stO k p'' s'') = σ.set i (stO k p' s') ++ (.cell (.ref i) :: .cell sg :: rest) := by
      intro x p'' s'' x0 x1 a0 a1 a2
      refine ⟨is ++ [x], p'', s'', by simp, by simp, ?_, a0, a1, a2, ?_⟩
      · intro y hy
        rcases List.mem_append.mp hy with hy | hy
        · exact hb y hy
        · rw [List.mem_singleton.mp hy]; exact ⟨x0, x1⟩
      · rw [← hT, tss hlt.1]
    rcases hsg with rfl | ⟨b, rfl, hb0, hb1⟩
    · repeat' walk_at "vc"
      conv => whnf
      refine next_ hC hst (by omega) fun r p2 s2 r0 r1 a0 a1 a2 => ?_
      exact fin r p2 s2 r0 r1 a0 a1 a2
    · repeat' walk_at "vc"
      conv => whnf
      refine next_ hC hst (by omega) fun r p2 s2 r0 r1 a0 a1 a2 => ?_
      repeat' walk_at "vc"
      conv => whnf
      refine fin _ p2 s2 (by omega) ?_ a0 a1 a2
      have := (b.getD r.toNat 0).toNat_lt
      omega
  · rintro acc T ⟨is, p', s', rfl, hl, hb, h0, h1, h2, rfl⟩
    rw [rng_len] at hl
    exact h is p' s' hl hb h0 h1 h2 _ rfl
theorem octets_ {c : Cx} (hC : C3 c) {D : Nat} {σ : Hp} {i k n : Nat} {ns : List Int} {p s : Int} {Q : V → Hp → Prop} (hs : IsSt σ i k ns p s) (hn : n ≤ 1000)
    (h : ∀ (b : List UInt8) p' s', b.length = n → 0 ≤ p' → 0 ≤ s' → s' < 2147483647 → Q (.bytes b) (σ.set i (stO k p' s'))) : FC c (D + 2) (.val (.ref 691)) [.ref i, .int n] [] σ Q := by
  refine FC.wf fun hb _ => FC.gc ?_
  refine (octets.2 c hC).fc (X3 c (D + 1)) rfl (X3_ok hC _) ⟨rfl, rfl, rfl⟩ ?_
  have hlt := hs.lt
  have hst := hs.app [.cell (.ref i), .cell .unb]
  have hc1 : (σ ++ [AO.cell (.ref i), .cell .unb])[σ.length]? = some (.cell (.ref i)) := by simp
  have hc2 : (σ ++ [AO.cell (.ref i), .cell .unb])[σ.length + 1]? = some (.cell .unb) := by simp
  have n1 : i ≠ σ.length := by omega
  have n2 : i ≠ σ.length + 1 := by omega
  show argK [V.int n] ["kind"] fun ls => octets.1 (X3 c (D + 1)) (ls ++ [.cell σ.length, .cell (σ.length + 1)]) (σ ++ [AO.cell (.ref i), .cell .unb]) _
  repeat' walk_at "vc"
  conv => whnf
  refine next_ hC hst (by omega) fun r p1 s1 r0 r4 hp1 hs10 hs11 => ?_
  have st1 := hst.set hp1 hs10 hs11
  repeat' walk_at "vc"
  conv => whnf
  rw [set_app hlt.1]
  have q0 := t0 (σ := σ) (r := [.cell .unb]) (i := i) (o := stO k p1 s1) (a := .cell (.ref i))
  have q1 := t1 (σ := σ) (r := []) (i := i) (o := stO k p1 s1) (a := .cell (.ref i)) (b := .cell .unb)
  have fin : ∀ (is : List Int) (p' s' : Int) (rest : Hp), is.length = n → (∀ x ∈ is, 0 ≤ x ∧ x < 256) → 0 ≤ p' → 0 ≤ s' → s' < 2147483647 →
      ∃ σ'' τ, (σ.set i (stO k p' s') ++ rest) = σ'' ++ τ ∧ σ.length ≤ σ''.length ∧ V.bl σ''.length (.bytes (is.map fun n => n.toNat.toUInt8)) ∧ Hp.bl σ''.length σ'' ∧ Q (.bytes (is.map fun n => n.toNat.toUInt8)) σ'' := by
    intro is p' s' rest hl hbs h0 h1 h2
    exact ⟨_, _, rfl, by rw [List.length_set]; exact Nat.le_refl _, trivial, hs.bl hb p' s', h _ p' s' (by simpa using hl) h0 h1 h2⟩
  have en : ((n : Int) - 0).toNat = n := by omega
  have eA : ∀ (b : V) (L : List V), ((σ.set i (stO k p1 s1) ++ [AO.cell (.ref i), .cell .unb]) ++ [AO.list L]).set (σ.length + 1) (.cell b) = σ.set i (stO k p1 s1) ++ (.cell (.ref i) :: .cell b :: [.list L]) := by
    intro b L
    rw [List.append_assoc]
    exact t1s (r := [AO.list L])
  refine br_both (fun hb3 => ?_) (fun hb3 => ?_)
  · have hr3 := of_decide_eq_true hb3
    obtain rfl | rfl | rfl : r = 0 ∨ r = 1 ∨ r = 2 := by omega
    all_goals
      repeat' walk_at "vc"
      conv => whnf
      refine ⟨⟨_, rfl⟩, ?_⟩
      repeat' walk_at "vc"
      conv => whnf
      refine chk_of (by rw [rng_len]; omega) ?_
      conv => whnf
      rw [en, eA]
      refine oct_loop hC hs hp1 hs10 hs11 (.inr ⟨_, rfl, by decide, by decide⟩) fun is p' s' hl hbs h0 h1 h2 T hT => ?_
      repeat' walk_at "vc"
      conv => whnf
      refine intsV_of rfl ?_
      refine chk_of ⟨hbs, by omega⟩ ?_
      conv => whnf
      rw [hT, List.append_assoc]
      exact fin is p' s' _ hl hbs h0 h1 h2
  · repeat' walk_at "vc"
    conv => whnf
    refine ⟨⟨_, rfl⟩, ?_⟩
    repeat' walk_at "vc"
    conv => whnf
    refine chk_of (by rw [rng_len]; omega) ?_
    conv => whnf
    rw [en, t1s]
    refine oct_loop hC hs hp1 hs10 hs11 (.inl rfl) fun is p' s' hl hbs h0 h1 h2 T hT => ?_
    repeat' walk_at "vc"
    conv => whnf
    refine intsV_of rfl ?_
    refine chk_of ⟨hbs, by omega⟩ ?_
    conv => whnf
    rw [hT, List.append_assoc]
    exact fin is p' s' _ hl hbs h0 h1 h2
end
section
open PySem PySem.W PyProof.Rows PySem.Calls
set_option maxRecDepth 100000
set_option maxHeartbeats 4000000
local macro_rules | `(tactic| walk_at "all") => `(tactic| (
  (refine' ce_allG ?e0 ?e ?hi (C3.gi ‹C3 _›) rfl (by rw [C3.tt ‹C3 _›]; exact List.mem_singleton.mpr rfl) (by rw [C3.tt ‹C3 _›]; intro t ht _; exact List.mem_singleton.mp ht) rfl (by decide) rfl rfl rfl rfl rfl rfl rfl rfl (fun _ => rfl); (case e0 => k_in); (case e => k_in); (case hi => kda_here))))
def opt_mode : { w : WX // ∀ c, C3 c → Def c 404 ["data"] [] (shP 1) w } := ⟨_, fun c hC => ⟨⟨_, _, _, _, _, by k_in, rfl, by k_in, ⟨by decide, by decide, by decide⟩, ⟨rfl, rfl, rfl, rfl, rfl⟩, sh1 (fun _ => rfl), fun L env he => by
  simp only [List.cons_append, List.nil_append]
  refine' cxs_cons (cx_expr ?a0) (cxs_cons (cx_if ?a1 ?a2 ?a3) (cxs_cons (cx_if ?b1 ?b2 ?b3) ?c1))
  case a0 => kda_here
  case a1 => kda_here
  case a2 => kda_here
  case a3 => kda_here
  case b2 => kda_here
  case b3 => kda_here
  case c1 => kda_here
  case b1 =>
    refine' cb_val ?z
    subst he
    walk_at "all"⟩⟩⟩
def shAD : Shape := fun a k v => ∃ s d, a = [s, d] ∧ k = [] ∧ v = [s, d, .int 20]
theorem shAD_ok {c : Cx} {fd : FuncData} {T : Addr} {o : Obj} {items : Array Value} {n : Nat} (ho : c.K.lookup T = some o) (hd : fd.defaults = .ref T) (hs : o.data = .seq items n)
    (h1 : ∀ a b, ∃ k t, bindArgs fd ⟨[a, b], []⟩ = seqItems? fd.defaults >>= k ∧ k (some items) = pure [(("self" : Str), a), (("data" : Str), b), (("optimize" : Str), .int 20 t)]) :
    ∀ args kw vals, shAD args kw vals → BindA c fd args kw (List.zip ["self", "data", "optimize"] vals) ∧ vals.length = List.length (α := Str) ["self", "data", "optimize"] := by
  rintro args kw vals ⟨s, d, rfl, rfl, rfl⟩
  refine ⟨bindD ho hd hs fun ws kws hw hk => ?_, rfl⟩
  obtain ⟨a, b, rfl⟩ := len2 hw
  obtain rfl := len0 hk
  obtain ⟨k, t, e1, e2⟩ := h1 a b
  exact ⟨k, _, e1, e2, fun z ρ rl rk => ⟨rfl, .cons (vrl2 rl).1 (.cons (vrl2 rl).2 (.cons (.int _ _) .nil))⟩⟩
def qr_add : { w : WX // ∀ c, C3 c → Def c 586 ["self", "data", "optimize"] [] shAD w } := ⟨_, fun c hC => ⟨⟨_, _, _, _, _, by k_in, rfl, by k_in, ⟨by decide, by decide, by decide⟩, ⟨rfl, rfl, rfl, rfl, rfl⟩, (by
  refine' shAD_ok ?b1 ?a1 ?c1 ?d1
  case a1 => rfl
  case b1 => k_in
  case c1 => rfl
  case d1 => exact fun _ _ => ⟨_, _, rfl, rfl⟩), fun L env he => by
  simp only [List.cons_append, List.nil_append]
  kda_here⟩⟩⟩
def shQR : Shape := fun a k v => ∃ s e, a = [s] ∧ k = [(("error_correction" : Str), e)] ∧ v = [s, .none, e, .int 10, .int 4, .none, .none]
theorem shQR_ok {c : Cx} {fd : FuncData} {T : Addr} {o : Obj} {items : Array Value} {n : Nat} (ho : c.K.lookup T = some o) (hd : fd.defaults = .ref T) (hs : o.data = .seq items n)
    (h1 : ∀ a e, ∃ k t1 t2, bindArgs fd ⟨[a], [(("error_correction" : Str), e)]⟩ = seqItems? fd.defaults >>= k ∧ k (some items) = pure [(("self" : Str), a), (("version" : Str), .none), (("error_correction" : Str), e), (("box_size" : Str), .int 10 t1), (("border" : Str), .int 4 t2), (("image_factory" : Str), .none), (("mask_pattern" : Str), .none)]) :
    ∀ args kw vals, shQR args kw vals → BindA c fd args kw (List.zip ["self", "version", "error_correction", "box_size", "border", "image_factory", "mask_pattern"] vals) ∧ vals.length = List.length (α := Str) ["self", "version", "error_correction", "box_size", "border", "image_factory", "mask_pattern"] := by
  rintro args kw vals ⟨s, e, rfl, rfl, rfl⟩
  refine ⟨bindD ho hd hs fun ws kws hw hk => ?_, rfl⟩
  obtain ⟨a, rfl⟩ := len1 hw
  obtain ⟨x, rfl⟩ := len1 hk
  obtain ⟨k, t1, t2, e1, e2⟩ := h1 a x
  exact ⟨k, _, e1, e2, fun z ρ rl rk => ⟨rfl, .cons (vrl1 rl) (.cons .none (.cons (vrl1 rk) (.cons (.int _ _) (.cons (.int _ _) (.cons .none (.cons .none .nil))))))⟩⟩
def qr_init : { w : WX // ∀ c, C3 c → Def c 537 ["self", "version", "error_correction", "box_size", "border", "image_factory", "mask_pattern"] [] shQR w } := ⟨_, fun c hC => ⟨⟨_, _, _, _, _, by k_in, rfl, by k_in, ⟨by decide, by decide, by decide⟩, ⟨rfl, rfl, rfl, rfl, rfl⟩, (by
  refine' shQR_ok ?b1 ?a1 ?c1 ?d1
  case a1 => rfl
  case b1 => k_in
  case c1 => rfl
  case d1 => exact fun _ _ => ⟨_, _, _, rfl, rfl⟩), fun L env he => by
  simp only [List.cons_append, List.nil_append]
  kda_here⟩⟩⟩
end
section
open PySem PySem.W PyProof.Rows PySem.Calls
set_option maxRecDepth 100000
set_option maxHeartbeats 4000000
theorem chk_box_ {c : Cx} (hC : C3 c) {D : Nat} {σ : Hp} {v : Int} {Q : V → Hp → Prop} (h1 : 0 < v) (h : Q .none σ) : FC c (D + 1) (.val (.ref 508)) [.int v] [] σ Q := by
  refine (chk_box.2 c hC).fc (X3 c D) rfl (X3_ok hC _) ⟨rfl, rfl, rfl⟩ ?_
  repeat' walk_at "vc"
  all_goals (conv => whnf)
  all_goals exact h
theorem chk_border_ {c : Cx} (hC : C3 c) {D : Nat} {σ : Hp} {v : Int} {Q : V → Hp → Prop} (h1 : 0 ≤ v) (h : Q .none σ) : FC c (D + 1) (.val (.ref 515)) [.int v] [] σ Q := by
  refine (chk_border.2 c hC).fc (X3 c D) rfl (X3_ok hC _) ⟨rfl, rfl, rfl⟩ ?_
  repeat' walk_at "vc"
  all_goals (conv => whnf)
  all_goals exact h
theorem chk_mask_ {c : Cx} (hC : C3 c) {D : Nat} {σ : Hp} {Q : V → Hp → Prop} (h : Q .none σ) : FC c (D + 1) (.val (.ref 522)) [.none] [] σ Q := by
  refine (chk_mask.2 c hC).fc (X3 c D) rfl (X3_ok hC _) ⟨rfl, rfl, rfl⟩ ?_
  repeat' walk_at "vc"
  all_goals (conv => whnf)
  all_goals exact h
def putF (v : V) (fs : List (Nat × V)) (k : Nat) : List (Nat × V) := match fs with
  | [] => [(k, v)]
  | (y, u) :: r => if y = k then (k, v) :: r else (y, u) :: putF v r k
theorem setF_put : ∀ {fs : List (Nat × V)} {k : Nat} {v : V} {K : List (Nat × V) → Prop}, K (putF v fs k) → setF fs k v K
  | [], _, _, _, h => h
  | (y, u) :: r, k, v, K, h => by
    unfold setF
    unfold putF at h
    show (match y.beq k with | true => K ((k, v) :: r) | false => setF r k v fun r' => K ((y, u) :: r'))
    split
    · rename_i e; rw [if_pos (Nat.eq_of_beq_eq_true e)] at h; exact h
    · rename_i e; rw [if_neg (Nat.ne_of_beq_eq_false e)] at h; exact setF_put (K := fun r' => K ((y, u) :: r')) h
theorem putF_len (v : V) : ∀ (fs : List (Nat × V)) (k : Nat), (putF v fs k).length ≤ fs.length + 1
  | [], _ => by simp [putF]
  | (y, u) :: r, k => by
    unfold putF
    split
    · simp
    · simp; exact putF_len v r k
theorem mask_set_ {c : Cx} (hC : C3 c) {D : Nat} {σ : Hp} {i : Nat} {fs : List (Nat × V)} {Q : V → Hp → Prop} (hi : σ[i]? = some (.inst 675 fs)) (hl : fs.length ≤ 50) (h : Q .none (σ.set i (.inst 675 (putF .none fs 20)))) : FC c (D + 2) (.val (.ref 570)) [.ref i, .none] [] σ Q := by
  have hl2 := putF_len .none fs 20
  refine (qr_mask_s.2 c hC).fc (X3 c (D + 1)) rfl (X3_ok hC _) ⟨rfl, rfl, rfl⟩ ?_
  repeat' walk_at "vc"
  conv => whnf
  refine chk_mask_ hC ?_
  repeat' walk_at "vc"
  conv => whnf
  refine setF_put (chk_of (Nat.le_trans hl2 (by omega)) ?_)
  exact h
theorem ver_setN_ {c : Cx} (hC : C3 c) {D : Nat} {σ : Hp} {i : Nat} {fs : List (Nat × V)} {Q : V → Hp → Prop} (hi : σ[i]? = some (.inst 675 fs)) (hl : fs.length ≤ 50) (h : Q .none (σ.set i (.inst 675 (putF .none fs 15)))) : FC c (D + 2) (.val (.ref 553)) [.ref i, .none] [] σ Q := by
  have hl2 := putF_len .none fs 15
  refine (qr_ver_s.2 c hC).fc (X3 c (D + 1)) rfl (X3_ok hC _) ⟨rfl, rfl, rfl⟩ ?_
  repeat' walk_at "vc"
  conv => whnf
  refine setF_put (chk_of (Nat.le_trans hl2 (by omega)) ?_)
  exact h
theorem ver_set_ {c : Cx} (hC : C3 c) {D : Nat} {σ : Hp} {i : Nat} {v : Int} {fs : List (Nat × V)} {Q : V → Hp → Prop} (h1 : 1 ≤ v) (h2 : v ≤ 40) (hi : σ[i]? = some (.inst 675 fs)) (hl : fs.length ≤ 50) (h : Q .none (σ.set i (.inst 675 (putF (.int v) fs 15)))) : FC c (D + 2) (.val (.ref 553)) [.ref i, .int v] [] σ Q := by
  have hl2 := putF_len (.int v) fs 15
  refine (qr_ver_s.2 c hC).fc (X3 c (D + 1)) rfl (X3_ok hC _) ⟨rfl, rfl, rfl⟩ ?_
  repeat' walk_at "vc"
  conv => whnf
  refine chk_ver_ hC h1 h2 ?_
  repeat' walk_at "vc"
  conv => whnf
  refine setF_put (chk_of (Nat.le_trans hl2 (by omega)) ?_)
  exact h
/-- what a new code holds -/
def qrF (n : Nat) (e : Int) (ver : V) (cache : V) : List (Nat × V) := [(15, ver), (16, .int e), (17, .int 10), (18, .int 4), (20, .none), (21, .none), (22, .ref (n + 1)), (24, .ref (n + 3)), (25, .int 0), (26, cache), (27, .ref (n + 4))]
def qrH (n : Nat) (e : Int) (ver : V) (parts : List V) : Hp := [.inst 675 (qrF n e ver .none), .dict [] [], .list [], .list [.ref (n + 2)], .list parts]
theorem qr_new_ {c : Cx} (hC : C3 c) {D : Nat} {σ : Hp} {e : Int} {Q : V → Hp → Prop} (h : Q (.ref σ.length) (σ ++ qrH σ.length e .none [])) : FC c (D + 5) (.val (.ref 675)) [] [("error_correction", .int e)] σ Q := by
  refine FC.cls (fI := 537) ⟨by k_in, by k_in, by k_in⟩ ?_
  refine (qr_init.2 c hC).fc (X3 c (D + 3)) rfl (X3_ok hC _) ⟨_, _, rfl, rfl, rfl⟩ ?_
  repeat' walk_at "vc"
  conv => whnf
  refine chk_box_ hC (by omega) ?_
  repeat' walk_at "vc"
  conv => whnf
  refine chk_border_ hC (by omega) ?_
  repeat' walk_at "vc"
  conv => whnf
  refine ver_setN_ hC (fs := []) (by simp) (by simp) ?_
  repeat' walk_at "vc"
  conv => whnf
  refine mask_set_ hC (fs := [(15, .none), (16, .int e), (17, .int 10), (18, .int 4)]) (by walk_at "obj") (by simp) ?_
  repeat' walk_at "vc"
  conv => whnf
  refine (qr_clear.2 c hC).fc (X3 c (D + 2)) rfl (X3_ok hC _) ⟨rfl, rfl, rfl⟩ ?_
  repeat' walk_at "vc"
  conv => whnf
  simpa [qrH, qrF, putF, nth, List.set_append] using h
end
section
open PySem PySem.W PyProof.Rows PySem.Calls
set_option maxRecDepth 100000
set_option maxHeartbeats 4000000
def isDig (b : List UInt8) : Bool := PySem.Builtin.Bytes.allOf PySem.Builtin.Bytes.isDigit b
def omode (b : List UInt8) : Int := if isDig b then 1 else if (b.all fun o => alphaS.contains o) then 2 else 4
theorem opt_mode_ {c : Cx} (hC : C3 c) {D : Nat} {σ : Hp} {b : List UInt8} {Q : V → Hp → Prop} (h : Q (.int (omode b)) σ) : FC c (D + 1) (.val (.ref 404)) [.bytes b] [] σ Q := by
  refine (opt_mode.2 c hC).fc (X3 c D) rfl (X3_ok hC _) ⟨rfl, rfl, rfl⟩ ?_
  unfold omode at h
  repeat' walk_at "vc"
  conv => whnf
  refine br_both (fun hb => ?_) (fun hb => ?_)
  · have hb' : isDig b = true := hb
    rw [if_pos hb'] at h
    repeat' walk_at "vc"
    conv => whnf
    exact h
  · have hb' : isDig b = false := hb
    rw [hb', if_neg (by decide)] at h
    repeat' walk_at "vc"
    conv => whnf
    refine br_both (fun hb2 => ?_) (fun hb2 => ?_)
    · have hb3 : (b.all fun o => alphaS.contains o) = true := hb2
      rw [if_pos hb3] at h
      repeat' walk_at "vc"
      conv => whnf
      exact h
    · have hb3 : (b.all fun o => alphaS.contains o) = false := hb2
      rw [hb3, if_neg (by decide)] at h
      repeat' walk_at "vc"
      conv => whnf
      exact h
theorem qd_new_ {c : Cx} (hC : C3 c) {D : Nat} {σ : Hp} {b : List UInt8} {m : V} {md : Int} {Q : V → Hp → Prop} (hm : (m = .none ∧ md = omode b) ∨ (m = .int 4 ∧ md = 4)) (h : Q (.obj 443 [(11, .int md), (12, .bytes b)]) σ) :
    FC c (D + 3) (.val (.ref 443)) [.bytes b] [("mode", m)] σ Q := by
  refine FC.keepOne ?_
  refine FC.cls (fI := 419) ⟨by k_in, by k_in, by k_in⟩ ?_
  refine (qd_init.2 c hC).fc (X3 c (D + 1)) rfl (X3_ok hC _) (.inl ⟨_, _, _, rfl, rfl, rfl⟩) ?_
  have h4 : ¬ (4 : Int) < omode b := by unfold omode; split; omega; split <;> omega
  rcases hm with ⟨rfl, rfl⟩ | ⟨rfl, rfl⟩
  · repeat' walk_at "vc"
    conv => whnf
    refine to_bytes_ hC ?_
    repeat' walk_at "vc"
    conv => whnf
    refine opt_mode_ hC ?_
    repeat' walk_at "vc"
    conv => whnf
    refine ⟨.inst 443 [(11, .int (omode b)), (12, .bytes b)], .obj 443 [(11, .int (omode b)), (12, .bytes b)], [], rfl, ?_, .inst, ?_, h⟩
    · simp [nth]
    · exact ⟨trivial, trivial, trivial⟩
  · repeat' walk_at "vc"
    conv => whnf
    refine to_bytes_ hC ?_
    repeat' walk_at "vc"
    conv => whnf
    refine chk_of ⟨rfl, rfl⟩ ?_
    repeat' walk_at "vc"
    conv => whnf
    refine opt_mode_ hC ?_
    repeat' walk_at "vc"
    conv => whnf
    refine ⟨.inst 443 [(11, .int 4), (12, .bytes b)], .obj 443 [(11, .int 4), (12, .bytes b)], [], rfl, ?_, .inst, ?_, h⟩
    · simp [nth]
    · exact ⟨trivial, trivial, trivial⟩
/-- a code with its parts, in the heap -/
structure IsQR (σ : Hp) (n : Nat) (e : Int) (ver : V) (parts : List V) : Prop where
  inst : σ[n]? = some (.inst 675 (qrF n e ver .none))
  parts : σ[n + 4]? = some (.list parts)
theorem qr_add_ {c : Cx} (hC : C3 c) {D : Nat} {σ : Hp} {n : Nat} {e : Int} {ver m d : V} {parts : List V} {Q : V → Hp → Prop} (hq : IsQR σ n e ver parts) (hz : parts.length ≤ 1000)
    (h : Q .none (σ.set (n + 4) (.list (parts ++ [.obj 443 [(11, m), (12, d)]])))) : FC c (D + 1) (.val (.ref 586)) [.ref n, .obj 443 [(11, m), (12, d)]] [] σ Q := by
  obtain ⟨hi, hp⟩ := hq
  have hne : n + 4 ≠ n := by omega
  refine (qr_add.2 c hC).fc (X3 c D) rfl (X3_ok hC _) ⟨_, _, rfl, rfl, rfl⟩ ?_
  conv => whnf
  refine ⟨by k_in, ?_⟩
  repeat' walk_at "vc"
  conv => whnf
  have e := Mine.set_same (at_other (o' := .list (parts ++ [V.obj 443 [(11, m), (12, d)]])) hne hi)
  rw [← e] at h
  exact h
end
section
open PySem PySem.W PyProof.Rows PySem.Calls
set_option maxRecDepth 100000
set_option maxHeartbeats 4000000
theorem write1_ {c : Cx} (hC : C3 c) {D : Nat} {σ : Hp} {i j : Nat} {b : List UInt8} {p : Buf} {Q : V → Hp → Prop} (hb : IsBuf 497 σ i j p) (hd : ∀ x ∈ b, 48 ≤ x.toNat ∧ x.toNat ≤ 57) (hz : b.length ≤ 1000) (hlen : p.2 + (numBits b).length ≤ 100000)
    (h : Q .none (bufH 497 σ i j (pbits p (numBits b)))) : FC c (D + 3) (.val (.ref 433)) [.obj 443 [(11, .int 1), (12, .bytes b)], .ref i] [] σ Q := by
  have hr := rng_pos (b := (b.length : Int)) (c := 3) (by omega) (by omega) (by omega) (by omega)
  refine (qd_write.2 c hC).fc (X3 c (D + 2)) rfl (X3_ok hC _) ⟨rfl, rfl, rfl⟩ ?_
  repeat' walk_at "vc"
  conv => whnf
  have hn : (Builtin.Range.rangeSize 0 (b.length : Int) 3).toNat = (b.length + 2) / 3 := rng_size b.length 3 (by omega)
  rw [hn]
  refine forJ_of (fun k l σ₁ => ∃ u1 u2 u3 u4 u5, l = [.obj 443 [(11, .int 1), (12, .bytes b)], .ref i, u1, u2, u3, u4, u5] ∧ σ₁ = bufH 497 σ i j (pbits p (((List.range ((b.length + 2) / 3)).take k).flatMap fun k => numC ((b.drop (3 * k)).take 3)))) ⟨_, _, _, _, _, rfl, hb.self.symm⟩ (fun _ _ _ _ => trivial) ?_ ?_
  · rintro k v l σ₁ hv ⟨u1, u2, u3, u4, u5, rfl, rfl⟩
    obtain ⟨hk, rfl⟩ := rng_getS hv
    have hg : (List.range ((b.length + 2) / 3))[k]? = some k := by rw [List.getElem?_range hk]
    have hle := flat_le (fun k => numC ((b.drop (3 * k)).take 3)) (List.range ((b.length + 2) / 3)) k
    have hok : BOk (pbits p (((List.range ((b.length + 2) / 3)).take k).flatMap fun k => numC ((b.drop (3 * k)).take 3))) := pbits_ok hb.2.2 (by unfold numBits at hlen; omega)
    have hle2 := flat_le (fun k => numC ((b.drop (3 * k)).take 3)) (List.range ((b.length + 2) / 3)) (k + 1)
    rw [flat_take _ hg, List.length_append] at hle2
    have hpn := pbits_n p (((List.range ((b.length + 2) / 3)).take k).flatMap fun k => numC ((b.drop (3 * k)).take 3))
    repeat' walk_at "vc"
    have e1 : (0 : Int) + (k : Int) * 3 = ((3 * k : Nat) : Int) := by omega
    have e2 : ((3 * k : Nat) : Int) + 3 = ((3 * k + 3 : Nat) : Int) := by omega
    rw [e1, e2, cut_nn]
    obtain ⟨nv, kk, hN, hcase⟩ := num3_of (l := (b.drop (3 * k)).take 3) (fun x hx => hd x (List.mem_of_mem_drop (List.mem_of_mem_take hx))) (by rw [List.length_take, List.length_drop]; omega) (by rw [List.length_take]; omega)
    obtain ⟨x, hA, hT, hX⟩ := hN.text
    rw [hN.bits, bitsOf_len] at hle2
    generalize hl : (b.drop (3 * k)).take 3 = l at hN hA hcase ⊢
    generalize hp : pbits p (((List.range ((b.length + 2) / 3)).take k).flatMap fun k => numC ((b.drop (3 * k)).take 3)) = p' at hok hpn ⊢
    have fin : ∀ (σ₂ : Hp), σ₂ = bufH 497 σ i j p' → ∀ (u2 u3 u4 u5 : V), FC c (D + 2) (.val (.ref 480)) [.ref i, .int nv, .int kk] [] σ₂ fun v σ₃ => ∃ w1 w2 w3 w4 w5, [V.obj 443 [(11, .int 1), (12, .bytes b)], .ref i, .int ((3 * k : Nat) : Int), u2, u3, u4, u5] = [V.obj 443 [(11, .int 1), (12, .bytes b)], .ref i, w1, w2, w3, w4, w5] ∧ σ₃ = bufH 497 σ i j (pbits p (((List.range ((b.length + 2) / 3)).take (k + 1)).flatMap fun k => numC ((b.drop (3 * k)).take 3))) := by
      rintro σ₂ rfl u2 u3 u4 u5
      refine put_ hC (hb.buf hok) (by unfold numBits at hlen; omega) ⟨_, _, _, _, _, rfl, ?_⟩
      rw [bufH_twice hb.ne, flat_take _ hg, pbits_append, hl, hN.bits, hp]
    obtain ⟨b1, b2, b3⟩ := hb.buf hok
    rcases hcase with ⟨h1, rfl⟩ | ⟨h1, rfl⟩ | ⟨h1, rfl⟩
    · repeat' walk_at "vc"
      conv => whnf
      exact fin _ rfl _ _ _ _
    · repeat' walk_at "vc"
      conv => whnf
      exact fin _ rfl _ _ _ _
    · repeat' walk_at "vc"
      conv => whnf
      exact fin _ rfl _ _ _ _
  · rintro l σ₁ ⟨u1, u2, u3, u4, u5, rfl, rfl⟩
    rw [rng_len, List.take_of_length_le (by simp)]
    exact h
end
section
open PySem PySem.W PyProof.Rows PySem.Calls
set_option maxRecDepth 100000
set_option maxHeartbeats 4000000
theorem write2_ {c : Cx} (hC : C3 c) {D : Nat} {σ : Hp} {i j : Nat} {b : List UInt8} {p : Buf} {Q : V → Hp → Prop} (hb : IsBuf 497 σ i j p) (hz : b.length ≤ 1000) (hlen : p.2 + (alphaBits b).length ≤ 100000)
    (h : Q .none (bufH 497 σ i j (pbits p (alphaBits b)))) : FC c (D + 3) (.val (.ref 433)) [.obj 443 [(11, .int 2), (12, .bytes b)], .ref i] [] σ Q := by
  have hr := rng_pos (b := (b.length : Int)) (c := 2) (by omega) (by omega) (by omega) (by omega)
  refine (qd_write.2 c hC).fc (X3 c (D + 2)) rfl (X3_ok hC _) ⟨rfl, rfl, rfl⟩ ?_
  repeat' walk_at "vc"
  conv => whnf
  have hn : (Builtin.Range.rangeSize 0 (b.length : Int) 2).toNat = (b.length + 1) / 2 := rng_size b.length 2 (by omega)
  rw [hn]
  refine forJ_of (fun k l σ₁ => ∃ u1 u2 u3 u4 u5, l = [.obj 443 [(11, .int 2), (12, .bytes b)], .ref i, u1, u2, u3, u4, u5] ∧ σ₁ = bufH 497 σ i j (pbits p (((List.range ((b.length + 1) / 2)).take k).flatMap fun k => alphaC ((b.drop (2 * k)).take 2)))) ⟨_, _, _, _, _, rfl, hb.self.symm⟩ (fun _ _ _ _ => trivial) ?_ ?_
  · rintro k v l σ₁ hv ⟨u1, u2, u3, u4, u5, rfl, rfl⟩
    obtain ⟨hk, rfl⟩ := rng_getS hv
    have hg : (List.range ((b.length + 1) / 2))[k]? = some k := by rw [List.getElem?_range hk]
    have hok : BOk (pbits p (((List.range ((b.length + 1) / 2)).take k).flatMap fun k => alphaC ((b.drop (2 * k)).take 2))) := pbits_ok hb.2.2 (by have hle := flat_le (fun k => alphaC ((b.drop (2 * k)).take 2)) (List.range ((b.length + 1) / 2)) k; unfold alphaBits at hlen; omega)
    have hle2 := flat_le (fun k => alphaC ((b.drop (2 * k)).take 2)) (List.range ((b.length + 1) / 2)) (k + 1)
    rw [flat_take _ hg, List.length_append] at hle2
    have hpn := pbits_n p (((List.range ((b.length + 1) / 2)).take k).flatMap fun k => alphaC ((b.drop (2 * k)).take 2))
    repeat' walk_at "vc"
    conv => whnf
    have e1 : (0 : Int) + (k : Int) * 2 = ((2 * k : Nat) : Int) := by omega
    have e2 : ((2 * k : Nat) : Int) + 2 = ((2 * k + 2 : Nat) : Int) := by omega
    rw [e1, e2, cut_nn]
    have hl1 : 0 < ((b.drop (2 * k)).take 2).length := by rw [List.length_take, List.length_drop]; omega
    have hl2 : ((b.drop (2 * k)).take 2).length ≤ 2 := by rw [List.length_take]; omega
    generalize hl : (b.drop (2 * k)).take 2 = l at hl1 hl2 hle2 ⊢
    generalize hp : pbits p (((List.range ((b.length + 1) / 2)).take k).flatMap fun k => alphaC ((b.drop (2 * k)).take 2)) = p' at hok hpn ⊢
    have fin : ∀ (σ₂ : Hp) (nv : Int) (kk : Nat), alphaC l = bitsOf nv kk → σ₂ = bufH 497 σ i j p' → ∀ (u2 u3 u4 u5 : V), FC c (D + 2) (.val (.ref 480)) [.ref i, .int nv, .int kk] [] σ₂ fun v σ₃ => ∃ w1 w2 w3 w4 w5, [V.obj 443 [(11, .int 2), (12, .bytes b)], .ref i, .int ((2 * k : Nat) : Int), u2, u3, u4, u5] = [V.obj 443 [(11, .int 2), (12, .bytes b)], .ref i, w1, w2, w3, w4, w5] ∧ σ₃ = bufH 497 σ i j (pbits p (((List.range ((b.length + 1) / 2)).take (k + 1)).flatMap fun k => alphaC ((b.drop (2 * k)).take 2))) := by
      rintro σ₂ nv kk hcc rfl u2 u3 u4 u5
      rw [hcc, bitsOf_len] at hle2
      refine put_ hC (hb.buf hok) (by unfold alphaBits at hlen; omega) ⟨_, _, _, _, _, rfl, ?_⟩
      rw [bufH_twice hb.ne, flat_take _ hg, pbits_append, hl, hcc, hp]
    obtain ⟨b1, b2, b3⟩ := hb.buf hok
    match l, hl1, hl2 with
    | [x], _, _ =>
      repeat' walk_at "vc"
      conv => whnf
      exact fin _ _ _ rfl rfl _ _ _ _
    | [x, y], _, _ =>
      repeat' walk_at "vc"
      conv => whnf
      exact fin _ _ _ rfl rfl _ _ _ _
  · rintro l σ₁ ⟨u1, u2, u3, u4, u5, rfl, rfl⟩
    rw [rng_len, List.take_of_length_le (by simp)]
    exact h
theorem write4_ {c : Cx} (hC : C3 c) {D : Nat} {σ : Hp} {i j : Nat} {b : List UInt8} {p : Buf} {Q : V → Hp → Prop} (hb : IsBuf 497 σ i j p) (hz : b.length ≤ 1000) (hlen : p.2 + (byteBits b).length ≤ 100000)
    (h : Q .none (bufH 497 σ i j (pbits p (byteBits b)))) : FC c (D + 3) (.val (.ref 433)) [.obj 443 [(11, .int 4), (12, .bytes b)], .ref i] [] σ Q := by
  refine (qd_write.2 c hC).fc (X3 c (D + 2)) rfl (X3_ok hC _) ⟨rfl, rfl, rfl⟩ ?_
  repeat' walk_at "vc"
  conv => whnf
  refine forJ_of (fun k l σ₁ => ∃ u1 u2 u3 u4 u5, l = [.obj 443 [(11, .int 4), (12, .bytes b)], .ref i, u1, u2, u3, u4, u5] ∧ σ₁ = bufH 497 σ i j (pbits p ((b.take k).flatMap fun x => bitsOf (x.toNat : Int) 8))) ⟨_, _, _, _, _, rfl, hb.self.symm⟩ (fun _ _ _ _ => trivial) ?_ ?_
  · rintro k v l σ₁ hv ⟨u1, u2, u3, u4, u5, rfl, rfl⟩
    obtain ⟨x, hg, rfl⟩ : ∃ x, b[k]? = some x ∧ v = .int x.toNat := by
      rw [List.getElem?_map] at hv
      cases hq : b[k]? with
      | none => rw [hq] at hv; cases hv
      | some x => rw [hq] at hv; exact ⟨x, rfl, (Option.some.inj hv).symm⟩
    have hok : BOk (pbits p ((b.take k).flatMap fun x => bitsOf (x.toNat : Int) 8)) := pbits_ok hb.2.2 (by have hle := flat_le (fun x : UInt8 => bitsOf (x.toNat : Int) 8) b k; unfold byteBits at hlen; omega)
    have hle2 := flat_le (fun x : UInt8 => bitsOf (x.toNat : Int) 8) b (k + 1)
    rw [flat_take _ hg, List.length_append, bitsOf_len] at hle2
    have hpn := pbits_n p ((b.take k).flatMap fun x => bitsOf (x.toNat : Int) 8)
    obtain ⟨b1, b2, b3⟩ := hb.buf hok
    repeat' walk_at "vc"
    conv => whnf
    refine put_ (len := 8) hC (hb.buf hok) (by unfold byteBits at hlen; omega) ⟨_, _, _, _, _, rfl, ?_⟩
    rw [bufH_twice hb.ne, flat_take _ hg, pbits_append]
  · rintro l σ₁ ⟨u1, u2, u3, u4, u5, rfl, rfl⟩
    rw [List.length_map, List.take_of_length_le (Nat.le_refl _)]
    exact h
end
section
open PySem PySem.W PyProof.Rows PySem.Calls
theorem numC_len (l : List UInt8) (h : 0 < l.length) (h3 : l.length ≤ 3) : (numC l).length = (10 * l.length + 2) / 3 := by
  match l, h, h3 with
  | [x], _, _ => simp [numC, bitsOf_len]
  | [x, y], _, _ => simp [numC, bitsOf_len]
  | [x, y, z], _, _ => simp [numC, bitsOf_len]
theorem alphaC_len (l : List UInt8) (h : 0 < l.length) (h3 : l.length ≤ 2) : (alphaC l).length = (11 * l.length + 1) / 2 := by
  match l, h, h3 with
  | [x], _, _ => simp [alphaC, bitsOf_len]
  | [x, y], _, _ => simp [alphaC, bitsOf_len]
theorem numBits_len (b : List UInt8) : (numBits b).length = (10 * b.length + 2) / 3 := by
  unfold numBits
  have key : ∀ m, m ≤ (b.length + 2) / 3 → ((List.range m).flatMap fun k => numC ((b.drop (3 * k)).take 3)).length = (10 * min (3 * m) b.length + 2) / 3 := by
    intro m
    induction m with
    | zero => intro _; simp
    | succ m ih =>
      intro hm
      rw [List.range_succ, List.flatMap_append, List.length_append, ih (by omega), List.flatMap_singleton]
      have hl : ((b.drop (3 * m)).take 3).length = min 3 (b.length - 3 * m) := by rw [List.length_take, List.length_drop]
      rw [numC_len _ (by omega) (by omega), hl]
      omega
  rw [key _ (Nat.le_refl _)]
  omega
theorem alphaBits_len (b : List UInt8) : (alphaBits b).length = (11 * b.length + 1) / 2 := by
  unfold alphaBits
  have key : ∀ m, m ≤ (b.length + 1) / 2 → ((List.range m).flatMap fun k => alphaC ((b.drop (2 * k)).take 2)).length = (11 * min (2 * m) b.length + 1) / 2 := by
    intro m
    induction m with
    | zero => intro _; simp
    | succ m ih =>
      intro hm
      rw [List.range_succ, List.flatMap_append, List.length_append, ih (by omega), List.flatMap_singleton]
      have hl : ((b.drop (2 * m)).take 2).length = min 2 (b.length - 2 * m) := by rw [List.length_take, List.length_drop]
      rw [alphaC_len _ (by omega) (by omega), hl]
      omega
  rw [key _ (Nat.le_refl _)]
  omega
theorem byteBits_len (b : List UInt8) : (byteBits b).length = 8 * b.length := by
  unfold byteBits
  induction b with
  | nil => rfl
  | cons x b ih => rw [List.flatMap_cons, List.length_append, ih, bitsOf_len, List.length_cons]; omega
/-- how many bits a text of n octets takes -/
def wlen (m : Int) (n : Nat) : Nat := if m = 1 then (10 * n + 2) / 3 else if m = 2 then (11 * n + 1) / 2 else 8 * n
theorem wbits_len (m : Int) (b : List UInt8) : (wbits m b).length = wlen m b.length := by
  unfold wbits wlen
  split
  · exact numBits_len b
  · split
    · exact alphaBits_len b
    · exact byteBits_len b
end
section
open PySem PySem.W PyProof.Rows PySem.Calls
set_option maxRecDepth 100000
set_option maxHeartbeats 4000000
/-- how many bits tell a part's size -/
def ccb (v : Int) (m : Int) : Nat := if v < 10 then (if m = 1 then 10 else if m = 2 then 9 else 8) else if v < 27 then (if m = 1 then 12 else if m = 2 then 11 else 16) else (if m = 1 then 14 else if m = 2 then 13 else 16)
abbrev Part := Int × List UInt8
def partV (p : Part) : V := .obj 443 [(11, .int p.1), (12, .bytes p.2)]
def partB (v : Int) (p : Part) : List Bool := bitsOf p.1 4 ++ bitsOf (p.2.length : Int) (ccb v p.1) ++ wbits p.1 p.2
def PartOk (p : Part) : Prop := ((p.1 = 1 ∧ ∀ x ∈ p.2, 48 ≤ x.toNat ∧ x.toNat ≤ 57) ∨ p.1 = 2 ∨ p.1 = 4) ∧ p.2.length ≤ 100
def allB' (v : Int) (ps : List Part) : List Bool := ps.flatMap (partB v)
theorem ccb_le (v m : Int) : ccb v m ≤ 16 := by
  unfold ccb
  split
  · split; omega; split <;> omega
  · split
    · split; omega; split <;> omega
    · split; omega; split <;> omega
theorem partB_le {v : Int} {p : Part} (h : PartOk p) : (partB v p).length ≤ 1000 := by
  unfold partB
  rw [List.length_append, List.length_append, bitsOf_len, bitsOf_len, wbits_len]
  have h1 := ccb_le v p.1
  have h2 := h.2
  have h3 : wlen p.1 p.2.length ≤ 8 * p.2.length + 8 := by unfold wlen; split; omega; split <;> omega
  omega
theorem allB_le {v : Int} {ps : List Part} (h : ∀ p ∈ ps, PartOk p) (hl : ps.length ≤ 10) (k : Nat) : (allB' v (ps.take k)).length ≤ 10000 := by
  have key : ∀ qs : List Part, (∀ p ∈ qs, PartOk p) → (allB' v qs).length ≤ 1000 * qs.length := by
    intro qs
    induction qs with
    | nil => intro _; simp [allB']
    | cons q qs ih =>
      intro hq
      have h1 := ih fun p hp => hq p (.tail _ hp)
      have h2 := partB_le (v := v) (hq q (.head _))
      unfold allB' at h1 ⊢
      rw [List.flatMap_cons, List.length_append, List.length_cons]
      omega
  have h1 := key (ps.take k) fun p hp => h p (List.mem_of_mem_take hp)
  have h2 : (ps.take k).length ≤ ps.length := by rw [List.length_take]; omega
  omega
/-- one part goes into the buffer -/
theorem write_ {c : Cx} (hC : C3 c) {D : Nat} {σ : Hp} {i j : Nat} {p : Part} {q : Buf} {Q : V → Hp → Prop} (hb : IsBuf 497 σ i j q) (hp : PartOk p) (hlen : q.2 + (wbits p.1 p.2).length ≤ 100000)
    (h : Q .none (bufH 497 σ i j (pbits q (wbits p.1 p.2)))) : FC c (D + 3) (.val (.ref 433)) [partV p, .ref i] [] σ Q := by
  obtain ⟨m, b⟩ := p
  obtain ⟨hm, hz⟩ := hp
  simp only at hm hz h hlen
  unfold wbits at h hlen
  have hz' : b.length ≤ 1000 := by omega
  rcases hm with ⟨rfl, hd⟩ | rfl | rfl
  · rw [if_pos rfl] at h hlen
    exact write1_ hC hb hd hz' hlen h
  · rw [if_neg (by omega), if_pos rfl] at h hlen
    exact write2_ hC hb hz' hlen h
  · rw [if_neg (by omega), if_neg (by omega)] at h hlen
    exact write4_ hC hb hz' hlen h
theorem qdlen_ {c : Cx} (hC : C3 c) {D : Nat} {σ : Hp} {p : Part} {Q : V → Hp → Prop} (hp : PartOk p) (h : Q (.int p.2.length) σ) : FC c (D + 1) (.val (.ref 426)) [partV p] [] σ Q := qd_len_ hC (by have := hp.2; omega) h
abbrev bfBody : WX := seqX (exprX (methW 8 (locW 3) (consL (attrW 11 (locW 4)) (consL (cstW (V.int 4)) nilL)) nilK))
  (seqX (exprX (methW 8 (locW 3) (consL (callW (Tg.bi Bi.len) (consL (locW 4) nilL) nilK) (consL (itemW (locW 2) (attrW 11 (locW 4))) nilL)) nilK))
    (exprX (methW 13 (locW 4) (consL (locW 3) nilL) nilK)))
theorem bf_item {c : Cx} (hC : C3 c) {D : Nat} {τ : Hp} {i j n : Nat} {st : Nat} {u : V} {p : Part} {q : Buf} {Q : Fl → List V → Hp → Prop} (hb : IsBuf 497 τ i j q) (hp : PartOk p) (hlen : q.2 + (partB st p).length ≤ 100000)
    (h : Q .next [.ref n, .int st, .val (.ref (modeAddr st)), .ref i, partV p, u] (bufH 497 τ i j (pbits q (partB st p)))) :
    bfBody (X3 c (D + 4)) [.ref n, .int st, .val (.ref (modeAddr st)), .ref i, partV p, u] τ Q := by
  have hlen' := hlen
  unfold partB at hlen' h
  rw [List.length_append, List.length_append, bitsOf_len, bitsOf_len] at hlen'
  rw [pbits_append, pbits_append] at h
  have n1 := pbits_n q (bitsOf p.1 4)
  rw [bitsOf_len] at n1
  have ok1 : BOk (pbits q (bitsOf p.1 4)) := pbits_ok hb.2.2 (by rw [bitsOf_len]; omega)
  have n2 := pbits_n (pbits q (bitsOf p.1 4)) (bitsOf (p.2.length : Int) (ccb st p.1))
  rw [bitsOf_len] at n2
  have ok2 : BOk (pbits (pbits q (bitsOf p.1 4)) (bitsOf (p.2.length : Int) (ccb st p.1))) := pbits_ok ok1 (by rw [bitsOf_len]; omega)
  obtain ⟨b1, b2, b3⟩ := hb
  have hz : p.2.length ≤ 100 := hp.2
  obtain ⟨m, b⟩ := p
  simp only at hlen' h n1 ok1 n2 ok2 hz
  have hmA : (modeAddr st = 353 ∧ ccb st m = (if m = 1 then 10 else if m = 2 then 9 else 8)) ∨ (modeAddr st = 354 ∧ ccb st m = (if m = 1 then 12 else if m = 2 then 11 else 16)) ∨ (modeAddr st = 355 ∧ ccb st m = (if m = 1 then 14 else if m = 2 then 13 else 16)) := by
    unfold modeAddr ccb
    by_cases h1 : (st : Int) < 10
    · rw [if_pos h1, if_pos h1]; exact .inl ⟨rfl, rfl⟩
    · rw [if_neg h1, if_neg h1]
      by_cases h2 : (st : Int) < 27
      · rw [if_pos h2, if_pos h2]; exact .inr (.inl ⟨rfl, rfl⟩)
      · rw [if_neg h2, if_neg h2]; exact .inr (.inr ⟨rfl, rfl⟩)
  have hmm : m = 1 ∨ m = 2 ∨ m = 4 := by
    rcases hp.1 with ⟨h, _⟩ | h | h
    · exact .inl h
    · exact .inr (.inl h)
    · exact .inr (.inr h)
  have fin : ∀ (k : Nat), ccb st m = k → ∀ (τ₁ : Hp), τ₁ = bufH 497 τ i j (pbits q (bitsOf m 4)) → FC c (D + 4) (.val (.ref 480)) [.ref i, .int (b.length : Int), .int k] [] τ₁ fun _ τ₂ => IsBuf 497 τ₂ i j (pbits (pbits q (bitsOf m 4)) (bitsOf (b.length : Int) (ccb st m))) ∧ τ₂ = bufH 497 τ i j (pbits (pbits q (bitsOf m 4)) (bitsOf (b.length : Int) (ccb st m))) := by
    intro k hk τ₁ e
    subst hk
    subst e
    have hb1 := IsBuf.buf ⟨b1, b2, b3⟩ ok1
    refine put_ hC hb1 (by omega) ?_
    rw [bufH_twice (IsBuf.ne ⟨b1, b2, b3⟩)]
    exact ⟨IsBuf.buf ⟨b1, b2, b3⟩ ok2, rfl⟩
  show bfBody (X3 c (D + 4)) [.ref n, .int st, .val (.ref (modeAddr st)), .ref i, .obj 443 [(11, .int m), (12, .bytes b)], u] τ Q
  have h : Q .next [.ref n, .int st, .val (.ref (modeAddr st)), .ref i, .obj 443 [(11, .int m), (12, .bytes b)], u] (bufH 497 τ i j (pbits (pbits (pbits q (bitsOf m 4)) (bitsOf (b.length : Int) (ccb st m))) (wbits m b))) := h
  have hnw : (pbits (pbits q (bitsOf m 4)) (bitsOf (b.length : Int) (ccb st m))).2 + (wbits m b).length ≤ 100000 := by omega
  generalize hPP : pbits (pbits q (bitsOf m 4)) (bitsOf (b.length : Int) (ccb st m)) = PP at fin h hnw
  rcases hmA with ⟨hA, hcc⟩ | ⟨hA, hcc⟩ | ⟨hA, hcc⟩ <;> rcases hmm with rfl | rfl | rfl
  all_goals
    rw [hA] at h ⊢
    repeat' walk_at "vc"
    conv => whnf
    refine put_ (len := 4) hC ⟨b1, b2, b3⟩ (by omega) ?_
    obtain ⟨c1, c2, c3⟩ := IsBuf.buf ⟨b1, b2, b3⟩ ok1
    repeat' walk_at "vc"
    conv => whnf
    refine qd_len_ hC (by omega) ?_
    repeat' walk_at "vc"
    conv => whnf
    refine (fin _ hcc _ rfl).mono fun _ τ₂ ⟨⟨d1, d2, d3⟩, hτ⟩ => ?_
    repeat' walk_at "vc"
    conv => whnf
    refine write_ hC (p := (_, b)) ⟨d1, d2, d3⟩ hp hnw ?_
    rw [hτ, bufH_twice (IsBuf.ne ⟨b1, b2, b3⟩)]
    exact h
abbrev bfRest : WX := seqX (exprX (callW (Tg.fn 375) (consL (locW 1) nilL) nilK))
  (seqX (asgX 2 (callW (Tg.fn 368) (consL (locW 1) nilL) nilK))
    (seqX (asgX 3 (callW (Tg.fn 497) nilL nilK))
      (seqX (forX (asgA 4) (attrW 27 (locW 0)) bfBody)
        (seqX (asgX 5 (callW (Tg.bi Bi.len) (consL (locW 3) nilL) nilK))
          (seqX (setX 14 (locW 0) (callW (Tg.bi Bi.bisect) (consL (itemW (cstW (V.val (Value.ref 361))) (attrW 16 (locW 0))) (consL (locW 5) (consL (locW 1) nilL))) nilK))
            (seqX (ifX (cmpB CmpOp.Eq (attrW 14 (locW 0)) (cstW (V.int 41))) badX nilX)
              (seqX (ifX (cmpB CmpOp.IsNot (locW 2) (callW (Tg.fn 368) (consL (attrW 14 (locW 0)) nilL) nilK))
                  (exprX (methW 29 (locW 0) nilL (consK "start" (attrW 14 (locW 0)) nilK))) nilX)
                (retX (attrW 14 (locW 0))))))))))
theorem ver_get_ {c : Cx} (hC : C3 c) {D : Nat} {σ : Hp} {n : Nat} {e v : Int} {Q : V → Hp → Prop} (hi : σ[n]? = some (.inst 675 (qrF n e (.int v) .none))) (h : Q (.int v) σ) : FC c (D + 1) (.val (.ref 544)) [.ref n] [] σ Q := by
  refine (qr_ver_g.2 c hC).fc (X3 c D) rfl (X3_ok hC _) ⟨rfl, rfl, rfl⟩ ?_
  repeat' walk_at "vc"
  conv => whnf
  exact h
theorem isnot_self {X : Ex} {a : Addr} {σ : Hp} {K : Bool → Prop} (h : K false) : opCmp X .IsNot (.val (.ref a)) (.val (.ref a)) σ K := by
  show isRef X a a fun r => K (!r)
  unfold isRef
  have e : Nat.beq a a = true := Nat.beq_refl a
  rw [e]
  exact h
theorem bf_rest {c : Cx} (hC : C3 c) {D : Nat} {σ : Hp} {n : Nat} {e : Nat} {ver : V} {st v : Nat} {ps : List Part} {row : List Int} {Q : Fl → List V → Hp → Prop} (hq : IsQR σ n e ver (ps.map partV)) (hp : ∀ p ∈ ps, PartOk p) (hl : ps.length ≤ 10)
    (h1 : 1 ≤ st) (h2 : st ≤ 40) (hrow : bitsT[e]? = some row) (hrl : row.length ≤ 100) (hv : FX.bisL row ((allB' st ps).length : Int) st row.length = v) (hv1 : 1 ≤ v) (hv2 : v ≤ 40) (hvm : modeAddr v = modeAddr st)
    (h : ∀ l τ, Q (.ret (.int v)) l (σ.set n (.inst 675 (qrF n e (.int v) .none)) ++ τ)) : bfRest (X3 c (D + 4)) [.ref n, .int st, .unb, .unb, .unb, .unb] σ Q := by
  obtain ⟨hi, hparts⟩ := hq
  have hrow' : (bitsT.map fun r => V.lst (r.map V.int))[e]? = some (.lst (row.map V.int)) := by rw [List.getElem?_map, hrow]; rfl
  repeat' walk_at "vc"
  conv => whnf
  refine chk_ver_ hC (by omega) (by omega) ?_
  repeat' walk_at "vc"
  conv => whnf
  refine mode_sizes_ hC ?_
  repeat' walk_at "vc"
  conv => whnf
  refine bb_new hC ?_
  have hi' : (σ ++ [AO.inst 497 [(6, .ref (σ.length + 1)), (7, .int 0)], .list []])[n]? = some (.inst 675 (qrF n e ver .none)) := at_app hi
  have hparts' : (σ ++ [AO.inst 497 [(6, .ref (σ.length + 1)), (7, .int 0)], .list []])[n + 4]? = some (.list (ps.map partV)) := at_app hparts
  have hbuf : IsBuf 497 (σ ++ [AO.inst 497 [(6, .ref (σ.length + 1)), (7, .int 0)], .list []]) σ.length (σ.length + 1) ([], 0) := ⟨by simp, by simp, by simp [BOk]⟩
  repeat' walk_at "vc"
  conv => whnf
  have hn4 : n + 4 < σ.length := (List.getElem?_eq_some_iff.mp hparts).1
  have na : σ.length ≠ n + 4 := by omega
  have nb : σ.length + 1 ≠ n + 4 := by omega
  have nc : σ.length ≠ n := by omega
  have nd : σ.length + 1 ≠ n := by omega
  have fin : ∀ (o : AO) (q : Buf), (bufH 497 (σ ++ [AO.inst 497 [(6, .ref (σ.length + 1)), (7, .int 0)], .list []]) σ.length (σ.length + 1) q).set n o = σ.set n o ++ [AO.inst 497 [(6, .ref (σ.length + 1)), (7, .int q.2)], .list (q.1.map V.int)] := by
    intro o q
    unfold bufH
    rw [List.set_append_right _ _ (by omega), List.set_append_right _ _ (by omega), set_app (by omega)]
    simp
  generalize hT : (σ ++ [AO.inst 497 [(6, .ref (σ.length + 1)), (7, .int 0)], .list []]) = T at hi' hparts' hbuf fin
  refine forJ_of (fun k l τ => k ≤ ps.length ∧ ∃ u u2, l = [.ref n, .int st, .val (.ref (modeAddr st)), .ref σ.length, u, u2] ∧ τ = bufH 497 T σ.length (σ.length + 1) (pbits ([], 0) (allB' st (ps.take k)))) ⟨Nat.zero_le _, _, _, rfl, hbuf.self.symm⟩ ?_ ?_ ?_
  · rintro k l τ ⟨_, u, u2, rfl, rfl⟩
    exact bufH_at hparts' na nb
  · rintro k w l τ hw ⟨hk, u, u2, rfl, rfl⟩
    obtain ⟨p, hg, rfl⟩ : ∃ p, ps[k]? = some p ∧ w = partV p := by
      rw [List.getElem?_map] at hw
      cases hq : ps[k]? with
      | none => rw [hq] at hw; cases hw
      | some x => rw [hq] at hw; exact ⟨x, rfl, (Option.some.inj hw).symm⟩
    have hk' : k < ps.length := (List.getElem?_eq_some_iff.mp hg).1
    have hlk := allB_le (v := st) hp hl k
    have hpk := hp _ (List.mem_of_getElem? hg)
    have hpl := partB_le (v := st) hpk
    have hpn := pbits_n (([], 0) : Buf) (allB' st (ps.take k))
    simp only [Nat.zero_add] at hpn
    have hok : BOk (pbits ([], 0) (allB' st (ps.take k))) := pbits_ok hbuf.2.2 (by simp only [Nat.zero_add]; omega)
    conv => whnf
    refine bf_item hC (hbuf.buf hok) hpk (by omega) ?_
    refine ⟨hk', _, _, rfl, ?_⟩
    rw [bufH_twice hbuf.ne, take_get hg]
    unfold allB'
    rw [List.flatMap_append, pbits_append]
    simp
  · rintro l τ ⟨_, u, u2, rfl, rfl⟩
    rw [List.length_map, List.take_of_length_le (Nat.le_refl _)]
    have hlk := allB_le (v := st) hp hl ps.length
    rw [List.take_of_length_le (Nat.le_refl _)] at hlk
    have hpn := pbits_n (([], 0) : Buf) (allB' st ps)
    simp only [Nat.zero_add] at hpn
    have hok : BOk (pbits ([], 0) (allB' st ps)) := pbits_ok hbuf.2.2 (by simp only [Nat.zero_add]; omega)
    have hb2 := hbuf.buf hok
    have hiT : (bufH 497 T σ.length (σ.length + 1) (pbits ([], 0) (allB' st ps)))[n]? = some (.inst 675 (qrF n e ver .none)) := bufH_at hi' nc nd
    obtain ⟨d1, d2, d3⟩ := id hb2
    repeat' walk_at "vc"
    conv => whnf
    refine bb_len_ hC hb2 ?_
    have he4 : e < 4 := (List.getElem?_eq_some_iff.mp hrow).1
    repeat' walk_at "vc"
    conv => whnf
    refine getV_of (by rw [Int.toNat_natCast]; exact hrow') ?_
    repeat' walk_at "vc"
    conv => whnf
    refine intsV_of rfl ?_
    repeat' walk_at "vc"
    rw [hpn, Int.toNat_natCast, hv]
    conv => whnf
    refine ver_set_ hC (by omega) (by omega) hiT (by simp [qrF]) ?_
    rw [show putF (.int (v : Int)) (qrF n e ver .none) 15 = qrF n e (.int v) .none from rfl]
    have hiS : ((bufH 497 T σ.length (σ.length + 1) (pbits ([], 0) (allB' st ps))).set n (.inst 675 (qrF n e (.int v) .none)))[n]? = some (.inst 675 (qrF n e (.int v) .none)) := at_same hiT
    repeat' walk_at "vc"
    conv => whnf
    refine ver_get_ hC hiS ?_
    repeat' walk_at "vc"
    conv => whnf
    refine ver_get_ hC hiS ?_
    repeat' walk_at "vc"
    conv => whnf
    refine mode_sizes_ hC ?_
    rw [hvm]
    refine isnot_self ?_
    repeat' walk_at "vc"
    conv => whnf
    refine ver_get_ hC hiS ?_
    repeat' walk_at "vc"
    conv => whnf
    rw [fin]
    exact h _ _
theorem best_fit_ {c : Cx} (hC : C3 c) {D : Nat} {σ : Hp} {n : Nat} {e : Nat} {ver start : V} {st v : Nat} {ps : List Part} {row : List Int} {Q : V → Hp → Prop} (hq : IsQR σ n e ver (ps.map partV)) (hp : ∀ p ∈ ps, PartOk p) (hl : ps.length ≤ 10)
    (hs : (start = .none ∧ st = 1) ∨ start = .int st) (h1 : 1 ≤ st) (h2 : st ≤ 40) (hrow : bitsT[e]? = some row) (hrl : row.length ≤ 100) (hv : FX.bisL row ((allB' st ps).length : Int) st row.length = v) (hv1 : 1 ≤ v) (hv2 : v ≤ 40) (hvm : modeAddr v = modeAddr st)
    (h : Q (.int v) (σ.set n (.inst 675 (qrF n e (.int v) .none)))) : FC c (D + 5) (.val (.ref 616)) [.ref n] [("start", start)] σ Q := by
  refine FC.wf fun hbl _ => FC.gc ?_
  obtain ⟨hi, hparts⟩ := hq
  refine (best_fit.2 c hC).fc (X3 c (D + 4)) rfl (X3_ok hC _) (.inr ⟨_, _, rfl, rfl, rfl⟩) ?_
  have hrow' : (bitsT.map fun r => V.lst (r.map V.int))[e]? = some (.lst (row.map V.int)) := by rw [List.getElem?_map, hrow]; rfl
  have fin : ∀ (l : List V) (τ : Hp), (pst fun v σ' => ∃ σ'' τ, σ' = σ'' ++ τ ∧ σ.length ≤ σ''.length ∧ v.bl σ''.length ∧ Hp.bl σ''.length σ'' ∧ Q v σ'') (.ret (.int v)) l (σ.set n (.inst 675 (qrF n e (.int v) .none)) ++ τ) := by
    intro l τ
    refine ⟨_, _, rfl, by rw [List.length_set]; exact Nat.le_refl _, trivial, ?_, h⟩
    rw [List.length_set]
    have h4 : n + 4 < σ.length := (List.getElem?_eq_some_iff.mp hparts).1
    refine Hp.bl_set hbl ?_
    refine ⟨trivial, trivial, trivial, trivial, trivial, trivial, ?_, ?_, trivial, trivial, ?_, trivial⟩
    · show n + 1 < σ.length; omega
    · show n + 3 < σ.length; omega
    · exact h4
  conv => whnf
  rcases hs with ⟨rfl, rfl⟩ | rfl
  · walk_at "vc"
    conv => whnf
    exact bf_rest hC ⟨hi, hparts⟩ hp hl h1 h2 hrow hrl hv hv1 hv2 hvm fin
  · repeat' walk_at "vc"
    conv => whnf
    exact bf_rest hC ⟨hi, hparts⟩ hp hl h1 h2 hrow hrl hv hv1 hv2 hvm fin
end
section
open PySem PySem.W PyProof.Rows PySem.Calls
set_option maxRecDepth 100000
set_option maxHeartbeats 4000000
abbrev Txt := Int × Nat
def txtV (p : Txt) : V := .tup [.int p.1, .int p.2]
def TxtOk (p : Txt) : Prop := (p.1 = 1 ∨ p.1 = 2 ∨ p.1 = 4) ∧ p.2 ≤ 100
def txtB (v : Int) (p : Txt) : Int := ((4 + ccb v p.1 + wlen p.1 p.2 : Nat) : Int)
def lsz (v : Int) (ts : List Txt) : Int := (ts.map (txtB v)).sum
def wide (v : Int) : Int := if v < 10 then 0 else if v < 27 then 1 else 2
abbrev lsT (n : Nat) : WA := tupA n (consA (asgA 4) (consA (asgA 5) nilA))
abbrev lsBody : WX := seqX
  (asgX 3 (binW Operator.Add (binW Operator.Add (locW 3) (cstW (V.int 4)))
    (itemW (itemW (dictW (consP (cstW (V.int 1)) (listW (consL (cstW (V.int 10)) (consL (cstW (V.int 12)) (consL (cstW (V.int 14)) nilL))))
      (consP (cstW (V.int 2)) (listW (consL (cstW (V.int 9)) (consL (cstW (V.int 11)) (consL (cstW (V.int 13)) nilL))))
        (consP (cstW (V.int 4)) (listW (consL (cstW (V.int 8)) (consL (cstW (V.int 16)) (consL (cstW (V.int 16)) nilL)))) nilP)))) (locW 4)) (locW 2))))
  (asgX 3 (binW Operator.Add (locW 3) (itemW (listW (consL (cstW (V.int 0))
    (consL (binW Operator.FloorDiv (binW Operator.Add (binW Operator.Mult (cstW (V.int 10)) (locW 5)) (cstW (V.int 2))) (cstW (V.int 3)))
      (consL (binW Operator.FloorDiv (binW Operator.Add (binW Operator.Mult (cstW (V.int 11)) (locW 5)) (cstW (V.int 1))) (cstW (V.int 2)))
        (consL (cstW (V.int 0)) (consL (binW Operator.Mult (cstW (V.int 8)) (locW 5)) nilL)))))) (locW 4))))
theorem ls_grow {τ a b c d l : Hp} {o : AO} : ((((τ ++ a) ++ b) ++ c) ++ d).set τ.length o ++ l = τ ++ ((a ++ (b ++ (c ++ d))).set 0 o ++ l) := by
  simp only [List.append_assoc]
  rw [List.set_append_right _ _ (Nat.le_refl _), Nat.sub_self, List.append_assoc]
theorem ls_turn {c : Cx} {D t : Nat} {τ : Hp} {v told : Int} {a b : V} {p : Txt} {n : Nat} {Q : Fl → List V → Hp → Prop} (hn : n = 2) (hp : TxtOk p)
    (h : ∀ g x, x = told + txtB v p → Q .next [.ref t, .int v, .int (wide v), .int x, .int p.1, .int p.2] (τ ++ g)) :
    lsT n (X3 c D) (txtV p) [.ref t, .int v, .int (wide v), .int told, a, b] τ fun l₁ σ₁ => lsBody (X3 c D) l₁ σ₁ Q := by
  subst hn
  obtain ⟨m, s⟩ := p
  obtain ⟨hm, hs⟩ := hp
  simp only at hm hs h
  have hw : (wide v = 0 ∧ ccb v m = (if m = 1 then 10 else if m = 2 then 9 else 8)) ∨ (wide v = 1 ∧ ccb v m = (if m = 1 then 12 else if m = 2 then 11 else 16)) ∨ (wide v = 2 ∧ ccb v m = (if m = 1 then 14 else if m = 2 then 13 else 16)) := by
    unfold wide ccb
    by_cases h1 : v < 10
    · rw [if_pos h1, if_pos h1]; exact .inl ⟨rfl, rfl⟩
    · rw [if_neg h1, if_neg h1]
      by_cases h2 : v < 27
      · rw [if_pos h2, if_pos h2]; exact .inr (.inl ⟨rfl, rfl⟩)
      · rw [if_neg h2, if_neg h2]; exact .inr (.inr ⟨rfl, rfl⟩)
  have f1 : (10 * (s : Int) + 2).fdiv 3 = (((10 * s + 2) / 3 : Nat) : Int) := by have := fdivN (10 * s + 2) 3; simpa using this
  have f2 : (11 * (s : Int) + 1).fdiv 2 = (((11 * s + 1) / 2 : Nat) : Int) := by have := fdivN (11 * s + 1) 2; simpa using this
  rcases hm with rfl | rfl | rfl
  · rcases hw with ⟨hA, hcc⟩ | ⟨hA, hcc⟩ | ⟨hA, hcc⟩
    all_goals
      rw [hA] at h ⊢
      show lsT 2 (X3 c D) (.tup [.int 1, .int s]) _ _ _
      conv => whnf
      refine chk_of rfl ?_
      repeat' walk_at "vc"
      conv => whnf
      refine getO_of (o := .list [.int 10, .int 12, .int 14]) (by simp) ?_
      repeat' walk_at "vc"
      conv => whnf
      rw [ls_grow]
      refine h _ _ ?_
      unfold txtB wlen
      rw [hcc]
      first | rw [f1] | rw [f2] | skip
      simp
      omega
  · rcases hw with ⟨hA, hcc⟩ | ⟨hA, hcc⟩ | ⟨hA, hcc⟩
    all_goals
      rw [hA] at h ⊢
      show lsT 2 (X3 c D) (.tup [.int 2, .int s]) _ _ _
      conv => whnf
      refine chk_of rfl ?_
      repeat' walk_at "vc"
      conv => whnf
      refine getO_of (o := .list [.int 9, .int 11, .int 13]) (by simp) ?_
      repeat' walk_at "vc"
      conv => whnf
      rw [ls_grow]
      refine h _ _ ?_
      unfold txtB wlen
      rw [hcc]
      first | rw [f1] | rw [f2] | skip
      simp
      omega
  · rcases hw with ⟨hA, hcc⟩ | ⟨hA, hcc⟩ | ⟨hA, hcc⟩
    all_goals
      rw [hA] at h ⊢
      show lsT 2 (X3 c D) (.tup [.int 4, .int s]) _ _ _
      conv => whnf
      refine chk_of rfl ?_
      repeat' walk_at "vc"
      conv => whnf
      refine getO_of (o := .list [.int 8, .int 16, .int 16]) (by simp) ?_
      repeat' walk_at "vc"
      conv => whnf
      rw [ls_grow]
      refine h _ _ ?_
      unfold txtB wlen
      rw [hcc]
      first | rw [f1] | rw [f2] | skip
      simp
      omega
theorem ls_loop {c : Cx} {D t : Nat} {σ : Hp} {v : Int} {a b : V} {ts : List Txt} {n : Nat} {Q : Fl → List V → Hp → Prop} (hn : n = 2) (ht : σ[t]? = some (.list (ts.map txtV))) (hok : ∀ p ∈ ts, TxtOk p)
    (h : ∀ g a b, Q .next [.ref t, .int v, .int (wide v), .int (lsz v ts), a, b] (σ ++ g)) :
    forJ (X3 c D) (lsT n) lsBody (some (t, ts.map txtV)) (ts.map txtV) [.ref t, .int v, .int (wide v), .int 0, a, b] σ Q := by
  refine forJ_of (fun k l τ => k ≤ ts.length ∧ ∃ a b g, l = [.ref t, .int v, .int (wide v), .int (lsz v (ts.take k)), a, b] ∧ τ = σ ++ g) ⟨Nat.zero_le _, _, _, [], rfl, by simp⟩ ?_ ?_ ?_
  · rintro k l τ ⟨_, a, b, g, rfl, rfl⟩
    exact at_app ht
  · rintro k w l τ hw ⟨hk, a, b, g, rfl, rfl⟩
    obtain ⟨p, hg, rfl⟩ : ∃ p, ts[k]? = some p ∧ w = txtV p := by
      rw [List.getElem?_map] at hw
      cases hq : ts[k]? with
      | none => rw [hq] at hw; cases hw
      | some x => rw [hq] at hw; exact ⟨x, rfl, (Option.some.inj hw).symm⟩
    have hk' : k < ts.length := (List.getElem?_eq_some_iff.mp hg).1
    refine ls_turn hn (hok _ (List.mem_of_getElem? hg)) fun g' x hx => ?_
    refine ⟨hk', .int p.1, .int p.2, g ++ g', ?_, by rw [List.append_assoc]⟩
    rw [hx, take_get hg]
    unfold lsz
    rw [List.map_append, List.sum_append]
    simp
  · rintro l τ ⟨_, a, b, g, rfl, rfl⟩
    rw [List.length_map, List.take_of_length_le (Nat.le_refl _)]
    exact h _ _ _
theorem lsize_ {c : Cx} (hC : C3 c) {D : Nat} {σ : Hp} {t : Nat} {v : Int} {ts : List Txt} {Q : V → Hp → Prop} (ht : σ[t]? = some (.list (ts.map txtV))) (hok : ∀ p ∈ ts, TxtOk p) (hl : ts.length ≤ 10)
    (h : Q (.int (lsz v ts)) σ) : FC c (D + 1) (.val (.ref 698)) [.ref t, .int v] [] σ Q := by
  refine FC.wf fun hbl _ => FC.gc ?_
  refine (lsize.2 c hC).fc (X3 c D) rfl (X3_ok hC _) ⟨rfl, rfl, rfl⟩ ?_
  have fin : ∀ g : Hp, ∃ σ'' τ, σ ++ g = σ'' ++ τ ∧ σ.length ≤ σ''.length ∧ V.bl σ''.length (.int (lsz v ts)) ∧ Hp.bl σ''.length σ'' ∧ Q (.int (lsz v ts)) σ'' := fun g => ⟨σ, g, rfl, Nat.le_refl _, trivial, hbl, h⟩
  have hloop := fun (a b : V) (Q' : Fl → List V → Hp → Prop) => ls_loop (c := c) (D := D) (v := v) (a := a) (b := b) (n := 2) (Q := Q') rfl ht hok
  unfold wide at hloop
  repeat' walk_at "vc"
  conv => whnf
  refine br_both (fun hb => ?_) (fun hb => ?_)
  · have hb' := of_decide_eq_true hb
    simp only [if_pos hb'] at hloop
    repeat' walk_at "vc"
    conv => whnf
    refine hloop _ _ _ fun g a b => ?_
    conv => whnf
    exact fin g
  · have hb' := of_decide_eq_false hb
    simp only [if_neg hb'] at hloop
    repeat' walk_at "vc"
    conv => whnf
    refine br_both (fun hb2 => ?_) (fun hb2 => ?_)
    · have hb2' := of_decide_eq_true hb2
      simp only [if_pos hb2'] at hloop
      repeat' walk_at "vc"
      conv => whnf
      refine hloop _ _ _ fun g a b => ?_
      conv => whnf
      exact fin g
    · have hb2' := of_decide_eq_false hb2
      simp only [if_neg hb2'] at hloop
      repeat' walk_at "vc"
      conv => whnf
      refine hloop _ _ _ fun g a b => ?_
      conv => whnf
      exact fin g
end
section
open PySem PySem.W PyProof.Rows PySem.Calls Builtin
set_option maxRecDepth 100000
set_option maxHeartbeats 4000000
-- A CLASS OVER tuple, WITH A __new__ OF ITS OWN
structure TupCls (K : Frag) (C : Addr) : Prop where
  obj : ∃ oc od cd sl, K.lookup C = some ⟨oc, od, .cls cd, sl⟩ ∧ cd.mro = [.ref C, .type "tuple", .type "object"] ∧ cd.bases = [.type "tuple"] ∧ cd.hasDel = false ∧ (sl.toList[4]?).join = some .none
  isty : instIn K (.ref C) (.type "type") = some true
  init : findIn K (.ref C) "__init__" = some (some (.builtin "object.__init__"))
section
variable {K : Frag} {C : Addr} {M : Model} {h : Heap}
theorem TupCls.mro (y : TupCls K C) (X : K.In h) : Looks M h (mroOf (.ref C)) [.ref C, .type "tuple", .type "object"] := by
  obtain ⟨oc, od, cd, sl, ho, e1, e2, e3, e4⟩ := y.obj
  have hc : clsIn K C = some cd := by unfold clsIn; rw [ho]
  rw [← e1]
  exact (looks_clsIn X hc).andThen .now
theorem TupCls.made (y : TupCls K C) (X : K.In h) : Looks M h (Bind.madeBy (.ref C)) none := by
  have hm := y.mro (M := M) X
  obtain ⟨oc, od, cd, sl, ho, e1, e2, e3, e4⟩ := y.obj
  intro A Q E s k q
  unfold Bind.madeBy
  refine wpAny_bind (hm A _ E s k ?_)
  rw [List.forIn_cons]
  refine wpAny_bind (wpAny_bind (wpAny_bind (wpAny_bind (wpAny_loadPart (k _ _ (X _ _ ho)) (wpAny_pure ?_)))))
  dsimp only
  rw [← Array.getElem?_toList, e4]
  exact wpAny_pure (wpAny_pure (wpAny_pure q))
theorem best_tuple : Builtin.Slots.bestBase [.type "tuple"] = pure (.type "tuple") := by first | rfl | kernel_rfl
theorem TupCls.static (y : TupCls K C) (X : K.In h) : Looks M h (Bind.staticBase (.ref C)) (.type "tuple") := by
  have hm := y.mro (M := M) X
  have h0 := y.made (M := M) X
  obtain ⟨oc, od, cd, sl, ho, e1, e2, e3, e4⟩ := y.obj
  have hc : clsIn K C = some cd := by unfold clsIn; rw [ho]
  have hL := looks_clsIn (M := M) X hc
  intro A Q E s k q
  unfold Bind.staticBase
  refine wpAny_bind (hm A _ E s k ?_)
  rw [List.forIn_cons]
  refine wpAny_bind (wpAny_bind (wpAny_bind (h0 A _ E s k ?_)))
  simp only [Option.isSome_none, Bool.false_eq_true, if_false]
  refine wpAny_bind (hL A _ E s k ?_)
  rw [e2, best_tuple]
  refine wpAny_bind (wpAny_pure (wpAny_pure ?_))
  dsimp only
  rw [List.forIn_cons]
  dsimp only
  rw [PySem.F.called_tuple.made]
  refine wpAny_bind (wpAny_bind (wpAny_pure ?_))
  simp only [Option.isSome_some, if_true]
  exact wpAny_pure (wpAny_pure (wpAny_pure q))
theorem TupCls.here (y : TupCls K C) (X : K.In h) : Looks M h (Bind.madeHere "tuple.__new__" (.ref C)) () := by
  unfold Bind.madeHere
  refine (y.static X).andThen ?_
  rw [PySem.F.called_tuple.made]
  refine Looks.of_pure ?_
  first | rfl | kernel_rfl
theorem TupCls.sub (y : TupCls K C) (X : K.In h) : Looks M h (isSubtype (.ref C) (.type "tuple")) true := by
  obtain ⟨oc, od, cd, sl, ho, e1, e2, e3, e4⟩ := y.obj
  have hc : clsIn K C = some cd := by unfold clsIn; rw [ho]
  refine looks_mroIn X ?_
  unfold mroIn
  rw [hc, Option.bind_some, e1]
  rfl
theorem TupCls.isT (y : TupCls K C) (X : K.In h) : Looks M h (isType (.ref C)) true := by
  obtain ⟨oc, od, cd, sl, ho, e1, e2, e3, e4⟩ := y.obj
  unfold isType loadHead
  exact (Looks.ld (X _ _ ho)).andThen .now
theorem kind_tupNew : builtinKind "tuple.__new__" = some .builtinFn := by decide +kernel
theorem split_tupNew : splitId "tuple.__new__" = some ("tuple", "__new__") := by decide +kernel
theorem tup_args (a b : Value) : argsOk "tuple.__new__" ⟨[a, b], []⟩ := by unfold argsOk; kernel_rfl
end
section
variable {prog : Program} {w : World} {A : Around} {K : Frag} {C : Addr} {R : Result → Shared → Prop} {s : Shared}
theorem tup_new {t : Addr} {o : Obj} {items : Array Value} {n : Nat} (y : TupCls K C) (X : K.In s.heap) (ho : s.heap.get? t = some o) (hc : o.cls = .type "tuple") (hd : o.data = .seq items n) (hz : items.size ≤ sizeLine)
    (q : ∀ h' : Heap, (∀ b o', s.heap.get? b = some o' → h'.get? b = some o') → R (.ok (.ret (.ref (h'.push emptyDict).objs.size))) { s with heap := (h'.push emptyDict).push ⟨.ref C, some h'.objs.size, .seq items.toList.toArray 0, #[]⟩ }) :
    codeAny (model prog w) A (.call (.builtin "tuple.__new__") ⟨[.ref C, .ref t], []⟩) R s := by
  refine codeAny_call_builtin_code (Code.quiet_builtin _ (by decide +kernel)) ?_
  simp only [checkBuiltinCall, kind_tupNew, split_tupNew]
  have i1 := y.isT (M := model prog w) X
  have i2 := y.sub (M := model prog w) X
  have i3 := y.static (M := model prog w) X
  have i4 := PySem.F.called_tuple.made
  have i5 := y.here (M := model prog w) X
  have i6 : Looks (model prog w) s.heap (typeLookup (.ref C) "__init__") (some (.builtin "object.__init__")) := looks_findIn X y.init
  have eq1 : ("__new__" == "__new__") = true := by decide
  have eq2 : (Manifest.canonical "tuple.__new__" != Manifest.canonical "tuple.__new__") = false := bne_self_eq_false' ..
  rw [if_pos eq1]
  refine wpAny_bind (i1.here ?_)
  simp only [Bool.not_true, Bool.false_eq_true, if_false]
  refine wpAny_bind (i2.here ?_)
  simp only [Bool.not_true, Bool.false_eq_true, if_false]
  refine wpAny_bind (i3.here ?_)
  rw [i4]
  refine wpAny_bind (wpAny_pure ?_)
  dsimp only
  rw [eq2, if_neg (by decide)]
  have ar : argsOk "tuple.__new__" ⟨[.ref C, .ref t], []⟩ := tup_args _ _
  unfold argsOk at ar
  refine wpAny_mono (Q := fun _ s' => s' = s) (E := fun _ _ => False) ?_ (fun _ s' e => ?_) fun _ _ e => e.elim
  · split at ar
    · rename_i sig e
      rw [e]
      have ar' : Bind.checkArgs "tuple.__new__" sig ⟨[.ref C, .ref t], []⟩ = pure () := ar
      show wpAny _ _ (Bind.checkArgs "tuple.__new__" sig ⟨[.ref C, .ref t], []⟩) _ _ _
      rw [ar']
      exact wpAny_pure rfl
    · rename_i e
      rw [e]
      exact wpAny_pure rfl
  subst e
  refine codeAny_builtin PySem.F.entry_tuple_new ?_
  unfold Builtin.«tuple.__new__»
  dsimp only
  refine wpAny_bind (i1.here ?_)
  simp only [Bool.not_true, Bool.false_eq_true, if_false]
  refine wpAny_bind (i2.here ?_)
  simp only [Bool.not_true, Bool.false_eq_true, if_false]
  refine wpAny_bind (i5.here ?_)
  refine wpAny_bind (i6.here ?_)
  rw [if_pos (beq_self_eq_true _)]
  have k1 : noKeywords "tuple" ⟨[Value.ref C, Value.ref t], []⟩ = pure () := by first | rfl | kernel_rfl
  have k2 : checkCount "tuple" 0 1 [Value.ref t].length = pure () := by first | rfl | kernel_rfl
  have k3 : (Value.ref C == Value.type "tuple") = false := by first | rfl | kernel_rfl
  rw [k1, k2, k3]
  refine wpAny_bind (wpAny_pure (wpAny_bind (wpAny_pure ?_)))
  simp only [Bool.false_eq_true, if_false]
  refine wpAny_bind (PySem.wpAny_collect_seq t (.inr rfl) ho hc hd (fun h' hk => ?_) hz)
  refine wpAny_bind (wpAny_pure ?_)
  refine wpAny_bind (wpAny_alloc ?_)
  obtain ⟨oc, od, cd, sl, hC, e1, e2, e3, e4⟩ := y.obj
  have hC' := hk _ _ (X _ _ hC)
  refine wpAny_bind ?_
  unfold newObj
  dsimp only
  rw [if_neg (by simpa using hz)]
  unfold newObjAsIs classHasDel
  refine wpAny_bind (wpAny_alloc (wpAny_bind (wpAny_bind (wpAny_load (Heap.get?_push_of_some _ (Heap.get?_push_of_some _ hC')) (wpAny_pure ?_)))))
  rw [e3]
  exact wpAny_pure (wpAny_pure (q h' hk))
theorem method_typ {T : String} {name : Str} {v : Value} {pl : Sem Bool} {E : Value → Shared → Prop} {Q : Value × List Value → Shared → Prop} (X : K.In s.heap) (ht : typeOf (.type T) = pure (.type "type")) (hs : Manifest.isStub T = false)
    (e : findCls K (.type T) (.type "type") name = some (.val v)) (hh : handedIn v = true) (h : Q (v, []) { s with toks := s.toks + 1 }) : wpAny (model prog w) A (getMethod (.type T) name pl) Q E s := by
  have L1 : Looks (model prog w) s.heap (opaqueClassAbove (.type T)) none := by
    refine Looks.of_pure ?_
    unfold opaqueClassAbove
    dsimp only
    rw [hs]
    rfl
  have L2 : Looks (model prog w) s.heap (typeOf (.type T)) (.type "type") := Looks.of_pure ht
  have hg : findIn K (.type "type") "__getattribute__" = some (some (.builtin "type.__getattribute__")) := type_tga
  unfold getMethod specialOf
  refine wpAny_bind (wpAny_bind (L2.here ((looks_findIn X hg).here ?_)))
  dsimp only
  rw [if_pos canon_tga]
  refine wpAny_bind (wpAny_mono (Q := fun v => Q (v, [])) (E := E) ?_ (fun _ _ z => wpAny_pure z) fun _ _ z => z)
  refine cls_open X L1 L2 hg (looks_hook X (r := none) (by rfl)) (by show subIn K _ _ = _; rfl) e (wpAny_pure ?_)
  show wpAny _ _ (handedOut v) _ _ _
  rw [handedOut_of hh]
  exact wpAny_pure h
end
section
variable {c : Cx} {env : Env} {D : Nat} {l : Loc} {σ : Hp} {Q : V → Hp → Prop} {C : Addr}
theorem em_typ {T : String} {name : Str} {v : Value} {QM : V → List V → Hp → Prop} (ht : typeOf (.type T) = pure (.type "type")) (hs : Manifest.isStub T = false) (e : findCls c.K (.type T) (.type "type") name = some (.val v)) (hh : handedIn v = true)
    (h : QM (.val v) [] σ) : EM c env D (.val (.type T)) name l σ QM := by
  intro A g ρ z s Q' E' w pl ok R r q
  cases r
  exact method_typ (R.base.X.keeps R.keep) ht hs e hh (q _ _ _ _ _ _ _ _ h (R.toks _) (Go.toks ..) (.val _) .nil)
theorem fn_tupNew {vs : List V} (y : TupCls c.K C) (hz : vs.length ≤ 1000000) (h : Q (.ntup C vs) σ) : FN c D (.val (.builtin "tuple.__new__")) [.val (.ref C), .tup vs] [] σ Q := by
  refine fn2 fun A g ρ z s Q' E' w₁ w₂ ok P r₁ r₂ q => ?_
  cases r₁
  cases r₂ with
  | tup hm hl =>
    rename_i ws a n
    have X := P.base.X.keeps P.keep
    refine wpAny_call (tup_new y X (P.frz _ hm).1 rfl rfl (by rw [List.size_toArray, sizeLine_eq]; have := hl.length; omega) fun h' hk => ?_)
    have P1 : Rp c g [] ρ z σ { s with heap := h' } := P.grow hk
    have G1 : Go g ρ z s ρ z { s with heap := h' } := Go.same g ρ z s _ hk
    have P2 := P1.pushZ emptyDict
    have G2 := Go.push P1.keep (ρ := ρ) (z := z) (s := { s with heap := h' }) emptyDict
    have P3 := P2.pushZ ⟨.ref C, some h'.objs.size, .seq ws.toArray 0, #[]⟩
    have G3 := Go.push P2.keep (ρ := ρ) (z := (h'.objs.size, emptyDict) :: z) (s := { s with heap := h'.push emptyDict }) ⟨.ref C, some h'.objs.size, .seq ws.toArray 0, #[]⟩
    exact q _ _ _ _ _ _ h P3 (G1.trans (G2.trans G3)) (.ntup (.head _) (.tail _ (.head _)) (hl.mono (G1.trans (G2.trans G3)).toExt))
end
end
section
open PySem PySem.W PyProof.Rows PySem.Calls Builtin
set_option maxRecDepth 100000
set_option maxHeartbeats 4000000
theorem ty_tuple : typeOf (.type "tuple") = pure (.type "type") := by kernel_rfl
theorem isTy_tuple : isType (.type "tuple") = pure true := by kernel_rfl
section
variable {prog : Program} {w : World} {A : Around} {E : Value → Shared → Prop} {K : Frag} {C : Addr} {s : Shared}
theorem issub_nested {Q : Fin → Shared → Prop} (y : TupCls K C) (X : K.In s.heap) (q : Q (.done (.ret (.bool true))) s) : wpAny (model prog w) A (Builtin.«issubclass.nested» ⟨[.ref C, .type "tuple", rawInt 0], []⟩) Q E s := by
  have h1 := y.isT (M := model prog w) X
  have h2 := y.sub (M := model prog w) X
  have h3 : Looks (model prog w) s.heap (typeOf (.type "tuple")) (.type "type") := Looks.of_pure ty_tuple
  have h4 : Looks (model prog w) s.heap (isType (.type "tuple")) true := Looks.of_pure isTy_tuple
  obtain ⟨hh, g, d, t, os⟩ := s
  unfold Builtin.«issubclass.nested»
  dsimp only [rawInt]
  dsimp only at h1 h2 h3 h4 X
  refine wpAny_bind (h3.at ?_)
  rw [if_pos (by rfl)]
  refine wpAny_bind ?_
  repeat lk
  exact q
theorem issub_call {Q : Value → Shared → Prop} (y : TupCls K C) (X : K.In s.heap) (q : Q (.bool true) s) : wpAny (model prog w) A (call (.builtin "issubclass") [.ref C, .type "tuple"]) Q E s :=
  call_issubclass (S := fun _ R s => K.In s.heap ∧ R (.ok (.ret (.bool true))) s) (fun prog w A R s hs => issubclass_outer (issub_nested y hs.1 hs.2)) ⟨X, q⟩
theorem tupItem {l : Addr} {items : Array Value} {n : Nat} {d : Option Addr} {i : Int} {u : Tok} {k : Nat} {v : Value} (hlo : -2 ^ 63 ≤ i) (hhi : i < 2 ^ 63) (hk : seqIndex? i items.size = some k) (hy : items[k]? = some v) :
    Meets (Builtin.«tuple.__getitem__» ⟨[.ref l, .int i u], []⟩)
      (fun _ R s => s.heap.get? l = some { cls := .ref C, dict := d, data := .seq items n, slots := #[] } ∧ R (.ok (.ret v)) s) :=
  .of_wp fun prog w A R s h => by
    obtain ⟨hp, g, d, tk, os⟩ := s; obtain ⟨hl, h⟩ := h
    have f1 := AutoSeq1.idx_int
    have hf : ¬ (decide (i < -2 ^ 63) || decide (i ≥ 2 ^ 63)) = true := by simp; omega
    wp_walk using wpAny_loadPart' hl
    simp only [hk, hy, Option.bind_some]
    refine wpAny_ite_false (by simp; omega) ?_
    wp_walk
    exact ⟨_, rfl, h⟩
theorem tupItem_call {a : Addr} {items : Array Value} {n : Nat} {d : Option Addr} {i : Int} {u : Tok} {k : Nat} {v : Value} {Q : Value → Shared → Prop} (y : TupCls K C) (X : K.In s.heap) (ho : s.heap.get? a = some { cls := .ref C, dict := d, data := .seq items n, slots := #[] })
    (hlo : -2 ^ 63 ≤ i) (hhi : i < 2 ^ 63) (hk : seqIndex? i items.size = some k) (hy : items[k]? = some v) (q : Q v s) : wpAny (model prog w) A (call (.builtin "tuple.__getitem__") [.ref a, .int i u]) Q E s := by
  have hi : Looks (model prog w) s.heap (isInstance (.ref a) (.type "tuple")) true := by
    have t1 : Looks (model prog w) s.heap (typeOf (.ref a)) (.ref C) := (Looks.ld (part := none) ho).andThen .now
    exact t1.andThen (y.sub X)
  have ar : argsOk "tuple.__getitem__" ⟨[.ref a, .int i u], []⟩ := PySem.F.args_tuple_getitem_2 _ _
  have k1 : builtinKind "tuple.__getitem__" = some .slot := by decide +kernel
  have k2 : splitId "tuple.__getitem__" = some ("tuple", "__getitem__") := by decide +kernel
  refine wpAny_call ?_
  refine codeAny_call_builtin PySem.F.slot_tuple_getitem.plain PySem.F.entry_tuple_getitem ?_
  refine @check_slot (model prog w) _ _ s "tuple.__getitem__" "tuple" "__getitem__" (.ref a) [.int i u] [] _ k1 k2 hi ar ?_
  exact tupItem (C := C) hlo hhi hk hy prog w A (wants Q E) s ⟨ho, q⟩
end
section
variable {c : Cx} {env : Env} {D : Nat} {l : Loc} {σ : Hp} {Q : V → Hp → Prop} {C : Addr}
theorem ntup_inv {z : Led} {ρ : List Addr} {C : Addr} {vs : List V} {w : Value} (r : VR z ρ (.ntup C vs) w) : ∃ a ws dx n, w = .ref a ∧ (a, (⟨.ref C, some dx, .seq ws.toArray n, #[]⟩ : Obj)) ∈ z ∧ (dx, (⟨.type "dict", none, .dict #[] 0, #[]⟩ : Obj)) ∈ z ∧ VRL z ρ vs ws := by
  cases r with
  | ntup h1 h2 h3 => exact ⟨_, _, _, _, rfl, h1, h2, h3⟩
theorem fn_type {vs : List V} (h : Q (.val (.ref C)) σ) : FN c D (.val (.type "type")) [.ntup C vs] [] σ Q := by
  refine fn1 fun A g ρ z s Q' E' w ok P r q => ?_
  obtain ⟨a, ws, dx, n, rfl, h1, _, _⟩ := ntup_inv r
  have hz := (P.frz _ h1).1
  have q' := q _ _ _ _ _ _ h P (Go.refl ..) (.val _)
  obtain ⟨hh, gg, dd, tk, os⟩ := s
  exact call_type_obj hz (by first | rfl | kernel_rfl) q'
theorem fn_issub (y : TupCls c.K C) (h : Q (.bool true) σ) : FN c D (.val (.builtin "issubclass")) [.val (.ref C), .val (.type "tuple")] [] σ Q := by
  refine fn2 fun A g ρ z s Q' E' w₁ w₂ ok P r₁ r₂ q => ?_
  cases r₁; cases r₂
  exact issub_call y (P.base.X.keeps P.keep) (q _ _ _ _ _ _ h P (Go.refl ..) (.bool _))
theorem fn_tget (y : TupCls c.K C) {vs : List V} {k : Int} {v : V} (h0 : 0 ≤ k) (h1 : k < 2 ^ 63) (hv : vs[k.toNat]? = some v) (h : Q v σ) : FN c D (.val (.builtin "tuple.__getitem__")) [.ntup C vs, .int k] [] σ Q := by
  refine fn2 fun A g ρ z s Q' E' w₁ w₂ ok P r₁ r₂ q => ?_
  cases r₂
  obtain ⟨a, ws, dx, n, rfl, m1, _, m3⟩ := ntup_inv r₁
  obtain ⟨w, hw, rw'⟩ := m3.get hv
  have hlt : k.toNat < ws.length := (List.getElem?_eq_some_iff.mp hw).1
  refine tupItem_call y (P.base.X.keeps P.keep) (P.frz _ m1).1 (by omega) h1 (k := k.toNat) ?_ (by simpa using hw) (q _ _ _ _ _ _ h P (Go.refl ..) rw')
  unfold seqIndex?
  rw [List.size_toArray]
  first
    | (rw [if_neg (by omega)]; simp; omega)
    | (simp; omega)
    | (split <;> simp <;> omega)
end
end
section
open PySem PySem.W PyProof.Rows PySem.Calls Builtin
set_option maxRecDepth 100000
set_option maxHeartbeats 4000000
/-- how a class over tuple with a __new__ of its own is called -/
structure TupMake (K : Frag) (C p f : Addr) : Prop where
  y : TupCls K C
  call : specialIn K (.ref C) "__call__" = some (some (.builtin "type.__call__"))
  reads : readsIn K C (.type "type") = true
  get : findCls K (.ref C) (.type "type") "__new__" = some (.get (.builtin "staticmethod.__get__") (.ref p) .none (.ref C))
  sm : ∃ rest, recIn K p "staticmethod" = some (.ref f :: rest)
section
variable {prog : Program} {w : World} {A : Around} {K : Frag} {C p f : Addr} {R : Result → Shared → Prop} {s : Shared}
theorem oi_call {x : Addr} {o : Obj} {rest : List Value} {E : Value → Shared → Prop} {Q : Value → Shared → Prop} (y : TupCls K C) (X : K.In s.heap) (hx : s.heap.get? x = some o) (hc : o.cls = .ref C) (q : Q .none s) :
    wpAny (model prog w) A (call (.builtin "object.__init__") (.ref x :: rest)) Q E s := by
  have t1 : Looks (model prog w) s.heap (typeOf (.ref x)) (.ref C) := hc ▸ (Looks.ld (part := none) hx).andThen .now
  have t2 : Looks (model prog w) s.heap (isInstance (.ref x) (.type "object")) true := by
    obtain ⟨oc, od, cd, sl, ho, e1, e2, e3, e4⟩ := y.obj
    have hcl : clsIn K C = some cd := by unfold clsIn; rw [ho]
    refine t1.andThen (looks_mroIn X ?_)
    unfold mroIn
    rw [hcl, Option.bind_some, e1]
    rfl
  have i1 : Looks (model prog w) s.heap (typeLookup (.ref C) "__init__") (some (.builtin "object.__init__")) := looks_findIn X y.init
  have i2 := y.made (M := model prog w) X
  refine wpAny_call ?_
  refine codeAny_call_builtin oi_plain entry_oi ?_
  have ar : argsOk "object.__init__" ⟨.ref x :: rest, []⟩ := by unfold argsOk; kernel_rfl
  refine @check_slot (model prog w) _ _ s "object.__init__" "object" "__init__" (.ref x) rest [] _ oi_kind oi_split t2 ar ?_
  obtain ⟨hh, g, d, t, os⟩ := s
  dsimp only at t1 i1 i2
  unfold Builtin.«object.__init__»
  cases rest with
  | nil =>
    repeat lk
    exact q
  | cons a rest =>
    repeat lk
    exact q
theorem TupCls.inst (y : TupCls K C) {M : Model} {h : Heap} (X : K.In h) : Looks M h (isSubtype (.ref C) (.ref C)) true := by
  obtain ⟨oc, od, cd, sl, ho, e1, e2, e3, e4⟩ := y.obj
  have hcl : clsIn K C = some cd := by unfold clsIn; rw [ho]
  refine looks_mroIn X ?_
  unfold mroIn
  rw [hcl, Option.bind_some, e1, if_neg (by simp)]
  simp
theorem tcls_call (m : TupMake K C p f) (X : K.In s.heap) {ws : List Value}
    (h : codeAny (model prog w) (A.under (.builtin "type.__call__" ⟨.ref C :: ws, []⟩)) (.call (.ref f) ⟨.ref C :: ws, []⟩) (fun r s' => match r with
      | .ok (.ret v) => ∃ x o, v = .ref x ∧ s'.heap.get? x = some o ∧ o.cls = .ref C ∧ K.In s'.heap ∧ R (.ok (.ret (.ref x))) s'
      | _ => False) { s with toks := s.toks + 1 }) : codeAny (model prog w) A (.call (.ref C) ⟨ws, []⟩) R s := by
  obtain ⟨y, hcall, hreads, hget, rest, hsm⟩ := m
  obtain ⟨oc, od, cd, sl, ho, e1, e2, e3, e4⟩ := id y.obj
  have hC := X _ _ ho
  have call := looks_specialIn (M := model prog w) X hcall
  have typ := looks_instIn (M := model prog w) X y.isty
  have hm := y.mro (M := model prog w) X
  have made := y.made (M := model prog w) X
  obtain ⟨hh, g, d, t, os⟩ := s
  dsimp only at hC call typ hm made X
  refine codeAny_of_tree ?_
  show wpAny _ _ (callAny (.ref C) _) _ _ _
  refine nd_load hC ?_
  show wpAny _ _ (callAny.viaDunder (.ref C) _) _ _ _
  unfold callAny.viaDunder
  refine wpAny_bind (call.at ?_)
  dsimp only
  rw [tc_bind]
  refine wpAny_bind (wpAny_pure (wpAny_bind (wpAny_pure ?_)))
  refine wpAny_pure (a := Fin.again (.call (.builtin "type.__call__") ⟨.ref C :: ws, []⟩)) (And.intro rfl ?_)
  refine codeAny_call_builtin_at (Code.quiet_builtin _ (by decide +kernel)) entry_typeCall (check_slot tc_kind tc_split typ (tc_args _ _ _) ?_)
  unfold Builtin.«type.__call__»
  repeat (first | with_reducible refine cls_bind (s := ⟨hh, g, d, t, os⟩) X hreads hget ?_ | with_reducible refine wpAny_call ?_ | lk)
  refine sm_get (s := { heap := hh, gens := g, drawn := d, toks := t + 1, os := os }) X hsm (handed_on rfl ?_)
  repeat (first | with_reducible refine wpAny_call ?_ | lk)
  refine codeAny_mono h fun r s' z => ?_
  rcases r with e | (v | _ | _ | _) <;> first | exact z.elim | skip
  obtain ⟨x, o, rfl, hx, hc, X', hq⟩ := z
  have t1 : Looks (model prog w) s'.heap (typeOf (.ref x)) (.ref C) := hc ▸ (Looks.ld (part := none) hx).andThen .now
  have t2 := y.inst (M := model prog w) X'
  have t3 : Looks (model prog w) s'.heap (typeLookup (.ref C) "__init__") (some (.builtin "object.__init__")) := looks_findIn X' y.init
  obtain ⟨hh', g', d', tt', os'⟩ := s'
  dsimp only at t1 t2 t3 X' hx
  unfold isInstance callSpecial? specialOf
  repeat (first | ((with_reducible show wpAny _ _ (PySem.call _ _) _ _ _); refine oi_call (s := ⟨hh', g', d', tt', os'⟩) y X' hx hc ?_) | lk)
  exact hq
end
end
section
open PySem PySem.W PyProof.Rows PySem.Calls Builtin Builtin.ObjectAttr
set_option maxRecDepth 100000
set_option maxHeartbeats 4000000
section
variable {prog : Program} {w : World} {A : Around} {E : Value → Shared → Prop} {s : Shared} {K : Frag} {x C : Addr} {ox : Obj} {od : Option Obj} {name : Str} {expr : Bool} {Q : Value → Shared → Prop}
theorem get_bindT {g a : Value} (y : TupCls K C) (X : K.In s.heap) (I : InstAt s.heap x ox C od) (hga : findIn K (.ref C) "__getattribute__" = some (some (.builtin "tuple.__getattribute__")))
    (hf : findObj K C od name = some (.bind g a)) (hk : findIn K (.ref C) "__getattr__" = some none)
    (h : wpAny (model prog w) A.in1 (call g [a, .ref x, .ref C]) (fun v s' => wpAny (model prog w) A (handedOut v) Q E s') (fun _ _ => False) { s with toks := s.toks + 1 }) :
    wpAny (model prog w) A (getAttr (.ref x) name expr) Q E s := by
  have L0 := I.type (M := model prog w)
  have L1 := looks_findIn (M := model prog w) X hga
  have L2 := looks_findIn (M := model prog w) X hk
  have L3 := looks_find (M := model prog w) X I hf
  have L4 : Looks (model prog w) s.heap (isInstance (.ref x) (.type "tuple")) true := L0.andThen (y.sub X)
  obtain ⟨hh, gg, d, t, os⟩ := s
  dsimp only at L0 L1 L2 L3 L4 X
  unfold getAttr getAttrBy
  refine wpAny_bind (wpAny_mkText (wpAny_holding (wpAny_bind (L0.at (wpAny_bind (L1.at ?_))))))
  dsimp only
  rw [show (onTheHeap (.ref C) && Value.builtin "tuple.__getattribute__" == Value.builtin "object.__getattribute__") = false from by rw [show (Value.builtin "tuple.__getattribute__" == Value.builtin "object.__getattribute__") = false from by decide +kernel, Bool.and_false], if_neg (by decide)]
  unfold getAttrByItsOwn hookBefore
  rw [if_pos (by rfl)]
  refine wpAny_bind (L2.at (wpAny_bind (wpAny_attempt (wpAny_holding ?_))))
  unfold callGetattribute
  rw [show (expr && onTheHeap (Value.builtin "tuple.__getattribute__")) = false from Bool.and_false _, if_neg (by decide)]
  unfold boundAndCalled
  rw [PySem.F.slot_tuple_getattribute.bind]
  refine wpAny_bind (wpAny_pure ?_)
  show wpAny _ _ (call (.builtin "tuple.__getattribute__") [.ref x, .str name t]) _ _ _
  refine wpAny_call ?_
  refine codeAny_call_builtin PySem.F.slot_tuple_getattribute.plain PySem.F.entry_tuple_ga ?_
  refine @check_slot (model prog w) _ _ ⟨hh, gg, d, t + 1, os⟩ "tuple.__getattribute__" "tuple" "__getattribute__" (.ref x) [.str name t] [] _ (by decide +kernel) (by decide +kernel) L4 (PySem.F.args_tuple_getattribute_2 _ _) ?_
  unfold Builtin.«object.__getattribute__»
  refine wpAny_bind (wpAny_pure (wpAny_bind (wpAny_pure (wpAny_bind (L0.at (wpAny_bind (L3.at ?_)))))))
  dsimp only
  unfold bindTo
  refine wpAny_bind (wpAny_holding (wpAny_mono h (fun v s' z => wpAny_pure ?_) fun _ _ z => z.elim))
  exact z
end
end
section
open PySem PySem.W PyProof.Rows PySem.Calls
section
variable {c : Cx} {env : Env} {ns : List Str} {pos : Pos} {D : Nat} {σ : Hp} {Q : V → Hp → Prop}
theorem FC.tcls {C p f : Addr} {args : List V} (m : TupMake c.K C p f) (h : FC c D (.val (.ref f)) (.val (.ref C) :: args) [] σ fun v σ' => ∃ vs, v = .ntup C vs ∧ Q v σ') : FC c (D + 1) (.val (.ref C)) args [] σ Q := by
  intro A g ρ z s R wf ws kws ok P r1 r2 r3 q
  cases r1
  cases r3
  have X := P.base.X.keeps P.keep
  have ok' : Ok (A.under (.builtin "type.__call__" ⟨.ref C :: ws, []⟩)) D := ⟨ok.h, by have := ok.d; show A.depth + 1 + 3 * D + 3 < _; omega, by have := ok.u; show A.units + 1 + 20 * D + 20 < _; omega⟩
  refine tcls_call m X ?_
  refine h _ g ρ z _ _ (.ref f) (.ref C :: ws) [] ok' (P.grow (s' := { s with toks := s.toks + 1 }) fun _ _ e => e) (.val _) (.cons (.val _) r2) .nil fun v w σ' ρ' z' s' hq P' G' r' => ?_
  obtain ⟨vs, rfl, hq⟩ := hq
  obtain ⟨a, ws', dx, n, rfl, m1, _, _⟩ := ntup_inv r'
  exact ⟨a, _, rfl, (P'.frz _ m1).1, rfl, P'.base.X.keeps P'.keep, q _ _ _ _ _ _ hq P' ((Go.toks ..).trans G') r'⟩
-- CALLS OF BUILT-INS BEYOND Bi
def fnW (F : WE) (ws : WL) : WE := fun X l σ Q => ws X l σ fun vs σ₁ => F X vs σ₁ Q
theorem ce_callF {x : Str} {p : Pos} {args : List Expr} {bv : Value} {F : WE} {ws : WL} (e : nsIn c.K mainGlobals x = some none) (hb : bootBuiltins x = some bv) (hk : KeepOk c (absV bv))
    (hf : ∀ X : Ex, X.c = c → XOk X → ∀ vs σ Q, F X vs σ Q → FN X.c X.D (absV bv) vs [] σ Q) (h : CL c env ns pos args ws)
    (he : eval (.Call (.Name x p) args [] pos) env = (do callWith pos (← eval (.Name x p) env) [] (backTo pos (starEach args env)) (backToKw pos (keywordEach [] env))) := by (subst_vars; kernel_rfl))
    (hkd : env.kindOf x = some .globalImplicit := by (subst_vars; kernel_rfl)) (hn : x ≠ "__name__" := by decide +kernel) (hd : (x == ("__debug__" : Str)) = false := by decide +kernel) : CE c env ns (.Call (.Name x p) args [] pos) (fnW F ws) :=
  fun X ec ok l σ Q hl h1 => by
    subst ec
    exact ev_call rfl (ev_bltn e hb ⟨hk, (h.2 X rfl ok l σ _ hl h1).mono fun vs σ₁ h2 => ek_nil (hf X rfl ok _ _ _ h2)⟩ hkd hn hd) he
theorem ce_tmeth {x : Str} {p ap : Pos} {name : Str} {T : String} {v : Value} {args : List Expr} {F : WE} {ws : WL} {pl : Sem Bool} (e : nsIn c.K mainGlobals x = some none) (hb : bootBuiltins x = some (.type T))
    (ht : typeOf (.type T) = pure (.type "type")) (hs : Manifest.isStub T = false) (hfc : findCls c.K (.type T) (.type "type") name = some (.val v)) (hh : handedIn v = true) (hk : KeepOk c (.val v))
    (hf : ∀ X : Ex, X.c = c → XOk X → ∀ vs σ Q, F X vs σ Q → FN X.c X.D (.val v) vs [] σ Q) (h : CL c env ns pos args ws)
    (he : eval (.Call (.Attribute (.Name x p) name ap) args [] pos) env = (do
      let ov ← eval (.Name x p) env
      standAt ap.atName
      let (f, first) ← holding [ov] (getMethod ov name pl)
      callWith pos f first (backTo pos (starEach args env)) (backToKw pos (keywordEach [] env))) := by with_unfolding_all rfl)
    (hkd : env.kindOf x = some .globalImplicit := by (subst_vars; kernel_rfl)) (hn : x ≠ "__name__" := by decide +kernel) (hd : (x == ("__debug__" : Str)) = false := by decide +kernel) : CE c env ns (.Call (.Attribute (.Name x p) name ap) args [] pos) (fnW F ws) :=
  fun X ec ok l σ Q hl h1 => by
    subst ec
    exact ev_mcall (pl := pl) rfl (ev_bltn_t e hb (em_typ ht hs hfc hh ⟨hk, (h.2 X rfl ok l σ _ hl h1).mono fun vs σ₁ h2 => ek_nil (hf X rfl ok _ _ _ h2)⟩) hkd hn hd) he
def ntK (C' C : Addr) (K : Prop) : Prop := hi (match C'.beq C with | true => K | false => False)
theorem of_ntK {C' C : Addr} {K : Prop} (h : ntK C' C K) : C' = C ∧ K := by
  unfold ntK at h; split at h
  · rename_i e; exact ⟨Nat.eq_of_beq_eq_true e, h⟩
  · exact h.elim
def typF (C : Addr) : WE := fun X vs σ Q => match vs with
  | [v] => (match v with | .ntup C' _ => ntK C' C (Q (.val (.ref C)) σ) | _ => False)
  | _ => False
def issubF (C : Addr) : WE := fun X vs σ Q => match vs with
  | [v, u] => (match v with | .val w => (match w with | .ref C' => (match u with | .val w' => ntK C' C (w' = .type "tuple" ∧ Q (.bool true) σ) | _ => False) | _ => False) | _ => False)
  | _ => False
def tgetF (C : Addr) : WE := fun X vs σ Q => match vs with
  | [v, u] => (match v with | .ntup C' vs => ntK C' C (ixO vs u fun r => Q r σ) | _ => False)
  | _ => False
def tnewF (C : Addr) : WE := fun X vs σ Q => match vs with
  | [v, u] => (match v with | .val w => (match w with | .ref C' => (match u with | .tup vs => ntK C' C (chk (vs.length ≤ 1000000) (Q (.ntup C vs) σ)) | _ => False) | _ => False) | _ => False)
  | _ => False
theorem typF_ok {C : Addr} (X : Ex) (hX : X.c = c) (ok : XOk X) (vs : List V) (σ : Hp) (Q : V → Hp → Prop) (h : typF C X vs σ Q) : FN X.c X.D (absV (.type "type")) vs [] σ Q := by
  unfold typF at h
  split at h
  · split at h
    · obtain ⟨rfl, h9⟩ := of_ntK h
      exact fn_type h9
    · exact h.elim
  · exact h.elim
theorem issubF_ok {C : Addr} (y : TupCls c.K C) (X : Ex) (hX : X.c = c) (ok : XOk X) (vs : List V) (σ : Hp) (Q : V → Hp → Prop) (h : issubF C X vs σ Q) : FN X.c X.D (absV (.builtin "issubclass")) vs [] σ Q := by
  subst hX
  unfold issubF at h
  split at h
  · split at h
    · split at h
      · split at h
        · obtain ⟨rfl, rfl, h2⟩ := of_ntK h
          exact fn_issub y h2
        · exact h.elim
      · exact h.elim
    · exact h.elim
  · exact h.elim
theorem tgetF_ok {C : Addr} (y : TupCls c.K C) (X : Ex) (hX : X.c = c) (ok : XOk X) (vs : List V) (σ : Hp) (Q : V → Hp → Prop) (h : tgetF C X vs σ Q) : FN X.c X.D (.val (.builtin "tuple.__getitem__")) vs [] σ Q := by
  subst hX
  unfold tgetF at h
  split at h
  · split at h
    · obtain ⟨rfl, h9⟩ := of_ntK h
      obtain ⟨k, v, rfl, h0, h1, h2, h3⟩ := ixO_inv h9
      exact fn_tget y h0 h1 h2 h3
    · exact h.elim
  · exact h.elim
theorem tnewF_ok {C : Addr} (y : TupCls c.K C) (X : Ex) (hX : X.c = c) (ok : XOk X) (vs : List V) (σ : Hp) (Q : V → Hp → Prop) (h : tnewF C X vs σ Q) : FN X.c X.D (.val (.builtin "tuple.__new__")) vs [] σ Q := by
  subst hX
  unfold tnewF at h
  split at h
  · split at h
    · split at h
      · split at h
        · obtain ⟨rfl, h9⟩ := of_ntK h
          exact fn_tupNew y (of_chk h9).1 (of_chk h9).2
        · exact h.elim
      · exact h.elim
    · exact h.elim
  · exact h.elim
-- ATTRIBUTES OF WHAT IS NO OBJECT OF THE CALL'S OWN
/-- an instance of the module's own, one of whose attributes is an int -/
def KInst (c : Cx) (name : Str) (e : Addr × Int) : Prop := ∃ ox C od dx t, c.K.lookup e.1 = some ox ∧ ox.cls = .ref C ∧ notCls ox = true ∧ ox.dict = some dx ∧ c.K.lookup dx = some od ∧
  findIn c.K (.ref C) "__getattribute__" = some (some (.builtin "object.__getattribute__")) ∧ findObj c.K C (some od) name = some (.value (.int e.2 t))
def kaGet : List (Addr × Int) → Addr → (Int → Prop) → Prop
  | [], _, _ => False
  | e :: r, a, K => hi (match e.1.beq a with | true => K e.2 | false => kaGet r a K)
theorem kaGet_inv : ∀ {L : List (Addr × Int)} {a : Addr} {K : Int → Prop}, kaGet L a K → ∃ e ∈ L, e.1 = a ∧ K e.2
  | [], _, _, h => h.elim
  | e :: r, a, K, h => by
    unfold kaGet at h
    split at h
    · rename_i q; exact ⟨e, .head _, Nat.eq_of_beq_eq_true q, h⟩
    · obtain ⟨e', m, h1, h2⟩ := kaGet_inv h
      exact ⟨e', .tail _ m, h1, h2⟩
def opKA (L : List (Addr × Int)) (v : V) (σ : Hp) (Q : V → Hp → Prop) : Prop := match v with
  | .val w => (match w with | .ref a => kaGet L a fun n => Q (.int n) σ | _ => False)
  | _ => False
def kattrW (L : List (Addr × Int)) (w : WE) : WE := fun X l σ Q => w X l σ fun v σ₁ => opKA L v σ₁ Q
theorem ce_kattr {o : Expr} {attr : Str} {L : List (Addr × Int)} {w : WE} (hL : ∀ e ∈ L, KInst c attr e) (ho : CE c env ns o w) (he : eval (.Attribute o attr pos) env = (do
      let ov ← eval o env
      standAt pos.atName
      let r ← holding [ov] (getAttr ov attr true)
      letTemporaryGo o ov r
      pure r) := by with_unfolding_all rfl) : CE c env ns (.Attribute o attr pos) (kattrW L w) :=
  fun X ec ok l σ Q hl h1 => by
    subst ec
    refine ev_attr' ((ho X rfl ok l σ _ hl h1).mono fun v σ₁ h2 => ?_) he
    unfold opKA at h2
    split at h2
    · split at h2
      · obtain ⟨e, m, rfl, h3⟩ := kaGet_inv h2
        obtain ⟨ox, C, od, dx, t, k1, k2, k3, k4, k5, k6, k7⟩ := hL e m
        intro A g ρ z s Q' E' w okd R r q
        cases r
        have X' := R.base.X.keeps R.keep
        exact get_value X' ⟨X' _ _ k1, k2, k3, by rw [k4]; exact X' _ _ k5⟩ k6 k7 rfl (q _ _ _ _ _ _ h3 (R.toks _) (Go.toks ..) (.int _ _))
      · exact h2.elim
    · exact h2.elim
/-- an attribute of a class over tuple, through a descriptor with a __get__ of its own -/
def TupAttr (c : Cx) (C g a : Addr) (name : Str) : Prop := TupCls c.K C ∧ findIn c.K (.ref C) "__getattribute__" = some (some (.builtin "tuple.__getattribute__")) ∧
  findObj c.K C (some ⟨.type "dict", none, .dict #[] 0, #[]⟩) name = some (.bind (.ref g) (.ref a)) ∧ findIn c.K (.ref C) "__getattr__" = some none
def opTA (X : Ex) (C g a : Addr) (v : V) (σ : Hp) (Q : V → Hp → Prop) : Prop := match v with
  | .ntup C' vs => ntK C' C (FCd X g [.val (.ref a), .ntup C' vs, .val (.ref C)] σ fun v σ' => hdK v (Q v σ'))
  | _ => False
def tattrW (C g a : Addr) (w : WE) : WE := fun X l σ Q => w X l σ fun v σ₁ => opTA X C g a v σ₁ Q
theorem ce_tattr {o : Expr} {attr : Str} {C gf a : Addr} {w : WE} (hT : TupAttr c C gf a attr) (ho : CE c env ns o w) (he : eval (.Attribute o attr pos) env = (do
      let ov ← eval o env
      standAt pos.atName
      let r ← holding [ov] (getAttr ov attr true)
      letTemporaryGo o ov r
      pure r) := by with_unfolding_all rfl) : CE c env ns (.Attribute o attr pos) (tattrW C gf a w) :=
  fun X ec ok l σ Q hl h1 => by
    subst ec
    refine ev_attr' ((ho X rfl ok l σ _ hl h1).mono fun v σ₁ h2 => ?_) he
    unfold opTA at h2
    split at h2
    · rename_i C' vs
      obtain ⟨rfl, h3⟩ := of_ntK h2
      obtain ⟨D, eD, hf⟩ := of_FCd h3
      rw [eD]
      intro A g ρ z s Q' E' w okd R r q
      have r0 := r
      obtain ⟨x, ws, dx, n, rfl, m1, m2, m3⟩ := ntup_inv r
      have X' := R.base.X.keeps R.keep
      obtain ⟨t0, t1, t2, t3⟩ := hT
      refine get_bindT t0 X' ⟨(R.frz _ m1).1, rfl, rfl, (R.frz _ m2).1⟩ t1 t2 t3 (wpAny_call ?_)
      have R1 := R.toks (s.toks + 1)
      obtain ⟨g1, P, back⟩ := R1.out
      have ok' : Ok A.in1 D := ⟨okd.h, by have := okd.d; show A.depth + 3 * D + 3 < _; omega, by have := okd.u; show A.units + 1 + 20 * D + 20 < _; omega⟩
      refine hf A.in1 g1 ρ z _ _ (.ref gf) [.ref a, .ref x, .ref C'] [] ok' P (.val _) (.cons (.val _) (.cons r0 (.cons (.val _) .nil))) .nil fun v w σ' ρ' z' s' hq P' G' r' => ?_
      obtain ⟨RB, GB⟩ := back _ _ _ _ P' G'
      obtain ⟨hh, hq⟩ := of_hdK hq
      exact handed_on (V.handed_is hh r') (q _ _ _ _ _ _ hq RB ((Go.toks ..).trans GB) r')
    · exact h2.elim
end
end
section
open PySem PySem.W PyProof.Rows PySem.Calls
set_option maxRecDepth 100000
set_option maxHeartbeats 4000000
theorem rs_cls {c : Cx} (hC : C3 c) : TupCls c.K 335 := by
  have e : ∃ oc od cd sl, c.K.lookup 335 = some ⟨oc, od, .cls cd, sl⟩ ∧ cd.mro = [.ref 335, .type "tuple", .type "object"] ∧ cd.bases = [.type "tuple"] ∧ cd.hasDel = false ∧ (sl.toList[4]?).join = some .none := ⟨_, _, _, _, by k_in, rfl, rfl, rfl, rfl⟩
  exact ⟨e, by k_in, by k_in⟩
theorem rs_call1 {c : Cx} (hC : C3 c) : specialIn c.K (.ref 335) "__call__" = some (some (.builtin "type.__call__")) := by
  rw [C3.k hC]
  first | rfl | kernel_rfl
theorem rs_call2 {c : Cx} (hC : C3 c) : readsIn c.K 335 (.type "type") = true := by
  rw [C3.k hC]
  first | rfl | kernel_rfl
theorem rs_call3 {c : Cx} (hC : C3 c) : findCls c.K (.ref 335) (.type "type") "__new__" = some (.get (.builtin "staticmethod.__get__") (.ref 336) .none (.ref 335)) := by
  rw [C3.k hC]
  first | rfl | kernel_rfl
theorem rs_call4 {c : Cx} (hC : C3 c) : recIn c.K 336 "staticmethod" = some [.ref 285] := by
  rw [C3.k hC]
  first | rfl | kernel_rfl
theorem rs_make {c : Cx} (hC : C3 c) : TupMake c.K 335 336 285 := ⟨rs_cls hC, rs_call1 hC, rs_call2 hC, rs_call3 hC, ⟨_, rs_call4 hC⟩⟩
theorem rs_attr1 {c : Cx} (hC : C3 c) : findIn c.K (.ref 335) "__getattribute__" = some (some (.builtin "tuple.__getattribute__")) := by
  rw [C3.k hC]
  first | rfl | kernel_rfl
theorem rs_attr2 {c : Cx} (hC : C3 c) : findObj c.K 335 (some ⟨.type "dict", none, .dict #[] 0, #[]⟩) "data_count" = some (.bind (.ref 84) (.ref 330)) := by
  rw [C3.k hC]
  first | rfl | kernel_rfl
theorem rs_attr3 {c : Cx} (hC : C3 c) : findIn c.K (.ref 335) "__getattr__" = some none := by
  rw [C3.k hC]
  first | rfl | kernel_rfl
theorem rs_attr {c : Cx} (hC : C3 c) : TupAttr c 335 84 330 "data_count" := ⟨rs_cls hC, rs_attr1 hC, rs_attr2 hC, rs_attr3 hC⟩
theorem rs_idx0 {c : Cx} (hC : C3 c) : ∃ ox : Obj, c.K.lookup 330 = some ox ∧ ox.cls = .ref 101 ∧ notCls ox = true ∧ ox.dict = some 329 := ⟨_, by k_in, rfl, rfl, rfl⟩
theorem rs_idx1 {c : Cx} (hC : C3 c) : findIn c.K (.ref 101) "__getattribute__" = some (some (.builtin "object.__getattribute__")) := by
  rw [C3.k hC]
  first | rfl | kernel_rfl
theorem rs_idx2 {c : Cx} (hC : C3 c) : ∃ (od : Obj) (t : Tok), c.K.lookup 329 = some od ∧ findObj c.K 101 (some od) "index" = some (.value (.int 1 t)) := by
  refine ⟨_, 1381, by k_in, ?_⟩
  rw [C3.k hC]
  first | rfl | kernel_rfl
theorem rs_idx {c : Cx} (hC : C3 c) : ∀ e ∈ [((330, 1) : Addr × Int)], KInst c "index" e := by
  intro e he
  cases List.mem_singleton.mp he
  obtain ⟨ox, h1, h2, h3, h4⟩ := rs_idx0 hC
  obtain ⟨od, t, h5, h6⟩ := rs_idx2 hC
  exact ⟨ox, 101, od, 329, t, h1, h2, h3, h4, h5, rs_idx1 hC, h6⟩
theorem tm_new {c : Cx} (hC : C3 c) : findCls c.K (.type "tuple") (.type "type") "__new__" = some (.val (.builtin "tuple.__new__")) := by
  rw [C3.k hC]
  first | rfl | kernel_rfl
theorem tm_get {c : Cx} (hC : C3 c) : findCls c.K (.type "tuple") (.type "type") "__getitem__" = some (.val (.builtin "tuple.__getitem__")) := by
  rw [C3.k hC]
  first | rfl | kernel_rfl
theorem stub_tuple : Manifest.isStub "tuple" = false := by decide +kernel
theorem hin1 : handedIn (.builtin "tuple.__new__") = true := by decide +kernel
theorem hin2 : handedIn (.builtin "tuple.__getitem__") = true := by decide +kernel
local macro_rules | `(tactic| walk_at "tup") => `(tactic| (first
  | ((with_reducible show CE _ _ _ (Expr.Call (Expr.Attribute (Expr.Name ("tuple" : Str) _) ("__new__" : Str) _) _ _ _) _); refine' ce_tmeth (F := tnewF 335) (pl := ?awp) ?awe ?awh ty_tuple stub_tuple (tm_new ‹C3 _›) hin1 trivial (tnewF_ok (rs_cls ‹C3 _›)) ?awa rfl; (case awe => k_in); (case awh => boot_by_name); (case awa => kda_here))
  | ((with_reducible show CE _ _ _ (Expr.Call (Expr.Attribute (Expr.Name ("tuple" : Str) _) ("__getitem__" : Str) _) _ _ _) _); refine' ce_tmeth (F := tgetF 335) (pl := ?awp) ?awe ?awh ty_tuple stub_tuple (tm_get ‹C3 _›) hin2 trivial (tgetF_ok (rs_cls ‹C3 _›)) ?awa rfl; (case awe => k_in); (case awh => boot_by_name); (case awa => kda_here))
  | ((with_reducible show CE _ _ _ (Expr.Attribute _ ("index" : Str) _) _); refine' ce_kattr (rs_idx ‹C3 _›) ?awa; (case awa => kda_here))
  | ((with_reducible show CE _ _ _ (Expr.Call (Expr.Name ("type" : Str) _) _ _ _) _); refine' ce_callF (F := typF 335) (bv := .type "type") ?awe ?awh ?awk typF_ok ?awa; (case awe => k_in); (case awh => boot_by_name); (case awk => trivial); (case awa => kda_here))
  | ((with_reducible show CE _ _ _ (Expr.Call (Expr.Name ("issubclass" : Str) _) _ _ _) _); refine' ce_callF (F := issubF 335) (bv := .builtin "issubclass") ?awe ?awh ?awk (issubF_ok (rs_cls ‹C3 _›)) ?awa; (case awe => k_in); (case awh => boot_by_name); (case awk => trivial); (case awa => kda_here))))
local macro_rules | `(tactic| kda_here) => `(tactic| walk_at "tup")
def rs_new : { w : WX // ∀ c, C3 c → Def c 285 ["_cls", "total_count", "data_count"] [] (shP 3) w } := ⟨_, fun c hC => ⟨⟨_, _, _, _, _, by k_in, rfl, by k_in, ⟨by decide, by decide, by decide⟩, ⟨rfl, rfl, rfl, rfl, rfl⟩, sh3 (fun _ _ _ => rfl), fun L env he => by
  simp only [List.cons_append, List.nil_append]
  kda_here⟩⟩⟩
def rs_blocks : { w : WX // ∀ c, C3 c → Def c 345 ["version", "error_correction"] ["offset", "rs_block", "blocks", "i", "count", "total_count", "data_count", "_"] (shP 2) w } := ⟨_, fun c hC => ⟨⟨_, _, _, _, _, by k_in, rfl, by k_in, ⟨by decide, by decide, by decide⟩, ⟨rfl, rfl, rfl, rfl, rfl⟩, sh2 (fun _ _ => rfl), fun L env he => by
  simp only [List.cons_append, List.nil_append]
  kda_here⟩⟩⟩
def shG : Shape := fun a k v => ∃ s o t, a = [s, o, t] ∧ k = [] ∧ v = [s, o, t]
theorem shG_ok {c : Cx} {fd : FuncData} {T : Addr} {o : Obj} {items : Array Value} {n : Nat} (ho : c.K.lookup T = some o) (hd : fd.defaults = .ref T) (hs : o.data = .seq items n)
    (h1 : ∀ a b d, ∃ k, bindArgs fd ⟨[a, b, d], []⟩ = seqItems? fd.defaults >>= k ∧ k (some items) = pure [(("self" : Str), a), (("obj" : Str), b), (("objtype" : Str), d)]) :
    ∀ args kw vals, shG args kw vals → BindA c fd args kw (List.zip ["self", "obj", "objtype"] vals) ∧ vals.length = List.length (α := Str) ["self", "obj", "objtype"] := by
  rintro args kw vals ⟨s, d, u, rfl, rfl, rfl⟩
  refine ⟨bindD ho hd hs fun ws kws hw hk => ?_, rfl⟩
  obtain ⟨a, b, d, rfl⟩ := len3 hw
  obtain rfl := len0 hk
  obtain ⟨k, e1, e2⟩ := h1 a b d
  exact ⟨k, _, e1, e2, fun z ρ rl rk => ⟨rfl, rl⟩⟩
def rs_get : { w : WX // ∀ c, C3 c → Def c 84 ["self", "obj", "objtype"] [] shG w } := ⟨_, fun c hC => ⟨⟨_, _, _, _, _, by k_in, rfl, by k_in, ⟨by decide, by decide, by decide⟩, ⟨rfl, rfl, rfl, rfl, rfl⟩, (by
  refine' shG_ok ?b1 ?a1 ?c1 ?d1
  case a1 => rfl
  case b1 => k_in
  case c1 => rfl
  case d1 => exact fun _ _ _ => ⟨_, rfl, rfl⟩), fun L env he => by
  simp only [List.cons_append, List.nil_append]
  kda_here⟩⟩⟩
end
section
open PySem PySem.W PyProof.Rows PySem.Calls
set_option maxRecDepth 100000
set_option maxHeartbeats 4000000
theorem rsb_ {c : Cx} (hC : C3 c) {D : Nat} {σ : Hp} {a b : Int} {Q : V → Hp → Prop} (h : Q (.ntup 335 [.int a, .int b]) σ) : FC c (D + 2) (.val (.ref 335)) [.int a, .int b] [] σ Q := by
  refine FC.tcls (rs_make hC) ?_
  refine (rs_new.2 c hC).fc (X3 c D) rfl (X3_ok hC _) ⟨rfl, rfl, rfl⟩ ?_
  repeat' walk_at "vc"
  all_goals (conv => whnf)
  exact ⟨_, rfl, h⟩
theorem rs_get_ {c : Cx} (hC : C3 c) {D : Nat} {σ : Hp} {a b : Int} {Q : V → Hp → Prop} (h : Q (.int b) σ) : FC c (D + 1) (.val (.ref 84)) [.val (.ref 330), .ntup 335 [.int a, .int b], .val (.ref 335)] [] σ Q := by
  refine (rs_get.2 c hC).fc (X3 c D) rfl (X3_ok hC _) ⟨_, _, _, rfl, rfl, rfl⟩ ?_
  repeat' walk_at "vc"
  all_goals (conv => whnf)
  exact h
def offE : Nat → Nat
  | 0 => 1
  | 1 => 0
  | 2 => 3
  | _ => 2
def blk (l : List (Nat × Int × Int)) : List V := l.flatMap fun p => List.replicate p.1 (.ntup 335 [.int p.2.1, .int p.2.2])
theorem blk_take {l : List (Nat × Int × Int)} {k : Nat} {p : Nat × Int × Int} (h : l[k]? = some p) : blk (l.take (k + 1)) = blk (l.take k) ++ List.replicate p.1 (.ntup 335 [.int p.2.1, .int p.2.2]) := by
  unfold blk
  rw [take_get h, List.flatMap_append]; simp
theorem blk_len {l : List (Nat × Int × Int)} (h : ∀ p ∈ l, p.1 ≤ 1000) : ∀ k, (blk (l.take k)).length ≤ 1000 * k := by
  intro k
  induction k with
  | zero => simp [blk]
  | succ k ih =>
    cases e : l[k]? with
    | none => rw [List.take_of_length_le (by have := List.getElem?_eq_none_iff.mp e; omega)] ; rw [List.take_of_length_le (by have := List.getElem?_eq_none_iff.mp e; omega)] at ih; omega
    | some p =>
      rw [blk_take e, List.length_append, List.length_replicate]
      have := h p (List.mem_of_getElem? e)
      omega
theorem rs_blocks_ {c : Cx} (hC : C3 c) {D : Nat} {σ : Hp} {v e : Nat} {trip : List (Nat × Int × Int)} {Q : V → Hp → Prop} (hv1 : 1 ≤ v) (hv2 : v ≤ 40) (he : e < 4) (hrow : rsT3[(v - 1) * 4 + offE e]? = some trip) (ht : trip.length ≤ 10) (hp : ∀ p ∈ trip, p.1 ≤ 1000)
    (h : Q (.ref σ.length) (σ ++ [.list (blk trip)])) : FC c (D + 3) (.val (.ref 345)) [.int v, .int e] [] σ Q := by
  have hrow' : (rsT.map fun r => V.tup (r.map V.int))[(v - 1) * 4 + offE e]? = some (.tup ((flat3 trip).map V.int)) := by unfold rsT; rw [List.getElem?_map, List.getElem?_map, hrow]; rfl
  have hlen : ((flat3 trip).map V.int).length = 3 * trip.length := by rw [List.length_map, flat3_len]
  have hrg := rng_pos (b := (((flat3 trip).map V.int).length : Int)) (c := 3) (by omega) (by omega) (by omega) (by omega)
  have hn : (Builtin.Range.rangeSize 0 (((flat3 trip).map V.int).length : Int) 3).toNat = trip.length := by
    have h1 : (Builtin.Range.rangeSize 0 (((flat3 trip).map V.int).length : Int) 3).toNat = (((flat3 trip).map V.int).length + 3 - 1) / 3 := rng_size ((flat3 trip).map V.int).length 3 (by omega)
    rw [h1]
    omega
  have hbl := blk_len hp
  refine (rs_blocks.2 c hC).fc (X3 c (D + 2)) rfl (X3_ok hC _) ⟨rfl, rfl, rfl⟩ ?_
  obtain rfl | rfl | rfl | rfl : e = 0 ∨ e = 1 ∨ e = 2 ∨ e = 3 := by omega
  all_goals
    walk_at "vc"
    walk_at "vc"
    walk_at "vc"
    try walk_at "vc"
    try walk_at "vc"
    try walk_at "vc"
    try walk_at "vc"
    try walk_at "vc"
    conv => whnf
    refine getV_of ((congrArg (fun i => (rsT.map fun r => V.tup (r.map V.int))[i]?) ?_).trans hrow') ?_
    · simp only [offE]; omega
    walk_at "vc"
    walk_at "vc"
    walk_at "vc"
    walk_at "vc"
    conv => whnf
    rw [hn]
  all_goals
    refine forJ_of (fun k l σ₁ => ∃ a0 a1 a2 u1 u2 u3 u4 u5, l = [a0, a1, a2, .tup ((flat3 trip).map V.int), .ref σ.length, u1, u2, u3, u4, u5] ∧ σ₁ = σ ++ [.list (blk (trip.take k))]) ⟨_, _, _, _, _, _, _, _, rfl, rfl⟩ (fun _ _ _ _ => trivial) ?_ ?_
    · rintro k w l σ₁ hv ⟨a0, a1, a2, u1, u2, u3, u4, u5, rfl, rfl⟩
      obtain ⟨hk, rfl⟩ := rng_getS hv
      obtain ⟨⟨n, t, d⟩, hg⟩ : ∃ p, trip[k]? = some p := ⟨_, List.getElem?_eq_getElem hk⟩
      have hle := hbl k
      have hn1 := hp _ (List.mem_of_getElem? hg)
      have hcut := flat3_cut hg
      simp only at hn1 hcut
      have e1 : ((0 : Int) + (k : Int) * 3 + 3).toNat - ((0 : Int) + (k : Int) * 3).toNat = 3 := by omega
      have e2 : ((0 : Int) + (k : Int) * 3).toNat = 3 * k := by omega
      have es : List.take (((0 : Int) + (k : Int) * 3 + 3).toNat - ((0 : Int) + (k : Int) * 3).toNat) (List.drop ((0 : Int) + (k : Int) * 3).toNat (List.map V.int (flat3 trip))) = [V.int n, V.int t, V.int d] := by
        rw [e1, e2, ← List.map_drop, ← List.map_take, hcut]; rfl
      repeat' walk_at "vc"
      conv => whnf
      rw [es]
      refine chk_of rfl ?_
      repeat' walk_at "vc"
      conv => whnf
      refine forJ_of (fun i l σ₁ => i ≤ n ∧ ∃ u1 u2, l = [a0, a1, a2, .tup ((flat3 trip).map V.int), .ref σ.length, u1, .int n, .int t, .int d, u2] ∧ σ₁ = σ ++ [.list (blk (trip.take k) ++ List.replicate i (.ntup 335 [.int t, .int d]))]) ⟨Nat.zero_le _, _, _, rfl, by simp⟩ (fun _ _ _ _ => trivial) ?_ ?_
      · rintro i w l σ₁ hv ⟨_, u1, u2, rfl, rfl⟩
        obtain ⟨hi, rfl⟩ := rng_get1 hv
        repeat' walk_at "vc"
        conv => whnf
        refine rsb_ hC ?_
        repeat' walk_at "vc"
        conv => whnf
        refine ⟨_, _, rfl, ?_⟩
        simp [List.replicate_succ']
      · rintro l σ₁ ⟨_, u1, u2, rfl, rfl⟩
        conv => whnf
        refine ⟨_, _, _, _, _, _, _, _, rfl, ?_⟩
        rw [rng_len, blk_take hg]
        congr 4
    · rintro l σ₁ ⟨a0, a1, a2, u1, u2, u3, u4, u5, rfl, rfl⟩
      conv => whnf
      rw [rng_len, List.take_of_length_le (Nat.le_refl _)]
      exact h
end
section
open PySem PySem.W PyProof.Rows PySem.Calls
/-- all that stands becomes the base -/
theorem Rp.flat {c g X ρ z σ} {s : Shared} (R : Rp c g X ρ z σ s) : Rp c (hideAll s.heap c.tk) [] [] z [] s ∧ ∀ b o, g.get? b = some o → (hideAll s.heap c.tk).get? b = some o := by
  have up : ∀ b o, g.get? b = some o → (hideAll s.heap c.tk).get? b = some o := fun b o e => hideAll_get _ (R.keep b o e) fun q => by
    rw [(R.off b (List.mem_append_right _ q)).1] at e; cases e
  refine ⟨⟨R.base.keeps up, fun b o e => of_hideAll _ e, ⟨[], .nil, by simp, by simp⟩, fun q hq => ?_, fun a ha => ?_, R.tabs, R.os, R.dr, R.gens, R.kz⟩, up⟩
  · exact ⟨(R.frz q hq).1, fun h => (R.frz q hq).2 (List.mem_append_right _ (by simpa using h))⟩
  · have ha' : a ∈ c.tk := by simpa using ha
    exact ⟨hideAll_none _ ha', (R.off a (List.mem_append_right _ ha')).2⟩
def FrOk (h : Heap) (outer : List Env) : Prop := ∀ env ∈ outer, env.scope.kind ≠ .module ∧ ∃ L o, env.frame = some L ∧ h.get? L = some o ∧ ∀ vs, o.data ≠ .fields vs
theorem FrOk.funs {h base : Heap} : ∀ {outer : List Env}, FrOk h outer → (∀ env ∈ outer, ∀ L, env.frame = some L → base.get? L = none) → h.FunFrames base outer
  | [], _, _ => trivial
  | env :: outer, f, hb => by
    obtain ⟨h1, L, o, h2, h3, h4⟩ := f env (.head _)
    exact ⟨h1, ⟨L, o, h2, hb env (.head _) L h2, h3, h4⟩, FrOk.funs (fun e he => f e (.tail _ he)) fun e he => hb e (.tail _ he)⟩
/-- an exception is on its way to a caller -/
structure Raised (c : Cx) (g : Heap) (outer : List Env) (e : Addr) (X : String) (s' : Shared) : Prop where
  fly : ∃ B t vs, (∀ b o, g.get? b = some o → (∀ env ∈ outer, env.frame ≠ some b) → B.get? b = some o) ∧ (∀ env ∈ outer, ∀ L, env.frame = some L → B.get? L = none) ∧ (∀ t ∈ c.tt, TabOk B t) ∧
    Heap.FlyingW B outer e (.type X) (.ref t) s'.heap ∧ s'.heap.TupAt t vs ∧ B.get? t = none
  up : ∀ env ∈ outer, ∀ L o, env.frame = some L → g.get? L = some o → (∀ vs, o.data ≠ .fields vs) → ∃ sl, s'.heap.get? L = some { o with slots := sl }
  os : s'.os = c.os
  dr : s'.drawn = c.dr
  gens : c.gi s'.gens
/-- a call that raises -/
def FCR (c : Cx) (D : Nat) (f : V) (args : List V) (kw : List (Str × V)) (X : String) : Prop :=
  ∀ (A : Around) (g : Heap) (z : Led) (s : Shared) (R : Result → Shared → Prop) (wf : Value) (ws kws : List Value) (outer : List Env), Ok A D → A.frames = some outer → FrOk g outer → Rp c g [] [] z [] s → VR z [] f wf → VRL z [] args ws → VRL z [] (kw.map (·.2)) kws →
    (∀ e s', Raised c g outer e X s' → R (.error (.ref e)) s') → codeAny c.M A (.call wf ⟨ws, (kw.map (·.1)).zip kws⟩) R s
/-- it leaves the frame -/
def RaisedIn (c : Cx) (g : Heap) (env : Env) (outer : List Env) (e : Addr) (X : String) (s' : Shared) : Prop :=
  ∀ (A : Around) (Q : Unit → Shared → Prop) (E : Value → Shared → Prop), A.frames = some (env :: outer) → (∀ h', Raised c g outer e X { s' with heap := h' } → Q () { s' with heap := h' }) → wpAny c.M A (leaving env (.ref e)) Q E s'
/-- a tree that raises -/
def XR {α : Type} (c : Cx) (env : Env) (D : Nat) (t : Sem α) (l : Loc) (X : String) : Prop :=
  ∀ (A : Around) (g : Heap) (z : Led) (s : Shared) (Q' : α → Shared → Prop) (E' : Value → Shared → Prop) (outer : List Env), Ok A D → A.frames = some (env :: outer) → FrOk g outer → Rep c env g [] z [] l s → env.frame = some env.locals →
    (∀ e s', RaisedIn c g env outer e X s' → E' (.ref e) s') → wpAny c.M A t Q' E' s
section
variable {c : Cx} {env : Env} {D : Nat} {l : Loc} {X : String}
theorem Rep.frame {g ρ z σ} {s : Shared} (R : Rep c env g ρ z σ l s) : ∃ o, s.heap.get? env.locals = some o ∧ ∀ vs, o.data ≠ .fields vs := by
  obtain ⟨m, ⟨o, es, ep, e, hd, _⟩, _⟩ := R.ns
  exact ⟨o, e, fun vs q => by rw [hd] at q; cases q⟩
theorem FrOk.keeps {h h' : Heap} {outer : List Env} (f : FrOk h outer) (k : ∀ b o, h.get? b = some o → h'.get? b = some o) : FrOk h' outer := fun env he => by
  obtain ⟨h1, L, o, h2, h3, h4⟩ := f env he
  exact ⟨h1, L, o, h2, k _ _ h3, h4⟩
theorem TabOk.fields {h h' : Heap} {t} (x : TabOk h t) (k : ∀ a o vs, h.get? a = some o → o.data = .fields vs → h'.get? a = some o) : TabOk h' t := by
  obtain ⟨ps, ⟨o, vs, file, tf, flags, tg, inF, text, tt, op, a1, a2, a3, a4, a5, a6, a7, a8, a9, a10, a11⟩, ⟨o', vs', b1, b2, b3, b4⟩, b5⟩ := x
  exact ⟨ps, ⟨o, vs, file, tf, flags, tg, inF, text, tt, op, k _ _ _ a1 a2, a2, a3, a4, a5, a6, a7, k _ _ _ a8 a9, a9, a10, a11⟩, ⟨o', vs', k _ _ _ b1 b3, b2, b3, b4⟩, k _ _ _ b5 rfl⟩
/-- just made -/
theorem raisedIn_made {g z} {s s' : Shared} {outer : List Env} {e : Addr} {args : List Value} (R : Rep c env g [] z [] l s) (hf : env.frame = some env.locals) (fo : FrOk g outer) (hx : Heap.MadeExcOf s.heap s'.heap e (.type X) args)
    (h1 : s'.os = s.os) (h2 : s'.drawn = s.drawn) (h3 : s'.gens = s.gens) : RaisedIn c g env outer e X s' := by
  intro A Q E hA q
  have hin : ∀ ev ∈ env :: outer, ∀ L, ev.frame = some L → (hideAll s.heap ((env :: outer).filterMap (·.frame))).get? L = none := fun ev hev L hL => hideAll_none _ (List.mem_filterMap.mpr ⟨ev, hev, hL⟩)
  obtain ⟨of, ho, hod⟩ := R.frame
  have fo' : FrOk s.heap (env :: outer) := fun ev hev => by
    rcases List.mem_cons.mp hev with q | hev
    · rw [q]; exact ⟨by rw [R.kind]; decide, env.locals, of, hf, ho, hod⟩
    · obtain ⟨a1, L, o, a2, a3, a4⟩ := fo ev hev
      exact ⟨a1, L, o, a2, R.keep _ _ a3, a4⟩
  have nf : ∀ a o vs, s.heap.get? a = some o → o.data = .fields vs → (hideAll s.heap ((env :: outer).filterMap (·.frame))).get? a = some o := fun a o vs ea hd => hideAll_get _ ea fun hm => by
    obtain ⟨ev, hev, he⟩ := List.mem_filterMap.mp hm
    obtain ⟨_, L, o', a2, a3, a4⟩ := fo' ev hev
    rw [he] at a2; cases a2
    rw [ea] at a3; cases a3
    exact a4 vs hd
  refine wpAny_leaves_madeW hA hf (fun b o e => of_hideAll _ e) (fo'.funs hin) hx fun h' t f1 f2 f3 f4 => ?_
  refine q h' ⟨⟨_, t, args, fun b o e hb => ?_, fun ev hev => hin ev (.tail _ hev), fun tb htb => (R.tabs tb htb).fields nf, f1, f2, f3⟩, fun ev hev L o hL e hd => ?_, h1.trans R.os, h2.trans R.dr, h3 ▸ R.gens⟩
  · refine hideAll_get _ (R.keep _ _ e) fun hm => ?_
    obtain ⟨ev, hev, he⟩ := List.mem_filterMap.mp hm
    rcases List.mem_cons.mp hev with q | hev
    · rw [q, hf] at he; cases he
      rw [(R.off env.locals (by simp)).1] at e; cases e
    · exact hb ev hev he
  · exact f4 L o (hx.keeps _ _ (R.keep _ _ e)) hd
/-- from a call -/
theorem raisedIn_call {g g1 : Heap} {s' : Shared} {outer : List Env} {e : Addr} (hf : env.frame = some env.locals) (hg : g.get? env.locals = none) (k : ∀ b o, g.get? b = some o → g1.get? b = some o) (r : Raised c g1 (env :: outer) e X s') : RaisedIn c g env outer e X s' := by
  intro A Q E hA q
  obtain ⟨⟨B, t, vs, b1, b2, b3, b4, b5, b6⟩, u, o1, o2, o3⟩ := r
  refine wpAny_leaves_onW hA hf b4 fun h' f1 f4 => ?_
  refine q h' ⟨⟨B, t, vs, fun b o e hb => b1 b o (k _ _ e) fun ev hev he => ?_, fun ev hev => b2 ev (.tail _ hev), b3, f1, b5.of_slots f4, b6⟩, fun ev hev L o hL e hd => ?_, o1, o2, o3⟩
  · rcases List.mem_cons.mp hev with q | hev
    · rw [q, hf] at he; cases he
      rw [hg] at e; cases e
    · exact hb ev hev he
  · obtain ⟨sl, h1⟩ := u ev (.tail _ hev) L o hL (k _ _ e) hd
    obtain ⟨sl', h2⟩ := f4 L _ h1 hd
    exact ⟨sl', h2⟩
/-- a call of a def that raises -/
theorem fcr_def {f : Addr} {fd : FuncData} {body : List Stmt} {oc : Value} {od : Option Addr} {osl : Array (Option Value)} {args : List V} {kw : List (Str × V)} {bs : List (Str × V)}
    (un : List Str) (ho : c.K.lookup f = some ⟨oc, od, .func fd, osl⟩) (hbody : fd.body = .stmts body) (hcd : codeIn c.K fd.code fd.qualname = true) (hbind : BindA c fd args kw bs)
    (hnd : ((bs ++ un.map fun x => (x, V.unb)).map (·.1)).Nodup) (hloc : ∀ x ∈ bs, fd.scope.names.lookup x.1 = some .local)
    (h : ∀ L env, env = callEnv fd L f → XR c env D (execs body env) (bs ++ un.map fun x => (x, V.unb)) X)
    (hcell : ∀ x ∈ fd.scope.names, x.2 ≠ .cell) (hgl : fd.globals = mainGlobals) (hbl : fd.builtins = builtinsNs)
    (hco : fd.scope.isCoroutine = false := by rfl) (hgen : fd.scope.isGenerator = false := by rfl) (hk : fd.scope.kind = .function := by rfl) : FCR c (D + 1) (.val (.ref f)) args kw X := by
  intro A g z s RR' wf ws kws outer ok hA fo R rf rl rk q
  cases rf
  have X := R.base.X.keeps R.keep
  obtain ⟨binds, hb, e1, e2⟩ := hbind z [] ws kws s X rl rk
  refine (codeAny_call_def (by have := ok.d; omega) (X _ _ ho) rfl (R.base.nolimit.keeps R.keep) (codeRec_of X hcd) hbody hb hcell (fun x hx => ?_) (fun h₀ hns hk₀ => ?_) hco hgen hk)
  · have : x.1 ∈ bs.map (·.1) := e1 ▸ List.mem_map_of_mem hx
    obtain ⟨y, hy, e⟩ := List.mem_map.mp this
    rw [← e]; exact hloc y hy
  · have hL : s.heap.get? s.heap.objs.size = none := fresh_at (Nat.le_refl _)
    have hL' : ∃ o, h₀.get? s.heap.objs.size = some o := let ⟨o, _, _, e, _⟩ := hns; ⟨o, e⟩
    have R0 : Rp c g [s.heap.objs.size] [] z [] { s with heap := h₀, toks := s.toks + binds.length } := R.addX (s' := { s with heap := h₀, toks := s.toks + binds.length }) hk₀ hL hL'
    have lt : s.heap.objs.size ∉ c.tk := fun hm => let ⟨_, e⟩ := (R.off _ (by simpa using hm)).2; Nat.lt_irrefl _ (Heap.lt_size e)
    have nd : (bs.map (·.1)).Nodup := by rw [List.map_append, List.nodup_append] at hnd; exact hnd.1
    have RR : Rep c (callEnv fd s.heap.objs.size f) g [] z [] (bs ++ un.map fun x => (x, V.unb)) { s with heap := h₀, toks := s.toks + binds.length } := by
      refine ⟨R0, ⟨_, hns, fun p hp => ?_⟩, hnd, hk, hgl, hbl, lt⟩
      rcases List.mem_append.mp hp with h | h
      · obtain ⟨w, h1, h2⟩ := vrl_lookup e1 e2 nd h
        exact .inr (.inr ⟨hloc p h, w, h1, h2⟩)
      · obtain ⟨x, _, rfl⟩ := List.mem_map.mp h; exact .inl rfl
    have ok' : Ok (A.deeper (callEnv fd s.heap.objs.size f)) D := ⟨ok.h, by have := ok.d; show A.depth + 1 + 3 * D + 3 < _; omega, by have := ok.u; show A.units + 3 + 20 * D + 20 < _; omega⟩
    have hA' : (A.deeper (callEnv fd s.heap.objs.size f)).frames = some (callEnv fd s.heap.objs.size f :: outer) := Around.frames_deeper hA
    refine h s.heap.objs.size _ rfl _ g z _ _ _ outer ok' hA' fo RR rfl fun e s' hr => ?_
    exact hr _ _ _ hA' fun h' hr' => q e _ hr'
-- STATEMENTS
theorem xr_here {st : Stmt} {rest : List Stmt} (h : XR c env D (exec st env) l X) : XR c env D (execs (st :: rest) env) l X :=
  fun A g z s Q' E' outer ok hA fo R hf q => wpAny_execs_cons (h A g z s _ E' outer ok hA fo R hf q)
theorem SR.nil_inv {z : Led} {R : List Addr} {r l} (h : SR z R [] r l) : r = [] := by cases h; rfl
theorem xr_next {st : Stmt} {rest : List Stmt} (h : EX c env D (exec st env) l [] fun f l' σ' => f = .next ∧ σ' = [] ∧ XR c env D (execs rest env) l' X) : XR c env D (execs (st :: rest) env) l X := by
  intro A g z s Q' E' outer ok hA fo R hf q
  refine wpAny_execs_cons (h A g [] z s _ E' ok R fun f fw l' σ' ρ' z' s' hq R' G' r' => ?_)
  obtain ⟨rfl, rfl, hx⟩ := hq
  cases r'
  obtain ⟨led, sr, _⟩ := R'.own
  cases SR.nil_inv sr
  exact hx A g z' s' Q' E' outer ok hA fo R' hf q
theorem xr_if {t : Expr} {a b : List Stmt} {pos : Pos} (h : EB c env D (isTrue t env (eval t env)) l [] fun r σ' => r = true ∧ σ' = []) (ha : XR c env D (execs a env) l X) : XR c env D (exec (.If t a b pos) env) l X := by
  intro A g z s Q' E' outer ok hA fo R hf q
  refine wpAny_If (h A g [] z s _ E' ok R fun r σ' ρ' z' s' hq R' G' => ?_)
  obtain ⟨rfl, rfl⟩ := hq
  obtain ⟨led, sr, _⟩ := R'.own
  cases SR.nil_inv sr
  exact ha A g z' s' Q' E' outer ok hA fo R' hf q
end
end
section
open PySem PySem.W PyProof.Rows PySem.Calls
section
variable {c : Cx} {env : Env} {D : Nat} {l : Loc} {X : String}
theorem fcr_def' {f : Addr} {fd : FuncData} {body : List Stmt} {oc : Value} {od : Option Addr} {osl : Array (Option Value)} {args vals : List V} {kw : List (Str × V)}
    (bn un : List Str) (ho : c.K.lookup f = some ⟨oc, od, .func fd, osl⟩) (hbody : fd.body = .stmts body) (hcd : codeIn c.K fd.code fd.qualname = true) (hbind : BindA c fd args kw (bn.zip vals) ∧ vals.length = bn.length)
    (hnd : (bn ++ un).Nodup) (hloc : ∀ x ∈ bn, fd.scope.names.lookup x = some .local)
    (h : ∀ L env, env = callEnv fd L f → XR c env D (execs body env) ((bn ++ un).zip (vals ++ un.map fun _ => V.unb)) X)
    (hcell : ∀ x ∈ fd.scope.names, x.2 ≠ .cell) (hgl : fd.globals = mainGlobals) (hbl : fd.builtins = builtinsNs)
    (hco : fd.scope.isCoroutine = false := by rfl) (hgen : fd.scope.isGenerator = false := by rfl) (hk : fd.scope.kind = .function := by rfl) : FCR c (D + 1) (.val (.ref f)) args kw X := by
  obtain ⟨hb, hn⟩ := hbind
  have e : bn.zip vals ++ un.map (fun x => (x, V.unb)) = (bn ++ un).zip (vals ++ un.map fun _ => V.unb) := by rw [zip_app hn, zip_unb]
  have e1 : (bn.zip vals).map (·.1) = bn := by rw [List.map_fst_zip]; omega
  refine fcr_def (bs := bn.zip vals) un ho hbody hcd hb ?_ (fun x hx => hloc _ (by rw [← e1]; exact List.mem_map_of_mem hx)) (fun L env he => ?_) hcell hgl hbl hco hgen hk
  · rw [e, List.map_fst_zip (by simp [hn])]; exact hnd
  · rw [e]; exact h L env he
/-- a def that raises is called, for its own sake -/
theorem xr_call {x : Str} {p cp pos : Pos} {args : List Expr} {f : Addr} (e : nsIn c.K mainGlobals x = some (some (.ref f))) (hk : keepIn c.K (.ref f) = true) (h : EL c env D cp args l [] fun vs σ' => σ' = [] ∧ FCR c D (.val (.ref f)) vs [] X)
    (he : eval (.Call (.Name x p) args [] cp) env = (do callWith cp (← eval (.Name x p) env) [] (backTo cp (starEach args env)) (backToKw cp (keywordEach [] env))) := by (subst_vars; kernel_rfl))
    (hkd : env.kindOf x = some .globalImplicit := by (subst_vars; kernel_rfl)) (hd : (x == ("__debug__" : Str)) = false := by decide +kernel) (hi : interactive env = false := by (subst_vars; kernel_rfl)) (hs : swapsWith (.Call (.Name x p) args [] cp) none pos.line env = pure false := by (subst_vars; kernel_rfl)) :
    XR c env D (exec (.Expr (.Call (.Name x p) args [] cp) pos) env) l X := by
  intro A g z s Q' E' outer ok hA fo R hf q
  refine wpAny_Expr_any ?_ hi hs
  rw [he]
  refine wpAny_bind ((ev_glob (D := D) (Q := fun v σ' => v = .val (.ref f) ∧ σ' = []) e ⟨rfl, rfl⟩ hkd hd) A g [] z s _ _ ok R fun vf wf σ1 ρ1 z1 s1 h1 R1 G1 r1 => ?_)
  obtain ⟨rfl, rfl⟩ := h1
  obtain ⟨led1, sr1, _⟩ := R1.own
  cases SR.nil_inv sr1
  have hplain : ((backTo cp (starEach args env)).any (·.1) || (backToKw cp (keywordEach [] env)).any (·.1.isNone)) = false := by
    rw [h.1, Bool.false_or]; rfl
  refine callWith_of (P := fun h => c.K.In h) hplain (fun h X => keepOk_looks (show KeepOk c (.val (.ref f)) from hk) r1 h X) (evalArgs_gen h.1 rfl ?_)
  refine h.2 A g [] z1 s1 _ _ ok R1 fun vs ws σ2 ρ2 z2 s2 h2 R2 G2 r2 => ?_
  obtain ⟨rfl, hF⟩ := h2
  obtain ⟨led2, sr2, _⟩ := R2.own
  cases SR.nil_inv sr2
  refine wpAny_evalAll_nil ?_
  refine ⟨R2.base.X.keeps R2.keep, ?_⟩
  obtain ⟨P, up⟩ := R2.toRp.flat
  obtain ⟨of, hof, hod⟩ := R2.frame
  have fo' : FrOk (hideAll s2.heap c.tk) (env :: outer) := fun ev hev => by
    rcases List.mem_cons.mp hev with q | hev
    · rw [q]; exact ⟨by rw [R2.kind]; decide, env.locals, of, hf, hideAll_get _ hof R2.lt, hod⟩
    · obtain ⟨a1, L, o, a2, a3, a4⟩ := fo ev hev
      exact ⟨a1, L, o, a2, up _ _ a3, a4⟩
  refine wpAny_call (hF A (hideAll s2.heap c.tk) z2 s2 _ wf ws [] (env :: outer) ok hA fo' P (r1.mono G2.toExt) r2 .nil fun e s' hr => ?_)
  exact q e s' (raisedIn_call hf (R2.off env.locals (by simp)).1 up hr)
theorem xr_raise {x : Str} {np cpos pos : Pos} {e₀ : Expr} {rest : List Expr} {newId initId : String} (FC : ExcCallFacts X newId initId) (FR : ExcRaiseFacts X) (e : nsIn c.K mainGlobals x = some none) (hb : bootBuiltins x = some (.type X)) (h : EL c env D cpos (e₀ :: rest) l [] fun vs σ' => σ' = [] ∧ vs.length ≤ 100)
    (hx : env.kindOf x = some .globalImplicit := by (subst_vars; kernel_rfl)) (hn : x ≠ "__name__" := by decide +kernel) (hd : (x == ("__debug__" : Str)) = false := by decide +kernel)
    (he : starEach (e₀ :: rest) env = (false, eval e₀ env) :: starEach rest env := by rfl) (hplain : (backTo cpos (starEach rest env)).any (·.1) = false := by rfl) :
    XR c env D (exec (.Raise (some (.Call (.Name x np) (e₀ :: rest) [] cpos)) none pos) env) l X := by
  intro A g z s Q' E' outer ok hA fo R hf q
  refine Raise_madeB FC FR ok.h ?_ he hplain
  refine (ev_bltn_t (D := D) (Q := fun v σ' => v = .val (.type X) ∧ σ' = []) e hb ⟨rfl, rfl⟩ hx hn hd) A g [] z s _ _ ok R fun vf wf σ1 ρ1 z1 s1 h1 R1 G1 r1 => ?_
  obtain ⟨rfl, rfl⟩ := h1
  cases r1
  obtain ⟨led1, sr1, _⟩ := R1.own
  cases SR.nil_inv sr1
  refine ⟨rfl, h.2 A g [] z1 s1 _ _ ok R1 fun vs ws σ2 ρ2 z2 s2 h2 R2 G2 r2 => ?_⟩
  obtain ⟨rfl, hl⟩ := h2
  obtain ⟨led2, sr2, _⟩ := R2.own
  cases SR.nil_inv sr2
  refine ⟨by rw [← r2.length, sizeLine_eq]; omega, fun h' ea hx => ?_⟩
  exact q ea _ (raisedIn_made (s' := { s2 with heap := h' }) R2 hf fo hx.of rfl rfl rfl)
/-- a text with a small int in it -/
theorem ev_fstr {a b : Str} {x : Str} {k1 k2 : Nat} {p p1 p2 p3 p4 : Pos} {n : Int} {σ : Hp} {Q : V → Hp → Prop} (hm : (x, V.int n) ∈ l) (hn : n.natAbs.log2 < 1920) (ha : a.length + (toString n : Str).length + b.length ≤ 1000000) (h : ∀ y, Q (.str y) σ) (hd : (x == ("__debug__" : Str)) = false := by decide +kernel) :
    EV c env D (eval (.JoinedStr [.Constant (.str a) k1 p1, .FormattedValue (.Name x p2) (-1) none p3, .Constant (.str b) k2 p4] p) env) l σ Q := by
  intro A g ρ z s Q' E' ok R q
  refine JoinedStr_many (joinParts_cons ?_)
  refine (ev_str (D := D) (Q := fun v σ' => v = .str a ∧ σ' = σ) ⟨rfl, rfl⟩) A g ρ z s _ _ ok R fun v w σ1 ρ1 z1 s1 h1 R1 G1 r1 => ?_
  obtain ⟨rfl, rfl⟩ := h1
  cases r1
  have e0 : (Str.empty).length = 0 := rfl
  refine ⟨by rw [strLen_append, sizeLine_eq]; omega, joinParts_cons (FormattedValue_plain ?_)⟩
  refine (ev_name (D := D) (Q := fun v σ' => v = .int n ∧ σ' = σ1) hm rfl ⟨rfl, rfl⟩ hd) A g ρ1 z1 s1 _ _ ok R1 fun v w σ2 ρ2 z2 s2 h2 R2 G2 r2 => ?_
  obtain ⟨rfl, rfl⟩ := h2
  cases r2
  refine formatField_int_small hn ?_
  refine ⟨by rw [strLen_append, strLen_append, sizeLine_eq]; omega, joinParts_cons ?_⟩
  have R3 := R2.toks (s2.toks + 1 + 1)
  refine (ev_str (D := D) (Q := fun v σ' => v = .str b ∧ σ' = σ2) ⟨rfl, rfl⟩) A g ρ2 z2 _ _ _ ok R3 fun v w σ3 ρ3 z3 s3 h3 R4 G3 r3 => ?_
  obtain ⟨rfl, rfl⟩ := h3
  cases r3
  refine ⟨by rw [strLen_append, strLen_append, strLen_append, sizeLine_eq]; omega, joinParts_nil ?_ (by rw [strLen_append, strLen_append, strLen_append, sizeLine_eq]; omega)⟩
  exact q _ _ _ _ _ _ (h _) (R4.toks _) (((G1.trans G2).trans ((Go.toks ..).trans G3)).trans (Go.toks ..)) (.str _ _)
end
end
section
open PySem PySem.W PyProof.Rows PySem.Calls
set_option maxRecDepth 100000
set_option maxHeartbeats 4000000
theorem eb_cb {c : Cx} {env : Env} {ns : List Str} {e : Expr} {w : WB} {X : Ex} {l : List V} {σ : Hp} {Q : Bool → Hp → Prop} (h : CB c env ns e w) (hX : X.c = c) (ok : XOk X) (hl : l.length = ns.length) (hw : w X l σ Q) : EB c env X.D (isTrue e env (eval e env)) (ns.zip l) σ Q := h X hX ok l σ Q hl hw
theorem ex_cx {c : Cx} {env : Env} {ns : List Str} {s : Stmt} {w : WX} {X : Ex} {l : List V} {σ : Hp} {Q : Fl → List V → Hp → Prop} (h : CX c env ns s w) (hX : X.c = c) (ok : XOk X) (hl : l.length = ns.length) (hw : w X l σ Q) : EX c env X.D (exec s env) (ns.zip l) σ (QX ns Q) := h X hX ok l σ Q hl hw
theorem el_cl {c : Cx} {env : Env} {ns : List Str} {pos : Pos} {es : List Expr} {w : WL} {X : Ex} {l : List V} {σ : Hp} {Q : List V → Hp → Prop} (h : CL c env ns pos es w) (hX : X.c = c) (ok : XOk X) (hl : l.length = ns.length) (hw : w X l σ Q) : EL c env X.D pos es (ns.zip l) σ Q := h.2 X hX ok l σ Q hl hw
theorem chk_raise {c : Cx} (hC : C3 c) {D : Nat} {k : Int} (hk : k = 0 ∨ k = 41) : FCR c (D + 1) (.val (.ref 375)) [.int k] [] "ValueError" := by
  refine fcr_def' ["version"] [] (by k_in) rfl (by k_in) ((sh1 (fun _ => rfl)) _ _ _ ⟨rfl, rfl, rfl⟩) (by decide) (by decide) (fun L env he => ?_) (by decide) rfl rfl rfl rfl rfl
  refine xr_here (xr_if ?t (xr_here (xr_raise PySem.F.excCall_ValueError PySem.F.excRaise_ValueError (by k_in) (by boot_by_name) ?a)))
  case t =>
    refine eb_cb (X := X3 c D) (ns := ["version"]) (l := [.int k]) (Q := fun r σ' => r = true ∧ σ' = []) (w := ?w) ?h rfl (X3_ok hC D) rfl ?g
    case h => kda_here
    case g =>
      rcases hk with rfl | rfl
      · repeat' walk_at "vc"
        all_goals (conv => whnf)
        all_goals exact ⟨rfl, rfl⟩
      · repeat' walk_at "vc"
        all_goals (conv => whnf)
        all_goals exact ⟨rfl, rfl⟩
  case a =>
    refine el_cons rfl (ev_fstr (n := k) (by simp) (by rcases hk with rfl | rfl <;> decide) (by rcases hk with rfl | rfl <;> decide) fun y => el_nil ⟨rfl, by simp⟩) (by subst he; rfl)
theorem bf_raise {c : Cx} (hC : C3 c) {D : Nat} {k : Int} {u : V} (hk : k = 0 ∨ k = 41) : FCR c (D + 2) (.val (.ref 616)) [u] [("start", .int k)] "ValueError" := by
  have bnd : ∀ {fd : FuncData} {T : Addr} {o : Obj} {items : Array Value} {n : Nat} (ho : c.K.lookup T = some o) (hd : fd.defaults = .ref T) (hs : o.data = .seq items n)
    (h1 : ∀ a, ∃ k, bindArgs fd ⟨[a], []⟩ = seqItems? fd.defaults >>= k ∧ k (some items) = pure [(("self" : Str), a), (("start" : Str), .none)])
    (h2 : ∀ a b, ∃ k, bindArgs fd ⟨[a], [(("start" : Str), b)]⟩ = seqItems? fd.defaults >>= k ∧ k (some items) = pure [(("self" : Str), a), (("start" : Str), b)]), BindA c fd [u] [("start", .int k)] (List.zip ["self", "start"] [u, .int k]) ∧ [u, V.int k].length = List.length (α := Str) ["self", "start"] :=
    fun ho hd hs h1 h2 => shBF_ok ho hd hs h1 h2 _ _ _ (.inr ⟨_, _, rfl, rfl, rfl⟩)
  refine fcr_def' (vals := [u, .int k]) ["self", "start"] ["mode_sizes", "buffer", "data", "needed_bits"] (by k_in) rfl (by k_in) ?b (by decide) (by decide) (fun L env he => ?_) (by decide) rfl rfl rfl rfl rfl
  case b =>
    refine' bnd ?b1 ?a1 ?c1 ?d1 ?e1
    case a1 => rfl
    case b1 => k_in
    case c1 => rfl
    case d1 => exact fun _ => ⟨_, rfl, rfl⟩
    case e1 => exact fun _ _ => ⟨_, rfl, rfl⟩
  simp only [List.cons_append, List.nil_append, List.map_cons, List.map_nil]
  refine xr_next (EX.mono (Q := QX _ fun f l' τ => f = .next ∧ τ = [] ∧ l' = [u, .int k, .unb, .unb, .unb, .unb]) (ex_cx (X := X3 c (D + 1)) (l := [u, .int k, .unb, .unb, .unb, .unb]) (w := ?w1) ?h1 rfl (X3_ok hC _) rfl ?g1) ?k1)
  case h1 => kda_here
  case g1 => exact ⟨rfl, rfl, rfl⟩
  case k1 =>
    rintro f L τ ⟨l', hl', rfl, rfl, rfl, rfl⟩
    refine ⟨rfl, rfl, ?_⟩
    refine xr_next (EX.mono (Q := QX _ fun f l' τ => f = .next ∧ τ = [] ∧ l' = [u, .int k, .unb, .unb, .unb, .unb]) (ex_cx (X := X3 c (D + 1)) (l := [u, .int k, .unb, .unb, .unb, .unb]) (w := ?w2) ?h2 rfl (X3_ok hC _) rfl ?g2) ?k2)
    case h2 => kda_here
    case g2 =>
      repeat' walk_at "vc"
      all_goals (conv => whnf)
      all_goals exact ⟨rfl, rfl, rfl⟩
    case k2 =>
      rintro f L τ ⟨l', hl', rfl, rfl, rfl, rfl⟩
      refine ⟨rfl, rfl, ?_⟩
      refine xr_here (xr_call (by k_in) (by k_in) ?a)
      case a =>
        refine el_cl (X := X3 c (D + 1)) (l := [u, .int k, .unb, .unb, .unb, .unb]) (w := ?w3) ?h3 rfl (X3_ok hC _) rfl ?g3
        case h3 => kda_here
        case g3 => exact ⟨rfl, chk_raise hC hk⟩
end
section
open PySem PySem.W PyProof.Rows PySem.Calls
section
variable {c : Cx} {env : Env} {D : Nat} {l : Loc} {σ : Hp} {Q : Fl → Loc → Hp → Prop}
/-- two names from a written pair: the second is bound first -/
theorem ex_assignS2 {elts : List Expr} {k : Nat} {e : Expr} {p pos : Pos} {x y : Str} (h : EV c env D (eval e env) l σ fun v σ₁ => ∃ a b l1 l2, v = .tup [a, b] ∧ Up y b l l1 ∧ Up x a l1 l2 ∧ Q .next l2 σ₁) (hkx : env.kindOf x = some .local) (hky : env.kindOf y = some .local)
    (hs : swapsWithSole [.Tuple elts k p] e pos.line env = pure false) (hw : swappedStores [.Tuple elts k p] e env = pure (some [x, y])) : EX c env D (exec (.Assign [.Tuple elts k p] e pos) env) l σ Q := by
  intro A g ρ z s Q' E' ok R q
  refine PyProof.Rows.Assign_Tuple_swapped (names := [x, y]) (h A g ρ z s _ _ ok R fun v w σ1 ρ1 z1 s1 h1 R1 G1 r1 => ?_) hs hw
  obtain ⟨a, b, l1, l2, rfl, u1, u2, hq⟩ := h1
  obtain ⟨ta, wa, wb, n, rfl, hm, ra, rb⟩ : ∃ ta wa wb n, w = .ref ta ∧ (ta, tupObj [wa, wb] n) ∈ z1 ∧ VR z1 ρ1 a wa ∧ VR z1 ρ1 b wb := by
    cases r1 with
    | tup hm hl =>
      cases hl with
      | cons ra hl => cases hl with
        | cons rb hl => cases hl; exact ⟨_, _, _, _, rfl, hm, ra, rb⟩
  have hU := @unpackItems_tuple c.prog c.w A E' s1 ta [wa, wb].toArray (fun items s₂ => wpAny c.M A (assignInOrder ([x, y].reverse.map fun n => bindName env n) items.reverse) (fun _ => Q' .next) E' s₂) ok.h (isTup_of (R1.frz _ hm).1)
  refine hU fun h' e => ?_
  obtain ⟨R2, G2⟩ := R1.grown e
  show wpAny c.M A (assignInOrder [bindName env y, bindName env x] [wb, wa]) _ _ _
  refine wpAny_assignInOrder_more (wpAny_bindName (store_local R2 rb hky u1 fun s3 R3 G3 => ?_))
  refine wpAny_assignInOrder_more (wpAny_bindName (store_local R3 ra hkx u2 fun s4 R4 G4 => ?_))
  exact wpAny_assignInOrder_none (q _ _ _ _ _ _ _ hq R4 ((G1.trans G2).trans (G3.trans G4)) .next)
end
section
variable {c : Cx} {env : Env} {ns : List Str} {pos : Pos}
def prK (v : V) (K : V → V → Prop) : Prop := hi (match v with
  | .tup vs => (match vs with | [a, b] => K a b | _ => False)
  | _ => False)
theorem of_prK {v : V} {K : V → V → Prop} (h : prK v K) : ∃ a b, v = .tup [a, b] ∧ K a b := by
  unfold prK at h
  split at h
  · split at h
    · exact ⟨_, _, rfl, h⟩
    · exact h.elim
  · exact h.elim
def asgS2 (i j : Nat) (w : WE) : WX := fun X l σ Q => w X l σ fun v σ₁ => prK v fun a b => updK l j b fun l₁ => updK l₁ i a fun l₂ => Q .next l₂ σ₁
theorem cx_asgS2 {elts : List Expr} {k : Nat} {e : Expr} {p : Pos} {x y : Str} {i j : Nat} {w : WE} (hx : At ns i x) (hy : At ns j y) (h : CE c env ns e w) (hw : swappedStores [.Tuple elts k p] e env = pure (some [x, y])) (hs : swapsWithSole [.Tuple elts k p] e pos.line env = pure false := by (subst_vars; kernel_rfl))
    (hkx : env.kindOf x = some .local := by (subst_vars; kernel_rfl)) (hky : env.kindOf y = some .local := by (subst_vars; kernel_rfl)) : CX c env ns (.Assign [.Tuple elts k p] e pos) (asgS2 i j w) := fun X ec ok l σ Q hl h1 => by
  subst ec
  refine ex_assignS2 ((h X rfl ok l σ _ hl h1).mono fun v σ₁ h2 => ?_) hkx hky hs hw
  obtain ⟨a, b, rfl, h3⟩ := of_prK h2
  obtain ⟨hj, h4⟩ := updK_set h3
  obtain ⟨hi, h5⟩ := updK_set h4
  exact ⟨a, b, ns.zip (l.set j b), ns.zip ((l.set j b).set i a), rfl, zip_up b hy hl, zip_up a hx (by simpa using hl), _, by simpa using hl, rfl, h5⟩
end
end
section
open PySem PySem.W PyProof.Rows PySem.Calls
section
variable {c : Cx} {env : Env} {D : Nat} {l : Loc} {X : String} {g : Heap} {ρ : List Addr} {z : Led} {σ : Hp} {s : Shared}
/-- what a raise leaves as it was -/
theorem Rep.after {s' : Shared} (R : Rep c env g ρ z σ l s) (k : ∀ b o, s.heap.get? b = some o → b ≠ env.locals → b ∉ c.tk → s'.heap.get? b = some o) (kL : ∀ o, s.heap.get? env.locals = some o → (∀ vs, o.data ≠ .fields vs) → ∃ sl, s'.heap.get? env.locals = some { o with slots := sl })
    (kt : ∀ t ∈ c.tt, TabOk s'.heap t) (h1 : s'.os = c.os) (h2 : s'.drawn = c.dr) (h3 : c.gi s'.gens) : Rep c env g ρ z σ l s' ∧ Go g ρ z s ρ z s' := by
  obtain ⟨led, a, b, d⟩ := R.own
  obtain ⟨of, ho, hod⟩ := R.frame
  obtain ⟨sl, hL⟩ := kL of ho hod
  have ht : ∀ a ∈ c.tk, ∃ o, s'.heap.get? a = some o := fun a ha => by
    obtain ⟨t, ht, rfl⟩ := List.mem_map.mp ha
    obtain ⟨ps, _, t2⟩ := kt t ht
    exact ⟨_, t2.2⟩
  refine ⟨⟨⟨R.base, fun b o e => k b o (R.keep b o e) (fun q => ?_) fun q => ?_, ⟨led, a, b, fun p hp => ⟨k _ _ (d p hp).1 (fun q => ?_) fun q => ?_, (d p hp).2⟩⟩, fun q hq => ⟨k _ _ (R.frz q hq).1 (fun e => ?_) fun e => ?_, (R.frz q hq).2⟩, fun a ha => ⟨(R.off a ha).1, ?_⟩, kt, h1, h2, h3, R.kz⟩, ?_, R.nd, R.kind, R.glob, R.bltn, R.lt⟩, ⟨Ext.refl .., fun b o e => ?_, fun _ h => .inl h⟩⟩
  · rw [q, (R.off env.locals (by simp)).1] at e; cases e
  · rw [(R.off b (List.mem_append_right _ q)).1] at e; cases e
  · exact (d p hp).2.2.1 (by simp [q])
  · exact (d p hp).2.2.1 (List.mem_append_right _ q)
  · exact (R.frz q hq).2 (by simp [e])
  · exact (R.frz q hq).2 (List.mem_append_right _ e)
  · rcases List.mem_append.mp ha with h | h
    · rw [List.mem_singleton.mp h]; exact ⟨_, hL⟩
    · exact ht a h
  · obtain ⟨m, ⟨o, es, ep, e, hd, r⟩, hm⟩ := R.ns
    rw [ho] at e; cases e
    exact ⟨m, ⟨_, es, ep, hL, hd, r⟩, hm⟩
  · by_cases q : b = env.locals
    · rw [q]; exact ⟨_, hL⟩
    · by_cases q2 : b ∈ c.tk
      · exact ht b q2
      · exact ⟨o, k b o e q q2⟩
/-- a tree of the law's own frame that raises -/
def XL {α : Type} (c : Cx) (env : Env) (D : Nat) (t : Sem α) (l : Loc) (σ : Hp) (X : String) : Prop :=
  ∀ (A : Around) (g : Heap) (ρ : List Addr) (z : Led) (s : Shared) (Q' : α → Shared → Prop) (E' : Value → Shared → Prop), Ok A D → A.frames = some [env] → Rep c env g ρ z σ l s → env.frame = some env.locals →
    (∀ e ρ1 z1 s1 s', Rep c env g ρ1 z1 σ l s1 → Go g ρ z s ρ1 z1 s1 → Raised c (hideAll s1.heap c.tk) [env] e X s' → E' (.ref e) s') → wpAny c.M A t Q' E' s
theorem xl_call {o : Expr} {name : Str} {apos cp pos : Pos} {args : List Expr} {kws : List Keyword} {pl : Sem Bool}
    (hkw : (backToKw cp (keywordEach kws env)).all (·.1.isSome) = true)
    (h : EV c env D (eval o env) l σ fun ov σ₁ => EM c env D ov name l σ₁ fun vf first σ₂ => KeepOk c vf ∧ EL c env D cp args l σ₂ fun vs σ₃ => EK c env D cp kws l σ₃ fun ks σ₄ => σ₄ = σ ∧ ∀ (z : Led) (ρ : List Addr) (wf : Value) (ws kw : List Value), VR z ρ vf wf → VRL z ρ (first ++ vs) ws → VRL z ρ (ks.map (·.2)) kw →
      ∃ vs' : List V, ∃ ks' : List (Str × V), ks'.map (·.1) = ks.map (·.1) ∧ VR z [] vf wf ∧ VRL z [] vs' ws ∧ VRL z [] (ks'.map (·.2)) kw ∧ FCR c D vf vs' ks' X)
    (he : eval (.Call (.Attribute o name apos) args kws cp) env = (do
      let ov ← eval o env
      standAt apos.atName
      let (f, first) ← holding [ov] (getMethod ov name pl)
      callWith cp f first (backTo cp (starEach args env)) (backToKw cp (keywordEach kws env))) := by rfl)
    (hi : interactive env = false := by (subst_vars; kernel_rfl)) (hs : swapsWith (.Call (.Attribute o name apos) args kws cp) none pos.line env = pure false := by (subst_vars; kernel_rfl)) :
    XL c env D (exec (.Expr (.Call (.Attribute o name apos) args kws cp) pos) env) l σ X := by
  intro A g ρ z s Q' E' ok hA R hf q
  refine wpAny_Expr_any ?_ hi hs
  refine methodCall_KW (h A g ρ z s _ _ ok R fun ov ow σ1 ρ1 z1 s1 h1 R1 G1 r1 => ?_) he
  refine h1 A g ρ1 z1 s1 _ _ ow pl ok R1 r1 fun vf first wf wfirst σ2 ρ2 z2 s2 h2 R2 G2 r2 rl => ?_
  obtain ⟨hk, h3⟩ := h2
  have hplain : ((backTo cp (starEach args env)).any (·.1) || (backToKw cp (keywordEach kws env)).any (·.1.isNone)) = false := by
    rw [h3.1, Bool.false_or, List.any_eq_false]
    intro x hx
    have := List.all_eq_true.mp hkw x hx
    cases hx1 : x.1 <;> simp_all
  refine callWith_of (P := fun h => c.K.In h) hplain (fun h X => keepOk_looks hk r2 h X) (evalArgs_gen h3.1 hkw ?_)
  refine h3.2 A g ρ2 z2 s2 _ _ ok R2 fun vs ws σ3 ρ3 z3 s3 h4 R3 G3 r3 => ?_
  refine h4.2 A g ρ3 z3 s3 _ _ ok R3 fun ks wk σ4 ρ4 z4 s4 h5 hm R4 G4 r4 => ?_
  obtain ⟨rfl, hF⟩ := h5
  refine ⟨R4.base.X.keeps R4.keep, ?_⟩
  obtain ⟨vs', ks', e1, f1, f2, f3, hF⟩ := hF z4 ρ4 wf (wfirst ++ ws) wk (r2.mono (G3.trans G4).toExt) ((rl.mono (G3.trans G4).toExt).append (r3.mono G4.toExt)) r4
  rw [← hm, ← e1]
  obtain ⟨P, up⟩ := R4.toRp.flat
  obtain ⟨of, hof, hod⟩ := R4.frame
  have fo' : FrOk (hideAll s4.heap c.tk) [env] := fun ev hev => by
    rw [List.mem_singleton.mp hev]; exact ⟨by rw [R4.kind]; decide, env.locals, of, hf, hideAll_get _ hof R4.lt, hod⟩
  refine wpAny_call (hF A (hideAll s4.heap c.tk) z4 s4 _ wf (wfirst ++ ws) wk [env] ok hA fo' P f1 f2 f3 fun e s' hr => ?_)
  exact q e ρ4 z4 s4 s' R4 (((G1.trans G2).trans G3).trans G4) hr
/-- try: what raises; except X: the suite -/
theorem wp_try {x : Str} {np pos hp : Pos} {body : List Stmt} {b₀ : Stmt} {suite : List Stmt} {A : Around} {Q' : Flow → Shared → Prop} {E' : Value → Shared → Prop} (ok : Ok A D) (hA : A.frames = some [env]) (R : Rep c env g ρ z σ l s) (hf : env.frame = some env.locals)
    (hb : XL c env D (execs body env) l σ X) (e : nsIn c.K mainGlobals x = some none) (hbt : bootBuiltins x = some (.type X))
    (hexc : isSubtype (.type X) (.type "BaseException") = pure true) (hnt : isSubtype (.type ((Manifest.find? X).elim "type" fun y => y.metatype)) (.type "tuple") = pure false) (hsub : isSubtype (.type X) (.type X) = pure true)
    (k : ∀ (A' : Around) (E'' : Value → Shared → Prop) ρ' z' s', Rep c env g ρ' z' σ l s' → Go g ρ z s ρ' z' s' → wpAny c.M A' (execs (b₀ :: suite) env) Q' E'' s')
    (hx : env.kindOf x = some .globalImplicit := by (subst_vars; kernel_rfl)) (hn : x ≠ "__name__" := by decide +kernel) (hd : (x == ("__debug__" : Str)) = false := by decide +kernel) :
    wpAny c.M A (exec (.Try body [.ExceptHandler (some (.Name x np)) none (b₀ :: suite) hp] [] [] pos) env) Q' E' s := by
  refine wpAny_Try_except (hb A g ρ z s _ _ ok hA R hf fun ea ρ1 z1 s1 s' R1 G1 hr => ?_)
  obtain ⟨⟨B, t, vs, b1, b2, b3, b4, b5, b6⟩, u, o1, o2, o3⟩ := hr
  have B1 : ∀ b o, s1.heap.get? b = some o → b ≠ env.locals → b ∉ c.tk → B.get? b = some o := fun b o hb h1 h2 => b1 b o (hideAll_get _ hb h2) fun ev hev he => by
    rw [List.mem_singleton.mp hev, hf] at he; cases he; exact h1 rfl
  obtain ⟨of, hof, hod⟩ := R1.frame
  have kL : ∀ (h : Heap), s'.heap.UpToSlots h → ∀ o, s1.heap.get? env.locals = some o → (∀ vs, o.data ≠ .fields vs) → ∃ sl, h.get? env.locals = some { o with slots := sl } := fun h hsm o ho hd => by
    obtain ⟨sl, h1⟩ := u env (.head _) env.locals o hf (hideAll_get _ ho R1.lt) hd
    obtain ⟨sl', h2⟩ := hsm env.locals _ h1 hd
    exact ⟨sl', h2⟩
  have aft : ∀ (h : Heap) (tk : Nat), B.StaysIn h → s'.heap.UpToSlots h → Rep c env g ρ1 z1 σ l { s' with heap := h, toks := tk } ∧ Go g ρ1 z1 s1 ρ1 z1 { s' with heap := h, toks := tk } := fun h tk st hsm =>
    R1.after (s' := { s' with heap := h, toks := tk }) (fun b o hb h1 h2 => st b o (B1 b o hb h1 h2)) (kL h hsm) (fun t ht => (b3 t ht).keeps st) o1 o2 o3
  refine wpAny_looks_onW hA hf b4 fun h₄ hheld₄ hsm₄ => ?_
  refine wpAny_landsW hheld₄ fun h₅ hheld hsm₅' => ?_
  have hsm₅ := hsm₄.trans hsm₅'
  obtain ⟨R5, G5⟩ := aft h₅ s'.toks hheld.1 hsm₅
  obtain ⟨ob, hob, hobc⟩ := hheld.there
  refine wpAny_handleBy_builtin (X := X) (T := X) (b := true) hexc hnt hsub ?_
  refine Name_function_global R5.kind hx (loadGlobal_builtin (by rw [R5.glob]; exact R5.base.gl.keeps R5.keep) (mg_none_of R5.base.X R5.base.gl e) (by rw [R5.bltn]; exact R5.base.bl.keeps R5.keep) ((R5.base.builtins x hn).trans hbt) ?_) hd
  refine ⟨rfl, ⟨ob, hob, hobc⟩, ?_⟩
  rw [if_pos rfl]
  refine lands_againW hheld fun h₆ hfl₆ hsm₆ => ?_
  obtain ⟨R6, G6⟩ := aft h₆ s'.toks hfl₆.1 (hsm₅.trans hsm₆)
  exact k _ _ ρ1 z1 _ R6 (G1.trans G6)
theorem wp_asgN {x : Str} {p p2 pos : Pos} {kk : Nat} {l' : Loc} {A : Around} {Q' : Flow → Shared → Prop} {E' : Value → Shared → Prop} (R : Rep c env g ρ z σ l s) (u : Up x .none l l')
    (q : ∀ s', Rep c env g ρ z σ l' s' → Go g ρ z s ρ z s' → Q' .next s') (hk : env.kindOf x = some .local := by (subst_vars; kernel_rfl)) (hs : swapsWith (.Constant .none kk p2) (some (.Name x p)) pos.line env = pure false := by (subst_vars; kernel_rfl)) :
    wpAny c.M A (execs [.Assign [.Name x p] (.Constant .none kk p2) pos] env) Q' E' s := by
  refine wpAny_execs_cons (wpAny_Assign_Name (wpAny_Constant_none ?_) hs)
  exact store_local R .none hk u fun s2 R2 G2 => wpAny_execs_nil (q s2 R2 G2)
end
end
section
open PySem PySem.W PyProof.Rows PySem.Calls
/-- statements of the frame that stands alone -/
def EXA (c : Cx) (env : Env) (D : Nat) (t : Sem Flow) (l : Loc) (σ : Hp) (Q : Fl → Loc → Hp → Prop) : Prop :=
  ∀ (A : Around) (g : Heap) (ρ : List Addr) (z : Led) (s : Shared) (Q' : Flow → Shared → Prop) (E' : Value → Shared → Prop), Ok A D → A.frames = some [env] → env.frame = some env.locals → Rep c env g ρ z σ l s →
    (∀ f fw l' σ' ρ' z' s', Q f l' σ' → Rep c env g ρ' z' σ' l' s' → Go g ρ z s ρ' z' s' → FR z' ρ' f fw → Q' fw s') → wpAny c.M A t Q' E' s
/-- a call from outside -/
def FCA (c : Cx) (D : Nat) (f : V) (args : List V) (kw : List (Str × V)) (σ : Hp) (Q : V → Hp → Prop) : Prop :=
  ∀ (A : Around) (g : Heap) (ρ : List Addr) (z : Led) (s : Shared) (R : Result → Shared → Prop) (wf : Value) (ws kws : List Value), Ok A D → A.frames = some [] → Rp c g [] ρ z σ s → VR z ρ f wf → VRL z ρ args ws → VRL z ρ (kw.map (·.2)) kws →
    (∀ v w σ' ρ' z' s', Q v σ' → Rp c g [] ρ' z' σ' s' → Go g ρ z s ρ' z' s' → VR z' ρ' v w → R (.ok (.ret w)) s') → codeAny c.M A (.call wf ⟨ws, (kw.map (·.1)).zip kws⟩) R s
section
variable {c : Cx} {env : Env} {D : Nat} {l : Loc} {σ : Hp} {Q : Fl → Loc → Hp → Prop}
theorem exa_of {t : Sem Flow} (h : EX c env D t l σ Q) : EXA c env D t l σ Q := fun A g ρ z s Q' E' ok _ _ R q => h A g ρ z s Q' E' ok R q
theorem EXA.mono {t : Sem Flow} {Q Q' : Fl → Loc → Hp → Prop} (h : EXA c env D t l σ Q) (k : ∀ f l' σ', Q f l' σ' → Q' f l' σ') : EXA c env D t l σ Q' :=
  fun A g ρ z s Q₁ E₁ ok hA hf R q => h A g ρ z s Q₁ E₁ ok hA hf R fun f fw l' σ' ρ' z' s' hq => q f fw l' σ' ρ' z' s' (k _ _ _ hq)
def ThenA (c : Cx) (env : Env) (D : Nat) (rest : List Stmt) (Q : Fl → Loc → Hp → Prop) : Fl → Loc → Hp → Prop := fun f l₁ σ₁ => match f with
  | .next => EXA c env D (execs rest env) l₁ σ₁ Q
  | f => Q f l₁ σ₁
theorem exa_cons {st : Stmt} {rest : List Stmt} (h : EXA c env D (exec st env) l σ (ThenA c env D rest Q)) : EXA c env D (execs (st :: rest) env) l σ Q := by
  intro A g ρ z s Q' E' ok hA hf R q
  refine wpAny_execs_cons (h A g ρ z s _ _ ok hA hf R fun f fw l1 σ1 ρ1 z1 s1 h1 R1 G1 r1 => ?_)
  cases r1 with
  | next => exact h1 A g ρ1 z1 s1 _ _ ok hA hf R1 fun f fw l' σ' ρ' z' s' hq R' G' r' => q f fw l' σ' ρ' z' s' hq R' (G1.trans G') r'
  | brk => exact q _ _ _ _ _ _ _ h1 R1 G1 .brk
  | cont => exact q _ _ _ _ _ _ _ h1 R1 G1 .cont
  | ret r => exact q _ _ _ _ _ _ _ h1 R1 G1 (.ret r)
theorem exa_nil (h : Q .next l σ) : EXA c env D (execs [] env) l σ Q := exa_of (ex_nil h)
theorem exa_if {t : Expr} {a b : List Stmt} {pos : Pos} (h : EB c env D (isTrue t env (eval t env)) l σ fun r σ₁ => (r = true → EXA c env D (execs a env) l σ₁ Q) ∧ (r = false → EXA c env D (execs b env) l σ₁ Q)) : EXA c env D (exec (.If t a b pos) env) l σ Q := by
  intro A g ρ z s Q' E' ok hA hf R q
  refine wpAny_If (h A g ρ z s _ _ ok R fun r σ1 ρ1 z1 s1 h1 R1 G1 => ?_)
  cases r with
  | true => exact h1.1 rfl A g ρ1 z1 s1 _ _ ok hA hf R1 fun f fw l' σ' ρ' z' s' hq R' G' r' => q f fw l' σ' ρ' z' s' hq R' (G1.trans G') r'
  | false => exact h1.2 rfl A g ρ1 z1 s1 _ _ ok hA hf R1 fun f fw l' σ' ρ' z' s' hq R' G' r' => q f fw l' σ' ρ' z' s' hq R' (G1.trans G') r'
theorem exa_tryN {X : String} {x y : Str} {np p p2 pa hp pos : Pos} {kk : Nat} {l' : Loc} {body : List Stmt} (hb : XL c env D (execs body env) l σ X) (u : Up y .none l l') (hq : Q .next l' σ) (e : nsIn c.K mainGlobals x = some none) (hbt : bootBuiltins x = some (.type X))
    (hexc : isSubtype (.type X) (.type "BaseException") = pure true) (hnt : isSubtype (.type ((Manifest.find? X).elim "type" fun y => y.metatype)) (.type "tuple") = pure false) (hsub : isSubtype (.type X) (.type X) = pure true)
    (hx : env.kindOf x = some .globalImplicit := by (subst_vars; kernel_rfl)) (hn : x ≠ "__name__" := by decide +kernel) (hd : (x == ("__debug__" : Str)) = false := by decide +kernel)
    (hk : env.kindOf y = some .local := by (subst_vars; kernel_rfl)) (hs : swapsWith (.Constant .none kk p2) (some (.Name y p)) pa.line env = pure false := by (subst_vars; kernel_rfl)) :
    EXA c env D (exec (.Try body [.ExceptHandler (some (.Name x np)) none [.Assign [.Name y p] (.Constant .none kk p2) pa] hp] [] [] pos) env) l σ Q := by
  intro A g ρ z s Q' E' ok hA hf R q
  refine wp_try ok hA R hf hb e hbt hexc hnt hsub (fun A' E'' ρ' z' s' R' G' => ?_) hx hn hd
  exact wp_asgN R' u (fun s2 R2 G2 => q _ _ _ _ _ _ _ hq R2 (G'.trans G2) .next) hk hs
theorem fca_def' {f : Addr} {fd : FuncData} {body : List Stmt} {oc : Value} {od : Option Addr} {osl : Array (Option Value)} {args vals : List V} {kw : List (Str × V)} {Q : V → Hp → Prop}
    (bn un : List Str) (ho : c.K.lookup f = some ⟨oc, od, .func fd, osl⟩) (hbody : fd.body = .stmts body) (hcd : codeIn c.K fd.code fd.qualname = true) (hbind : BindA c fd args kw (bn.zip vals) ∧ vals.length = bn.length)
    (hnd : (bn ++ un).Nodup) (hloc : ∀ x ∈ bn, fd.scope.names.lookup x = some .local)
    (h : ∀ L env, env = callEnv fd L f → EXA c env D (execs body env) ((bn ++ un).zip (vals ++ un.map fun _ => V.unb)) σ (postFn Q))
    (hcell : ∀ x ∈ fd.scope.names, x.2 ≠ .cell) (hgl : fd.globals = mainGlobals) (hbl : fd.builtins = builtinsNs)
    (hco : fd.scope.isCoroutine = false := by rfl) (hgen : fd.scope.isGenerator = false := by rfl) (hk : fd.scope.kind = .function := by rfl) : FCA c (D + 1) (.val (.ref f)) args kw σ Q := by
  obtain ⟨hbind, hvl⟩ := hbind
  have e : bn.zip vals ++ un.map (fun x => (x, V.unb)) = (bn ++ un).zip (vals ++ un.map fun _ => V.unb) := by rw [zip_app hvl, zip_unb]
  have eb : (bn.zip vals).map (·.1) = bn := by rw [List.map_fst_zip]; omega
  have hnd' : ((bn.zip vals ++ un.map fun x => (x, V.unb)).map (·.1)).Nodup := by rw [e, List.map_fst_zip (by simp [hvl])]; exact hnd
  have hloc' : ∀ x ∈ bn.zip vals, fd.scope.names.lookup x.1 = some .local := fun x hx => hloc _ (by rw [← eb]; exact List.mem_map_of_mem hx)
  intro A g ρ z s RR' wf ws kws ok hA R rf rl rk q
  cases rf
  have X := R.base.X.keeps R.keep
  obtain ⟨binds, hb, e1, e2⟩ := hbind z ρ ws kws s X rl rk
  refine (codeAny_call_def (by have := ok.d; omega) (X _ _ ho) rfl (R.base.nolimit.keeps R.keep) (codeRec_of X hcd) hbody hb hcell (fun x hx => ?_) (fun h₀ hns hk₀ => ?_) hco hgen hk)
  · have : x.1 ∈ (bn.zip vals).map (·.1) := e1 ▸ List.mem_map_of_mem hx
    obtain ⟨y, hy, ey⟩ := List.mem_map.mp this
    rw [← ey]; exact hloc' y hy
  · have hL : s.heap.get? s.heap.objs.size = none := fresh_at (Nat.le_refl _)
    have hL' : ∃ o, h₀.get? s.heap.objs.size = some o := let ⟨o, _, _, e, _⟩ := hns; ⟨o, e⟩
    have R0 : Rp c g [s.heap.objs.size] ρ z σ { s with heap := h₀, toks := s.toks + binds.length } := R.addX (s' := { s with heap := h₀, toks := s.toks + binds.length }) hk₀ hL hL'
    have lt : s.heap.objs.size ∉ c.tk := fun hm => let ⟨_, e⟩ := (R.off _ (by simpa using hm)).2; Nat.lt_irrefl _ (Heap.lt_size e)
    have nd : ((bn.zip vals).map (·.1)).Nodup := by rw [List.map_append, List.nodup_append] at hnd'; exact hnd'.1
    have RR : Rep c (callEnv fd s.heap.objs.size f) g ρ z σ ((bn ++ un).zip (vals ++ un.map fun _ => V.unb)) { s with heap := h₀, toks := s.toks + binds.length } := by
      rw [← e]
      refine ⟨R0, ⟨_, hns, fun p hp => ?_⟩, hnd', hk, hgl, hbl, lt⟩
      rcases List.mem_append.mp hp with h | h
      · obtain ⟨w, h1, h2⟩ := vrl_lookup e1 e2 nd h
        exact .inr (.inr ⟨hloc' p h, w, h1, h2⟩)
      · obtain ⟨x, _, rfl⟩ := List.mem_map.mp h; exact .inl rfl
    have G0 : Go g ρ z s ρ z { s with heap := h₀, toks := s.toks + binds.length } := Go.same _ _ _ _ _ hk₀
    have ok' : Ok (A.deeper (callEnv fd s.heap.objs.size f)) D := ⟨ok.h, by have := ok.d; show A.depth + 1 + 3 * D + 3 < _; omega, by have := ok.u; show A.units + 3 + 20 * D + 20 < _; omega⟩
    refine h s.heap.objs.size _ rfl _ g ρ z _ _ _ ok' (Around.frames_deeper hA) rfl RR fun fl fw l' σ' ρ' z' s' hq R' G' r' => ?_
    cases r' with
    | next => exact q _ _ _ _ _ _ hq R'.toRp.lessX (G0.trans G') .none
    | brk => exact q _ _ _ _ _ _ hq R'.toRp.lessX (G0.trans G') .none
    | cont => exact q _ _ _ _ _ _ hq R'.toRp.lessX (G0.trans G') .none
    | ret r => exact q _ _ _ _ _ _ hq R'.toRp.lessX (G0.trans G') r
end
end
section
open PySem PySem.W PyProof.Rows PySem.Calls
set_option maxRecDepth 100000
set_option maxHeartbeats 4000000
local macro_rules | `(tactic| walk_at "lawx") => `(tactic| (first
  | ((with_reducible show CE _ _ _ (Expr.Attribute _ ("data_count" : Str) _) _); refine' ce_tattr (rs_attr ‹C3 _›) ?awa; (case awa => kda_here))
  | ((with_reducible show CE _ _ _ (Expr.ListComp _ _ _ _) _); refine' ce_comp (xs := ["block"]) ?c1 ?c2 ?c3 ?c4 ?c5 ?c6 ?c7 ?c8 ?c9 ?c10; (case c1 => (subst_vars; rfl)); (case c2 => decide); (case c3 => rfl); (case c4 => decide); (case c5 => decide);
      (case c6 => exact .loc .nil); (case c7 => kda_here); (case c8 => (intro C env' he'; kda_here)); (case c9 => (intro C env' he'; exact cbt_nil)); (case c10 => (intro C env' he'; kda_here)))))
local macro_rules | `(tactic| kda_here) => `(tactic| walk_at "lawx")
abbrev lawN : List Str := ["script", "state", "level", "begin", "code", "texts", "_", "octets", "part", "version"]
structure LawT (c : Cx) (w1 w2 w3 w4 w5 : WX) (w6 : WB) (w7 : WX) : Prop where
  x : ∃ (fd : FuncData) (oc : Value) (od : Option Addr) (osl : Array (Option Value)) (s1 s2 s3 s4 s5 : Stmt) (t6 : Expr) (post : List Stmt) (p1 p2 p3 p4 p5 p6 p7 p8 p9 p10 p11 p12 p13 : Pos) (kk : Nat),
    c.K.lookup 703 = some ⟨oc, od, .func fd, osl⟩ ∧ fd.body = .stmts (s1 :: s2 :: s3 :: s4 :: s5 ::
      .If t6 [.Try [.Expr (.Call (.Attribute (.Name "code" p1) "best_fit" p2) [] [⟨some "start", .Name "begin" p3, p4⟩] p5) p6] [.ExceptHandler (some (.Name "ValueError" p7)) none [.Assign [.Name "begin" p8] (.Constant .none kk p9) p10] p11] [] [] p12] [] p13 :: post) ∧
    codeIn c.K fd.code fd.qualname = true ∧ (∀ args kw vals, shP 1 args kw vals → BindA c fd args kw (List.zip ["script"] vals) ∧ vals.length = List.length (α := Str) ["script"]) ∧
    (((["script"] : List Str) ++ (["state", "level", "begin", "code", "texts", "_", "octets", "part", "version"] : List Str)).Nodup ∧ (∀ x ∈ (["script"] : List Str), fd.scope.names.lookup x = some .local) ∧ (∀ x ∈ fd.scope.names, x.2 ≠ .cell)) ∧
    (fd.globals = mainGlobals ∧ fd.builtins = builtinsNs ∧ fd.scope.isCoroutine = false ∧ fd.scope.isGenerator = false ∧ fd.scope.kind = .function) ∧
    ∀ L env, env = callEnv fd L 703 → CX c env lawN s1 w1 ∧ CX c env lawN s2 w2 ∧ CX c env lawN s3 w3 ∧ CX c env lawN s4 w4 ∧ CX c env lawN s5 w5 ∧ CB c env lawN t6 w6 ∧ CXs c env lawN post w7 ∧
      (env.kindOf "begin" = some .local ∧ env.kindOf "ValueError" = some .globalImplicit ∧ interactive env = false ∧ swapsWith (.Call (.Attribute (.Name "code" p1) "best_fit" p2) [] [⟨some "start", .Name "begin" p3, p4⟩] p5) none p6.line env = pure false ∧ swapsWith (.Constant .none kk p9) (some (.Name "begin" p8)) p10.line env = pure false ∧
        ∃ pl : Sem Bool, eval (.Call (.Attribute (.Name "code" p1) "best_fit" p2) [] [⟨some "start", .Name "begin" p3, p4⟩] p5) env = (do
          let ov ← eval (.Name "code" p1) env
          standAt p2.atName
          let (f, first) ← holding [ov] (getMethod ov "best_fit" pl)
          callWith p5 f first (backTo p5 (starEach [] env)) (backToKw p5 (keywordEach [⟨some "start", .Name "begin" p3, p4⟩] env))))
def lawT : { w : WX × WX × WX × WX × WX × WB × WX // ∀ c, C3 c → LawT c w.1 w.2.1 w.2.2.1 w.2.2.2.1 w.2.2.2.2.1 w.2.2.2.2.2.1 w.2.2.2.2.2.2 } := ⟨(_, _, _, _, _, _, _), fun c hC => ⟨⟨_, _, _, _, _, _, _, _, _, _, _, _, _, _, _, _, _, _, _, _, _, _, _, _, _, by k_in, rfl, by k_in, sh1 (fun _ => rfl), ⟨by decide, by decide, by decide⟩, ⟨rfl, rfl, rfl, rfl, rfl⟩, fun L env he => by
  refine ⟨?_, ?_, ?_, ?_, ?_, ?_, ?_, ?_, ?_, ?_, ?_, ?_, ?_⟩
  · kda_here
  · kda_here
  · kda_here
  · with_reducible refine' cx_asgS2 (x := PySem.Str.ofString "code") (y := PySem.Str.ofString "texts") ?hx ?hy ?e ?hw ?hs ?hkx ?hky
    case hx => k_mem
    case hy => k_mem
    case e => kda_here
    case hw => (subst he; kernel_rfl)
    case hs => (subst he; kernel_rfl)
    case hkx => (subst he; kernel_rfl)
    case hky => (subst he; kernel_rfl)
  · kda_here
  · kda_here
  · kda_here
  · subst he; rfl
  · subst he; rfl
  · subst he; kernel_rfl
  · subst he; kernel_rfl
  · subst he; kernel_rfl
  · exact ⟨_, rfl⟩⟩⟩⟩
end
section
open PySem PySem.W PyProof.Rows PySem.Calls
set_option maxRecDepth 100000
set_option maxHeartbeats 4000000
-- THE PLAIN LAW
def capOf (trip : List (Nat × Int × Int)) : Int := (trip.map fun p => (p.1 : Int) * p.2.2).sum
def tripAt (v e : Nat) : List (Nat × Int × Int) := rsT3.getD ((v - 1) * 4 + offE e) []
def bitsAt (e v : Nat) : Int := (bitsT.getD e []).getD v 0
theorem caps : ∀ e : Fin 4, ∀ v : Fin 41, 1 ≤ v.val → bitsAt e v = 8 * capOf (tripAt v e) := by decide +kernel
theorem trips : ∀ e : Fin 4, ∀ v : Fin 41, 1 ≤ v.val → rsT3[(v.val - 1) * 4 + offE e]? = some (tripAt v e) ∧ (tripAt v e).length ≤ 10 ∧ (∀ p ∈ tripAt v e, p.1 ≤ 1000) := by decide +kernel
theorem rows_ : ∀ e : Fin 4, bitsT[e.val]? = some (bitsT.getD e []) ∧ (bitsT.getD e []).length = 41 := by decide +kernel
theorem sorted_ : ∀ e : Fin 4, ∀ i : Fin 41, ∀ j : Fin 41, i.val ≤ j.val → bitsAt e i ≤ bitsAt e j := by decide +kernel
theorem bits9 : ∀ e : Fin 4, 800 ≤ bitsAt e 9 := by decide +kernel
/-- what bisect_left finds in a sorted list -/
theorem bisL_spec {ns : List Int} {x : Int} : ∀ (k lo hi : Nat), hi - lo = k → lo ≤ hi → (∀ i j, lo ≤ i → i ≤ j → j < hi → ns.getD i 0 ≤ ns.getD j 0) →
    lo ≤ FX.bisL ns x lo hi ∧ FX.bisL ns x lo hi ≤ hi ∧ (∀ j, lo ≤ j → j < FX.bisL ns x lo hi → ns.getD j 0 < x) ∧ (∀ j, FX.bisL ns x lo hi ≤ j → j < hi → x ≤ ns.getD j 0) := by
  intro k
  induction k using Nat.strongRecOn with
  | _ k ih =>
    intro lo hi hk hle hs
    unfold FX.bisL
    by_cases hlt : lo < hi
    · rw [dif_pos hlt]
      have hm : lo ≤ (lo + hi) / 2 ∧ (lo + hi) / 2 < hi := by omega
      by_cases hx : ns.getD ((lo + hi) / 2) 0 < x
      · rw [if_pos hx]
        obtain ⟨a, b, d, e⟩ := ih (hi - ((lo + hi) / 2 + 1)) (by omega) ((lo + hi) / 2 + 1) hi rfl (by omega) fun i j h1 h2 h3 => hs i j (by omega) h2 h3
        refine ⟨by omega, b, fun j h1 h2 => ?_, e⟩
        by_cases hj : j ≤ (lo + hi) / 2
        · exact Int.lt_of_le_of_lt (hs j _ h1 hj hm.2) hx
        · exact d j (by omega) h2
      · rw [if_neg hx]
        obtain ⟨a, b, d, e⟩ := ih ((lo + hi) / 2 - lo) (by omega) lo ((lo + hi) / 2) rfl hm.1 fun i j h1 h2 h3 => hs i j h1 h2 (by omega)
        refine ⟨a, by omega, d, fun j h1 h2 => ?_⟩
        by_cases hj : j < (lo + hi) / 2
        · exact e j h1 hj
        · exact Int.le_trans (by omega) (hs _ j hm.1 (by omega) h2)
    · rw [dif_neg hlt]
      exact ⟨Nat.le_refl _, hle, fun j h1 h2 => by omega, fun j h1 h2 => by omega⟩
def txOf (p : Part) : Txt := (p.1, p.2.length)
theorem need_eq (v : Int) (ps : List Part) : ((allB' v ps).length : Int) = lsz v (ps.map txOf) := by
  induction ps with
  | nil => rfl
  | cons p ps ih =>
    unfold allB' lsz at ih ⊢
    rw [List.flatMap_cons, List.length_append, List.map_cons, List.map_cons, List.sum_cons, ← ih]
    unfold partB txtB txOf
    rw [List.length_append, List.length_append, bitsOf_len, bitsOf_len, wbits_len]
    simp only
    omega
/-- what the law asks of a beginning, of a level and of texts -/
theorem plain3 {e : Nat} (he : e < 4) {st : Nat} (h1 : 1 ≤ st) (h2 : st ≤ 40) {ps : List Part} (hp : ∀ p ∈ ps, PartOk p ∧ p.2.length ≤ 16) (hl : ps.length ≤ 3) :
    ∃ v : Nat, st ≤ v ∧ v ≤ 40 ∧ FX.bisL (bitsT.getD e []) ((allB' st ps).length : Int) st (bitsT.getD e []).length = v ∧ modeAddr v = modeAddr st ∧
      (∀ u : Nat, st ≤ u → u < v → bitsAt e u < lsz u (ps.map txOf)) ∧ lsz v (ps.map txOf) ≤ bitsAt e v := by
  have hrl := (rows_ ⟨e, he⟩).2
  simp only at hrl
  have hsz : ((allB' st ps).length : Int) ≤ 450 := by
    have key : ∀ qs : List Part, (∀ p ∈ qs, PartOk p ∧ p.2.length ≤ 16) → (allB' st qs).length ≤ 150 * qs.length := by
      intro qs
      induction qs with
      | nil => intro _; simp [allB']
      | cons q qs ih =>
        intro hq
        have i1 := ih fun p hp => hq p (.tail _ hp)
        have i2 : (partB st q).length ≤ 150 := by
          unfold partB
          rw [List.length_append, List.length_append, bitsOf_len, bitsOf_len, wbits_len]
          have h1 := ccb_le st q.1
          have h2 := (hq q (.head _)).2
          have h3 : wlen q.1 q.2.length ≤ 8 * q.2.length ∨ q.2.length = 0 ∧ wlen q.1 q.2.length ≤ 0 := by
            unfold wlen
            by_cases hz : q.2.length = 0
            · rw [hz]; right; refine ⟨rfl, ?_⟩; split; omega; split <;> omega
            · left; split; omega; split <;> omega
          omega
        unfold allB' at i1 ⊢
        rw [List.flatMap_cons, List.length_append, List.length_cons]
        omega
    have := key ps hp
    omega
  have hs : ∀ i j, st ≤ i → i ≤ j → j < 41 → (bitsT.getD e []).getD i 0 ≤ (bitsT.getD e []).getD j 0 := fun i j _ hij hj => sorted_ ⟨e, he⟩ ⟨i, by omega⟩ ⟨j, hj⟩ hij
  obtain ⟨a, b, d, f⟩ := bisL_spec (ns := bitsT.getD e []) (x := ((allB' st ps).length : Int)) _ st 41 rfl (by omega) hs
  rw [hrl]
  generalize hV : FX.bisL (bitsT.getD e []) ((allB' st ps).length : Int) st 41 = V at a b d f
  have h9 := bits9 ⟨e, he⟩
  have small : st ≤ 9 → V ≤ 9 := fun h => by
    apply Nat.le_of_not_lt
    intro hv
    have i1 := d 9 h hv
    have i2 : bitsAt e 9 = (bitsT.getD e []).getD 9 0 := rfl
    simp only at h9
    omega
  have big : 10 ≤ st → V = st := fun h => by
    apply Nat.le_antisymm _ a
    apply Nat.le_of_not_lt
    intro hv
    have i1 := d st (Nat.le_refl _) hv
    have i2 := sorted_ ⟨e, he⟩ ⟨9, by omega⟩ ⟨st, by omega⟩ (by simp only; omega)
    have i3 : bitsAt e st = (bitsT.getD e []).getD st 0 := rfl
    simp only at h9 i2
    omega
  have hV40 : V ≤ 40 := by
    by_cases h : st ≤ 9
    · have := small h; omega
    · have := big (by omega); omega
  have same : ∀ u : Nat, st ≤ u → u ≤ V → modeAddr u = modeAddr st ∧ ∀ m, ccb u m = ccb st m := fun u hu1 hu2 => by
    by_cases h : st ≤ 9
    · have := small h
      unfold modeAddr ccb
      exact ⟨by rw [if_pos (by omega), if_pos (by omega)], fun m => by rw [if_pos (show (u : Int) < 10 by omega), if_pos (show (st : Int) < 10 by omega)]⟩
    · have := big (by omega)
      have e2 : u = st := by omega
      rw [e2]; exact ⟨rfl, fun _ => rfl⟩
  have lszs : ∀ u : Nat, st ≤ u → u ≤ V → lsz u (ps.map txOf) = lsz st (ps.map txOf) := fun u h3 h4 => by
    have := (same u h3 h4).2
    unfold lsz txtB
    congr 1
    apply List.map_congr_left
    intro p _
    rw [this]
  refine ⟨V, a, hV40, rfl, (same V a (Nat.le_refl _)).1, fun u h3 h4 => ?_, ?_⟩
  · rw [lszs u h3 (by omega), ← need_eq]
    exact d u h3 h4
  · rw [lszs V a (Nat.le_refl _), ← need_eq]
    exact f V (Nat.le_refl _) (by omega)
end
section
open PySem PySem.W PyProof.Rows PySem.Calls
set_option maxRecDepth 100000
set_option maxHeartbeats 4000000
theorem cutN {α : Type} (l : List α) (n : Nat) : cut l none (some (n : Int)) = l.take n := by
  unfold cut
  simp only [Option.elim, clip_nat]
  by_cases h : n ≤ l.length
  · rw [Nat.min_eq_left h]; simp
  · rw [Nat.min_eq_right (by omega)]
    rw [List.take_of_length_le (by simp), List.take_of_length_le (by omega)]
    simp
theorem lw1_ {c : Cx} (hC : C3 c) {D : Nat} {ns : List Int} {Q : Fl → List V → Hp → Prop} (hn : ns.length ≤ 63)
    (h : Q .next [.lst (ns.map V.int), .ref 1, .unb, .unb, .unb, .unb, .unb, .unb, .unb, .unb] [.list ((ns.take 60).map V.int), stO 0 0 17]) :
    lawT.1.1 (X3 c D) [.lst (ns.map V.int), .unb, .unb, .unb, .unb, .unb, .unb, .unb, .unb, .unb] [] Q := by
  have e := cutN (ns.map V.int) 60
  rw [← List.map_take] at e
  repeat' walk_at "vc"
  conv => whnf
  rw [show cut (List.map V.int ns) none (some 60) = (ns.take 60).map V.int from e]
  exact h
theorem lw2_ {c : Cx} (hC : C3 c) {D : Nat} {ns : List Int} {τ : Hp} {a b2 b3 b4 b5 b6 b7 b8 b9 : V} {p s : Int} {Q : Fl → List V → Hp → Prop} (hs : IsSt τ 1 0 ns p s)
    (h : ∀ (e : Nat) p' s', e < 4 → 0 ≤ p' → 0 ≤ s' → s' < 2147483647 → Q .next [a, .ref 1, .int e, b3, b4, b5, b6, b7, b8, b9] (τ.set 1 (stO 0 p' s'))) :
    lawT.1.2.1 (X3 c (D + 1)) [a, .ref 1, b2, b3, b4, b5, b6, b7, b8, b9] τ Q := by
  repeat' walk_at "vc"
  conv => whnf
  refine next_ hC hs (by omega) fun r p' s' r0 r1 a0 a1 a2 => ?_
  obtain ⟨e, rfl⟩ := Int.eq_ofNat_of_zero_le r0
  repeat' walk_at "vc"
  conv => whnf
  exact h e p' s' (by omega) a0 a1 a2
theorem nth_nat {l : List Nat} {m i : Nat} (h : ∀ x ∈ l, x ≤ m) (hi : i < l.length) : ∃ b : Nat, (l.map fun n : Nat => V.int n)[i]? = some (.int b) ∧ b ≤ m :=
  ⟨l[i], by rw [List.getElem?_map, List.getElem?_eq_getElem hi]; rfl, h _ (List.getElem_mem hi)⟩
theorem lw3_ {c : Cx} (hC : C3 c) {D : Nat} {ns : List Int} {τ : Hp} {a b2 b3 b4 b5 b6 b7 b8 b9 : V} {p s : Int} {Q : Fl → List V → Hp → Prop} (hs : IsSt τ 1 0 ns p s) (hl : τ.length = 2)
    (h : ∀ (v : V) (T : Hp), (v = .none ∨ ∃ b : Nat, v = .int b ∧ b ≤ 41) → (∃ p' s', IsSt T 1 0 ns p' s') → T.length = 4 → Q .next [a, .ref 1, b2, v, b4, b5, b6, b7, b8, b9] T) :
    lawT.1.2.2.1 (X3 c (D + 1)) [a, .ref 1, b2, b3, b4, b5, b6, b7, b8, b9] τ Q := by
  repeat' walk_at "vc"
  conv => whnf
  refine next_ hC hs (by omega) fun r p1 s1 r0 r1 a0 a1 a2 => ?_
  have hs1 := hs.set a0 a1 a2
  repeat' walk_at "vc"
  conv => whnf
  have hs2 := hs1.app [.list [.int 8, .int 9, .int 10, .int 11, .int 25, .int 26, .int 27, .int 28, .int 39, .int 40]]
  refine next_ hC hs2 (by omega) fun r' p2 s2 r0' r1' a0' a1' a2' => ?_
  have hs3 := hs2.set a0' a1' a2'
  have hin : ((τ.set 1 (stO 0 p1 s1) ++ [AO.list [.int 8, .int 9, .int 10, .int 11, .int 25, .int 26, .int 27, .int 28, .int 39, .int 40]]).set 1 (stO 0 p2 s2))[(τ.set 1 (stO 0 p1 s1)).length]? = some (.list [.int 8, .int 9, .int 10, .int 11, .int 25, .int 26, .int 27, .int 28, .int 39, .int 40]) :=
    at_other (by rw [List.length_set]; omega) at_new
  have hlT : ((τ.set 1 (stO 0 p1 s1) ++ [AO.list [.int 8, .int 9, .int 10, .int 11, .int 25, .int 26, .int 27, .int 28, .int 39, .int 40]]).set 1 (stO 0 p2 s2)).length = 3 := by simp [hl]
  generalize ((τ.set 1 (stO 0 p1 s1) ++ [AO.list [.int 8, .int 9, .int 10, .int 11, .int 25, .int 26, .int 27, .int 28, .int 39, .int 40]]).set 1 (stO 0 p2 s2)) = T2 at hs3 hin hlT ⊢
  obtain ⟨b, hb, hb41⟩ : ∃ b : Nat, ([.int 8, .int 9, .int 10, .int 11, .int 25, .int 26, .int 27, .int 28, .int 39, .int 40] : List V)[r'.toNat]? = some (.int b) ∧ b ≤ 41 := nth_nat (l := [8, 9, 10, 11, 25, 26, 27, 28, 39, 40]) (by decide) (by simp only [List.length_cons, List.length_nil]; omega)
  walk_at "vc"
  walk_at "vc"
  conv => whnf
  refine getV_of hb ?_
  repeat' walk_at "vc"
  conv => whnf
  have hs4 := hs3.app [.list [.none, .none, .int (1 + r), .int b, .int 0, .int 41]]
  refine next_ hC hs4 (by omega) fun q p3 s3 q0 q1 b0 b1 b2' => ?_
  have hs5 := hs4.set b0 b1 b2'
  have hin2 : ((T2 ++ [AO.list [.none, .none, .int (1 + r), .int b, .int 0, .int 41]]).set 1 (stO 0 p3 s3))[T2.length]? = some (.list [.none, .none, .int (1 + r), .int b, .int 0, .int 41]) := at_other (by omega) at_new
  have hlT2 : ((T2 ++ [AO.list [.none, .none, .int (1 + r), .int b, .int 0, .int 41]]).set 1 (stO 0 p3 s3)).length = 4 := by simp [hlT]
  generalize ((T2 ++ [AO.list [.none, .none, .int (1 + r), .int b, .int 0, .int 41]]).set 1 (stO 0 p3 s3)) = T3 at hs5 hin2 hlT2 ⊢
  obtain ⟨rn, rfl⟩ := Int.eq_ofNat_of_zero_le r0
  have hv : ∃ v, ([.none, .none, .int (1 + (rn : Int)), .int b, .int 0, .int 41] : List V)[q.toNat]? = some v ∧ (v = .none ∨ ∃ b : Nat, v = .int b ∧ b ≤ 41) ∧ v.plain = true := by
    obtain ⟨qn, rfl⟩ := Int.eq_ofNat_of_zero_le q0
    rw [Int.toNat_natCast]
    match qn, (show qn < 6 by omega) with
    | 0, _ => exact ⟨_, rfl, .inl rfl, rfl⟩
    | 1, _ => exact ⟨_, rfl, .inl rfl, rfl⟩
    | 2, _ => exact ⟨_, rfl, .inr ⟨1 + rn, by simp, by omega⟩, rfl⟩
    | 3, _ => exact ⟨_, rfl, .inr ⟨b, rfl, hb41⟩, rfl⟩
    | 4, _ => exact ⟨_, rfl, .inr ⟨0, rfl, by omega⟩, rfl⟩
    | 5, _ => exact ⟨_, rfl, .inr ⟨41, rfl, by omega⟩, rfl⟩
  obtain ⟨v, hv1, hv2, _⟩ := hv
  walk_at "vc"
  walk_at "vc"
  conv => whnf
  refine getV_of hv1 ?_
  conv => whnf
  exact h v T3 hv2 ⟨_, _, hs5⟩ hlT2
/-- what the law's frame owns while it builds -/
structure LSt (τ : Hp) (t : Nat) (ns : List Int) (e : Nat) (ps : List Part) : Prop where
  st : ∃ p s, IsSt τ 1 0 ns p s
  qr : IsQR τ 4 e .none (ps.map partV)
  tx : τ[t]? = some (.list ((ps.map txOf).map txtV))
  t9 : 9 ≤ t
  ok : (∀ p ∈ ps, PartOk p ∧ p.2.length ≤ 16)
theorem LSt.draw {τ : Hp} {t : Nat} {ns : List Int} {e : Nat} {ps : List Part} (h : LSt τ t ns e ps) {p' s' : Int} (h0 : 0 ≤ p') (h1 : 0 ≤ s') (h2 : s' < 2147483647) : LSt (τ.set 1 (stO 0 p' s')) t ns e ps := by
  obtain ⟨⟨p, s, st⟩, qr, tx, t9, ok⟩ := h
  exact ⟨⟨p', s', st.set h0 h1 h2⟩, ⟨at_other (by omega) qr.inst, at_other (by omega) qr.parts⟩, at_other (by omega) tx, t9, ok⟩
theorem LSt.app {τ : Hp} {t : Nat} {ns : List Int} {e : Nat} {ps : List Part} (h : LSt τ t ns e ps) (g : Hp) : LSt (τ ++ g) t ns e ps := by
  obtain ⟨⟨p, s, st⟩, qr, tx, t9, ok⟩ := h
  exact ⟨⟨p, s, st.app g⟩, ⟨at_app qr.inst, at_app qr.parts⟩, at_app tx, t9, ok⟩
theorem lw4_ {c : Cx} (hC : C3 c) {D e : Nat} {ns : List Int} {τ : Hp} {a v b4 b5 b6 b7 b8 b9 : V} {Q : Fl → List V → Hp → Prop} (hs : ∃ p s, IsSt τ 1 0 ns p s) (hl : τ.length = 4)
    (h : ∀ T, LSt T 9 ns e [] → Q .next [a, .ref 1, .int e, v, .ref 4, .ref 9, b6, b7, b8, b9] T) :
    lawT.1.2.2.2.1 (X3 c (D + 5)) [a, .ref 1, .int e, v, b4, b5, b6, b7, b8, b9] τ Q := by
  obtain ⟨p, s, hs⟩ := hs
  repeat' walk_at "vc"
  conv => whnf
  refine qr_new_ hC ?_
  repeat' walk_at "vc"
  conv => whnf
  have e9 : (τ ++ qrH τ.length e .none []).length = 9 := by simp [qrH, hl]
  rw [e9, hl]
  refine h _ ⟨⟨p, s, (hs.app _).app _⟩, ⟨at_app ?_, at_app ?_⟩, ?_, Nat.le_refl _, fun _ h => (nomatch h)⟩
  · have := (show (τ ++ qrH 4 e .none [])[4]? = some (.inst 675 (qrF 4 e .none .none)) from by rw [List.getElem?_append_right (by omega), hl]; rfl)
    exact this
  · have := (show (τ ++ qrH 4 e .none [])[8]? = some (.list []) from by rw [List.getElem?_append_right (by omega), hl]; rfl)
    exact this
  · have e9' : (τ ++ qrH 4 e .none []).length = 9 := by simp [qrH, hl]
    rw [← e9']; exact at_new
theorem omode_ok (b : List UInt8) : (omode b = 1 ∧ ∀ x ∈ b, 48 ≤ x.toNat ∧ x.toNat ≤ 57) ∨ omode b = 2 ∨ omode b = 4 := by
  unfold omode
  by_cases h : isDig b = true
  · rw [if_pos h]
    refine .inl ⟨rfl, fun x hx => ?_⟩
    unfold isDig PySem.Builtin.Bytes.allOf at h
    rw [Bool.and_eq_true] at h
    have h1 := List.all_eq_true.mp h.2 x hx
    unfold PySem.Builtin.Bytes.isDigit at h1
    simp at h1
    exact h1
  · rw [if_neg h]
    split
    · exact .inr (.inl rfl)
    · exact .inr (.inr rfl)
theorem LSt.more {τ : Hp} {t : Nat} {ns : List Int} {e : Nat} {ps : List Part} {p : Part} {g : Hp} {t' : Nat} (h : LSt τ t ns e ps) (hp : PartOk p ∧ p.2.length ≤ 16) (ht : (τ.set 8 (.list (ps.map partV ++ [partV p])) ++ g)[t']? = some (.list (((ps ++ [p]).map txOf).map txtV))) (h9 : 9 ≤ t') :
    LSt (τ.set 8 (.list (ps.map partV ++ [partV p])) ++ g) t' ns e (ps ++ [p]) := by
  obtain ⟨⟨p', s, st⟩, qr, tx, t9, ok⟩ := h
  refine ⟨⟨p', s, IsSt.app ⟨at_other (by omega) st.hi, at_other (by omega) st.hk, st.p0, st.s0, st.s1, st.nz⟩ g⟩, ⟨at_app (at_other (by omega) qr.inst), at_app ?_⟩, ht, h9, fun q hq => ?_⟩
  · rw [List.map_append]; exact at_same qr.parts
  · rcases List.mem_append.mp hq with hq | hq
    · exact ok q hq
    · rw [List.mem_singleton.mp hq]; exact hp
abbrev lbody : WX := seqX (asgX 7 (callW (Tg.fn 691) (consL (locW 1) (consL (itemW (listW (consL (callW (Tg.fn 686) (consL (locW 1) (consL (cstW (V.int 14)) nilL)) nilK) (consL (cstW (V.int 16)) (consL (cstW (V.int 12)) nilL))))
    (callW (Tg.fn 686) (consL (locW 1) (consL (cstW (V.int 3)) nilL)) nilK)) nilL)) nilK))
  (seqX (asgX 8 (callW (Tg.fn 443) (consL (locW 7) nilL) (consK "mode" (itemW (listW (consL (cstW V.none) (consL (cstW (V.int 4)) nilL))) (callW (Tg.fn 686) (consL (locW 1) (consL (cstW (V.int 2)) nilL)) nilK)) nilK)))
    (seqX (exprX (methW 28 (locW 4) (consL (locW 8) nilL) nilK))
      (asgX 5 (binW Operator.Add (locW 5) (listW (consL (tupW (consL (attrW 11 (locW 8)) (consL (callW (Tg.bi Bi.len) (consL (locW 7) nilL) nilK) nilL))) nilL))))))
theorem lw5b_ {c : Cx} (hC : C3 c) {D e t : Nat} {ns : List Int} {τ : Hp} {ps : List Part} {a v b6 b7 b8 b9 : V} {Q : Fl → List V → Hp → Prop} (hs : LSt τ t ns e ps) (hl : ps.length ≤ 100)
    (h : ∀ T t p b7 b8, LSt T t ns e (ps ++ [p]) → Q .next [a, .ref 1, .int e, v, .ref 4, .ref t, b6, b7, b8, b9] T) :
    lbody (X3 c (D + 5)) [a, .ref 1, .int e, v, .ref 4, .ref t, b6, b7, b8, b9] τ Q := by
  obtain ⟨p, s, hst⟩ := hs.st
  repeat' walk_at "vc"
  conv => whnf
  refine next_ hC hst (by omega) fun r p1 s1 r0 r1 a0 a1 a2 => ?_
  have hs1 := hs.draw a0 a1 a2
  generalize τ.set 1 (stO 0 p1 s1) = τ1 at hs1 ⊢
  repeat' walk_at "vc"
  conv => whnf
  have hs2 := hs1.app [.list [.int r, .int 16, .int 12]]
  obtain ⟨p2, s2, hst2⟩ := hs2.st
  refine next_ hC hst2 (by omega) fun q p3 s3 q0 q1 c0 c1 c2 => ?_
  have hs3 := hs2.draw c0 c1 c2
  have h9 : 9 ≤ τ1.length := by have := (List.getElem?_eq_some_iff.mp hs1.tx).1; have := hs1.t9; omega
  have hin : ((τ1 ++ [AO.list [.int r, .int 16, .int 12]]).set 1 (stO 0 p3 s3))[τ1.length]? = some (.list [.int r, .int 16, .int 12]) := at_other (by omega) at_new
  generalize (τ1 ++ [AO.list [.int r, .int 16, .int 12]]).set 1 (stO 0 p3 s3) = τ2 at hs3 hin ⊢
  obtain ⟨rn, rfl⟩ := Int.eq_ofNat_of_zero_le r0
  obtain ⟨qn, rfl⟩ := Int.eq_ofNat_of_zero_le q0
  obtain ⟨n, hn, hn16⟩ : ∃ n : Nat, ([.int (rn : Int), .int 16, .int 12] : List V)[((qn : Nat) : Int).toNat]? = some (.int n) ∧ n ≤ 16 := by
    rw [Int.toNat_natCast]
    match qn, (show qn < 3 by omega) with
    | 0, _ => exact ⟨rn, rfl, by omega⟩
    | 1, _ => exact ⟨16, rfl, by omega⟩
    | 2, _ => exact ⟨12, rfl, by omega⟩
  walk_at "vc"
  walk_at "vc"
  conv => whnf
  refine getV_of hn ?_
  repeat' walk_at "vc"
  conv => whnf
  obtain ⟨p4, s4, hst4⟩ := hs3.st
  refine octets_ hC hst4 (by omega) fun b p5 s5 hbl d0 d1 d2 => ?_
  have hs5 := hs3.draw d0 d1 d2
  generalize τ2.set 1 (stO 0 p5 s5) = τ3 at hs5 ⊢
  repeat' walk_at "vc"
  conv => whnf
  have hs6 := hs5.app [.list [.none, .int 4]]
  obtain ⟨p6, s6, hst6⟩ := hs6.st
  refine next_ hC hst6 (by omega) fun m p7 s7 m0 m1 e0 e1 e2 => ?_
  have hs7 := hs6.draw e0 e1 e2
  have h93 : 9 ≤ τ3.length := by have := (List.getElem?_eq_some_iff.mp hs5.tx).1; have := hs5.t9; omega
  have hin3 : ((τ3 ++ [AO.list [.none, .int 4]]).set 1 (stO 0 p7 s7))[τ3.length]? = some (.list [.none, .int 4]) := at_other (by omega) at_new
  generalize (τ3 ++ [AO.list [.none, .int 4]]).set 1 (stO 0 p7 s7) = τ4 at hs7 hin3 ⊢
  obtain ⟨mn, rfl⟩ := Int.eq_ofNat_of_zero_le m0
  obtain ⟨mv, md, hmv, hm, hpo⟩ : ∃ (mv : V) (md : Int), ([.none, .int 4] : List V)[((mn : Nat) : Int).toNat]? = some mv ∧ ((mv = .none ∧ md = omode b) ∨ (mv = .int 4 ∧ md = 4)) ∧ PartOk (md, b) := by
    rw [Int.toNat_natCast]
    match mn, (show mn < 2 by omega) with
    | 0, _ => exact ⟨_, omode b, rfl, .inl ⟨rfl, rfl⟩, omode_ok b, by simp only; omega⟩
    | 1, _ => exact ⟨_, 4, rfl, .inr ⟨rfl, rfl⟩, .inr (.inr rfl), by simp only; omega⟩
  walk_at "vc"
  walk_at "vc"
  conv => whnf
  refine getV_of hmv ?_
  repeat' walk_at "vc"
  conv => whnf
  refine qd_new_ hC hm ?_
  have qi := hs7.qr.inst
  repeat' walk_at "vc"
  conv => whnf
  refine qr_add_ hC hs7.qr (by rw [List.length_map]; omega) ?_
  have ht : (τ4.set 8 (.list (ps.map partV ++ [partV (md, b)])))[t]? = some (.list ((ps.map txOf).map txtV)) := at_other (by have := hs7.t9; omega) hs7.tx
  have hT9 : 9 ≤ (τ4.set 8 (.list (ps.map partV ++ [partV (md, b)]))).length := by have := (List.getElem?_eq_some_iff.mp ht).1; have := hs7.t9; omega
  repeat' walk_at "vc"
  conv => whnf
  have hm := hs7.more (p := (md, b)) (g := [.list [.tup [.int md, .int b.length]]] ++ [.list ((ps.map txOf).map txtV ++ [.tup [.int md, .int b.length]])]) (t' := (τ4.set 8 (.list (ps.map partV ++ [partV (md, b)])) ++ [AO.list [.tup [.int md, .int b.length]]]).length) ⟨hpo, by simp only; omega⟩
    (by rw [← List.append_assoc, at_new]; simp [txOf, txtV]) (by rw [List.length_append]; omega)
  rw [← List.append_assoc] at hm
  exact h _ _ _ _ _ hm
theorem lw5_ {c : Cx} (hC : C3 c) {D e : Nat} {ns : List Int} {τ : Hp} {a v b6 b7 b8 b9 : V} {Q : Fl → List V → Hp → Prop} (hs : LSt τ 9 ns e [])
    (h : ∀ T t ps b6 b7 b8 b9, LSt T t ns e ps → ps.length ≤ 3 → Q .next [a, .ref 1, .int e, v, .ref 4, .ref t, b6, b7, b8, b9] T) :
    lawT.1.2.2.2.2.1 (X3 c (D + 5)) [a, .ref 1, .int e, v, .ref 4, .ref 9, b6, b7, b8, b9] τ Q := by
  obtain ⟨p, s, hst⟩ := hs.st
  repeat' walk_at "vc"
  conv => whnf
  refine next_ hC hst (by omega) fun r p' s' r0 r1 a0 a1 a2 => ?_
  obtain ⟨n, rfl⟩ := Int.eq_ofNat_of_zero_le r0
  have hs1 := hs.draw a0 a1 a2
  generalize τ.set 1 (stO 0 p' s') = τ1 at hs1 ⊢
  repeat' walk_at "vc"
  conv => whnf
  have en : ((n : Int) - 0).toNat = n := by omega
  rw [en]
  refine forJ_of (fun k l T => k ≤ n ∧ ∃ t ps b6 b7 b8 b9, l = [a, .ref 1, .int e, v, .ref 4, .ref t, b6, b7, b8, b9] ∧ LSt T t ns e ps ∧ ps.length = k) ⟨Nat.zero_le _, 9, [], _, _, _, _, rfl, hs1, rfl⟩ (fun _ _ _ _ => trivial) ?_ ?_
  · rintro k w l T hw ⟨hk, t, ps, b6, b7, b8, b9, rfl, hT, hl⟩
    obtain ⟨hk', rfl⟩ := rng_get1 hw
    conv => whnf
    refine lw5b_ hC hT (by omega) fun T' t' p b7 b8 hT' => ?_
    exact ⟨hk', t', ps ++ [p], _, _, _, _, rfl, hT', by simp [hl]⟩
  · rintro l T ⟨hk, t, ps, b6, b7, b8, b9, rfl, hT, hl⟩
    rw [rng_len] at hl
    exact h T t ps _ _ _ _ hT (by omega)
end
section
open PySem PySem.W PyProof.Rows PySem.Calls
set_option maxRecDepth 100000
set_option maxHeartbeats 4000000
abbrev lwS : WE := callW (Tg.bi Bi.sum) (consL (compW [none] (asgA 0) (callW (Tg.fn 345) (consL (locW 9) (consL (locW 2) nilL)) nilK) (litB true) (tattrW 335 84 330 (locW 0))) nilL) nilK
abbrev lwT : WB := cmpB CmpOp.Lt (binW Operator.Mult (cstW (V.int 8)) lwS) (callW (Tg.fn 698) (consL (locW 5) (consL (locW 9) nilL)) nilK)
abbrev lwB : WX := asgX 9 (binW Operator.Add (locW 9) (cstW (V.int 1)))
abbrev lwR : WX := retX (andW (cmpW CmpOp.Eq (methW 29 (locW 4) nilL (consK "start" (locW 3) nilK)) (locW 9)) (cmpW CmpOp.Eq (attrW 14 (locW 4)) (locW 9)))
def dsOf (l : List (Nat × Int × Int)) : List Int := l.flatMap fun p => List.replicate p.1 p.2.2
theorem dsOf_sum (l : List (Nat × Int × Int)) : (dsOf l).sum = capOf l := by
  unfold dsOf capOf
  induction l with
  | nil => rfl
  | cons p l ih =>
    rw [List.flatMap_cons, List.sum_append, ih, List.map_cons, List.sum_cons]
    congr 1
    induction p.1 with
    | zero => simp
    | succ n ih => rw [List.replicate_succ, List.sum_cons, ih, Int.natCast_succ, Int.add_mul, Int.one_mul, Int.add_comm]
theorem blk_get {l : List (Nat × Int × Int)} {j : Nat} {w : V} (h : (blk l)[j]? = some w) : ∃ a b : Int, w = .ntup 335 [.int a, .int b] ∧ (dsOf l)[j]? = some b := by
  induction l generalizing j with
  | nil => simp [blk] at h
  | cons p l ih =>
    unfold blk dsOf at *
    rw [List.flatMap_cons] at h ⊢
    by_cases hj : j < p.1
    · rw [List.getElem?_append_left (by simpa using hj), List.getElem?_replicate, if_pos hj] at h
      cases h
      refine ⟨_, _, rfl, ?_⟩
      rw [List.getElem?_append_left (by simpa using hj), List.getElem?_replicate, if_pos hj]
    · rw [List.getElem?_append_right (by simpa using hj)] at h
      rw [List.length_replicate] at h
      obtain ⟨a, b, h1, h2⟩ := ih h
      refine ⟨a, b, h1, ?_⟩
      rw [List.getElem?_append_right (by simpa using hj), List.length_replicate]
      exact h2
theorem dsOf_len (l : List (Nat × Int × Int)) : (dsOf l).length = (blk l).length := by
  unfold dsOf blk
  induction l with
  | nil => rfl
  | cons p l ih => rw [List.flatMap_cons, List.flatMap_cons, List.length_append, List.length_append, ih]; simp
theorem bits_le : ∀ e : Fin 4, ∀ v : Fin 41, 0 ≤ bitsAt e v ∧ bitsAt e v ≤ 30000 := by decide +kernel
theorem lwT_ {c : Cx} (hC : C3 c) {D e t u : Nat} {τ : Hp} {ps : List Part} {a v b6 b7 b8 : V} {Q : Bool → Hp → Prop} (hu1 : 1 ≤ u) (hu2 : u ≤ 40) (he : e < 4) (ht : τ[t]? = some (.list ((ps.map txOf).map txtV))) (hok : ∀ p ∈ ps, PartOk p) (hl : ps.length ≤ 3)
    (h : ∀ g, Q (decide (bitsAt e u < lsz u (ps.map txOf))) (τ ++ g)) : lwT (X3 c (D + 8)) [a, .ref 1, .int e, v, .ref 4, .ref t, b6, b7, b8, .int u] τ Q := by
  obtain ⟨t1, t2, t3⟩ := trips ⟨e, he⟩ ⟨u, by omega⟩ hu1
  have hcap := caps ⟨e, he⟩ ⟨u, by omega⟩ hu1
  simp only at t1 t2 t3 hcap
  generalize tripAt u e = trip at t1 t2 t3 hcap
  have hbl := blk_len t3 trip.length
  rw [List.take_of_length_le (Nat.le_refl _)] at hbl
  repeat' walk_at "vc"
  conv => whnf
  refine rs_blocks_ hC hu1 hu2 he t1 t2 t3 ?_
  repeat' walk_at "vc"
  conv => whnf
  have hbb := bits_le ⟨e, he⟩ ⟨u, by omega⟩
  simp only at hbb
  have hsum := dsOf_sum trip
  refine compJ_of (fun j acc T => j ≤ (blk trip).length ∧ acc = ((dsOf trip).take j).map V.int ∧ T = τ ++ [.list (blk trip)]) ⟨Nat.zero_le _, by simp, rfl⟩ ?_ ?_ ?_
  · rintro j acc T ⟨_, _, rfl⟩
    exact at_new
  · rintro j w acc T hw ⟨hj, rfl, rfl⟩
    obtain ⟨x, y, rfl, hy⟩ := blk_get hw
    repeat' walk_at "vc"
    conv => whnf
    refine rs_get_ hC ?_
    repeat' walk_at "vc"
    conv => whnf
    refine ⟨(List.getElem?_eq_some_iff.mp hw).1, ?_, rfl⟩
    rw [take_get hy, List.map_append]
    rfl
  · rintro acc T ⟨hj, rfl, rfl⟩
    rw [List.take_of_length_le (by rw [dsOf_len]; exact Nat.le_refl _)]
    repeat' walk_at "vc"
    conv => whnf
    refine intsV_of rfl ?_
    repeat' walk_at "vc"
    conv => whnf
    refine lsize_ hC (at_app (at_app ht)) (fun q hq => ?_) (by rw [List.length_map]; omega) ?_
    · obtain ⟨p, hp, rfl⟩ := List.mem_map.mp hq
      have := hok p hp
      refine ⟨?_, this.2⟩
      rcases this.1 with ⟨h, _⟩ | h | h
      · exact .inl h
      · exact .inr (.inl h)
      · exact .inr (.inr h)
    · repeat' walk_at "vc"
      conv => whnf
      rw [hsum, ← hcap, List.append_assoc]
      exact h _
theorem lwR_ {c : Cx} (hC : C3 c) {D e t V1 st : Nat} {τ : Hp} {ps : List Part} {a v b6 b7 b8 : V} {Q : Fl → List V → Hp → Prop} (hq : IsQR τ 4 e .none (ps.map partV)) (hok : ∀ p ∈ ps, PartOk p) (hl : ps.length ≤ 3) (he : e < 4) (h1 : 1 ≤ st) (h2 : st ≤ 40)
    (hv : (v = .none ∧ st = 1) ∨ v = .int st) (hV1 : 1 ≤ V1) (hV2 : V1 ≤ 40) (hbis : FX.bisL (bitsT.getD e []) ((allB' st ps).length : Int) st (bitsT.getD e []).length = V1) (hmod : modeAddr V1 = modeAddr st)
    (h : ∀ l' T', Q (.ret (.bool true)) l' T') : lwR (X3 c (D + 8)) [a, .ref 1, .int e, v, .ref 4, .ref t, b6, b7, b8, .int V1] τ Q := by
  have hr := rows_ ⟨e, he⟩
  have hqi := hq.inst
  have hpl : v.plain = true := by rcases hv with ⟨rfl, _⟩ | rfl <;> rfl
  have hst : at_same (o' := .inst 675 (qrF 4 e (.int V1) .none)) hq.inst = at_same (o' := .inst 675 (qrF 4 e (.int V1) .none)) hq.inst := rfl
  have hqs := at_same (o' := .inst 675 (qrF 4 e (.int V1) .none)) hq.inst
  have go : ∀ v' : V, v' = v → lwR (X3 c (D + 8)) [a, .ref 1, .int e, v', .ref 4, .ref t, b6, b7, b8, .int V1] τ Q := by
    intro v' hv'
    rcases hv with ⟨rfl, rfl⟩ | rfl
    all_goals
      subst hv'
      repeat' walk_at "vc"
      conv => whnf
      refine best_fit_ hC hq hok (by omega) (by first | exact .inl ⟨rfl, rfl⟩ | exact .inr rfl) h1 h2 hr.1 (by rw [hr.2]; omega) hbis hV1 hV2 hmod ?_
      repeat' walk_at "vc"
      conv => whnf
      refine ver_get_ hC hqs ?_
      repeat' walk_at "vc"
      conv => whnf
      rw [beq_self_eq_true]
      exact h _ _
  exact go v rfl
theorem lw7_ {c : Cx} (hC : C3 c) {D e t st : Nat} {ns : List Int} {T : Hp} {ps : List Part} {a v b6 b7 b8 b9 : V} {Q : Fl → List V → Hp → Prop} (hs : LSt T t ns e ps) (hl : ps.length ≤ 3) (he : e < 4) (h1 : 1 ≤ st) (h2 : st ≤ 40) (hv : (v = .none ∧ st = 1) ∨ v = .int st)
    (h : ∀ l' T', Q (.ret (.bool true)) l' T') :
    lawT.1.2.2.2.2.2.2 (X3 c (D + 8)) [a, .ref 1, .int e, v, .ref 4, .ref t, b6, b7, b8, b9] T Q := by
  obtain ⟨V1, hV1, hV40, hbis, hmod, hbel, hat⟩ := plain3 he h1 h2 hs.ok hl
  have hok : ∀ p ∈ ps, PartOk p := fun p hp => (hs.ok p hp).1
  have go : ∀ v' : V, v' = v → ∀ Q' : Fl → List V → Hp → Prop, (∀ l τ, Q' .next l τ = lwR (X3 c (D + 8)) l τ Q) → whileJ (X3 c (D + 8)) lwT lwB [a, .ref 1, .int e, v', .ref 4, .ref t, b6, b7, b8, .int st] T Q' := by
    intro v' hv' Q' hQ'
    subst hv'
    refine whileJ_of (fun m l τ => ∃ (u : Nat) (g : Hp), l = [a, .ref 1, .int e, v', .ref 4, .ref t, b6, b7, b8, .int u] ∧ τ = T ++ g ∧ st ≤ u ∧ u ≤ V1 ∧ m = V1 - u) (V1 - st) ⟨st, [], rfl, by simp, Nat.le_refl _, hV1, rfl⟩ ?_
    rintro m l τ ⟨u, g, rfl, rfl, hu1, hu2, rfl⟩
    refine lwT_ hC (by omega) (by omega) he (at_app hs.tx) hok hl fun g' => ?_
    refine br_both (fun hb => ?_) (fun hb => ?_)
    · have hlt := of_decide_eq_true hb
      have hne : u ≠ V1 := fun e => by subst e; omega
      repeat' walk_at "vc"
      conv => whnf
      exact ⟨V1 - (u + 1), by omega, u + 1, g ++ g', by simp, by rw [List.append_assoc], by omega, by omega, rfl⟩
    · have hge := of_decide_eq_false hb
      have heq : u = V1 := by
        apply Nat.le_antisymm hu2
        apply Nat.le_of_not_lt
        intro hlt
        exact hge (hbel u hu1 hlt)
      subst heq
      rw [hQ']
      have hqq := ((hs.app g).app g').qr
      exact lwR_ hC hqq hok hl he h1 h2 hv (by omega) hV40 hbis hmod h
  rcases hv with ⟨rfl, rfl⟩ | rfl
  · repeat' walk_at "vc"
    conv => whnf
    refine chk_of ⟨rfl, rfl⟩ ?_
    repeat' walk_at "vc"
    conv => whnf
    refine go _ rfl _ ?_
    intro l τ
    rfl
  · repeat' walk_at "vc"
    conv => whnf
    refine chk_of ⟨rfl, rfl⟩ ?_
    conv => whnf
    refine br_f ?_ ?_
    · show (List.any [V.int 0, V.int 41] fun x => eqA x (.int (st : Int))) = false
      have a1 : ((0 : Int) == (st : Int)) = false := by simpa using (by omega : ¬ (0 : Int) = st)
      have a2 : ((41 : Int) == (st : Int)) = false := by simpa using (by omega : ¬ (41 : Int) = st)
      show (((0 : Int) == (st : Int)) || (((41 : Int) == (st : Int)) || false)) = false
      rw [a1, a2]; rfl
    repeat' walk_at "vc"
    conv => whnf
    refine go _ rfl _ ?_
    intro l τ
    rfl
end
section
open PySem PySem.W PyProof.Rows PySem.Calls
set_option maxRecDepth 100000
set_option maxHeartbeats 4000000
theorem xl_here {c : Cx} {env : Env} {D : Nat} {l : Loc} {σ : Hp} {X : String} {st : Stmt} {rest : List Stmt} (h : XL c env D (exec st env) l σ X) : XL c env D (execs (st :: rest) env) l σ X :=
  fun A g ρ z s Q' E' ok hA R hf q => wpAny_execs_cons (h A g ρ z s _ E' ok hA R hf q)
theorem law_xl {c : Cx} (hC : C3 c) {D : Nat} {env : Env} {l : Loc} {σ : Hp} {k : Int} {e : Nat} {ver : V} {parts : List V} {p1 p2 p3 p4 p5 p6 : Pos} (hk : k = 0 ∨ k = 41) (hq : IsQR σ 4 e ver parts) (hm1 : (("code" : Str), V.ref 4) ∈ l) (hm2 : (("begin" : Str), V.int k) ∈ l)
    (hi : interactive env = false) (hs : swapsWith (.Call (.Attribute (.Name "code" p1) "best_fit" p2) [] [⟨some "start", .Name "begin" p3, p4⟩] p5) none p6.line env = pure false)
    (hev : ∃ pl : Sem Bool, eval (.Call (.Attribute (.Name "code" p1) "best_fit" p2) [] [⟨some "start", .Name "begin" p3, p4⟩] p5) env = (do
          let ov ← eval (.Name "code" p1) env
          standAt p2.atName
          let (f, first) ← holding [ov] (getMethod ov "best_fit" pl)
          callWith p5 f first (backTo p5 (starEach [] env)) (backToKw p5 (keywordEach [⟨some "start", .Name "begin" p3, p4⟩] env)))) :
    XL c env (D + 2) (execs [.Expr (.Call (.Attribute (.Name "code" p1) "best_fit" p2) [] [⟨some "start", .Name "begin" p3, p4⟩] p5) p6] env) l σ "ValueError" := by
  have hqi := hq.inst
  refine xl_here ?_
  obtain ⟨pl, hev⟩ := hev
  refine' xl_call (pl := pl) rfl ?h hev hi hs
  case h =>
    refine ev_name hm1 rfl ?_
    refine EM.mono (opMeth_ok (X := X3 c (D + 2)) (k := 29) (QM := fun t f => t = .fn 616 ∧ f = .ref 4) (X3_ok hC _) ?m) ?k
    case m =>
      repeat' walk_at "vc"
      all_goals (conv => whnf)
      all_goals exact ⟨rfl, rfl⟩
    case k =>
      rintro vf first σ' ⟨t, f, rfl, rfl, rfl, hkp, rfl, rfl⟩
      refine ⟨hkp, el_nil (ek_cons rfl (ev_name hm2 rfl (ek_nil ⟨rfl, fun z ρ wf ws kw r1 r2 r3 => ?_⟩)))⟩
      cases r1
      have hw : ∃ w, ws = [w] := by
        cases r2 with
        | cons r r' => cases r'; exact ⟨_, rfl⟩
      obtain ⟨w, rfl⟩ := hw
      have hkk : ∃ u, kw = [.int k u] := by
        cases r3 with
        | cons r r' => cases r'; cases r; exact ⟨_, rfl⟩
      obtain ⟨u, rfl⟩ := hkk
      exact ⟨[.val w], [("start", .int k)], rfl, .val _, .cons (.val _) .nil, .cons (.int _ _) .nil, bf_raise hC hk⟩
theorem law_ {c : Cx} (hC : C3 c) {D : Nat} {ns : List Int} (hn : ns.length ≤ 63) : FCA c (D + 9) (.val (.ref 703)) [.lst (ns.map V.int)] [] [] fun v _ => v = .bool true := by
  obtain ⟨fd, oc, od, osl, s1, s2, s3, s4, s5, t6, post, p1, p2, p3, p4, p5, p6, p7, p8, p9, p10, p11, p12, p13, kk, h1, h2, h3, h4, ⟨h5, h6, h7⟩, ⟨g1, g2, g3, g4, g5⟩, h8⟩ := (lawT.2 c hC).x
  refine fca_def' (vals := [.lst (ns.map V.int)]) ["script"] ["state", "level", "begin", "code", "texts", "_", "octets", "part", "version"] h1 h2 h3 (h4 _ _ _ ⟨rfl, rfl, rfl⟩) h5 h6 (fun L env he => ?_) h7 g1 g2 g3 g4 g5
  obtain ⟨c1, c2, c3, c4, c5, c6, c7, hk, hve, hi, hsw, hsn, hev⟩ := h8 L env he
  show EXA c env (D + 8) _ (lawN.zip [.lst (ns.map V.int), .unb, .unb, .unb, .unb, .unb, .unb, .unb, .unb, .unb]) [] _
  refine exa_cons (exa_of ((ex_cx (X := X3 c (D + 8)) (Q := fun f l τ => f = .next ∧ l = [.lst (ns.map V.int), .ref 1, .unb, .unb, .unb, .unb, .unb, .unb, .unb, .unb] ∧ τ = [.list ((ns.take 60).map V.int), stO 0 0 17]) c1 rfl (X3_ok hC _) rfl (lw1_ hC hn ⟨rfl, rfl, rfl⟩)).mono ?_))
  rintro f L1 τ ⟨l', hl', rfl, rfl, rfl, rfl⟩
  have hst : IsSt [.list ((ns.take 60).map V.int), stO 0 0 17] 1 0 (ns.take 60) 0 17 := ⟨rfl, rfl, by omega, by omega, by omega, by rw [List.length_take]; omega⟩
  refine exa_cons (exa_of ((ex_cx (X := X3 c (D + 8)) (Q := fun f l τ => f = .next ∧ ∃ (e : Nat) (p s : Int), e < 4 ∧ l = [.lst (ns.map V.int), .ref 1, .int e, .unb, .unb, .unb, .unb, .unb, .unb, .unb] ∧ IsSt τ 1 0 (ns.take 60) p s ∧ τ.length = 2) c2 rfl (X3_ok hC _) rfl
    (lw2_ hC hst fun e p' s' he4 a0 a1 a2 => ⟨rfl, e, p', s', he4, rfl, hst.set a0 a1 a2, rfl⟩)).mono ?_))
  rintro f L2 τ ⟨l', hl', rfl, rfl, e, p, s, he4, rfl, hst, hτ⟩
  refine exa_cons (exa_of ((ex_cx (X := X3 c (D + 8)) (Q := fun f l τ => f = .next ∧ ∃ v, l = [.lst (ns.map V.int), .ref 1, .int e, v, .unb, .unb, .unb, .unb, .unb, .unb] ∧ (v = .none ∨ ∃ b : Nat, v = .int b ∧ b ≤ 41) ∧ (∃ p s, IsSt τ 1 0 (ns.take 60) p s) ∧ τ.length = 4) c3 rfl (X3_ok hC _) rfl
    (lw3_ hC hst hτ fun v T hv hT hl => ⟨rfl, v, rfl, hv, hT, hl⟩)).mono ?_))
  rintro f L3 τ ⟨l', hl', rfl, rfl, v, rfl, hv, hst, hτ⟩
  refine exa_cons (exa_of ((ex_cx (X := X3 c (D + 8)) (Q := fun f l τ => f = .next ∧ l = [.lst (ns.map V.int), .ref 1, .int e, v, .ref 4, .ref 9, .unb, .unb, .unb, .unb] ∧ LSt τ 9 (ns.take 60) e []) c4 rfl (X3_ok hC _) rfl
    (lw4_ (D := D + 3) hC hst hτ fun T hT => ⟨rfl, rfl, hT⟩)).mono ?_))
  rintro f L4 τ ⟨l', hl', rfl, rfl, rfl, hT⟩
  refine exa_cons (exa_of ((ex_cx (X := X3 c (D + 8)) (Q := fun f l τ => f = .next ∧ ∃ t ps b6 b7 b8 b9, l = [.lst (ns.map V.int), .ref 1, .int e, v, .ref 4, .ref t, b6, b7, b8, b9] ∧ LSt τ t (ns.take 60) e ps ∧ ps.length ≤ 3) c5 rfl (X3_ok hC _) rfl
    (lw5_ (D := D + 3) hC hT fun T t ps b6 b7 b8 b9 hT hl => ⟨rfl, t, ps, b6, b7, b8, b9, rfl, hT, hl⟩)).mono ?_))
  rintro f L5 τ ⟨l', hl', rfl, rfl, t, ps, b6, b7, b8, b9, rfl, hT, hps⟩
  have rest : ∀ (v' : V) (st : Nat), 1 ≤ st → st ≤ 40 → ((v' = .none ∧ st = 1) ∨ v' = .int st) → EXA c env (D + 8) (execs post env) (lawN.zip [.lst (ns.map V.int), .ref 1, .int e, v', .ref 4, .ref t, b6, b7, b8, b9]) τ (postFn fun v _ => v = .bool true) := by
    intro v' st i1 i2 i3
    refine exa_of ((c7 (X3 c (D + 8)) rfl (X3_ok hC _) _ τ (fun f _ _ => f = .ret (.bool true)) rfl (lw7_ hC hT hps he4 i1 i2 i3 fun _ _ => rfl)).mono ?_)
    rintro f L τ' ⟨l', _, rfl, rfl⟩
    exact rfl
  refine exa_cons (exa_if ((eb_cb (X := X3 c (D + 8)) (Q := fun r τ' => τ' = τ ∧ ((r = true ∧ ∃ k : Int, v = .int k ∧ (k = 0 ∨ k = 41)) ∨ (r = false ∧ ∃ st : Nat, 1 ≤ st ∧ st ≤ 40 ∧ ((v = .none ∧ st = 1) ∨ v = .int st)))) c6 rfl (X3_ok hC _) rfl ?t).mono ?k))
  case t =>
    rcases hv with rfl | ⟨b, rfl, hb⟩
    · repeat' walk_at "vc"
      conv => whnf
      refine chk_of ⟨rfl, rfl⟩ ?_
      exact ⟨rfl, .inr ⟨rfl, 1, by omega, by omega, .inl ⟨rfl, rfl⟩⟩⟩
    · repeat' walk_at "vc"
      conv => whnf
      refine chk_of ⟨rfl, rfl⟩ ?_
      refine ⟨rfl, ?_⟩
      show ((((0 : Int) == (b : Int)) || (((41 : Int) == (b : Int)) || false)) = true ∧ _) ∨ ((((0 : Int) == (b : Int)) || (((41 : Int) == (b : Int)) || false)) = false ∧ _)
      by_cases b0 : b = 0
      · subst b0; exact .inl ⟨rfl, 0, rfl, .inl rfl⟩
      · by_cases b1 : b = 41
        · subst b1; exact .inl ⟨rfl, 41, rfl, .inr rfl⟩
        · have a1 : ((0 : Int) == (b : Int)) = false := by simpa using (by omega : ¬ (0 : Int) = b)
          have a2 : ((41 : Int) == (b : Int)) = false := by simpa using (by omega : ¬ (41 : Int) = b)
          exact .inr ⟨by rw [a1, a2]; rfl, b, by omega, by omega, .inr rfl⟩
  case k =>
    rintro r τ' ⟨rfl, hr⟩
    rcases hr with ⟨rfl, k, rfl, hk0⟩ | ⟨rfl, st, i1, i2, i3⟩
    · refine ⟨fun _ => ?_, fun h => (nomatch h)⟩
      refine exa_cons (exa_tryN (X := "ValueError") (law_xl (D := D + 6) hC hk0 hT.qr (by simp [lawN]) (by simp [lawN]) hi hsw hev) (zip_up .none at3 rfl) ?q (by k_in) (by boot_by_name) PySem.F.isExc_ValueError PySem.F.notTuple_ValueError (by rw [isSubtype_type]; kernel_rfl) hve (by decide +kernel) (by decide +kernel) hk hsn)
      exact exa_nil (rest .none 1 (by omega) (by omega) (.inl ⟨rfl, rfl⟩))
    · refine ⟨fun h => (nomatch h), fun _ => exa_nil (rest v st i1 i2 i3)⟩
end
section
open PySem PySem.W PyProof.Rows PySem.Calls
/-- from the top's facts to a first state: nothing owned, the script as it is -/
theorem bridgeA {prog : Program} {w : World} {Kf : Params → Frag} {mg mb : Str → Option Value} {p : Program} {loose : List Str} {mean : ExcName → Option Value} {s₁ : Shared} {kz : Led} {tt : List (Addr × Addr)} {l fa : Addr} {vs : List Value} {ns : List Int} {n D : Nat} {A : Around} {Q' E' : Value → Shared → Prop}
    (T : Top p loose mean mg mb s₁.heap) (KX : (Kf w.params).In s₁.heap) (hg : s₁.gens = #[]) (hkz : ∀ q ∈ kz, (q.1, q.2) ∈ Kf w.params ∧ (Kf w.params).lookup q.1 = some q.2) (htt : ∀ t ∈ tt, s₁.heap.IsCode t.1 t.2 #[] ∧ s₁.heap.TableAt t.1 t.2 #[])
    (hK : ∀ q ∈ Kf w.params, q.1 ∉ tt.map (·.2)) (hl : s₁.heap.get? l = some (listOf vs.toArray n)) (hI : IntsAre vs ns) (ok : Ok A D)
    (hA : A.frames = some []) (h : FCA (⟨prog, w, Kf, mg, mb, s₁.os, s₁.drawn, s₁.heap, tt, kz, AllBare⟩ : Cx) D (.val (.ref fa)) [.lst (ns.map V.int)] [] [] fun v _ => v = .bool true)
    (q : ∀ s', OldK s₁.heap s'.heap → s'.os = s₁.os → AllBare s'.gens → Q' (.bool true) s') : wpAny (model prog w) A (call (.ref fa) [.ref l]) Q' E' s₁ := by
  let c : Cx := ⟨prog, w, Kf, mg, mb, s₁.os, s₁.drawn, s₁.heap, tt, kz, AllBare⟩
  let tk := tt.map (·.2)
  have atP : ∀ a ∈ tk, s₁.heap.get? a = some { cls := .none, data := .fields #[] } := fun a ha => by
    obtain ⟨t, ht, rfl⟩ := List.mem_map.mp ha
    exact (htt t ht).2.2
  have nP : ∀ {a : Addr} {o : Obj}, s₁.heap.get? a = some o → (o.cls ≠ .none ∨ ∀ vs, o.data ≠ .fields vs) → a ∉ tk := fun {a o} e hd hm => by
    rw [atP a hm] at e; cases e
    rcases hd with h | h
    · exact h rfl
    · exact h _ rfl
  have nsP : ∀ {a : Addr} {m : Str → Option Value}, s₁.heap.Ns a m → a ∉ tk := fun {a m} hn hm => by
    obtain ⟨o, es, ep, e, r⟩ := hn
    rw [atP a hm] at e; cases e
    simp at r
  have up : ∀ x o, s₁.heap.get? x = some o → x ∉ tk → (hideAll s₁.heap tk).get? x = some o := fun x o e hx => hideAll_get _ e hx
  have nsUp : ∀ {a : Addr} {m : Str → Option Value}, s₁.heap.Ns a m → (hideAll s₁.heap tk).Ns a m := fun {a m} hn => by
    have h1 := nsP hn
    obtain ⟨o, es, ep, e, r⟩ := hn
    exact ⟨o, es, ep, up _ _ e h1, r⟩
  obtain ⟨bm, ob, b1, b2, b3, b4, b5, b6⟩ := T.bmain
  have B : Base c (hideAll s₁.heap tk) := by
    refine ⟨fun a o ha => up a o (KX a o ha) (hK (a, o) ?_), nsUp T.g, nsUp T.b, ?_, T.builtins, fun t ht => ?_, ⟨bm, ob, b1, b2, up _ _ b3 (nP b3 (.inl (by rw [b4]; simp))), b4, b5, b6⟩⟩
    · exact assoc_mem ha
    · obtain ⟨m, hn, r⟩ := T.nolimit
      exact ⟨m, nsUp hn, r⟩
    · obtain ⟨⟨o, vs, a1, a2, _⟩, _⟩ := (htt t ht).2
      exact ⟨o, up _ _ a1 (nP a1 (.inl (by rw [a2]; simp)))⟩
  have hlP : l ∉ tk := nP hl (.inl (by simp))
  have R : Rp c (hideAll s₁.heap tk) [] [] ((l, listOf vs.toArray n) :: kz) [] s₁ := by
    refine ⟨B, fun b o e => of_hideAll _ e, ⟨[], .nil, by simp, by simp⟩, fun q hq => ?_, fun a ha => ?_, fun t ht => ⟨#[], htt t ht⟩, rfl, rfl, hg ▸ AllBare.empty, fun p hp => .tail _ hp⟩
    · rcases List.mem_cons.mp hq with rfl | hq
      · exact ⟨hl, fun hm => hlP (by simpa [c, tk, Cx.tk] using hm)⟩
      · exact ⟨KX _ _ (hkz q hq).2, fun hm => hK _ (hkz q hq).1 (by simpa [c, tk, Cx.tk] using hm)⟩
    · have ha' : a ∈ tk := by simpa [c, tk, Cx.tk] using ha
      exact ⟨hideAll_none _ ha', _, atP a ha'⟩
  refine wpAny_call (h A (hideAll s₁.heap tk) [] _ s₁ _ (.ref fa) [.ref l] [] ok hA R (.val _) (.cons (.lst (.head _) (vrl_of_ints hI)) .nil) .nil fun v w' σ' ρ' z' s' hv R' G' r' => ?_)
  subst hv
  cases r'
  refine q s' ⟨fun b o e => ?_, fun b o e => ?_⟩ R'.os R'.gens
  · by_cases hb : b ∈ tk
    · obtain ⟨t, ht, rfl⟩ := List.mem_map.mp hb
      obtain ⟨ps, _, hta⟩ := R'.tabs t ht
      rw [atP _ hb] at e; cases e
      exact .inr (.inl ⟨(htt t ht).2.isCodeTable, rfl, #[], ps, rfl, by rw [hta.2]; simp⟩)
    · exact .inl (R'.keep _ _ (up _ _ e hb))
  · by_cases hb : b ∈ tk
    · obtain ⟨t, ht, rfl⟩ := List.mem_map.mp hb
      obtain ⟨ps, _, hta⟩ := R'.tabs t ht
      exact ⟨_, hta.2⟩
    · exact ⟨o, R'.keep _ _ (up _ _ e hb)⟩
end
section
open PySem PySem.W PyProof.Rows PySem.Calls
set_option maxRecDepth 100000
set_option maxHeartbeats 4000000
theorem tab3 {p : Program} {loose : List Str} {mean : ExcName → Option Value} {mg mb : Str → Option Value} {w : World} {h : Heap} (hp : p = Mine.hd.view_39) (T : Top p loose mean mg mb h) (KX : (Mine.hd.heap_39 w.params).In h) : ∀ t ∈ [((403, 399) : Addr × Addr)], h.IsCode t.1 t.2 #[] ∧ h.TableAt t.1 t.2 #[] := by
  have e1 : nsIn (Mine.hd.heap_39 w.params) mainGlobals "optimal_mode" = some (some (.ref 404)) := by k_is
  have hd : ∃ d, (recsOf p).find? (fun e => e.name == ("optimal_mode" : Str)) = some d := by subst hp; exact ⟨_, by rfl⟩
  obtain ⟨d, hd⟩ := hd
  have hn : d.name = "optimal_mode" := beq_iff_eq.mp (List.find?_some (p := fun e : DefRec => e.name == ("optimal_mode" : Str)) hd)
  obtain ⟨a, o, fd, c, P, h1, h2, h3, h4, h5, h6⟩ := T.tab d (List.mem_of_find?_eq_some hd)
  rw [hn, mg_of KX T.g e1] at h1
  cases h1
  have e2 : ∃ oc od osl fd', (Mine.hd.heap_39 w.params).lookup 404 = some ⟨oc, od, .func fd', osl⟩ ∧ fd'.code = .ref 403 := ⟨_, _, _, _, by k_is, rfl⟩
  obtain ⟨oc, od, osl, fd', e2, e3⟩ := e2
  have e4 := KX _ _ e2
  rw [h2] at e4
  cases e4
  cases h3
  rw [e3] at h4
  cases h4
  have e5 : ∃ oc od osl vs, (Mine.hd.heap_39 w.params).lookup 403 = some ⟨oc, od, .fields vs, osl⟩ ∧ vs[11]? = some (.ref 399) := ⟨_, _, _, _, by k_is, rfl⟩
  obtain ⟨oc, od, osl, vs, e5, e6⟩ := e5
  have e7 := KX _ _ e5
  obtain ⟨⟨o', vs', a1, a2, a3, a4⟩, _⟩ := id h6
  rw [e7] at a1
  cases a1
  cases a3
  rw [e6] at a4
  cases a4
  intro t ht
  cases List.mem_singleton.mp ht
  exact ⟨h5, h6⟩
theorem kz3_ok (P : Params) : ∀ q ∈ kzOf (KF P), (q.1, q.2) ∈ KF P ∧ (KF P).lookup q.1 = some q.2 := by
  intro q hq
  unfold kzOf at hq
  obtain ⟨a, ha, e⟩ := List.mem_filterMap.mp hq
  obtain ⟨o, ho, rfl⟩ := Option.map_eq_some_iff.mp e
  exact ⟨assoc_mem ho, ho⟩
theorem nott3 (P : Params) : ((KF P).all fun q => !(q.1 == 399)) = true := by kernel_rfl
theorem law_at (P : Params) : nsIn (Mine.hd.heap_39 P) mainGlobals "law" = some (some (.ref 703)) := by k_is

theorem end3 : PySem.Challenge.rw_bj0064_03.Holds := Mine.hd (by
  intro w s₀ s₁ mg mb G Y fa o pm cd doc dV kV ho hd hcd hD hmg hg args vals as hpre hlay hrd hwl hlo
  have KX := kIn_of Y
  refine Ground.open G ?_
  intro T B D TE TW
  have e1 := mg_of KX T.g (law_at w.params)
  have e2 : mg ("law" : Str) = some (.ref fa) := hmg
  rw [e2] at e1
  cases e1
  wrow_args hpre hlay hrd hwl hlo
  rename_i ns _ _ _ _ _ _ _ l vs _ hL ra w1 r0 hI hr hlen _
  clear hD hcd
  cases w1 with
  | list hl hW =>
  rename_i vs'
  have ev : vs = vs' := by
    obtain ⟨o', e1, _, n, e2⟩ := hL
    rw [hl] at e1; cases e1
    have := e2
    simp only [Data.seq.injEq] at this
    have h1 := congrArg Array.toList this.1
    simpa using h1.symm
  subst ev
  have hl' : s₁.heap.get? l = some (listOf vs.toArray 0) := hl
  refine bridgeA (kz := kzOf (KF w.params)) (tt := [(403, 399)]) (Kf := KF) (D := 230) T KX hg (kz3_ok _) (tab3 rfl T KX) (fun q hq hm => ?_) hl' hI ⟨rfl, by decide, by decide⟩ rfl
    (law_ (D := 221) ⟨rfl, rfl, rfl, rfl, fun _ => Iff.rfl⟩ (by omega)) fun s' ho hos hge => ?_
  · have h1 := List.all_eq_true.mp (nott3 w.params) q hq
    have h2 : q.1 = 399 := by simpa using hm
    rw [h2] at h1; exact absurd h1 (by decide)
  · refine ⟨.inl ⟨_, _, [], rfl, fun _ => rfl, ReadsW.bool true, ?_, fun _ => ⟨List.nodup_nil, fun _ hm => (nomatch hm)⟩⟩, ho, hos, hge⟩
    first | rfl | wrow_post)
end
end Mine
theorem PySem.Challenge.cw_bj0064_03_holds : PySem.Challenge.rw_bj0064_03.Holds :=
  Mine.end3
